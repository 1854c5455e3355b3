import Derived.Test.Qxb6003659aClone
namespace Go.Proofs.Qxb6003659a
open Go.RowKit

set_option maxHeartbeats 1000000 in
theorem headings_yes (h c : Value) (bh bc n : Nat) (N T : Nat → ByteArray) (B : Nat → Bool) (w : World) (hn : n ≤ 2000000) (hh : Sl w bh h n 2 (celF T B)) (hnil : n = 0 → h = .slice none 0 0) (hc : Sl w bc c n 3 (colF N T B)) :
    Calls Try.prog 18 #[h, c] w fun e w' => e = .returned (.bool true) ∧ ∃ q, w' = w.drewN q := by
  have q34 : ∀ (w : World) (a : Option Addr) (n c n' c' : Nat), (binOp .eql 34 (.slice a n c) (.slice none n' c')).run Try.prog w = .ok (.bool a.isNone) w := fun w a n c n' c' => Lib.run_eql_slice_nil w 34 57 a n c n' c' Try.underlying34
  obtain ⟨a, cap, rfl, h1, HC⟩ := hh.form
  obtain ⟨a2, cap2, rfl, h12, HC2⟩ := hc.form
  clear hh hc
  by_cases h0 : n = 0
  · subst h0
    have := hnil rfl
    simp at this
    obtain ⟨rfl, rfl⟩ := this
    clear hnil h1 h12 HC HC2
    go_enter Try.func18, Try.ntmps18
    go_wp2
    go_loop [5] (fun i => i = .int .i64 0) (fun _ => 0)
    case atStart => rfl
    case round =>
      subst hrel
      go_wp2
      go_ret
      exact ⟨rfl, 0, rfl⟩
  · obtain ⟨b, off, rfl, _, _, hcel⟩ := HC.out (by omega)
    obtain ⟨b2, off2, rfl, _, _, hcel2⟩ := HC2.out (by omega)
    have HCEL : Hid (∀ j, j < n * 2 → w.cell? ⟨b, off + j, none⟩ = some (celF T B j)) := hcel
    have HCEL2 : Hid (∀ j, j < n * 3 → w.cell? ⟨b2, off2 + j, none⟩ = some (colF N T B j)) := hcel2
    clear hcel hcel2 HC HC2 h1 h12 hnil
    have hz : ((n : Int) == 0) = false := beq_eq_false_iff_ne.2 (by omega)
    go_enter Try.func18, Try.ntmps18
    go_wp2
    clear q34
    go_loopw [5] (fun i wr => ∃ k q : Nat, k ≤ n ∧ i = .int .i64 k ∧ wr = w.drewN q) (fun i _ => n - (intOf i).toNat)
    case atStart => exact ⟨0, 0, Nat.zero_le _, rfl, rfl⟩
    case round =>
      obtain ⟨k, q, hk, rfl, rfl⟩ := hrel
      by_cases hlt : k < n
      · have hkz : (k : Int) < (n : Int) := by omega
        have c0 : w.cell? ⟨b, off + k * 2, none⟩ = some (.string (T k)) := by rw [HCEL.out _ (by omega), celF0]
        have c1 : w.cell? ⟨b, off + k * 2 + 1, none⟩ = some (.bool (B k)) := by rw [Nat.add_assoc, HCEL.out _ (by omega), celF1]
        have e1 : w.cell? ⟨b2, off2 + k * 3 + 1, none⟩ = some (.string (T k)) := by rw [Nat.add_assoc, HCEL2.out _ (by omega), colF1]
        have e2 : w.cell? ⟨b2, off2 + k * 3 + 2, none⟩ = some (.bool (B k)) := by rw [Nat.add_assoc, HCEL2.out _ (by omega), colF2]
        generalize T k = s at *
        generalize B k = y at *
        go_wp2_with fail
        go_quiet (fail)
        go_wp2_with fail
        go_roundw
        case rel => exact ⟨k + 1, _, by omega, by go_num, rfl⟩
        case measure => simp [intOf]; omega
      · go_wp2
        go_ret
        exact ⟨rfl, q, rfl⟩

set_option maxHeartbeats 1000000 in
theorem rowIs_yes (g r c : Value) (bg br bc L n : Nat) (S : Nat → ByteArray) (N T : Nat → ByteArray) (B : Nat → Bool) (w : World) (hn : n ≤ 2000000) (hL : L ≤ n) (hg : Sl w bg g L 2 (celF S B)) (hnn : g ≠ .slice none 0 0) (hr : Sl w br r L 1 (strF S)) (hc : Sl w bc c n 3 (colF N T B)) :
    Calls Try.prog 19 #[g, r, c] w fun e w' => e = .returned (.bool true) ∧ ∃ q, w' = w.drewN q := by
  have q34 : ∀ (w : World) (a : Option Addr) (n c n' c' : Nat), (binOp .eql 34 (.slice a n c) (.slice none n' c')).run Try.prog w = .ok (.bool a.isNone) w := fun w a n c n' c' => Lib.run_eql_slice_nil w 34 57 a n c n' c' Try.underlying34
  obtain ⟨a, cap, rfl, h1, HC⟩ := hg.form
  obtain ⟨a1, cap1, rfl, h11, HC1⟩ := hr.form
  obtain ⟨a2, cap2, rfl, h12, HC2⟩ := hc.form
  clear hg hr hc
  obtain ⟨x, rfl⟩ : ∃ x, a = some x := by
    cases a with
    | none => obtain ⟨rfl, rfl⟩ := h1 rfl; exact absurd rfl hnn
    | some x => exact ⟨x, rfl⟩
  clear hnn h1 h11 h12
  go_enter Try.func19, Try.ntmps19
  go_wp2
  clear q34
  go_loopw [7] (fun i wr => ∃ k q : Nat, k ≤ L ∧ i = .int .i64 k ∧ wr = w.drewN q) (fun i _ => L - (intOf i).toNat)
  case atStart => exact ⟨0, 0, Nat.zero_le _, rfl, rfl⟩
  case round =>
    obtain ⟨k, q, hk, rfl, rfl⟩ := hrel
    by_cases hlt : k < L
    · have hkz : (k : Int) < (L : Int) := by omega
      have hkn : (k : Int) < (n : Int) := by omega
      obtain ⟨b, off, hx, _, _, hcel⟩ := HC.out (by omega)
      obtain ⟨b1, off1, rfl, _, _, hcel1⟩ := HC1.out (by omega)
      obtain ⟨b2, off2, rfl, _, _, hcel2⟩ := HC2.out (by omega)
      obtain rfl := Option.some.inj hx
      have c0 : w.cell? ⟨b, off + k * 2, none⟩ = some (.string (S k)) := by rw [hcel _ (by omega), celF0]
      have c1 : w.cell? ⟨b, off + k * 2 + 1, none⟩ = some (.bool (B k)) := by rw [Nat.add_assoc, hcel _ (by omega), celF1]
      have d1 : w.cell? ⟨b1, off1 + k, none⟩ = some (.string (S k)) := by rw [hcel1 _ (by omega)]; rfl
      have e2 : w.cell? ⟨b2, off2 + k * 3 + 2, none⟩ = some (.bool (B k)) := by rw [Nat.add_assoc, hcel2 _ (by omega), colF2]
      clear hcel hcel1 hcel2 HC HC1 HC2 hx
      generalize S k = s at *
      generalize B k = y at *
      go_wp2_with fail
      go_quiet (fail)
      go_wp2_with fail
      go_roundw
      case rel => exact ⟨k + 1, _, by omega, by go_num, rfl⟩
      case measure => simp [intOf]; omega
    · go_wp2
      go_ret
      exact ⟨rfl, q, rfl⟩

set_option maxHeartbeats 1000000 in
theorem sameCells_yes (g r : Value) (bg br L : Nat) (S : Nat → ByteArray) (B : Nat → Bool) (w : World) (hL : L ≤ 2000000) (hg : Sl w bg g L 2 (celF S B)) (hr : Sl w br r L 2 (celF S B)) :
    Calls Try.prog 22 #[g, r] w fun e w' => e = .returned (.bool true) ∧ ∃ q, w' = w.drewN q := by
  obtain ⟨a, cap, rfl, h1, HC⟩ := hg.form
  obtain ⟨a1, cap1, rfl, h11, HC1⟩ := hr.form
  clear hg hr h1 h11
  go_enter Try.func22, Try.ntmps22
  go_wp2
  go_loopw [5] (fun i wr => ∃ k q : Nat, k ≤ L ∧ i = .int .i64 k ∧ wr = w.drewN q) (fun i _ => L - (intOf i).toNat)
  case atStart => exact ⟨0, 0, Nat.zero_le _, rfl, rfl⟩
  case round =>
    obtain ⟨k, q, hk, rfl, rfl⟩ := hrel
    by_cases hlt : k < L
    · have hkz : (k : Int) < (L : Int) := by omega
      obtain ⟨b, off, rfl, _, _, hcel⟩ := HC.out (by omega)
      obtain ⟨b1, off1, rfl, _, _, hcel1⟩ := HC1.out (by omega)
      have c0 : w.cell? ⟨b, off + k * 2, none⟩ = some (.string (S k)) := by rw [hcel _ (by omega), celF0]
      have c1 : w.cell? ⟨b, off + k * 2 + 1, none⟩ = some (.bool (B k)) := by rw [Nat.add_assoc, hcel _ (by omega), celF1]
      have d0 : w.cell? ⟨b1, off1 + k * 2, none⟩ = some (.string (S k)) := by rw [hcel1 _ (by omega), celF0]
      have d1 : w.cell? ⟨b1, off1 + k * 2 + 1, none⟩ = some (.bool (B k)) := by rw [Nat.add_assoc, hcel1 _ (by omega), celF1]
      clear hcel hcel1 HC HC1
      generalize S k = s at *
      generalize B k = y at *
      go_wp2_with fail
      go_quiet (fail)
      go_wp2_with fail
      go_roundw
      case rel => exact ⟨k + 1, _, by omega, by go_num, rfl⟩
      case measure => simp [intOf]; omega
    · go_wp2
      go_ret
      exact ⟨rfl, q, rfl⟩

/-- An answer that is some bool; where it is true, every row fits. -/
def FitSays (n nc : Nat) (L : Nat → Nat) (e : Ending) : Prop := ∃ b, e = .returned (.bool b) ∧ (b = true → ∀ r, r < n → L r ≤ nc)
/-- An answer that is some int. -/
def IntSays (e : Ending) : Prop := ∃ y, e = .returned (.int .i64 y)

set_option maxHeartbeats 1000000 in
theorem rowsFit_any (v : Value) (base n : Nat) (nc : Nat) (L : Nat → Nat) (S : Nat → Nat → ByteArray) (w : World) (hn : n ≤ 2000000) (h : Rws w base v n L S) :
    Calls Try.prog 12 #[v, .int .i64 nc] w fun e w' => FitSays n nc L e ∧ w' = w := by
  obtain ⟨U, hU, hS⟩ := h
  have HS : Hid (∀ j, j < n → ∃ a c, U j = .slice a (L j) c) := fun j hj => by
    obtain ⟨a, c, e, _⟩ := hS j hj
    exact ⟨a, c, e⟩
  obtain ⟨a, cap, rfl, h1, HC⟩ := hU.form
  clear hU hS h1
  go_enter Try.func12, Try.ntmps12
  go_wp2
  go_loop [5] (fun i => ∃ k : Nat, k ≤ n ∧ i = .int .i64 k ∧ Hid (∀ r, r < k → L r ≤ nc)) (fun i => n - (intOf i).toNat)
  case atStart => exact ⟨0, Nat.zero_le _, rfl, fun r hr => by omega⟩
  case round =>
    obtain ⟨k, hk, rfl, hfit⟩ := hrel
    by_cases hlt : k < n
    · have hkz : (k : Int) < (n : Int) := by omega
      obtain ⟨b, off, rfl, _, _, hcel⟩ := HC.out (by omega)
      obtain ⟨a', c', hUk⟩ := HS.out k hlt
      have c0 : w.cell? ⟨b, off + k, none⟩ = some (.slice a' (L k) c') := by rw [hcel _ (by omega), hUk]
      clear hcel HC HS hUk
      by_cases hle : L k ≤ nc
      · have hle' : ¬ ((nc : Int) < (L k : Int)) := by omega
        go_wp2
        go_round
        case rel => exact ⟨k + 1, by omega, by go_num, fun r hr => by
            by_cases e : r = k
            · subst e; exact hle
            · exact hfit.out r (by omega)⟩
        case measure => simp [intOf]; omega
      · have hle' : (nc : Int) < (L k : Int) := by omega
        go_wp2
        go_ret
        exact ⟨⟨false, rfl, fun h => by cases h⟩, rfl⟩
    · go_wp2
      go_ret
      exact ⟨⟨true, rfl, fun _ r hr => hfit.out r (by omega)⟩, rfl⟩

set_option maxHeartbeats 1000000 in
theorem colsSize_any (x : Int) (v : Value) (base n : Nat) (N T : Nat → ByteArray) (B : Nat → Bool) (w : World) (hn : n ≤ 2000000) (h : Sl w base v n 3 (colF N T B)) :
    Calls Try.prog 11 #[.int .i64 x, v] w fun e w' => IntSays e ∧ ∃ q, w' = w.drewN q := by
  obtain ⟨a, cap, rfl, h1, HC⟩ := h.form
  clear h h1
  go_enter Try.func11, Try.ntmps11
  go_wp2
  go_loopw [0, 5] (fun s i wr => ∃ (k q : Nat) (y : Int), k ≤ n ∧ i = .int .i64 k ∧ s = .int .i64 y ∧ wr = w.drewN q) (fun _ i _ => n - (intOf i).toNat)
  case atStart => exact ⟨0, 0, x, Nat.zero_le _, rfl, rfl, rfl⟩
  case round =>
    obtain ⟨k, q, y, hk, rfl, rfl, rfl⟩ := hrel
    by_cases hlt : k < n
    · have hkz : (k : Int) < (n : Int) := by omega
      obtain ⟨b, off, rfl, _, _, hcel⟩ := HC.out (by omega)
      have c0 : w.cell? ⟨b, off + k * 3, none⟩ = some (.string (N k)) := by rw [hcel _ (by omega), colF0]
      have c1 : w.cell? ⟨b, off + k * 3 + 1, none⟩ = some (.string (T k)) := by rw [Nat.add_assoc, hcel _ (by omega), colF1]
      clear hcel HC
      by_cases hy : y ≤ 1048576
      · go_wp2_with fail
        go_quiet (fail)
        go_wp2_with fail
        go_roundw
        case rel => exact ⟨k + 1, _, _, by omega, by go_num, rfl, rfl⟩
        case measure => simp [intOf]; omega
      · go_wp2
        go_ret
        exact ⟨⟨_, rfl⟩, q, rfl⟩
    · go_wp2
      go_ret
      exact ⟨⟨_, rfl⟩, q, rfl⟩

set_option maxHeartbeats 1000000 in
theorem rowsSize_any (x : Int) (v : Value) (base n : Nat) (L : Nat → Nat) (S : Nat → Nat → ByteArray) (w : World) (hn : n ≤ 2000000) (hL : Hid (∀ r, r < n → L r ≤ 2000000)) (h : Rws w base v n L S) :
    Calls Try.prog 10 #[.int .i64 x, v] w fun e w' => IntSays e ∧ w' = w := by
  obtain ⟨U, hU, hS⟩ := h
  have HS : Hid (∀ j, j < n → Sl w base (U j) (L j) 1 (strF (S j))) := hS
  clear hS
  obtain ⟨a, cap, rfl, h1, HC⟩ := hU.form
  clear hU h1
  go_enter Try.func10, Try.ntmps10
  go_wp2
  go_loop [0, 5] (fun s i => ∃ (k : Nat) (y : Int), k ≤ n ∧ i = .int .i64 k ∧ s = .int .i64 y) (fun _ i => n - (intOf i).toNat)
  case atStart => exact ⟨0, x, Nat.zero_le _, rfl, rfl⟩
  case round =>
    obtain ⟨k, y, hk, rfl, rfl⟩ := hrel
    by_cases hlt : k < n
    · have hkz : (k : Int) < (n : Int) := by omega
      by_cases hy : y ≤ 1048576
      · obtain ⟨b, off, rfl, _, _, hcel⟩ := HC.out (by omega)
        obtain ⟨a', c', hUk, _, HC'⟩ := (HS.out k hlt).form
        have c0 : w.cell? ⟨b, off + k, none⟩ = some (.slice a' (L k) c') := by rw [hcel _ (by omega), hUk]
        have hLk := hL.out k hlt
        clear hcel HC HS hUk
        go_wp2
        go_loop [0, 7] (fun s i => ∃ (j : Nat) (z : Int), j ≤ L k ∧ i = .int .i64 j ∧ s = .int .i64 z) (fun _ i => L k - (intOf i).toNat)
        case atStart => exact ⟨0, _, Nat.zero_le _, rfl, rfl⟩
        case round =>
          obtain ⟨j, z, hj, rfl, rfl⟩ := hrel
          by_cases hlj : j < L k
          · have hjz : (j : Int) < (L k : Int) := by omega
            by_cases hz : z ≤ 1048576
            · obtain ⟨b', off', rfl, _, _, hcel'⟩ := HC'.out (by omega)
              have c1 : w.cell? ⟨b', off' + j, none⟩ = some (.string (S k j)) := by rw [hcel' _ (by omega)]; rfl
              clear hcel' HC'
              go_wp2
              go_round
              case rel => exact ⟨j + 1, _, by omega, by go_num, rfl⟩
              case measure => simp [intOf]; omega
            · go_wp2
              go_round
              case rel => exact ⟨k + 1, _, by omega, by go_num, rfl⟩
              case measure => simp [intOf]; omega
          · go_wp2
            go_round
            case rel => exact ⟨k + 1, _, by omega, by go_num, rfl⟩
            case measure => simp [intOf]; omega
      · go_wp2
        go_ret
        exact ⟨⟨_, rfl⟩, rfl⟩
    · go_wp2
      go_ret
      exact ⟨⟨_, rfl⟩, rfl⟩
end Go.Proofs.Qxb6003659a
