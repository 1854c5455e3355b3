import Derived.Test.Qxb6003659aSl
namespace Go.Proofs.Qxb6003659a
open Go.RowKit

set_option maxHeartbeats 1000000 in
theorem cloneCols_any (v : Value) (base n : Nat) (N T : Nat → ByteArray) (B : Nat → Bool) (w : World) (hn : n ≤ 2000000) (h : Sl w base v n 3 (colF N T B)) :
    Calls Try.prog 13 #[v] w fun e w' => ∃ v', e = .returned v' ∧ Sl w' w.heap.size v' n 3 (colF N T B) ∧ Below w.heap.size w w' := by
  obtain ⟨a, cap, rfl, h1, HC⟩ := h.form
  clear h
  have q26 : ∀ (w : World) (a : Option Addr) (n c n' c' : Nat), (binOp .eql 26 (.slice a n c) (.slice none n' c')).run Try.prog w = .ok (.bool a.isNone) w := fun w a n c n' c' => Lib.run_eql_slice_nil w 26 50 a n c n' c' Try.underlying26
  cases a with
  | none =>
    obtain ⟨rfl, rfl⟩ := h1 rfl
    clear h1 HC hn
    go_enter Try.func13, Try.ntmps13
    go_wp2
    go_ret
    exact ⟨_, rfl, Sl.nil _ _ _ _, Below.refl _ _⟩
  | some x =>
    clear h1
    have hmk := run_make_wide (P := Try.prog) 26 50 _ 3 40 Try.underlying26 Try.info50 .i64 .i64 n (by omega) (by omega)
    go_enter Try.func13, Try.ntmps13
    go_wp2
    clear hmk q26
    go_loopw [4] (fun i wr => ∃ (k : Nat) (Z : Nat → Value), k ≤ n ∧ i = .int .i64 k ∧ wr.rowIs w.heap.size 50 (n * 3) (part (colF N T B) Z (k * 3)) ∧ Below w.heap.size w wr) (fun i _ => n - (intOf i).toNat)
    case atStart => exact ⟨0, _, Nat.zero_le _, rfl, part_zero (rowIs_wide w _ (n * 3) 50), (Below.refl _ _).alloc (Nat.le_refl _) _⟩
    case round =>
      obtain ⟨k, Z, hk, rfl, hrow, hbel⟩ := hrel
      by_cases hlt : k < n
      · have hkz : (k : Int) < (n : Int) := by omega
        obtain ⟨b, off, hx, _, hb, hc⟩ := HC.out (by omega)
        obtain rfl := Option.some.inj hx
        have c0 : wr.cell? ⟨b, off + k * 3, none⟩ = some (.string (N k)) := by rw [hbel.cell (p := ⟨b, off + k * 3, none⟩) hb, hc _ (by omega), colF0]
        have c1 : wr.cell? ⟨b, off + k * 3 + 1, none⟩ = some (.string (T k)) := by rw [hbel.cell (p := ⟨b, off + k * 3 + 1, none⟩) hb, Nat.add_assoc, hc _ (by omega), colF1]
        have c2 : wr.cell? ⟨b, off + k * 3 + 2, none⟩ = some (.bool (B k)) := by rw [hbel.cell (p := ⟨b, off + k * 3 + 2, none⟩) hb, Nat.add_assoc, hc _ (by omega), colF2]
        clear hc HC hx
        obtain ⟨x0, d0⟩ := part_cell hrow (i := k * 3) (by omega)
        obtain ⟨x1, d1⟩ := part_cell hrow (i := k * 3 + 1) (by omega)
        obtain ⟨x2, d2⟩ := part_cell hrow (i := k * 3 + 2) (by omega)
        have f0 := hrow.frozen (k * 3)
        have f1 := hrow.frozen (k * 3 + 1)
        have f2 := hrow.frozen (k * 3 + 2)
        have HR : Hid ((((wr.setCell ⟨w.heap.size, k * 3, none⟩ (.string (N k))).setCell ⟨w.heap.size, k * 3 + 1, none⟩ (.string (T k))).setCell ⟨w.heap.size, k * 3 + 2, none⟩ (.bool (B k))).rowIs w.heap.size 50 (n * 3) (part (colF N T B) Z ((k + 1) * 3))) := by
          have := part_set (part_set (part_set hrow (colF0 N T B k).symm) (colF1 N T B k).symm) (colF2 N T B k).symm
          rw [show (k + 1) * 3 = k * 3 + 1 + 1 + 1 by omega]
          exact this
        clear hrow
        go_wp2
        go_roundw
        case rel => exact ⟨k + 1, Z, by omega, by go_num, HR.out, ((hbel.setCell (Nat.le_refl _) _).setCell (Nat.le_refl _) _).setCell (Nat.le_refl _) _⟩
        case measure => simp [intOf]; omega
      · obtain rfl : k = n := by omega
        go_wp2
        go_ret
        exact ⟨_, rfl, Sl.of_row (part_full hrow) (Nat.le_refl _), hbel⟩

set_option maxHeartbeats 1000000 in
theorem cloneRow_any (v : Value) (base n : Nat) (S : Nat → ByteArray) (w : World) (hn : n ≤ 2000000) (h : Sl w base v n 1 (strF S)) :
    Calls Try.prog 21 #[v] w fun e w' => ∃ v', e = .returned v' ∧ Sl w' w.heap.size v' n 1 (strF S) ∧ Below w.heap.size w w' := by
  obtain ⟨a, cap, rfl, h1, HC⟩ := h.form
  clear h
  have q45 : ∀ (w : World) (a : Option Addr) (n c n' c' : Nat), (binOp .eql 45 (.slice a n c) (.slice none n' c')).run Try.prog w = .ok (.bool a.isNone) w := fun w a n c n' c' => Lib.run_eql_slice_nil w 45 9 a n c n' c' Try.underlying45
  cases a with
  | none =>
    obtain ⟨rfl, rfl⟩ := h1 rfl
    clear h1 HC hn
    go_enter Try.func21, Try.ntmps21
    go_wp2
    go_ret
    exact ⟨_, rfl, Sl.nil _ _ _ _, Below.refl _ _⟩
  | some x =>
    clear h1
    have hmk := run_make_row' (P := Try.prog) 45 9 _ 16 Try.underlying45 Try.info9 rfl .i64 .i64 n (by omega) (by omega)
    go_enter Try.func21, Try.ntmps21
    go_wp2
    clear hmk q45
    go_loopw [4] (fun i wr => ∃ (k : Nat) (Z : Nat → Value), k ≤ n ∧ i = .int .i64 k ∧ wr.rowIs w.heap.size 9 n (part (strF S) Z k) ∧ Below w.heap.size w wr) (fun i _ => n - (intOf i).toNat)
    case atStart => exact ⟨0, _, Nat.zero_le _, rfl, part_zero (World.rowIs_made w _ n 9), (Below.refl _ _).alloc (Nat.le_refl _) _⟩
    case round =>
      obtain ⟨k, Z, hk, rfl, hrow, hbel⟩ := hrel
      by_cases hlt : k < n
      · have hkz : (k : Int) < (n : Int) := by omega
        obtain ⟨b, off, hx, _, hb, hc⟩ := HC.out (by omega)
        obtain rfl := Option.some.inj hx
        have c0 : wr.cell? ⟨b, off + k, none⟩ = some (.string (S k)) := by rw [hbel.cell (p := ⟨b, off + k, none⟩) hb, hc _ (by omega)]; rfl
        clear hc HC hx
        obtain ⟨x0, d0⟩ := part_cell hrow (i := k) (by omega)
        have f0 := hrow.frozen k
        have HR : Hid ((wr.setCell ⟨w.heap.size, k, none⟩ (.string (S k))).rowIs w.heap.size 9 n (part (strF S) Z (k + 1))) := part_set hrow rfl
        clear hrow
        go_wp2
        go_roundw
        case rel => exact ⟨k + 1, Z, by omega, by go_num, HR.out, hbel.setCell (Nat.le_refl _) _⟩
        case measure => simp [intOf]; omega
      · obtain rfl : k = n := by omega
        go_wp2
        go_ret
        exact ⟨_, rfl, Sl.of_row (size := 1) (by rw [Nat.mul_one]; exact part_full hrow) (Nat.le_refl _), hbel⟩

/-- A slice of slices of strings: n rows, row r of L r strings S r. -/
def Rws (w : World) (base : Nat) (v : Value) (n : Nat) (L : Nat → Nat) (S : Nat → Nat → ByteArray) : Prop :=
  ∃ U : Nat → Value, Sl w base v n 1 U ∧ ∀ j, j < n → Sl w base (U j) (L j) 1 (strF (S j))
theorem Rws.below {w w' : World} {base : Nat} {v : Value} {n : Nat} {L : Nat → Nat} {S : Nat → Nat → ByteArray} (h : Rws w base v n L S) (hb : Below w.heap.size w w') : Rws w' base v n L S := by
  obtain ⟨U, h1, h2⟩ := h
  exact ⟨U, h1.below hb, fun j hj => (h2 j hj).below hb⟩
theorem Rws.mono {w : World} {base base' : Nat} {v : Value} {n : Nat} {L : Nat → Nat} {S : Nat → Nat → ByteArray} (h : Rws w base v n L S) (hb : base' ≤ base) : Rws w base' v n L S := by
  obtain ⟨U, h1, h2⟩ := h
  exact ⟨U, h1.mono hb, fun j hj => (h2 j hj).mono hb⟩

set_option maxHeartbeats 1000000 in
theorem cloneRows_any (v : Value) (base n : Nat) (L : Nat → Nat) (S : Nat → Nat → ByteArray) (w : World) (hn : n ≤ 2000000) (hL : Hid (∀ r, r < n → L r ≤ 2000000)) (h : Rws w base v n L S) :
    Calls Try.prog 14 #[v] w fun e w' => ∃ v', e = .returned v' ∧ Rws w' w.heap.size v' n L S ∧ Below w.heap.size w w' := by
  obtain ⟨U, hU, hS⟩ := h
  have HS : Hid (∀ j, j < n → Sl w base (U j) (L j) 1 (strF (S j))) := hS
  clear hS
  obtain ⟨a, cap, rfl, h1, HC⟩ := hU.form
  clear hU
  have q27 : ∀ (w : World) (a : Option Addr) (n c n' c' : Nat), (binOp .eql 27 (.slice a n c) (.slice none n' c')).run Try.prog w = .ok (.bool a.isNone) w := fun w a n c n' c' => Lib.run_eql_slice_nil w 27 45 a n c n' c' Try.underlying27
  cases a with
  | none =>
    obtain ⟨rfl, rfl⟩ := h1 rfl
    clear h1 HC hn
    go_enter Try.func14, Try.ntmps14
    go_wp2
    go_ret
    exact ⟨_, rfl, ⟨U, Sl.nil _ _ _ _, fun j hj => by omega⟩, Below.refl _ _⟩
  | some x =>
    clear h1
    have hmk := run_make_row' (P := Try.prog) 27 45 _ 24 Try.underlying27 Try.info45 rfl .i64 .i64 n (by omega) (by omega)
    go_enter Try.func14, Try.ntmps14
    go_wp2
    clear hmk q27
    go_loopw [4] (fun i wr => ∃ (k : Nat) (V Z : Nat → Value), k ≤ n ∧ i = .int .i64 k ∧ wr.rowIs w.heap.size 45 n (part V Z k) ∧ Hid (∀ j, j < k → Sl wr (w.heap.size + 1) (V j) (L j) 1 (strF (S j))) ∧ Below w.heap.size w wr) (fun i _ => n - (intOf i).toNat)
    case atStart => exact ⟨0, (fun _ => undef), _, Nat.zero_le _, rfl, part_zero (World.rowIs_made w _ n 45), fun j hj => by omega, (Below.refl _ _).alloc (Nat.le_refl _) _⟩
    case round =>
      obtain ⟨k, V, Z, hk, rfl, hrow, hV, hbel⟩ := hrel
      by_cases hlt : k < n
      · have hkz : (k : Int) < (n : Int) := by omega
        obtain ⟨b, off, hx, _, hb, hc⟩ := HC.out (by omega)
        obtain rfl := Option.some.inj hx
        have c0 : wr.cell? ⟨b, off + k, none⟩ = some (U k) := by rw [hbel.cell (p := ⟨b, off + k, none⟩) hb, hc _ (by omega)]
        have hUk : Sl wr base (U k) (L k) 1 (strF (S k)) := (HS.out k hlt).below hbel
        have HUk : Hid (Sl wr base (U k) (L k) 1 (strF (S k))) := hUk
        clear hc hx
        obtain ⟨a', cap', hUf, _, _⟩ := hUk.form
        clear hUk
        rw [hUf] at c0
        have HUf : Hid (U k = .slice a' (L k) cap') := hUf
        clear hUf
        have hge := hbel.size
        have HRow : Hid (wr.rowIs w.heap.size 45 n (part V Z k)) := hrow
        clear hrow
        go_wp2_with fail
        refine (cloneRow_any (.slice a' (L k) cap') base (L k) (S k) wr (hL.out k hlt) (by rw [← HUf.out]; exact HUk.out)).mono ?_
        rintro e w2 ⟨u, rfl, hu, hb2⟩
        have hGlt : w.heap.size < wr.heap.size := HRow.out.lt
        have hrow2 : w2.rowIs w.heap.size 45 n (part (upd V k u) Z k) := part_upd (rowIs_below HRow.out hb2 hGlt) u
        have HR2 : Hid ((w2.setCell ⟨w.heap.size, k, none⟩ u).rowIs w.heap.size 45 n (part (upd V k u) Z (k + 1))) := part_set hrow2 (upd_same V k u).symm
        obtain ⟨x0, d0⟩ := part_cell hrow2 (i := k) (by omega)
        have f0 := hrow2.frozen k
        have HV2 : Hid (∀ j, j < k + 1 → Sl (w2.setCell ⟨w.heap.size, k, none⟩ u) (w.heap.size + 1) (upd V k u j) (L j) 1 (strF (S j))) := fun j hj => by
          refine Sl.setOther (base := w.heap.size + 1) ?_ (Nat.lt_succ_self w.heap.size) _
          by_cases e : j = k
          · subst e; rw [upd_same]; exact hu.mono (by omega)
          · rw [upd_other _ _ _ _ e]; exact (hV.out j (by omega)).below hb2
        have hbel2 : Below w.heap.size w w2 := hbel.trans (hb2.mono (by omega))
        clear hrow2 hb2 hbel HRow hV
        obtain ⟨au, cu, rfl, _, _⟩ := hu.form
        clear hu
        go_wp2_with fail
        go_roundw
        case rel => exact ⟨k + 1, _, Z, by omega, by go_num, HR2.out, HV2.out, hbel2.setCell (Nat.le_refl _) _⟩
        case measure => simp [intOf]; omega
      · obtain rfl : k = n := by omega
        go_wp2
        go_ret
        exact ⟨_, rfl, ⟨V, Sl.of_row (size := 1) (by rw [Nat.mul_one]; exact part_full hrow) (Nat.le_refl _), fun j hj => (hV.out j hj).mono (by omega)⟩, hbel⟩
end Go.Proofs.Qxb6003659a
