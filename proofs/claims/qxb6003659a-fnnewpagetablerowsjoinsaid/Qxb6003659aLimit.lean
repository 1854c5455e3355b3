import Derived.Test.Qxb6003659aClone
namespace Go.Proofs.Qxb6003659a
open Go.RowKit

/-- An answer that is some bool; where it is true, the lengths are within the limit. -/
def LimSays (n m : Nat) (L : Nat → Nat) (e : Ending) : Prop := ∃ b, e = .returned (.bool b) ∧ (b = true → n ≤ 1048576 ∧ m ≤ 1048576 ∧ ∀ r, r < m → L r ≤ 1048576)
theorem LimSays.no {n m : Nat} {L : Nat → Nat} : LimSays n m L (.returned (.bool false)) := ⟨false, rfl, fun h => by cases h⟩

set_option maxHeartbeats 4000000 in
set_option maxRecDepth 100000 in
theorem limit_any (cap : ByteArray) (cv rv : Value) (bc br n m : Nat) (N T : Nat → ByteArray) (B : Nat → Bool) (L : Nat → Nat) (S : Nat → Nat → ByteArray) (w : World) (hc : Sl w bc cv n 3 (colF N T B)) (hr : Rws w br rv m L S) :
    Calls Try.prog 9 #[.string cap, cv, rv] w fun e w' => LimSays n m L e ∧ w' = w := by
  obtain ⟨ac, cc, rfl, _, HC⟩ := hc.form
  clear hc
  obtain ⟨U, hU, hS⟩ := hr
  have HS : Hid (∀ j, j < m → Sl w br (U j) (L j) 1 (strF (S j))) := hS
  obtain ⟨ar, cr, rfl, _, HR⟩ := hU.form
  clear hU hS
  by_cases hcap : 1048576 < cap.size
  · go_enter Try.func9, Try.ntmps9
    go_wp2
    go_ret
    exact ⟨LimSays.no, rfl⟩
  by_cases hn : 1048576 < n
  · go_enter Try.func9, Try.ntmps9
    go_wp2
    all_goals
      go_ret
      exact ⟨LimSays.no, rfl⟩
  by_cases hcn : 1048576 < cap.size + n
  · go_enter Try.func9, Try.ntmps9
    go_wp2
    all_goals
      go_ret
      exact ⟨LimSays.no, rfl⟩
  go_enter Try.func9, Try.ntmps9
  go_wp2
  go_loop [7, 8] (fun z i => ∃ (k : Nat) (y : Int), k ≤ n ∧ i = .int .i64 k ∧ z = .int .i64 y ∧ 0 ≤ y ∧ y ≤ 1048576) (fun _ i => n - (intOf i).toNat)
  case atStart => exact ⟨0, _, Nat.zero_le _, rfl, rfl, by omega, by omega⟩
  case round =>
    obtain ⟨k, y, hk, rfl, rfl, hy0, hy1⟩ := hrel
    by_cases hlt : k < n
    · have hkz : (k : Int) < (n : Int) := by omega
      obtain ⟨b, off, rfl, _, _, hcel⟩ := HC.out (by omega)
      have c0 : w.cell? ⟨b, off + k * 3, none⟩ = some (.string (N k)) := by rw [hcel _ (by omega), colF0]
      have c1 : w.cell? ⟨b, off + k * 3 + 1, none⟩ = some (.string (T k)) := by rw [Nat.add_assoc, hcel _ (by omega), colF1]
      clear hcel HC HR HS
      by_cases h1 : 1048576 < (N k).size
      · go_wp2
        go_ret
        exact ⟨LimSays.no, rfl⟩
      by_cases h2 : 1048576 < y + (N k).size
      · go_wp2
        go_ret
        exact ⟨LimSays.no, rfl⟩
      by_cases h3 : 1048576 < (T k).size
      · go_wp2
        go_ret
        exact ⟨LimSays.no, rfl⟩
      by_cases h4 : 1048576 < y + (N k).size + (T k).size
      · go_wp2
        go_ret
        exact ⟨LimSays.no, rfl⟩
      · go_wp2
        go_round
        case rel => exact ⟨k + 1, _, by omega, by go_num, rfl, by omega, by omega⟩
        case measure => simp [intOf]; omega
    · clear HC
      by_cases hm : 1048576 < m
      · go_wp2
        go_ret
        exact ⟨LimSays.no, rfl⟩
      by_cases hym : 1048576 < y + m
      · go_wp2
        go_ret
        exact ⟨LimSays.no, rfl⟩
      go_wp2
      go_loop [7, 9] (fun z i => ∃ (r : Nat) (y : Int), r ≤ m ∧ i = .int .i64 r ∧ z = .int .i64 y ∧ 0 ≤ y ∧ y ≤ 1048576 ∧ Hid (∀ x, x < r → L x ≤ 1048576)) (fun _ i => m - (intOf i).toNat)
      case atStart => exact ⟨0, _, Nat.zero_le _, rfl, rfl, by omega, by omega, fun x hx => by omega⟩
      case round =>
        obtain ⟨r, y2, hr, rfl, rfl, hy20, hy21, hfit⟩ := hrel
        by_cases hlt2 : r < m
        · have hrz : (r : Int) < (m : Int) := by omega
          obtain ⟨b, off, rfl, _, _, hcel⟩ := HR.out (by omega)
          obtain ⟨a1, cp1, hUr, _, HC1⟩ := (HS.out r hlt2).form
          have c0 : w.cell? ⟨b, off + r, none⟩ = some (.slice a1 (L r) cp1) := by rw [hcel _ (by omega), hUr]
          clear hcel hUr HR HS
          by_cases h1 : 1048576 < L r
          · go_wp2
            go_ret
            exact ⟨LimSays.no, rfl⟩
          by_cases h2 : 1048576 < y2 + L r
          · go_wp2
            go_ret
            exact ⟨LimSays.no, rfl⟩
          go_wp2
          go_loop [7, 10] (fun z i => ∃ (c : Nat) (y : Int), c ≤ L r ∧ i = .int .i64 c ∧ z = .int .i64 y ∧ 0 ≤ y ∧ y ≤ 1048576) (fun _ i => L r - (intOf i).toNat)
          case atStart => exact ⟨0, _, Nat.zero_le _, rfl, rfl, by omega, by omega⟩
          case round =>
            obtain ⟨c, y3, hc, rfl, rfl, hy30, hy31⟩ := hrel
            by_cases hlt3 : c < L r
            · have hcz : (c : Int) < (L r : Int) := by omega
              obtain ⟨b1, off1, rfl, _, _, hcel1⟩ := HC1.out (by omega)
              have c1 : w.cell? ⟨b1, off1 + c, none⟩ = some (.string (S r c)) := by rw [hcel1 _ (by omega)]; rfl
              clear hcel1 HC1
              by_cases h3 : 1048576 < (S r c).size
              · go_wp2
                go_ret
                exact ⟨LimSays.no, rfl⟩
              by_cases h4 : 1048576 < y3 + (S r c).size
              · go_wp2
                go_ret
                exact ⟨LimSays.no, rfl⟩
              · go_wp2
                go_round
                case rel => exact ⟨c + 1, _, by omega, by go_num, rfl, by omega, by omega⟩
                case measure => simp [intOf]; omega
            · go_wp2
              go_round
              case rel => exact ⟨r + 1, _, by omega, by go_num, rfl, by omega, by omega, fun x hx => by
                  by_cases e : x = r
                  · subst e; omega
                  · exact hfit.out x (by omega)⟩
              case measure => simp [intOf]; omega
        · go_wp2
          go_ret
          exact ⟨⟨true, rfl, fun _ => ⟨by omega, by omega, fun x hx => hfit.out x (by omega)⟩⟩, rfl⟩
end Go.Proofs.Qxb6003659a
