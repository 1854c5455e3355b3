import Derived.Test.Qxb6003659aClone
namespace Go.Proofs.Qxb6003659a
open Go.RowKit

/-- An answer that is some bool; where it is true, the lengths are within the limit. -/
def Lim2Says (n mA mB : Nat) (LA LB : Nat → Nat) (e : Ending) : Prop := ∃ b, e = .returned (.bool b) ∧ (b = true → n ≤ 1048576 ∧ mA + mB ≤ 1048576 ∧ (∀ r, r < mA → LA r ≤ 1048576) ∧ ∀ r, r < mB → LB r ≤ 1048576)
theorem Lim2Says.no {n mA mB : Nat} {LA LB : Nat → Nat} : Lim2Says n mA mB LA LB (.returned (.bool false)) := ⟨false, rfl, fun h => by cases h⟩

set_option maxHeartbeats 8000000 in
set_option maxRecDepth 100000 in
theorem limit2_any (cap : ByteArray) (cv rvA rvB : Value) (n mA mB : Nat) (N T : Nat → ByteArray) (B : Nat → Bool) (LA LB : Nat → Nat) (SA SB : Nat → Nat → ByteArray) (w : World) (hc : Sl w 0 cv n 3 (colF N T B)) (hrA : Rws w 0 rvA mA LA SA) (hrB : Rws w 0 rvB mB LB SB) :
    Calls Try.prog 20 #[.string cap, cv, rvA, rvB] w fun e w' => Lim2Says n mA mB LA LB e ∧ w' = w := by
  obtain ⟨ac, cc, rfl, _, HC⟩ := hc.form
  clear hc
  obtain ⟨UA, hUA, hSA⟩ := hrA
  have HSA : Hid (∀ j, j < mA → Sl w 0 (UA j) (LA j) 1 (strF (SA j))) := hSA
  obtain ⟨arA, crA, rfl, _, HRA⟩ := hUA.form
  obtain ⟨UB, hUB, hSB⟩ := hrB
  have HSB : Hid (∀ j, j < mB → Sl w 0 (UB j) (LB j) 1 (strF (SB j))) := hSB
  obtain ⟨arB, crB, rfl, _, HRB⟩ := hUB.form
  clear hUA hSA hUB hSB
  by_cases hcap : 1048576 < cap.size
  · go_enter Try.func20, Try.ntmps20
    go_wp2
    go_ret
    exact ⟨Lim2Says.no, rfl⟩
  by_cases hn : 1048576 < n
  · go_enter Try.func20, Try.ntmps20
    go_wp2
    all_goals
      go_ret
      exact ⟨Lim2Says.no, rfl⟩
  by_cases hcn : 1048576 < cap.size + n
  · go_enter Try.func20, Try.ntmps20
    go_wp2
    all_goals
      go_ret
      exact ⟨Lim2Says.no, rfl⟩
  go_enter Try.func20, Try.ntmps20
  go_wp2
  go_loop [9, 10] (fun z i => ∃ (k : Nat) (y : Int), k ≤ n ∧ i = .int .i64 k ∧ z = .int .i64 y ∧ 0 ≤ y ∧ y ≤ 1048576) (fun _ i => n - (intOf i).toNat)
  case atStart => exact ⟨0, _, Nat.zero_le _, rfl, rfl, by omega, by omega⟩
  case round =>
    obtain ⟨k, y, hk, rfl, rfl, hy0, hy1⟩ := hrel
    by_cases hlt : k < n
    · have hkz : (k : Int) < (n : Int) := by omega
      obtain ⟨b, off, rfl, _, _, hcel⟩ := HC.out (by omega)
      have c0 : w.cell? ⟨b, off + k * 3, none⟩ = some (.string (N k)) := by rw [hcel _ (by omega), colF0]
      have c1 : w.cell? ⟨b, off + k * 3 + 1, none⟩ = some (.string (T k)) := by rw [Nat.add_assoc, hcel _ (by omega), colF1]
      clear hcel HC HRA HSA HRB HSB
      by_cases h1 : 1048576 < (N k).size
      · go_wp2
        go_ret
        exact ⟨Lim2Says.no, rfl⟩
      by_cases h2 : 1048576 < y + (N k).size
      · go_wp2
        go_ret
        exact ⟨Lim2Says.no, rfl⟩
      by_cases h3 : 1048576 < (T k).size
      · go_wp2
        go_ret
        exact ⟨Lim2Says.no, rfl⟩
      by_cases h4 : 1048576 < y + (N k).size + (T k).size
      · go_wp2
        go_ret
        exact ⟨Lim2Says.no, rfl⟩
      · go_wp2
        go_round
        case rel => exact ⟨k + 1, _, by omega, by go_num, rfl, by omega, by omega⟩
        case measure => simp [intOf]; omega
    · clear HC
      by_cases hmA : 1048576 < mA
      · go_wp2
        go_ret
        exact ⟨Lim2Says.no, rfl⟩
      by_cases hymA : 1048576 < y + mA
      · go_wp2
        go_ret
        exact ⟨Lim2Says.no, rfl⟩
      go_wp2
      go_loop [9, 11] (fun z i => ∃ (r : Nat) (y : Int), r ≤ mA ∧ i = .int .i64 r ∧ z = .int .i64 y ∧ (mA : Int) ≤ y ∧ y ≤ 1048576 ∧ Hid (∀ x, x < r → LA x ≤ 1048576)) (fun _ i => mA - (intOf i).toNat)
      case atStart => exact ⟨0, _, Nat.zero_le _, rfl, rfl, by omega, by omega, fun x hx => by omega⟩
      case round =>
        obtain ⟨ra, ya, hra, rfl, rfl, hyla, hyha, hfitA⟩ := hrel
        by_cases hlta : ra < mA
        · have hrz : (ra : Int) < (mA : Int) := by omega
          obtain ⟨b, off, rfl, _, _, hcel⟩ := HRA.out (by omega)
          obtain ⟨a1, cp1, hUr, _, HC1⟩ := (HSA.out ra hlta).form
          have c0 : w.cell? ⟨b, off + ra, none⟩ = some (.slice a1 (LA ra) cp1) := by rw [hcel _ (by omega), hUr]
          clear hcel hUr HRA HSA HRB HSB
          by_cases h1 : 1048576 < LA ra
          · go_wp2
            go_ret
            exact ⟨Lim2Says.no, rfl⟩
          by_cases h2 : 1048576 < ya + LA ra
          · go_wp2
            go_ret
            exact ⟨Lim2Says.no, rfl⟩
          go_wp2
          go_loop [9, 12] (fun z i => ∃ (c : Nat) (y : Int), c ≤ LA ra ∧ i = .int .i64 c ∧ z = .int .i64 y ∧ (mA : Int) ≤ y ∧ y ≤ 1048576) (fun _ i => LA ra - (intOf i).toNat)
          case atStart => exact ⟨0, _, Nat.zero_le _, rfl, rfl, by omega, by omega⟩
          case round =>
            obtain ⟨c, y3, hc, rfl, rfl, hy30, hy31⟩ := hrel
            by_cases hlt3 : c < LA ra
            · have hcz : (c : Int) < (LA ra : Int) := by omega
              obtain ⟨b1, off1, rfl, _, _, hcel1⟩ := HC1.out (by omega)
              have c1 : w.cell? ⟨b1, off1 + c, none⟩ = some (.string (SA ra c)) := by rw [hcel1 _ (by omega)]; rfl
              clear hcel1 HC1
              by_cases h3 : 1048576 < (SA ra c).size
              · go_wp2
                go_ret
                exact ⟨Lim2Says.no, rfl⟩
              by_cases h4 : 1048576 < y3 + (SA ra c).size
              · go_wp2
                go_ret
                exact ⟨Lim2Says.no, rfl⟩
              · go_wp2
                go_round
                case rel => exact ⟨c + 1, _, by omega, by go_num, rfl, by omega, by omega⟩
                case measure => simp [intOf]; omega
            · go_wp2
              go_round
              case rel => exact ⟨ra + 1, _, by omega, by go_num, rfl, by omega, by omega, fun x hx => by
                  by_cases e : x = ra
                  · subst e; omega
                  · exact hfitA.out x (by omega)⟩
              case measure => simp [intOf]; omega
        · by_cases hmB : 1048576 < mB
          · go_wp2
            go_ret
            exact ⟨Lim2Says.no, rfl⟩
          by_cases hymB : 1048576 < ya + mB
          · go_wp2
            go_ret
            exact ⟨Lim2Says.no, rfl⟩
          go_wp2
          go_loop [9, 13] (fun z i => ∃ (r : Nat) (y : Int), r ≤ mB ∧ i = .int .i64 r ∧ z = .int .i64 y ∧ 0 ≤ y ∧ y ≤ 1048576 ∧ Hid (∀ x, x < r → LB x ≤ 1048576)) (fun _ i => mB - (intOf i).toNat)
          case atStart => exact ⟨0, _, Nat.zero_le _, rfl, rfl, by omega, by omega, fun x hx => by omega⟩
          case round =>
            obtain ⟨rb, yb, hrb, rfl, rfl, hylb, hyhb, hfitB⟩ := hrel
            by_cases hltb : rb < mB
            · have hrz : (rb : Int) < (mB : Int) := by omega
              obtain ⟨b, off, rfl, _, _, hcel⟩ := HRB.out (by omega)
              obtain ⟨a1, cp1, hUr, _, HC1⟩ := (HSB.out rb hltb).form
              have c0 : w.cell? ⟨b, off + rb, none⟩ = some (.slice a1 (LB rb) cp1) := by rw [hcel _ (by omega), hUr]
              clear hcel hUr HRA HSA HRB HSB
              by_cases h1 : 1048576 < LB rb
              · go_wp2
                go_ret
                exact ⟨Lim2Says.no, rfl⟩
              by_cases h2 : 1048576 < yb + LB rb
              · go_wp2
                go_ret
                exact ⟨Lim2Says.no, rfl⟩
              go_wp2
              go_loop [9, 14] (fun z i => ∃ (c : Nat) (y : Int), c ≤ LB rb ∧ i = .int .i64 c ∧ z = .int .i64 y ∧ 0 ≤ y ∧ y ≤ 1048576) (fun _ i => LB rb - (intOf i).toNat)
              case atStart => exact ⟨0, _, Nat.zero_le _, rfl, rfl, by omega, by omega⟩
              case round =>
                obtain ⟨c, y3, hc, rfl, rfl, hy30, hy31⟩ := hrel
                by_cases hlt3 : c < LB rb
                · have hcz : (c : Int) < (LB rb : Int) := by omega
                  obtain ⟨b1, off1, rfl, _, _, hcel1⟩ := HC1.out (by omega)
                  have c1 : w.cell? ⟨b1, off1 + c, none⟩ = some (.string (SB rb c)) := by rw [hcel1 _ (by omega)]; rfl
                  clear hcel1 HC1
                  by_cases h3 : 1048576 < (SB rb c).size
                  · go_wp2
                    go_ret
                    exact ⟨Lim2Says.no, rfl⟩
                  by_cases h4 : 1048576 < y3 + (SB rb c).size
                  · go_wp2
                    go_ret
                    exact ⟨Lim2Says.no, rfl⟩
                  · go_wp2
                    go_round
                    case rel => exact ⟨c + 1, _, by omega, by go_num, rfl, by omega, by omega⟩
                    case measure => simp [intOf]; omega
                · go_wp2
                  go_round
                  case rel => exact ⟨rb + 1, _, by omega, by go_num, rfl, by omega, by omega, fun x hx => by
                      by_cases e : x = rb
                      · subst e; omega
                      · exact hfitB.out x (by omega)⟩
                  case measure => simp [intOf]; omega
            · go_wp2
              go_ret
              exact ⟨⟨true, rfl, fun _ => ⟨by omega, by omega, fun x hx => hfitA.out x (by omega), fun x hx => hfitB.out x (by omega)⟩⟩, rfl⟩
end Go.Proofs.Qxb6003659a
