import Derived.Test.Qxb6003644aRows
import Derived.Test.Qxb6003644aPlain
import Derived.WalkKit
import Derived.WalkSpells
import Derived.BigQuiet
namespace Go.Proofs.Qxb6003644a
open Go.RowKit Plain

set_option maxHeartbeats 400000 in
theorem isDigit_any (c : Int) (w : World) (h0 : 0 ≤ c) (h1 : c < 256) :
    Calls Try.prog 23 #[.int .u8 c] w fun e w' => e = .returned (.bool (decide (48 ≤ c ∧ c ≤ 57))) ∧ w' = w := by
  by_cases h : 48 ≤ c
  · by_cases h' : c ≤ 57
    · have e : decide (48 ≤ c ∧ c ≤ 57) = true := by simp; omega
      rw [e]; clear e
      go_enter Try.func23, Try.ntmps23
      go_wp2
      go_ret
      exact ⟨rfl, rfl⟩
    · have e : decide (48 ≤ c ∧ c ≤ 57) = false := by simp; omega
      rw [e]; clear e
      go_enter Try.func23, Try.ntmps23
      go_wp2
      go_ret
      exact ⟨rfl, rfl⟩
  · have e : decide (48 ≤ c ∧ c ≤ 57) = false := by simp; omega
    rw [e]; clear e
    go_enter Try.func23, Try.ntmps23
    go_wp2
    go_ret
    exact ⟨rfl, rfl⟩

theorem ret_int {k : IntKind} {a b : Int} (h : a = b) : Ending.returned (.int k a) = .returned (.int k b) := by rw [h]

theorem lz_yes (s : ByteArray) (k0 k : Nat) (hk0 : k0 < s.size) (he : dend (bt s) s.size k0 = k) (h1 : k0 + 1 < k) (h2 : (s[k0].toNat : Int) = 48) : lz (bt s) s.size k0 = true := by
  unfold lz; rw [he, bt_in s k0 hk0]; simp; omega
theorem lz_no (s : ByteArray) (k0 k : Nat) (he : dend (bt s) s.size k0 = k) (h : ¬ k0 + 1 < k ∨ ∃ h : k0 < s.size, ¬ (s[k0].toNat : Int) = 48) : lz (bt s) s.size k0 = false := by
  unfold lz; rw [he]
  rcases h with h | ⟨h1, h2⟩
  · simp; omega
  · rw [bt_in s k0 h1]; simp; omega
theorem go_on (s : ByteArray) (k0 k : Nat) (hlt : k < s.size) (g1 : 48 ≤ (s[k].toNat : Int)) (g2 : (s[k].toNat : Int) ≤ 57) (hd : dend (bt s) s.size k0 = dend (bt s) s.size k) : dend (bt s) s.size k0 = dend (bt s) s.size (k + 1) := by
  rw [hd]; exact dend_step _ _ _ (txt_bt s) (by unfold IsD; rw [bt_in s k hlt]; omega)
theorem stop1 (s : ByteArray) (k0 k : Nat) (hlt : k < s.size) (g : (s[k].toNat : Int) < 48 ∨ 57 < (s[k].toNat : Int)) (hd : dend (bt s) s.size k0 = dend (bt s) s.size k) : dend (bt s) s.size k0 = k := by
  rw [hd]; exact dend_stop _ _ _ (by unfold IsD; rw [bt_in s k hlt]; omega)
theorem stop2 (s : ByteArray) (k0 k : Nat) (hlt : ¬ k < s.size) (hd : dend (bt s) s.size k0 = dend (bt s) s.size k) : dend (bt s) s.size k0 = k := by
  rw [hd]; exact dend_stop _ _ _ (by unfold IsD; rw [bt_out s k (by omega)]; omega)

/-- The world in which the flag at q is raised if b says so. -/
def mark (w : World) (q : Addr) (b : Bool) : World := if b = true then w.setCell q (.bool true) else w
theorem mark_true (w : World) (q : Addr) : mark w q true = w.setCell q (.bool true) := rfl
theorem mark_false (w : World) (q : Addr) : mark w q false = w := rfl

set_option maxHeartbeats 1000000 in
theorem digits_any (s : ByteArray) (k0 : Nat) (p q : Addr) (z : Bool) (w : World) (hk : k0 ≤ s.size + 1) (hs : s.size ≤ 2000000)
    (hp : w.cell? p = some (.string s)) (hq : w.cell? q = some (.bool z)) (hf : w.frozen? q = false) :
    Calls Try.prog 22 #[.int .i64 k0, .pointer (some p), .pointer (some q)] w fun e w' => e = .returned (.int .i64 (dend (bt s) s.size k0)) ∧ mark w q (lz (bt s) s.size k0) = w' := by
  go_enter Try.func22, Try.ntmps22
  go_wp2
  go_loop [5] (fun i => ∃ k : Nat, k0 ≤ k ∧ k ≤ s.size + 1 ∧ i = .int .i64 k ∧ Hid (dend (bt s) s.size k0 = dend (bt s) s.size k) ∧ Hid (k = k0 ∨ k ≤ s.size)) (fun i => s.size + 1 - (intOf i).toNat)
  case atStart => exact ⟨k0, Nat.le_refl _, hk, rfl, rfl, Or.inl rfl⟩
  case round =>
    obtain ⟨k, hk0, hk1, rfl, hd, hks⟩ := hrel
    by_cases hlt : k < s.size
    · rcases (show (48 ≤ (s[k].toNat : Int) ∧ (s[k].toNat : Int) ≤ 57) ∨ ((s[k].toNat : Int) < 48 ∨ 57 < (s[k].toNat : Int)) from by omega) with hdig | hno
      · obtain ⟨g1, g2⟩ := hdig
        go_wp2
        go_round
        case rel => exact ⟨k + 1, by omega, by omega, by go_num, go_on s k0 k hlt g1 g2 hd, Or.inr hlt⟩
        case measure => simp [intOf]; omega
      · have he : Hid (dend (bt s) s.size k0 = k) := stop1 s k0 k hlt hno hd
        clear hd
        have hk0s : k0 < s.size := by omega
        by_cases hl : k0 + 1 < k
        · by_cases hz : (s[k0].toNat : Int) = 48
          · have hz' : Hid ((s[k0].toNat : Int) = 48) := hz
            have hzb : ((s[k0].toNat : Int) == 48) = true := by simpa using hz
            clear hz
            rcases hno with hno | hno
            all_goals
              go_wp2
              go_ret
              exact ⟨ret_int (by rw [he.out]), by rw [lz_yes s k0 k hk0s he.out hl hz'.out]; rfl⟩
          · have hzb : ((s[k0].toNat : Int) == 48) = false := by simpa using hz
            rcases hno with hno | hno
            all_goals
              go_wp2
              go_ret
              exact ⟨ret_int (by rw [he.out]), by rw [lz_no s k0 k he.out (Or.inr ⟨hk0s, hz⟩)]; rfl⟩
        · rcases hno with hno | hno
          all_goals
            go_wp2
            go_ret
            exact ⟨ret_int (by rw [he.out]), by rw [lz_no s k0 k he.out (Or.inl hl)]; rfl⟩
    · have he : Hid (dend (bt s) s.size k0 = k) := stop2 s k0 k hlt hd
      clear hd
      by_cases hl : k0 + 1 < k
      · have hk0s : k0 < s.size := by rcases hks.out with h | h <;> omega
        by_cases hz : (s[k0].toNat : Int) = 48
        · have hz' : Hid ((s[k0].toNat : Int) = 48) := hz
          have hzb : ((s[k0].toNat : Int) == 48) = true := by simpa using hz
          clear hz
          go_wp2
          go_ret
          exact ⟨ret_int (by rw [he.out]), by rw [lz_yes s k0 k hk0s he.out hl hz'.out]; rfl⟩
        · have hzb : ((s[k0].toNat : Int) == 48) = false := by simpa using hz
          go_wp2
          go_ret
          exact ⟨ret_int (by rw [he.out]), by rw [lz_no s k0 k he.out (Or.inr ⟨hk0s, hz⟩)]; rfl⟩
      · go_wp2
        go_ret
        exact ⟨ret_int (by rw [he.out]), by rw [lz_no s k0 k he.out (Or.inl hl)]; rfl⟩
end Go.Proofs.Qxb6003644a
