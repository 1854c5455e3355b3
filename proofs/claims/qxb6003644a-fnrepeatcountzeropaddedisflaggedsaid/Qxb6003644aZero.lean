import Derived.Test.Qxb6003644aCount
namespace Go.Proofs.Qxb6003644a
open Go.RowKit Plain

theorem pad_size (s : ByteArray) (h : 0 < s.size) : (({ data := #[123, 48] } : ByteArray) ++ s.extract 1 s.size).size = s.size + 1 := by
  rw [ByteArray.size_append, ByteArray.size_extract]
  show 2 + (min s.size s.size - 1) = s.size + 1
  omega
theorem pad_law (s : ByteArray) (h : 0 < s.size) :
    let r := rc (bt s) s.size
    let r' := rc (bt (({ data := #[123, 48] } : ByteArray) ++ s.extract 1 s.size)) (({ data := #[123, 48] } : ByteArray) ++ s.extract 1 s.size).size
    (r.1 = -1 ∧ (IsD (bt s 1) → r' = (-1, false))) ∨ (3 ≤ r.1 ∧ r' = (r.1 + 1, true)) := by
  have hg := txt_bt (({ data := #[123, 48] } : ByteArray) ++ s.extract 1 s.size)
  rw [pad_size s h] at hg ⊢
  refine rc_padded (bt s) _ s.size (txt_bt s) hg ?_ ?_
  · rw [bt_append_l _ _ 1 (by show 1 < 2; omega)]; rfl
  · intro k hk
    rw [bt_append_r _ _ (k + 1) (by show 2 ≤ k + 1; omega)]
    show bt _ (k + 1 - 2) = _
    rw [bt_extract_end]
    congr 1
    omega

set_option maxHeartbeats 1000000 in
theorem zero_walk (s : ByteArray) (hs : s.size ≤ maxLen) (w : World) :
    Calls Try.prog 5 #[.string s] w fun e w' => e = .returned (.bool true) ∧ Grown w w' := by
  unfold maxLen at hs
  by_cases hbig : 1048576 < s.size
  · go_enter Try.func5, Try.ntmps5
    go_wp2
    go_ret
    exact ⟨rfl, Grown.refl _⟩
  by_cases hz : s.size = 0
  · go_enter Try.func5, Try.ntmps5
    go_wp2
    go_ret
    exact ⟨rfl, Grown.refl _⟩
  have hz0 : 0 < s.size := by omega
  by_cases hb : (s[0].toNat : Int) = 123
  · have hbb : ((s[0].toNat : Int) != 123) = false := by simpa using hb
    have HB : Hid ((s[0].toNat : Int) = 123) := hb
    have hzb : ((s.size : Int) == 0) = false := beq_eq_false_iff_ne.2 (by omega)
    clear hb
    go_enter Try.func5, Try.ntmps5
    go_wp2_with (first | (go_at_call 12; go_in))
    refine (zzcount_any s _ (by omega)).mono ?_
    rintro e w1 ⟨rfl, hg1⟩
    go_wp2_with fail
    have hps := pad_size s hz0
    have hlaw := pad_law s hz0
    have hbd := rc_bounds (bt s) s.size (txt_bt s)
    generalize ({ data := #[123, 48] } : ByteArray) ++ s.extract 1 s.size = t at *
    refine (zzcount_any t w1 (by omega)).mono ?_
    rintro e w2 ⟨rfl, hg2⟩
    have hg : Grown w w2 := grown_trans hg1 hg2
    clear hg1 hg2
    simp only at hlaw
    generalize rc (bt t) t.size = r' at *
    generalize rc (bt s) s.size = r at *
    obtain ⟨L, z⟩ := r
    obtain ⟨pL, pZ⟩ := r'
    simp only at hlaw hbd ⊢
    clear hps
    rcases hlaw with ⟨rfl, hd⟩ | ⟨h3, hr⟩
    · by_cases hd1 : IsD (bt s 1)
      · obtain ⟨rfl, rfl⟩ : pL = -1 ∧ pZ = false := by simpa using hd hd1
        have h1s : 1 < s.size := lt_of_bt s 1 (by unfold IsD at hd1; omega)
        rw [bt_in s 1 h1s] at hd1
        obtain ⟨g1, g2⟩ : 48 ≤ (s[1].toNat : Int) ∧ (s[1].toNat : Int) ≤ 57 := by unfold IsD at hd1; omega
        clear hd hd1 hbd
        go_wp2
        go_ret
        exact ⟨rfl, hg⟩
      · clear hd hbd
        by_cases h1s : 1 < s.size
        · rw [bt_in s 1 h1s] at hd1
          rcases (show (s[1].toNat : Int) < 48 ∨ 57 < (s[1].toNat : Int) from by unfold IsD at hd1; omega) with g | g
          all_goals
            clear hd1
            go_wp2
            go_ret
            exact ⟨rfl, hg⟩
        · clear hd1
          go_wp2
          go_ret
          exact ⟨rfl, hg⟩
    · obtain ⟨rfl, rfl⟩ : pL = L + 1 ∧ pZ = true := by simpa using hr
      have hL : L ≤ s.size := by
        rcases hbd with h | h
        · simp at h; omega
        · omega
      clear hbd hr
      go_wp2
      go_ret
      exact ⟨rfl, hg⟩
  · have hbb : ((s[0].toNat : Int) != 123) = true := by simpa using hb
    go_enter Try.func5, Try.ntmps5
    go_wp2
    go_ret
    exact ⟨rfl, Grown.refl _⟩
end Go.Proofs.Qxb6003644a
