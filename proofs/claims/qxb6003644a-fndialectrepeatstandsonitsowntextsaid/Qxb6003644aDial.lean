import Derived.Test.Qxb6003644aRep
import Derived.Test.Qxb6003644aPlain2
namespace Go.Proofs.Qxb6003644a
open Go.RowKit Plain

theorem cnt_shift (u s : ByteArray) (i : Nat) : cnt (u ++ s) (u.size + i) = cnt s i := by
  unfold cnt
  rw [show (fun k => bt (u ++ s) (u.size + i + k)) = fun k => bt s (i + k) from funext fun k => by rw [bt_append_r _ _ _ (by omega)]; congr 1; omega, ByteArray.size_append]
  congr 1; omega
theorem nx_shift (u s : ByteArray) (k : Nat) : nx (u ++ s) (u.size + k) = u.size + nx s k := by
  unfold nx
  rw [bt_append_r _ _ _ (by omega), Nat.add_sub_cancel_left]
  by_cases h : bt s k = 63
  · rw [if_pos h, if_pos h]; omega
  · rw [if_neg h, if_neg h]
theorem ext_of (a b : ByteArray) (hs : a.size = b.size) (h : ∀ k, k < a.size → bt a k = bt b k) : a = b := by
  refine ByteArray.ext_getElem hs ?_
  intro i h1 h2
  have := h i h1
  rw [bt_in a i h1, bt_in b i h2] at this
  exact UInt8.toNat_inj.1 this

theorem extract_shift (u s : ByteArray) (i j : Nat) (hj : j ≤ s.size) : (u ++ s).extract (u.size + i) (u.size + j) = s.extract i j := by
  refine ext_of _ _ ?_ ?_
  · simp only [ByteArray.size_extract, ByteArray.size_append]; omega
  · intro k hk
    simp only [ByteArray.size_extract, ByteArray.size_append] at hk
    rw [bt_extract _ _ _ _ (by omega), bt_extract _ _ _ _ (by omega), bt_append_r _ _ _ (by omega)]
    congr 1; omega

theorem bt_cut (s : ByteArray) (n k : Nat) (h : k < n) : bt (s.extract 0 n) k = bt s k := by
  rw [bt_extract _ _ _ _ (by omega), Nat.zero_add]

theorem nx_cut (s : ByteArray) (k : Nat) (hk : k ≤ s.size) : k ≤ nx s k ∧ nx s k ≤ s.size ∧ nx (s.extract 0 (nx s k)) k = nx s k := by
  by_cases h : bt s k = 63
  · have hlt : k < s.size := lt_of_bt s k (by omega)
    rw [nx_yes s k h]
    exact ⟨by omega, by omega, nx_yes _ _ (by rw [bt_cut s _ _ (by omega)]; exact h)⟩
  · rw [nx_no s k h]
    exact ⟨by omega, by omega, nx_no _ _ (by rw [bt_out _ k (by rw [ByteArray.size_extract]; omega)]; omega)⟩

/-- What the law says of 'repeat', in plain words. -/
theorem rep_law (s : ByteArray) (i : Nat) (hi : i < s.size) :
    (∃ n : Nat, i < n ∧ n ≤ s.size ∧ rep s i = ((n : Int), ({ data := #[] } : ByteArray)) ∧ rep (s.extract 0 n) i = ((n : Int), ({ data := #[] } : ByteArray)) ∧ ∀ u : ByteArray, rep (u ++ s) (u.size + i) = (((u.size + n : Nat) : Int), ({ data := #[] } : ByteArray)))
    ∨ (∃ b : ByteArray, 0 < b.size ∧ rep s i = (0, b) ∧ bt s i = 123 ∧ b.size ≤ s.size - i ∧ (∀ k, k < b.size → bt b k = bt s (i + k)) ∧ ∀ u : ByteArray, rep (u ++ s) (u.size + i) = (0, b)) := by
  have hu : ∀ u : ByteArray, bt (u ++ s) (u.size + i) = bt s i := fun u => by rw [bt_append_r _ _ _ (by omega), Nat.add_sub_cancel_left]
  by_cases hb : bt s i = 123
  · rcases cnt_bounds s i (by omega) with h | ⟨h3, hL⟩
    · right
      refine ⟨{ data := #[123] }, by decide, ?_, hb, ?_, ?_, ?_⟩
      · unfold rep; rw [if_pos hb, h]; rfl
      · show 1 ≤ _; omega
      · intro k hk
        have : k < 1 := hk
        obtain rfl : k = 0 := by omega
        rw [Nat.add_zero, hb]; rfl
      · intro u
        unfold rep; rw [hu, if_pos hb, cnt_shift, h]; rfl
    · obtain ⟨m, hm⟩ := Int.eq_ofNat_of_zero_le (show 0 ≤ (cnt s i).1 by omega)
      have hn : ¬ (cnt s i).1 < 0 := by omega
      have ht : (cnt s i).1.toNat = m := by rw [hm]; rfl
      have hm3 : 3 ≤ m := by omega
      have hms : i + m ≤ s.size := by omega
      by_cases hz : (cnt s i).2 = true
      · right
        refine ⟨s.extract i (i + m), ?_, ?_, hb, ?_, ?_, ?_⟩
        · rw [ByteArray.size_extract]; omega
        · unfold rep; rw [if_pos hb, if_neg hn, if_pos hz, ht]
        · rw [ByteArray.size_extract]; omega
        · intro k hk
          rw [ByteArray.size_extract] at hk
          exact bt_extract _ _ _ _ (by omega)
        · intro u
          unfold rep; rw [hu, if_pos hb, cnt_shift, if_neg hn, if_pos hz, ht, Nat.add_assoc, extract_shift _ _ _ _ hms]
      · left
        obtain ⟨c1, c2, c3⟩ := nx_cut s (i + m) hms
        refine ⟨nx s (i + m), by omega, c2, ?_, ?_, ?_⟩
        · unfold rep; rw [if_pos hb, if_neg hn, if_neg hz, ht]
        · have hsz : (s.extract 0 (nx s (i + m))).size = nx s (i + m) := by rw [ByteArray.size_extract]; omega
          have hc : cnt (s.extract 0 (nx s (i + m))) i = cnt s i := by
            have ht1 := txt_at (s.extract 0 (nx s (i + m))) i (by omega)
            unfold cnt
            refine rc_cut _ _ _ _ (txt_at s i (by omega)) ht1 ?_ h3 ?_
            · intro k hk
              exact bt_cut s _ _ (by omega)
            · show (cnt s i).1 ≤ _
              rw [hm, hsz]; omega
          unfold rep
          rw [bt_cut s _ _ (by omega), if_pos hb, hc, if_neg hn, if_neg hz, ht, c3]
        · intro u
          unfold rep; rw [hu, if_pos hb, cnt_shift, if_neg hn, if_neg hz, ht, Nat.add_assoc, nx_shift]
  · left
    obtain ⟨c1, c2, c3⟩ := nx_cut s (i + 1) hi
    refine ⟨nx s (i + 1), by omega, c2, ?_, ?_, ?_⟩
    · unfold rep; rw [if_neg hb]
    · unfold rep; rw [bt_cut s _ _ (by omega), if_neg hb, c3]
    · intro u
      unfold rep; rw [hu, if_neg hb, Nat.add_assoc, nx_shift]

theorem isEmpty_no (b : ByteArray) (h : 0 < b.size) : b.toList.isEmpty = false := by
  rw [ByteArray.toList_eq]
  have h1 : b.data.toList.length = b.size := by cases b; rfl
  cases h2 : b.data.toList with
  | nil => rw [h2] at h1; simp at h1; omega
  | cons x xs => rfl

set_option maxHeartbeats 1000000 in
theorem dial_walk (s u : ByteArray) (iI : Int) (hs : s.size ≤ maxLen) (hu : u.size ≤ maxLen) (w : World) :
    Calls Try.prog 6 #[.string s, .string u, .int .i64 iI] w fun e w' => e = .returned (.bool true) ∧ Grown w w' := by
  unfold maxLen at hs hu
  by_cases hbs : 524288 < s.size
  · go_enter Try.func6, Try.ntmps6
    go_wp2
    all_goals
      go_ret
      exact ⟨rfl, Grown.refl _⟩
  by_cases hbu : 524288 < u.size
  · go_enter Try.func6, Try.ntmps6
    go_wp2
    all_goals
      go_ret
      exact ⟨rfl, Grown.refl _⟩
  by_cases h0 : iI < 0
  · go_enter Try.func6, Try.ntmps6
    go_wp2
    all_goals
      go_ret
      exact ⟨rfl, Grown.refl _⟩
  by_cases hi : iI < s.size
  · obtain ⟨i, rfl⟩ := Int.eq_ofNat_of_zero_le (show 0 ≤ iI by omega)
    have hlaw := rep_law s i (by omega)
    have HL : Hid _ := hlaw
    clear hlaw
    go_enter Try.func6, Try.ntmps6
    go_wp2_with (first | (go_at_call 14; go_in))
    refine (zzrep_any s i _ (by omega) (by omega) hi).mono ?_
    rintro e w1 ⟨rfl, hg1⟩
    go_wp2_with fail
    have hsz : (u ++ s).size = u.size + s.size := ByteArray.size_append
    refine (zzrep_any (u ++ s) (u.size + i) _ (by omega) (by omega) (by omega)).mono ?_
    rintro e w2 ⟨rfl, hg2⟩
    rw [show ((u.size : Int) + i).toNat = u.size + i from by omega]
    clear hsz
    have hg : Grown w w2 := grown_trans hg1 hg2
    clear hg1 hg2
    rcases HL.out with ⟨n, hn1, hn2, e1, e2, e3⟩ | ⟨b, hb0, e1, hb1, hb2, hb3, e2⟩
    · rw [e1, e3 u]
      have HE2 : Hid (rep (s.extract 0 n) i = ((n : Int), ({ data := #[] } : ByteArray))) := e2
      clear e1 e2 e3 HL
      go_wp2_with fail
      have hsz : (s.extract 0 n).size = n := by rw [ByteArray.size_extract]; omega
      refine (zzrep_any (s.extract 0 n) i _ (by omega) (by omega) (by omega)).mono ?_
      rintro e w3 ⟨rfl, hg3⟩
      rw [Int.toNat_natCast, HE2.out]
      have hg' : Grown w w3 := grown_trans hg hg3
      clear hg hg3 hsz HE2
      go_wp2_with fail
      go_ret
      exact ⟨rfl, hg'⟩
    · rw [e1, e2 u]
      clear e1 e2 HL
      have hbe : b.toList.isEmpty = false := isEmpty_no b hb0
      have hci : ((s[i].toNat : Int) == 123) = true := by rw [beq_iff_eq]; rw [bt_in s i (by omega)] at hb1; omega
      have HB : Hid (∀ k, k < b.size → bt b k = bt s (i + k)) := hb3
      clear hb3 hb1
      go_wp2_with fail
      have hsz : (s.extract i s.size).size = s.size - i := by rw [ByteArray.size_extract]; omega
      refine (prefix_yes (s.extract i s.size) b _ (by omega) (by omega) ?_).mono ?_
      · intro k h1 h2
        have := HB.out k h1
        rw [bt_in b k h1, ← bt_extract_end s i k, bt_in _ k h2] at this
        exact (UInt8.toNat_inj.1 this).symm
      rintro e w3 ⟨rfl, hg3⟩
      have hg' : Grown w w3 := grown_trans hg hg3
      clear hg hg3 hsz HB
      go_wp2_with fail
      go_ret
      exact ⟨rfl, hg'⟩
  · go_enter Try.func6, Try.ntmps6
    go_wp2
    all_goals
      go_ret
      exact ⟨rfl, Grown.refl _⟩
end Go.Proofs.Qxb6003644a
