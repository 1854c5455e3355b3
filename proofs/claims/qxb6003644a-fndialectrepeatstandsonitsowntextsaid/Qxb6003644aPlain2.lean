import Derived.Test.Qxb6003644aPlain
namespace Go.Proofs.Qxb6003644a.Plain

/-- A count that is found is found in every text that agrees up to its end. -/
theorem rc_cut (f g : Nat → Nat) (n m : Nat) (hf : Txt f n) (hg : Txt g m) (ha : ∀ k, k < m → g k = f k) (h3 : 3 ≤ (rc f n).1) (hm : (rc f n).1 ≤ m) : rc g m = rc f n := by
  have dd : ∀ k, dend f n k < m → dend g m k = dend f n k := by
    intro k hk
    refine dend_eq g m k _ hg (dend_ge f n k) ?_ ?_
    · intro j h1 h2
      rw [ha j (by omega)]; exact dend_dig f n k j h1 h2
    · rw [ha _ hk]; exact dend_non f n k hf
  have hge := dend_ge f n 1
  by_cases h : dend f n 1 = 1
  · unfold rc at h3; rw [if_pos h] at h3; simp at h3
  by_cases hc : f (dend f n 1) = 44
  · have r1 : rc f n = fin f (dend f n (dend f n 1 + 1)) (lz f n 1 || lz f n (dend f n 1 + 1)) := by unfold rc; rw [if_neg h, if_pos hc]
    by_cases hb : f (dend f n (dend f n 1 + 1)) = 125
    · rw [r1] at hm h3 ⊢
      unfold fin at hm h3 ⊢
      rw [if_pos hb] at hm h3 ⊢
      simp only at hm
      have hge2 := dend_ge f n (dend f n 1 + 1)
      have d1 := dd 1 (by omega)
      have d2 := dd (dend f n 1 + 1) (by omega)
      unfold rc
      rw [d1, if_neg h, ha _ (by omega), if_pos hc, d2]
      unfold fin lz
      rw [ha _ (by omega), if_pos hb, d1, d2, ha 1 (by omega)]
      by_cases hz : dend f n 1 + 1 < m
      · rw [ha _ hz]
      · omega
    · rw [r1] at h3; unfold fin at h3; rw [if_neg hb] at h3; simp at h3
  · have r1 : rc f n = fin f (dend f n 1) (lz f n 1) := by unfold rc; rw [if_neg h, if_neg hc]
    by_cases hb : f (dend f n 1) = 125
    · rw [r1] at hm h3 ⊢
      unfold fin at hm h3 ⊢
      rw [if_pos hb] at hm h3 ⊢
      simp only at hm
      have d1 := dd 1 (by omega)
      unfold rc
      rw [d1, if_neg h, ha _ (by omega), if_neg hc]
      unfold fin lz
      rw [ha _ (by omega), if_pos hb, d1, ha 1 (by omega)]
    · rw [r1] at h3; unfold fin at h3; rw [if_neg hb] at h3; simp at h3

end Go.Proofs.Qxb6003644a.Plain
