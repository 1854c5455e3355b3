import Derived.Test.Qxb6003644aPlain
namespace Go.Proofs.Qxb6003644a.Plain

theorem fin_neg (f : Nat → Nat) (e : Nat) (z : Bool) (h : f e ≠ 125) : fin f e z = (-1, false) := by unfold fin; rw [if_neg h]

/-- No closing brace: no count. -/
theorem rc_nobrace (f : Nat → Nat) (n : Nat) (hf : Txt f n) (h : ∀ x, 1 ≤ x → x < n → f x ≠ 125) : rc f n = (-1, false) := by
  have h' : ∀ x, 1 ≤ x → f x ≠ 125 := by
    intro x hx
    rcases Nat.lt_or_ge x n with hl | hl
    · exact h x hx hl
    · have := hf.1 x hl; omega
  have a := dend_ge f n 1
  unfold rc
  by_cases h1 : dend f n 1 = 1
  · rw [if_pos h1]
  · rw [if_neg h1]
    by_cases h2 : f (dend f n 1) = 44
    · rw [if_pos h2]; exact fin_neg _ _ _ (h' _ (by have := dend_ge f n (dend f n 1 + 1); omega))
    · rw [if_neg h2]; exact fin_neg _ _ _ (h' _ a)

/-- Nothing between the brace and the first brace or comma at p. -/
theorem rc_empty (f : Nat → Nat) (n : Nat) (h : ¬ IsD (f 1)) : rc f n = (-1, false) := by
  unfold rc; rw [if_pos (dend_stop f n 1 h)]

/-- Something that is no digit ahead of p, where neither a brace nor a comma stands ahead of p. -/
theorem rc_bad1 (f : Nat → Nat) (n p : Nat) (hb : ∀ x, 1 ≤ x → x < p → f x ≠ 125 ∧ f x ≠ 44) (h : ∃ x, 1 ≤ x ∧ x < p ∧ ¬ IsD (f x)) : rc f n = (-1, false) := by
  obtain ⟨x, h1, h2, h3⟩ := h
  have a := dend_ge f n 1
  have hlt : dend f n 1 < p := by
    rcases Nat.lt_or_ge x (dend f n 1) with hl | hl
    · exact absurd (dend_dig f n 1 x h1 hl) h3
    · omega
  unfold rc
  by_cases g1 : dend f n 1 = 1
  · rw [if_pos g1]
  · rw [if_neg g1, if_neg (hb _ a hlt).2]; exact fin_neg _ _ _ (hb _ a hlt).1

/-- Digits up to the brace at j. -/
theorem rc_good1 (f : Nat → Nat) (n j : Nat) (hf : Txt f n) (hj : 1 < j) (hb : f j = 125) (h : ∀ x, 1 ≤ x → x < j → IsD (f x)) : rc f n = ((j : Int) + 1, decide (2 < j ∧ f 1 = 48)) := by
  have e : dend f n 1 = j := dend_eq f n 1 j hf (by omega) h (by rw [hb]; unfold IsD; omega)
  unfold rc
  rw [e, if_neg (by omega), if_neg (by omega)]
  unfold fin lz
  rw [if_pos hb, e]

/-- Digits up to the comma at p, something that is no digit behind it, ahead of the first brace. -/
theorem rc_bad2 (f : Nat → Nat) (n p j : Nat) (hf : Txt f n) (hp : 1 ≤ p) (hc : f p = 44) (h : ∀ x, 1 ≤ x → x < p → IsD (f x)) (hb : ∀ x, 1 ≤ x → x < j → f x ≠ 125) (hx : ∃ x, p + 1 ≤ x ∧ x < j ∧ ¬ IsD (f x)) : rc f n = (-1, false) := by
  have e : dend f n 1 = p := dend_eq f n 1 p hf hp h (by rw [hc]; unfold IsD; omega)
  obtain ⟨x, h1, h2, h3⟩ := hx
  have a := dend_ge f n (p + 1)
  have hlt : dend f n (p + 1) < j := by
    rcases Nat.lt_or_ge x (dend f n (p + 1)) with hl | hl
    · exact absurd (dend_dig f n (p + 1) x h1 hl) h3
    · omega
  unfold rc
  by_cases g1 : dend f n 1 = 1
  · rw [if_pos g1]
  · rw [if_neg g1, e, if_pos hc]; exact fin_neg _ _ _ (hb _ (by omega) hlt)

/-- Digits, a comma, digits or none, the brace. -/
theorem rc_good2 (f : Nat → Nat) (n p j : Nat) (hf : Txt f n) (hp : 1 < p) (hpj : p < j) (hc : f p = 44) (hb : f j = 125) (h : ∀ x, 1 ≤ x → x < p → IsD (f x)) (h2 : ∀ x, p + 1 ≤ x → x < j → IsD (f x)) :
    rc f n = ((j : Int) + 1, decide (2 < p ∧ f 1 = 48) || decide (p + 2 < j ∧ f (p + 1) = 48)) := by
  have e : dend f n 1 = p := dend_eq f n 1 p hf (by omega) h (by rw [hc]; unfold IsD; omega)
  have e2 : dend f n (p + 1) = j := dend_eq f n (p + 1) j hf (by omega) h2 (by rw [hb]; unfold IsD; omega)
  unfold rc
  rw [e, if_neg (by omega), if_pos hc, e2]
  unfold fin lz
  rw [if_pos hb, e, e2]

end Go.Proofs.Qxb6003644a.Plain
