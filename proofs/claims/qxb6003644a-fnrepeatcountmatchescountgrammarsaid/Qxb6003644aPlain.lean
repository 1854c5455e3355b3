/-
  PLAIN FACTS ON TEXTS: no Go here. 'bt s k': the byte of s at k, 256 beyond its end. 'dend f n k': the end of the run of digits that begins at k. 'rc f n': what repeatCount finds.
-/
namespace Go.Proofs.Qxb6003644a.Plain

def bt (s : ByteArray) (k : Nat) : Nat := if h : k < s.size then (s[k]'h).toNat else 256

theorem bt_in (s : ByteArray) (k : Nat) (h : k < s.size) : bt s k = (s[k]'h).toNat := by simp [bt, h]
theorem bt_out (s : ByteArray) (k : Nat) (h : s.size ≤ k) : bt s k = 256 := by simp [bt, Nat.not_lt.2 h]
theorem bt_lt (s : ByteArray) (k : Nat) (h : k < s.size) : bt s k < 256 := by rw [bt_in s k h]; exact (s[k]'h).toNat_lt
theorem lt_of_bt (s : ByteArray) (k : Nat) (h : bt s k < 256) : k < s.size := by
  rcases Nat.lt_or_ge k s.size with h' | h'
  · exact h'
  · rw [bt_out s k h'] at h; omega

def IsD (c : Nat) : Prop := 48 ≤ c ∧ c ≤ 57

def runTo (f : Nat → Nat) : Nat → Nat → Nat
  | 0, k => k
  | m + 1, k => if 48 ≤ f k ∧ f k ≤ 57 then runTo f m (k + 1) else k

/-- The end of the run of digits from k on, in a text of n bytes. -/
def dend (f : Nat → Nat) (n k : Nat) : Nat := runTo f (n - k) k

/-- A text of n bytes: 256 from n on. -/
def Txt (f : Nat → Nat) (n : Nat) : Prop := (∀ k, n ≤ k → f k = 256) ∧ (∀ k, k < n → f k < 256)
theorem txt_bt (s : ByteArray) : Txt (bt s) s.size := ⟨bt_out s, bt_lt s⟩

theorem dend_step (f : Nat → Nat) (n k : Nat) (ht : Txt f n) (h : IsD (f k)) : dend f n k = dend f n (k + 1) := by
  have hk : k < n := by
    rcases Nat.lt_or_ge k n with h' | h'
    · exact h'
    · have := ht.1 k h'; unfold IsD at h; omega
  unfold dend
  rw [show n - k = (n - (k + 1)) + 1 by omega, runTo, if_pos (show 48 ≤ f k ∧ f k ≤ 57 from h)]

theorem dend_stop (f : Nat → Nat) (n k : Nat) (h : ¬ IsD (f k)) : dend f n k = k := by
  unfold dend
  cases n - k with
  | zero => rfl
  | succ m => rw [runTo, if_neg (show ¬ (48 ≤ f k ∧ f k ≤ 57) from h)]

theorem runTo_spec (f : Nat → Nat) (m k : Nat) : k ≤ runTo f m k ∧ runTo f m k ≤ k + m ∧ (∀ j, k ≤ j → j < runTo f m k → IsD (f j)) ∧ (runTo f m k = k + m ∨ ¬ IsD (f (runTo f m k))) := by
  induction m generalizing k with
  | zero => exact ⟨by simp [runTo], by simp [runTo], fun j h1 h2 => by simp [runTo] at h2; omega, Or.inl rfl⟩
  | succ m ih =>
    by_cases h : 48 ≤ f k ∧ f k ≤ 57
    · obtain ⟨a, b, c, d⟩ := ih (k + 1)
      rw [runTo, if_pos h]
      refine ⟨by omega, by omega, fun j h1 h2 => ?_, ?_⟩
      · by_cases e : j = k
        · rw [e]; exact h
        · exact c j (by omega) h2
      · rcases d with d | d
        · left; omega
        · exact Or.inr d
    · rw [runTo, if_neg h]
      exact ⟨by omega, by omega, fun j h1 h2 => by omega, Or.inr h⟩

theorem dend_ge (f : Nat → Nat) (n k : Nat) : k ≤ dend f n k := (runTo_spec f (n - k) k).1
theorem dend_le (f : Nat → Nat) (n k : Nat) (h : k ≤ n) : dend f n k ≤ n := by have := (runTo_spec f (n - k) k).2.1; unfold dend; omega
theorem dend_le' (f : Nat → Nat) (n k : Nat) : dend f n k ≤ n ∨ dend f n k = k := by have := (runTo_spec f (n - k) k).2.1; have := (runTo_spec f (n - k) k).1; unfold dend; omega
theorem dend_dig (f : Nat → Nat) (n k j : Nat) (h1 : k ≤ j) (h2 : j < dend f n k) : IsD (f j) := (runTo_spec f (n - k) k).2.2.1 j h1 h2
theorem dend_non (f : Nat → Nat) (n k : Nat) (ht : Txt f n) : ¬ IsD (f (dend f n k)) := by
  rcases (runTo_spec f (n - k) k).2.2.2 with h | h
  · intro hd
    have := ht.1 (dend f n k) (by unfold dend; omega)
    unfold IsD at hd; omega
  · exact h

/-- The run of digits from k on ends at e, and nowhere else. -/
theorem dend_eq (f : Nat → Nat) (n k e : Nat) (ht : Txt f n) (h1 : k ≤ e) (h2 : ∀ j, k ≤ j → j < e → IsD (f j)) (h3 : ¬ IsD (f e)) : dend f n k = e := by
  have a := dend_ge f n k
  have b := dend_non f n k ht
  rcases Nat.lt_trichotomy (dend f n k) e with h | h | h
  · exact absurd (h2 _ a h) b
  · exact h
  · exact absurd (dend_dig f n k e h1 h) h3

/-- Two or more digits from k on, the first a 0. -/
def lz (f : Nat → Nat) (n k : Nat) : Bool := decide (k + 1 < dend f n k ∧ f k = 48)

def fin (f : Nat → Nat) (e : Nat) (z : Bool) : Int × Bool := if f e = 125 then ((e : Int) + 1, z) else (-1, false)

/-- What repeatCount finds. -/
def rc (f : Nat → Nat) (n : Nat) : Int × Bool :=
  if dend f n 1 = 1 then (-1, false)
  else if f (dend f n 1) = 44 then fin f (dend f n (dend f n 1 + 1)) (lz f n 1 || lz f n (dend f n 1 + 1))
  else fin f (dend f n 1) (lz f n 1)

theorem bt_append_l (a b : ByteArray) (k : Nat) (h : k < a.size) : bt (a ++ b) k = bt a k := by
  rw [bt_in _ k (by rw [ByteArray.size_append]; omega), bt_in a k h, ByteArray.getElem_append_left h]
theorem bt_append_r (a b : ByteArray) (k : Nat) (h : a.size ≤ k) : bt (a ++ b) k = bt b (k - a.size) := by
  by_cases hk : k < (a ++ b).size
  · have := hk
    rw [ByteArray.size_append] at this
    rw [bt_in _ k hk, bt_in b (k - a.size) (by omega), ByteArray.getElem_append_right h]
  · have := hk
    rw [ByteArray.size_append] at this
    rw [bt_out _ k (by omega), bt_out _ _ (by omega)]
theorem bt_extract (s : ByteArray) (i j k : Nat) (h : i + k < j) : bt (s.extract i j) k = bt s (i + k) := by
  by_cases hk : k < (s.extract i j).size
  · have h1 := hk
    rw [ByteArray.size_extract] at h1
    rw [bt_in _ k hk, bt_in s (i + k) (by omega), ByteArray.getElem_extract]
  · have h1 := hk
    rw [ByteArray.size_extract] at h1
    rw [bt_out _ k (by omega), bt_out _ _ (by omega)]
theorem bt_extract_end (s : ByteArray) (i k : Nat) : bt (s.extract i s.size) k = bt s (i + k) := by
  by_cases h : i + k < s.size
  · exact bt_extract s i s.size k h
  · rw [bt_out s (i + k) (by omega), bt_out _ k (by rw [ByteArray.size_extract]; omega)]
theorem bt_extract_out (s : ByteArray) (i j k : Nat) (h : j ≤ i + k) : bt (s.extract i j) k = 256 :=
  bt_out _ k (by rw [ByteArray.size_extract]; omega)

theorem rc_bounds (f : Nat → Nat) (n : Nat) (ht : Txt f n) : rc f n = (-1, false) ∨ (3 ≤ (rc f n).1 ∧ (rc f n).1 ≤ n) := by
  have fb : ∀ e z, 2 ≤ e → fin f e z = (-1, false) ∨ (3 ≤ (fin f e z).1 ∧ (fin f e z).1 ≤ n) := by
    intro e z he
    unfold fin
    by_cases h : f e = 125
    · rw [if_pos h]
      right
      have : e < n := by
        rcases Nat.lt_or_ge e n with h' | h'
        · exact h'
        · have := ht.1 e h'; omega
      exact ⟨by simp; omega, by simp; omega⟩
    · rw [if_neg h]; exact Or.inl rfl
  have h1 := dend_ge f n 1
  unfold rc
  by_cases h : dend f n 1 = 1
  · rw [if_pos h]; exact Or.inl rfl
  · rw [if_neg h]
    by_cases h2 : f (dend f n 1) = 44
    · rw [if_pos h2]; exact fb _ _ (by have := dend_ge f n (dend f n 1 + 1); omega)
    · rw [if_neg h2]; exact fb _ _ (by omega)

/-- A 0 put ahead of the first digit. -/
theorem rc_padded (f g : Nat → Nat) (n : Nat) (hf : Txt f n) (hg : Txt g (n + 1)) (h1 : g 1 = 48) (h2 : ∀ k, 1 ≤ k → g (k + 1) = f k) :
    ((rc f n).1 = -1 ∧ (IsD (f 1) → rc g (n + 1) = (-1, false))) ∨ (3 ≤ (rc f n).1 ∧ rc g (n + 1) = ((rc f n).1 + 1, true)) := by
  have sh : ∀ k, 1 ≤ k → dend g (n + 1) (k + 1) = dend f n k + 1 := by
    intro k hk
    have a := dend_ge f n k
    refine dend_eq g (n + 1) (k + 1) (dend f n k + 1) hg (by omega) ?_ ?_
    · intro j hj1 hj2
      obtain ⟨i, rfl⟩ : ∃ i, j = i + 1 := ⟨j - 1, by omega⟩
      rw [h2 i (by omega)]
      exact dend_dig f n k i (by omega) (by omega)
    · rw [h2 _ (by omega)]
      exact dend_non f n k hf
  have e1 : dend g (n + 1) 1 = dend f n 1 + 1 := by
    rw [dend_step g (n + 1) 1 hg (by rw [h1]; unfold IsD; omega)]
    exact sh 1 (Nat.le_refl _)
  have hge := dend_ge f n 1
  by_cases h : dend f n 1 = 1
  · left
    refine ⟨by unfold rc; rw [if_pos h], fun hd => ?_⟩
    have a := dend_step f n 1 hf hd
    have b := dend_ge f n (1 + 1)
    omega
  · have lg : lz g (n + 1) 1 = true := by unfold lz; rw [e1]; simp; omega
    have gn : ¬ dend g (n + 1) 1 = 1 := by omega
    have fb : ∀ e z, 2 ≤ e → ((fin f e z).1 = -1 ∧ (IsD (f 1) → fin g (e + 1) true = (-1, false))) ∨ (3 ≤ (fin f e z).1 ∧ fin g (e + 1) true = ((fin f e z).1 + 1, true)) := by
      intro e z he
      unfold fin
      rw [h2 e (by omega)]
      by_cases hh : f e = 125
      · rw [if_pos hh, if_pos hh]; right; exact ⟨by simp; omega, by simp⟩
      · rw [if_neg hh, if_neg hh]; left; exact ⟨rfl, fun _ => rfl⟩
    by_cases hc : f (dend f n 1) = 44
    · have r1 : rc f n = fin f (dend f n (dend f n 1 + 1)) (lz f n 1 || lz f n (dend f n 1 + 1)) := by unfold rc; rw [if_neg h, if_pos hc]
      have r2 : rc g (n + 1) = fin g (dend f n (dend f n 1 + 1) + 1) true := by
        unfold rc
        rw [if_neg gn, e1, h2 _ hge, if_pos hc, lg, Bool.true_or, sh _ (by omega)]
      rw [r1, r2]
      exact fb _ _ (by have := dend_ge f n (dend f n 1 + 1); omega)
    · have r1 : rc f n = fin f (dend f n 1) (lz f n 1) := by unfold rc; rw [if_neg h, if_neg hc]
      have r2 : rc g (n + 1) = fin g (dend f n 1 + 1) true := by
        unfold rc
        rw [if_neg gn, e1, h2 _ hge, if_neg hc, lg]
      rw [r1, r2]
      exact fb _ _ (by omega)

end Go.Proofs.Qxb6003644a.Plain
