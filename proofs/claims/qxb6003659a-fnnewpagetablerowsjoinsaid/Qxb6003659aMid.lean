import Derived.Test.Qxb6003659aMake
namespace Go.Proofs.Qxb6003659a
open Go.RowKit

/-- The headings' cells, i of them. -/
def hd (T : Nat → ByteArray) (B : Nat → Bool) : Nat → List Value
  | 0 => []
  | i + 1 => hd T B i ++ [.string (T i), .bool (B i)]
theorem hd_len (T : Nat → ByteArray) (B : Nat → Bool) (i : Nat) : (hd T B i).length = i * 2 := by
  induction i with
  | zero => rfl
  | succ i ih => rw [hd, List.length_append, ih]; simp; omega
theorem hd_get (T : Nat → ByteArray) (B : Nat → Bool) (i j : Nat) (h : j < i * 2) : (hd T B i)[j]? = some (celF T B j) := by
  induction i with
  | zero => omega
  | succ i ih =>
    rw [hd]
    by_cases hj : j < i * 2
    · rw [List.getElem?_append_left (by rw [hd_len]; exact hj)]; exact ih hj
    · rw [List.getElem?_append_right (by rw [hd_len]; omega), hd_len]
      have : j = i * 2 ∨ j = i * 2 + 1 := by omega
      rcases this with rfl | rfl
      · rw [celF0, Nat.sub_self]; rfl
      · rw [celF1, show i * 2 + 1 - i * 2 = 1 by omega]; rfl

/-- The rows' values, k of them. -/
def vs (U : Nat → Value) : Nat → List Value
  | 0 => []
  | k + 1 => vs U k ++ [U k]
theorem vs_len (U : Nat → Value) (k : Nat) : (vs U k).length = k := by
  induction k with
  | zero => rfl
  | succ k ih => rw [vs, List.length_append, ih]; rfl
theorem vs_get (U : Nat → Value) (k j : Nat) (h : j < k) : (vs U k)[j]? = some (U j) := by
  induction k with
  | zero => omega
  | succ k ih =>
    rw [vs]
    by_cases hj : j < k
    · rw [List.getElem?_append_left (by rw [vs_len]; exact hj)]; exact ih hj
    · obtain rfl : j = k := by omega
      rw [List.getElem?_append_right (by rw [vs_len]; omega), vs_len, Nat.sub_self]; rfl
theorem vs_congr (U V : Nat → Value) (k : Nat) (h : ∀ j, j < k → U j = V j) : vs U k = vs V k := by
  induction k with
  | zero => rfl
  | succ k ih => rw [vs, vs, ih (fun j hj => h j (by omega)), h k (by omega)]

/-- WHAT HOLDS IN newPageTable WITH i HEADINGS AND k ROWS MADE. The result's block, then the table's own, lie first among the new ones. -/
structure Mid (w wr : World) (cap : ByteArray) (T : Nat → ByteArray) (B : Nat → Bool) (L : Nat → Nat) (S : Nat → Nat → ByteArray) (hv rv : Value) (i k : Nat) (U : Nat → Value) : Prop where
  bel : Below w.heap.size w wr
  res : wr.heap[w.heap.size]? = some (.cells #[.string ⟨#[]⟩, .slice none 0 0, .slice none 0 0] 37 (0, 0))
  loc : wr.heap[w.heap.size + 1]? = some (.cells #[.string cap, hv, rv] 37 (0, 0))
  hown : wr.ownsRow (w.heap.size + 2) 57 2 hv i (hd T B i)
  rown : wr.ownsRow (w.heap.size + 2) 34 1 rv k (vs U k)
  hnil : i = 0 → hv = .slice none 0 0
  rnil : k = 0 → rv = .slice none 0 0
  rows : ∀ j, j < k → ∃ g, U j = .slice (some ⟨g, 0, none⟩) (L j) (L j) ∧ w.heap.size + 2 ≤ g ∧ wr.rowIs g 57 (L j * 2) (celF (S j) B)

section
variable {w wr : World} {cap : ByteArray} {T : Nat → ByteArray} {B : Nat → Bool} {L : Nat → Nat} {S : Nat → Nat → ByteArray} {hv rv : Value} {i k : Nat} {U : Nat → Value}

theorem Mid.size (h : Mid w wr cap T B L S hv rv i k U) : w.heap.size + 2 ≤ wr.heap.size := by have := lt_of_block h.loc; omega

theorem owns_of_block {w w' : World} {base : Nat} {e : TypeId} {size : Nat} {v : Value} {n : Nat} {xs : List Value} (h : w.ownsRow base e size v n xs) (hb : ∀ g, v.ownBlock = some g → w'.heap[g]? = w.heap[g]?) : w'.ownsRow base e size v n xs := by
  obtain ⟨h1, h2⟩ := h
  refine ⟨h1, ?_⟩
  rcases h2 with h2 | ⟨g, c, cur, rfl, hg, hh, r⟩
  · exact Or.inl h2
  · exact Or.inr ⟨g, c, cur, rfl, hg, by rw [hb g rfl]; exact hh, r⟩

/-- Nothing that was there has turned. -/
theorem Mid.below {wi : World} (h : Mid w wr cap T B L S hv rv i k U) (hb : Below wr.heap.size wr wi) : Mid w wi cap T B L S hv rv i k U := by
  have hs := h.size
  refine ⟨h.bel.trans (hb.mono (by omega)), by rw [hb.block _ (by omega)]; exact h.res, by rw [hb.block _ (by omega)]; exact h.loc, ?_, ?_, h.hnil, h.rnil, fun j hj => ?_⟩
  · exact owns_of_block h.hown (fun g hg => hb.block g (h.hown.lt g hg).2)
  · exact owns_of_block h.rown (fun g hg => hb.block g (h.rown.lt g hg).2)
  · obtain ⟨g, e1, e2, e3⟩ := h.rows j hj
    exact ⟨g, e1, e2, rowIs_below e3 hb e3.lt⟩

theorem own_kind {w : World} {base : Nat} {e : TypeId} {size : Nat} {v : Value} {n : Nat} {xs : List Value} (h : w.ownsRow base e size v n xs) (g : Nat) (hg : v.ownBlock = some g) : ∃ c, w.heap[g]? = some (.cells c e (0, 0)) := by
  rcases h.2 with ⟨rfl, _⟩ | ⟨g', c, cur, rfl, _, hh, _⟩
  · cases hg
  · cases hg; exact ⟨cur, hh⟩

/-- A block of another element type is not the row that was appended to. -/
theorem ne_of_kind {w : World} {base : Nat} {e e' : TypeId} {size : Nat} {v : Value} {n : Nat} {xs : List Value} (h : w.ownsRow base e size v n xs) {g : Nat} {c : Array Value} {f : Nat × Nat} (hg : w.heap[g]? = some (.cells c e' f)) (hne : e ≠ e') : some g ≠ v.ownBlock := by
  intro he
  obtain ⟨c', hc'⟩ := own_kind h g he.symm
  rw [hg] at hc'
  simp at hc'
  exact hne hc'.2.1.symm

/-- One heading more. -/
theorem mid_head {w2 w3 : World} {v' : Value} (h : Mid w w2 cap T B L S hv (.slice none 0 0) i 0 U) (ho : w3.ownsRow (w.heap.size + 2) 57 2 v' (i + 1) (hd T B i ++ [.string (T i), .bool (B i)])) (hg : w2.grownBy w3 hv.ownBlock) :
    Mid w (w3.setCell ⟨w.heap.size + 1, 1, none⟩ v') cap T B L S v' (.slice none 0 0) (i + 1) 0 U := by
  have hs := h.size
  have b0 : w3.heap[w.heap.size]? = w2.heap[w.heap.size]? := hg.block _ (by omega) (fun e => by have := (h.hown.lt _ e.symm).1; omega)
  have b1 : w3.heap[w.heap.size + 1]? = w2.heap[w.heap.size + 1]? := hg.block _ (by omega) (fun e => by have := (h.hown.lt _ e.symm).1; omega)
  refine ⟨(h.bel.grown hg (by omega) (fun j hj => by have := (h.hown.lt j hj).1; omega)).setCell (by show w.heap.size ≤ w.heap.size + 1; omega) _, ?_, ?_, ?_, ?_, fun e => by omega, fun _ => rfl, fun j hj => by omega⟩
  · rw [Below.heap_setCell _ _ _ _ (by show w.heap.size ≠ w.heap.size + 1; omega), b0]; exact h.res
  · exact heap_setCell_same w3 (w.heap.size + 1) 1 _ 37 v' (by rw [b1]; exact h.loc)
  · exact ownsRow_setCell_below ho (by show w.heap.size + 1 < w.heap.size + 2; omega) _
  · exact World.ownsRow_nil _ _ _ _

/-- One row more. -/
theorem mid_row {w2 w3 : World} {v' : Value} {g : Nat} (h : Mid w w2 cap T B L S hv rv i k U) (hgb : w.heap.size + 2 ≤ g) (hrow : w2.rowIs g 57 (L k * 2) (celF (S k) B)) (ho : w3.ownsRow (w.heap.size + 2) 34 1 v' (k + 1) (vs U k ++ [.slice (some ⟨g, 0, none⟩) (L k) (L k)])) (hg : w2.grownBy w3 rv.ownBlock) :
    Mid w (w3.setCell ⟨w.heap.size + 1, 2, none⟩ v') cap T B L S hv v' i (k + 1) (upd U k (.slice (some ⟨g, 0, none⟩) (L k) (L k))) := by
  have hs := h.size
  have b0 : w3.heap[w.heap.size]? = w2.heap[w.heap.size]? := hg.block _ (by omega) (fun e => by have := (h.rown.lt _ e.symm).1; omega)
  have b1 : w3.heap[w.heap.size + 1]? = w2.heap[w.heap.size + 1]? := hg.block _ (by omega) (fun e => by have := (h.rown.lt _ e.symm).1; omega)
  have kp : ∀ {q m : Nat} {F : Nat → Value}, w.heap.size + 2 ≤ q → w2.rowIs q 57 m F → (w3.setCell ⟨w.heap.size + 1, 2, none⟩ v').rowIs q 57 m F := fun {q m F} hq hr => by
    refine World.rowIs.setOther (hr.of_block (hg.block _ hr.lt ?_)) (by show q ≠ w.heap.size + 1; omega) _
    obtain ⟨c, hc, _⟩ := hr
    exact ne_of_kind h.rown hc (by decide)
  refine ⟨(h.bel.grown hg (by omega) (fun j hj => by have := (h.rown.lt j hj).1; omega)).setCell (by show w.heap.size ≤ w.heap.size + 1; omega) _, ?_, ?_, ?_, ?_, h.hnil, fun e => by omega, fun j hj => ?_⟩
  · rw [Below.heap_setCell _ _ _ _ (by show w.heap.size ≠ w.heap.size + 1; omega), b0]; exact h.res
  · exact heap_setCell_same w3 (w.heap.size + 1) 2 _ 37 v' (by rw [b1]; exact h.loc)
  · refine ownsRow_setCell_below (owns_of_block h.hown (fun q hq => ?_)) (by show w.heap.size + 1 < w.heap.size + 2; omega) _
    obtain ⟨c, hc⟩ := own_kind h.hown q hq
    exact hg.block q (lt_of_block hc) (ne_of_kind h.rown hc (by decide))
  · rw [vs, upd_same, vs_congr (upd U k _) U k (fun j hj => upd_other _ _ _ _ (by omega))]
    exact ownsRow_setCell_below ho (by show w.heap.size + 1 < w.heap.size + 2; omega) _
  · by_cases e : j = k
    · subst e
      exact ⟨g, upd_same _ _ _, hgb, kp hgb hrow⟩
    · obtain ⟨q, e1, e2, e3⟩ := h.rows j (by omega)
      exact ⟨q, by rw [upd_other _ _ _ _ e]; exact e1, e2, kp e2 e3⟩

end
end Go.Proofs.Qxb6003659a
