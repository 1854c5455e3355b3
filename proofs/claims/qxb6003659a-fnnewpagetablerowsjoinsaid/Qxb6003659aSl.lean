import Derived.Test.Qxb6003659aRows
import Derived.WalkKit
import Derived.WalkSpells
import Derived.Deep.OwnRows
import Derived.Deep.LoopGhost
import Derived.Lib.SliceRun
import Derived.BigQuiet
namespace Go.Proofs.Qxb6003659a
open Go.RowKit

theorem Try.info50 : (Try.prog.info? 50).map (fun i => (i.zero, i.size, i.bytes)) = some (some (.agg #[.string ⟨#[]⟩, .string ⟨#[]⟩, .bool false]), 3, 40) := by kernel_rfl
theorem Try.info54 : (Try.prog.info? 54).map (fun i => (i.zero, i.size, i.bytes)) = some (some (.agg #[.string ⟨#[]⟩, .string ⟨#[]⟩, .bool false]), 3, 40) := by kernel_rfl
theorem Try.info57 : (Try.prog.info? 57).map (fun i => (i.zero, i.size, i.bytes)) = some (some (.agg #[.string ⟨#[]⟩, .bool false]), 2, 24) := by kernel_rfl
theorem Try.info9 : (Try.prog.info? 9).map (fun i => (i.zero, i.size, i.bytes)) = some (some (.string ⟨#[]⟩), 1, 16) := by kernel_rfl
theorem Try.info45 : (Try.prog.info? 45).map (fun i => (i.zero, i.size, i.bytes)) = some (some (.slice none 0 0), 1, 24) := by kernel_rfl
theorem Try.info34 : (Try.prog.info? 34).map (fun i => (i.zero, i.size, i.bytes)) = some (some (.slice none 0 0), 1, 24) := by kernel_rfl

/-- THE SLICE VALUE v HAS n ELEMENTS OF 'size' CELLS EACH, CELL j OF THEM HOLDING 'F j', IN A BLOCK FROM 'base' ON. -/
def Sl (w : World) (base : Nat) (v : Value) (n size : Nat) (F : Nat → Value) : Prop :=
  ∃ a cap, v = .slice a n cap ∧ (a = none → n = 0 ∧ cap = 0) ∧ (0 < n → ∃ b off, a = some ⟨b, off, none⟩ ∧ base ≤ b ∧ b < w.heap.size ∧ ∀ j, j < n * size → w.cell? ⟨b, off + j, none⟩ = some (F j))

section
variable {w w' : World} {base : Nat} {v : Value} {n size : Nat} {F G : Nat → Value}
theorem Sl.below (h : Sl w base v n size F) (hb : Below w.heap.size w w') : Sl w' base v n size F := by
  obtain ⟨a, cap, rfl, h1, h2⟩ := h
  refine ⟨a, cap, rfl, h1, fun h0 => ?_⟩
  obtain ⟨b, off, e, h5, h3, h4⟩ := h2 h0
  refine ⟨b, off, e, h5, Nat.lt_of_lt_of_le h3 hb.size, fun j hj => ?_⟩
  rw [hb.cell (p := ⟨b, off + j, none⟩) h3]
  exact h4 j hj
theorem Sl.mono {base' : Nat} (h : Sl w base v n size F) (hb : base' ≤ base) : Sl w base' v n size F := by
  obtain ⟨a, cap, rfl, h1, h2⟩ := h
  refine ⟨a, cap, rfl, h1, fun h0 => ?_⟩
  obtain ⟨b, off, e, h5, h3⟩ := h2 h0
  exact ⟨b, off, e, Nat.le_trans hb h5, h3⟩
theorem Sl.setOther (h : Sl w base v n size F) {p : Addr} (hp : p.block < base) (u : Value) : Sl (w.setCell p u) base v n size F := by
  obtain ⟨a, cap, rfl, h1, h2⟩ := h
  refine ⟨a, cap, rfl, h1, fun h0 => ?_⟩
  obtain ⟨b, off, e, h5, h3, h4⟩ := h2 h0
  refine ⟨b, off, e, h5, by simpa using h3, fun j hj => ?_⟩
  rw [World.cell?_setCell_other _ _ _ _ (fun e => by have := congrArg Addr.block e; simp at this; omega)]
  exact h4 j hj
theorem Sl.of_row {g e cap : Nat} (h : w.rowIs g e (n * size) F) (hb : base ≤ g) : Sl w base (.slice (some ⟨g, 0, none⟩) n cap) n size F :=
  ⟨_, cap, rfl, (fun h => by cases h), fun _ => ⟨g, 0, rfl, hb, h.lt, fun j hj => by rw [Nat.zero_add]; exact h.cell hj⟩⟩
theorem Sl.nil (w : World) (base size : Nat) (F : Nat → Value) : Sl w base (.slice none 0 0) 0 size F := ⟨none, 0, rfl, fun _ => ⟨rfl, rfl⟩, fun h => by omega⟩
theorem Sl.congr (h : Sl w base v n size F) (e : ∀ j, j < n * size → F j = G j) : Sl w base v n size G := by
  obtain ⟨a, cap, rfl, h1, h2⟩ := h
  refine ⟨a, cap, rfl, h1, fun h0 => ?_⟩
  obtain ⟨b, off, e', h5, h3, h4⟩ := h2 h0
  exact ⟨b, off, e', h5, h3, fun j hj => by rw [h4 j hj, e j hj]⟩
/-- The value's form, and its cells where there are any. -/
theorem Sl.form (h : Sl w base v n size F) : ∃ a cap, v = .slice a n cap ∧ (a = none → n = 0 ∧ cap = 0) ∧ Hid (0 < n → ∃ b off, a = some ⟨b, off, none⟩ ∧ base ≤ b ∧ b < w.heap.size ∧ ∀ j, j < n * size → w.cell? ⟨b, off + j, none⟩ = some (F j)) := h
end

/-- A row that is filled from its head on. -/
def part (F Z : Nat → Value) (k : Nat) (j : Nat) : Value := if j < k then F j else Z j
theorem part_set {w : World} {g e n k : Nat} {F Z : Nat → Value} (h : w.rowIs g e n (part F Z k)) {v : Value} (hv : v = F k) : (w.setCell ⟨g, k, none⟩ v).rowIs g e n (part F Z (k + 1)) :=
  (h.set k v).congr (fun j _ => by
    unfold part
    by_cases e : j = k
    · subst e; rw [if_pos rfl, if_pos (by omega), hv]
    · rw [if_neg e]
      by_cases h' : j < k
      · rw [if_pos h', if_pos (by omega)]
      · rw [if_neg h', if_neg (by omega)])
theorem part_zero {w : World} {g e n : Nat} {F Z : Nat → Value} (h : w.rowIs g e n Z) : w.rowIs g e n (part F Z 0) := h.congr (fun j _ => by unfold part; rw [if_neg (by omega)])
theorem part_full {w : World} {g e n : Nat} {F Z : Nat → Value} (h : w.rowIs g e n (part F Z n)) : w.rowIs g e n F := h.congr (fun j hj => by unfold part; rw [if_pos hj])
/-- One function turned at one place. -/
def upd (V : Nat → Value) (k : Nat) (u : Value) (j : Nat) : Value := if j = k then u else V j
theorem upd_same (V : Nat → Value) (k : Nat) (u : Value) : upd V k u k = u := by unfold upd; rw [if_pos rfl]
theorem upd_other (V : Nat → Value) (k : Nat) (u : Value) (j : Nat) (h : j ≠ k) : upd V k u j = V j := by unfold upd; rw [if_neg h]
theorem part_upd {w : World} {g e n k : Nat} {V Z : Nat → Value} (h : w.rowIs g e n (part V Z k)) (u : Value) : w.rowIs g e n (part (upd V k u) Z k) := h.congr (fun j _ => by
  unfold part
  by_cases h' : j < k
  · rw [if_pos h', if_pos h', upd_other _ _ _ _ (by omega)]
  · rw [if_neg h', if_neg h'])
theorem rowIs_below {w w' : World} {g e n B : Nat} {F : Nat → Value} (h : w.rowIs g e n F) (hb : Below B w w') (hg : g < B) : w'.rowIs g e n F := h.of_block (hb.block g hg)
theorem part_cell {w : World} {g e n k : Nat} {F Z : Nat → Value} (h : w.rowIs g e n (part F Z k)) {i : Nat} (hi : i < n) : ∃ x, w.cell? ⟨g, i, none⟩ = some x := ⟨_, h.cell hi⟩

theorem run_make_wide {P : Program} (t e : TypeId) (z : Value) (size bytes : Nat) (ht : P.underlying t = some (.slice e)) (hinfo : (P.info? e).map (fun i => (i.zero, i.size, i.bytes)) = some (some z, size, bytes))
    (kl kc : IntKind) (n : Nat) (hbytes : bytes * n ≤ 281474976710656) (h63 : n ≤ 9223372036854775807) (w : World) :
    (Instr.makeSlice t (.int kl (n : Int)) (.int kc (n : Int))).run P w = .ok (.slice (some ⟨w.heap.size, 0, none⟩) n n) (w.alloc (.cells (madeCells z.cells (n * size)) e)) := by
  obtain ⟨i, hi, hz, hs, hb⟩ := info_parts hinfo
  have hb' : (i.bytes : Int) * (n : Int) ≤ 281474976710656 := by
    have h : ((i.bytes * n : Nat) : Int) ≤ 281474976710656 := by rw [hb]; omega
    rwa [Int.natCast_mul] at h
  have hr := run_make (P := P) w t e i z ht hi hz kl kc n n (by omega) (Int.le_refl _) hb' (by omega)
  simp only [Int.toNat_natCast, hs] at hr
  exact hr
theorem rowIs_wide (w : World) (z : Array Value) (n : Nat) (t : TypeId) : (w.alloc (.cells (madeCells z n) t)).rowIs w.heap.size t n (fun j => z[j % z.size]!) :=
  ⟨_, Go.Deep.blk_alloc_new _ _, size_madeCells _ _, fun i hi => by simp [madeCells, hi]⟩

def colF (N T : Nat → ByteArray) (B : Nat → Bool) (j : Nat) : Value := if j % 3 = 0 then .string (N (j / 3)) else if j % 3 = 1 then .string (T (j / 3)) else .bool (B (j / 3))
def celF (S : Nat → ByteArray) (B : Nat → Bool) (j : Nat) : Value := if j % 2 = 0 then .string (S (j / 2)) else .bool (B (j / 2))
def strF (S : Nat → ByteArray) (j : Nat) : Value := .string (S j)

theorem colF0 (N T : Nat → ByteArray) (B : Nat → Bool) (k : Nat) : colF N T B (k * 3) = .string (N k) := by unfold colF; rw [if_pos (by omega), show k * 3 / 3 = k by omega]
theorem colF1 (N T : Nat → ByteArray) (B : Nat → Bool) (k : Nat) : colF N T B (k * 3 + 1) = .string (T k) := by unfold colF; rw [if_neg (by omega), if_pos (by omega), show (k * 3 + 1) / 3 = k by omega]
theorem colF2 (N T : Nat → ByteArray) (B : Nat → Bool) (k : Nat) : colF N T B (k * 3 + 2) = .bool (B k) := by unfold colF; rw [if_neg (by omega), if_neg (by omega), show (k * 3 + 2) / 3 = k by omega]
theorem celF0 (S : Nat → ByteArray) (B : Nat → Bool) (k : Nat) : celF S B (k * 2) = .string (S k) := by unfold celF; rw [if_pos (by omega), show k * 2 / 2 = k by omega]
theorem celF1 (S : Nat → ByteArray) (B : Nat → Bool) (k : Nat) : celF S B (k * 2 + 1) = .bool (B k) := by unfold celF; rw [if_neg (by omega), show (k * 2 + 1) / 2 = k by omega]
end Go.Proofs.Qxb6003659a
