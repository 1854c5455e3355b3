import Derived.Test.Qxb6003659aClone
import Derived.ProofKit
import Derived.Deep.Slices
import Derived.Deep.Strs
namespace Go.Proofs.Qxb6003659a
open Go.RowKit Go.Deep

theorem Try.cells50 : Try.prog.cellsOf 50 = 3 := by kernel_rfl
theorem Try.cells45 : Try.prog.cellsOf 45 = 1 := by kernel_rfl
theorem Try.cells9 : Try.prog.cellsOf 9 = 1 := by kernel_rfl
theorem Try.cells4 : Try.prog.cellsOf 4 = 1 := by kernel_rfl

theorem addr_plain {w : World} {a : Addr} {v : Value} (h : w.cell? (a.add 0) = some v) : ∃ b off, a = ⟨b, off, none⟩ ∧ b < w.heap.size := by
  obtain ⟨b, off, sp⟩ := a
  have hsp : sp = none := by simpa [Addr.add] using World.cell?_spot h
  subst hsp
  refine ⟨b, off, rfl, ?_⟩
  have := World.block_lt_of_cell? _ _ h
  rw [Addr.add_lit] at this
  exact this

section
variable {H : Type} {enc : TypeId × Value → H} {W : World}

theorem cols_of {a : Option Addr} {len cap : Nat} {d : DataW H} {p : List MemPlace} (h : DataW.Trod enc Try.prog W 0 (fun _ => true) true 26 (.slice a len cap) d p) : ∃ N T B, Sl W 0 (.slice a len cap) len 3 (colF N T B) := by
  obtain ⟨fuel, hf⟩ := h
  rcases open_slice Try.underlying26 hf with ⟨hcs, _⟩ | ⟨x, l, c, m, n, D, Pl, hcs, _, hlc, _, hm, _, hx⟩
  · simp [Value.cells] at hcs
    obtain ⟨rfl, rfl, rfl⟩ := hcs
    exact ⟨fun _ => ⟨#[]⟩, fun _ => ⟨#[]⟩, fun _ => false, Sl.nil _ _ _ _⟩
  · simp [Value.cells] at hcs
    obtain ⟨rfl, rfl, rfl⟩ := hcs
    have hm' : m = cap := by simpa using hm
    subst hm'
    have each : ∀ i, i < len → ∃ q : (ByteArray × ByteArray) × Bool, W.cell? (x.add (i * 3)) = some (.string q.1.1) ∧ W.cell? (x.add (i * 3 + 1)) = some (.string q.1.2) ∧ W.cell? (x.add (i * 3 + 2)) = some (.bool q.2) := fun i hi => by
      obtain ⟨cs, h1, h2⟩ := hx i (by omega)
      rw [Try.cells50] at h1
      obtain ⟨_, hl, hc⟩ := World.cells?_some h1
      obtain ⟨y0, y1, y2, n', _, _, t0, t1, t2⟩ := trod_struct3 Try.underlying50 h2
      obtain ⟨s0, e0, _⟩ := DataW.trod_string Try.underlying9 t0
      obtain ⟨s1, e1, _⟩ := DataW.trod_string Try.underlying9 t1
      obtain ⟨b2, e2, _⟩ := DataW.trod_bool Try.underlying4 t2
      match cs, hl with
      | [v0, v1, v2], _ =>
        simp only [Try.cells9, Try.cells4] at e0 e1 e2
        simp at e0 e1 e2
        subst e0 e1 e2
        refine ⟨((s0, s1), b2), ?_, ?_, ?_⟩
        · have := hc 0 (by omega); rw [add_add, Nat.add_zero] at this; exact this
        · have := hc 1 (by omega); rw [add_add] at this; exact this
        · have := hc 2 (by omega); rw [add_add] at this; exact this
    obtain ⟨Q, hQ⟩ := choose_lt each
    refine ⟨fun i => (Q i).1.1, fun i => (Q i).1.2, fun i => (Q i).2, some x, _, rfl, (fun h => by cases h), fun h0 => ?_⟩
    obtain ⟨b, off, rfl, hb⟩ := addr_plain (a := x) (by have := (hQ 0 h0).1; rwa [Nat.zero_mul] at this)
    refine ⟨b, off, rfl, Nat.zero_le _, hb, fun j hj => ?_⟩
    obtain ⟨q0, q1, q2⟩ := hQ (j / 3) (by omega)
    rw [Addr.add_lit] at q0 q1 q2
    have hj3 : j % 3 = 0 ∨ j % 3 = 1 ∨ j % 3 = 2 := by omega
    rcases hj3 with e | e | e
    · rw [show off + j = off + j / 3 * 3 by omega, q0]; unfold colF; rw [if_pos e]
    · rw [show off + j = off + (j / 3 * 3 + 1) by omega, q1]; unfold colF; rw [if_neg (by omega), if_pos e]
    · rw [show off + j = off + (j / 3 * 3 + 2) by omega, q2]; unfold colF; rw [if_neg (by omega), if_neg (by omega)]

theorem strs_of {a : Option Addr} {len cap : Nat} {fuel : Nat} {x : DataW H × List MemPlace} (h : DataW.trod enc Try.prog W 0 (fun _ => true) true fuel 45 [.slice a len cap] = some x) : ∃ S, Sl W 0 (.slice a len cap) len 1 (strF S) := by
  rcases open_strs Try.underlying45 Try.underlying9 Try.cells9 h with ⟨hcs, _⟩ | ⟨y, l, c, m, Sx, hcs, _, hlc, _, hm, _, hx⟩
  · simp at hcs
    obtain ⟨rfl, rfl, rfl⟩ := hcs
    exact ⟨fun _ => ⟨#[]⟩, Sl.nil _ _ _ _⟩
  · simp at hcs
    obtain ⟨rfl, rfl, rfl⟩ := hcs
    have hm' : m = cap := by simpa using hm
    subst hm'
    refine ⟨Sx, some y, _, rfl, (fun h => by cases h), fun h0 => ?_⟩
    obtain ⟨b, off, rfl, hb⟩ := addr_plain (hx 0 (by omega)).1
    refine ⟨b, off, rfl, Nat.zero_le _, hb, fun j hj => ?_⟩
    have := (hx j (by omega)).1
    rw [Addr.add_lit] at this
    exact this

theorem rows_of {a : Option Addr} {len cap : Nat} {d : DataW H} {p : List MemPlace} (h : DataW.Trod enc Try.prog W 0 (fun _ => true) true 27 (.slice a len cap) d p) : ∃ L S, Rws W 0 (.slice a len cap) len L S := by
  obtain ⟨fuel, hf⟩ := h
  rcases open_slice1 Try.underlying27 Try.cells45 hf with ⟨hcs, _⟩ | ⟨x, l, c, m, n, V, D, Pl, hcs, _, hlc, _, hm, _, hx⟩
  · simp [Value.cells] at hcs
    obtain ⟨rfl, rfl, rfl⟩ := hcs
    exact ⟨fun _ => 0, fun _ _ => ⟨#[]⟩, fun _ => undef, Sl.nil _ _ _ _, fun j hj => by omega⟩
  · simp [Value.cells] at hcs
    obtain ⟨rfl, rfl, rfl⟩ := hcs
    have hm' : m = cap := by simpa using hm
    subst hm'
    have each : ∀ i, i < len → ∃ q : Nat × (Nat → ByteArray), Sl W 0 (V i) q.1 1 (strF q.2) := fun i hi => by
      obtain ⟨_, h2⟩ := hx i (by omega)
      have hv : ∃ a' l' c', V i = .slice a' l' c' := by
        rcases open_strs Try.underlying45 Try.underlying9 Try.cells9 h2 with ⟨hcs, _⟩ | ⟨y, l', c', _, _, hcs, _⟩
        · exact ⟨none, 0, 0, by simpa using hcs⟩
        · exact ⟨some y, l', c', by simpa using hcs⟩
      obtain ⟨a', l', c', e⟩ := hv
      rw [e] at h2 ⊢
      obtain ⟨S, hS⟩ := strs_of h2
      exact ⟨(l', S), hS⟩
    obtain ⟨Q, hQ⟩ := choose_lt each
    refine ⟨fun i => (Q i).1, fun i => (Q i).2, V, ⟨some x, _, rfl, (fun h => by cases h), fun h0 => ?_⟩, fun j hj => hQ j hj⟩
    obtain ⟨b, off, rfl, hb⟩ := addr_plain (hx 0 (by omega)).1
    refine ⟨b, off, rfl, Nat.zero_le _, hb, fun j hj => ?_⟩
    have := (hx j (by omega)).1
    rw [Addr.add_lit] at this
    exact this
end
end Go.Proofs.Qxb6003659a
