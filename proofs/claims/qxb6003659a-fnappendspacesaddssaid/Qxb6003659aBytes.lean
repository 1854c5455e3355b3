import Derived.Test.Qxb6003659aRows
import Derived.WalkKit
import Derived.WalkSpells
import Derived.Deep.OwnRows
import Derived.Lib.SliceRun
namespace Go.Proofs.Qxb6003659a
open Go.RowKit

theorem Try.info5 : (Try.prog.info? 5).map (fun i => (i.zero, i.size, i.bytes)) = some (some (.int .u8 0), 1, 1) := by kernel_rfl

/-- The slice value v reads as the bytes zs. -/
def Reads (w : World) (v : Value) (zs : List Int) : Prop :=
  ∃ a cap, v = .slice a zs.length cap ∧ (a = none → zs.length = 0 ∧ cap = 0) ∧
    ∀ x, a = some x → 0 < zs.length → ∃ b off, x = ⟨b, off, none⟩ ∧ b < w.heap.size ∧ ∀ j, j < zs.length → w.cell? ⟨b, off + j, none⟩ = some (.int .u8 (zs.getD j 0))

theorem owns_of_row {w : World} {base g e n : Nat} {f : Nat → Value} (hb : base ≤ g) (hn : n ≤ maxLen) (h : w.rowIs g e n f) (xs : List Value) (hl : xs.length = n) (hx : ∀ j, j < n → xs[j]? = some (f j)) :
    w.ownsRow base e 1 (.slice (some ⟨g, 0, none⟩) n n) n xs := by
  obtain ⟨c, h1, h2, h3⟩ := h
  refine ⟨by omega, .inr ⟨g, n, c, rfl, hb, h1, Nat.le_refl _, hn, by omega, ?_⟩⟩
  apply List.ext_getElem?
  intro j
  by_cases hj : j < n
  · rw [List.getElem?_take, if_pos (by omega), hx j hj, ← h3 j hj]; simp
  · rw [List.getElem?_take, if_neg (by omega), List.getElem?_eq_none (by omega)]

theorem reads_of_owns {w : World} {base : Nat} {v : Value} {zs : List Int} (h : w.ownsRow base 5 1 v zs.length (zs.map (Value.int .u8))) : Reads w v zs := by
  rcases h.2 with ⟨rfl, h0⟩ | ⟨g, cap, cur, rfl, _, hg, _⟩
  · exact ⟨none, 0, by rw [h0], fun _ => ⟨h0, rfl⟩, fun x hx => by cases hx⟩
  · refine ⟨some ⟨g, 0, none⟩, cap, rfl, (fun h => by cases h), fun x hx _ => ⟨g, 0, (Option.some.inj hx).symm, lt_of_block hg, fun j hj => ?_⟩⟩
    rw [Nat.zero_add, h.cellAt j (by omega)]
    rw [List.getElem?_map, List.getElem?_eq_getElem hj, List.getD_eq_getElem?_getD, List.getElem?_eq_getElem hj]; rfl

theorem reads_below {w w' : World} {v : Value} {zs : List Int} (h : Reads w v zs) (hb : Below w.heap.size w w') : Reads w' v zs := by
  obtain ⟨a, cap, rfl, h1, h2⟩ := h
  refine ⟨a, cap, rfl, h1, fun x hx h0 => ?_⟩
  obtain ⟨b, off, e, h3, h4⟩ := h2 x hx h0
  refine ⟨b, off, e, Nat.lt_of_lt_of_le h3 hb.size, fun j hj => ?_⟩
  rw [hb.cell (p := ⟨b, off + j, none⟩) h3]
  exact h4 j hj

set_option maxHeartbeats 1000000 in
theorem clone_any (v : Value) (zs : List Int) (w : World) (hz : zs.length ≤ 2000000) (h : Reads w v zs) :
    Calls Try.prog 7 #[v] w fun e w' => ∃ v', e = .returned v' ∧ w'.ownsRow w.heap.size 5 1 v' zs.length (zs.map (Value.int .u8)) ∧ Below w.heap.size w w' := by
  obtain ⟨a, cap, rfl, h1, h2⟩ := h
  have q22 : ∀ (w : World) (a : Option Addr) (n c n' c' : Nat), (binOp .eql 22 (.slice a n c) (.slice none n' c')).run Try.prog w = .ok (.bool a.isNone) w := fun w a n c n' c' => Lib.run_eql_slice_nil w 22 5 a n c n' c' Try.underlying22
  cases a with
  | none =>
    obtain ⟨h0, rfl⟩ := h1 rfl
    have hnil : zs = [] := List.eq_nil_of_length_eq_zero h0
    subst hnil
    clear h1 h2 h0 hz
    go_enter Try.func7, Try.ntmps7
    go_wp2
    go_ret
    exact ⟨_, rfl, World.ownsRow_nil _ _ _ _, Below.refl _ _⟩
  | some x =>
    have HC : Hid (0 < zs.length → ∃ b off, x = ⟨b, off, none⟩ ∧ b < w.heap.size ∧ ∀ j, j < zs.length → w.cell? ⟨b, off + j, none⟩ = some (.int .u8 (zs.getD j 0))) := h2 x rfl
    clear h1 h2
    generalize hn : zs.length = n at *
    have HN : Hid (zs.length = n) := hn
    clear hn
    have hmk := run_make_row' (P := Try.prog) 22 5 (.int .u8 0) 1 Try.underlying22 Try.info5 rfl .i64 .i64 n (by omega) (by omega)
    go_enter Try.func7, Try.ntmps7
    go_wp2
    clear hmk q22
    go_loopw [4] (fun i wr => ∃ k : Nat, k ≤ n ∧ i = .int .i64 k ∧ wr.rowIs w.heap.size 5 n (fun j => if j < k then .int .u8 (zs.getD j 0) else .int .u8 0) ∧ Below w.heap.size w wr) (fun i _ => n - (intOf i).toNat)
    case atStart => exact ⟨0, Nat.zero_le _, rfl, (World.rowIs_made w _ n 5).congr (fun j _ => by simp), (Below.refl _ _).alloc (Nat.le_refl _) _⟩
    case round =>
      obtain ⟨k, hk, rfl, hrow, hbel⟩ := hrel
      by_cases hlt : k < n
      · have hkz : (k : Int) < (n : Int) := by omega
        obtain ⟨b, off, rfl, hb, hc⟩ := HC.out (by omega)
        have hs1 : wr.cell? ⟨b, off + k, none⟩ = some (.int .u8 (zs.getD k 0)) := by rw [hbel.cell (p := ⟨b, off + k, none⟩) hb]; exact hc k hlt
        clear hc HC
        have hs2 : wr.cell? ⟨w.heap.size, k, none⟩ = some (.int .u8 0) := by have := hrow.cell hlt; simpa using this
        have hs3 : wr.frozen? ⟨w.heap.size, k, none⟩ = false := hrow.frozen k
        have hrow' := hrow.set k (.int .u8 (zs.getD k 0))
        have HR : Hid ((wr.setCell ⟨w.heap.size, k, none⟩ (.int .u8 (zs.getD k 0))).rowIs w.heap.size 5 n (fun j => if j < k + 1 then .int .u8 (zs.getD j 0) else .int .u8 0)) := hrow'.congr (fun j _ => by
          by_cases e : j = k
          · subst e; simp
          · rw [if_neg e]
            by_cases h' : j < k
            · rw [if_pos h', if_pos (by omega)]
            · rw [if_neg h', if_neg (by omega)])
        clear hrow hrow'
        generalize zs.getD k 0 = z at *
        go_wp2
        go_roundw
        case rel => exact ⟨k + 1, by omega, by go_num, HR.out, hbel.setCell (Nat.le_refl _) _⟩
        case measure => simp [intOf]; omega
      · have HO : Hid (wr.ownsRow w.heap.size 5 1 (.slice (some ⟨w.heap.size, 0, none⟩) n n) n (zs.map (Value.int .u8))) := owns_of_row (Nat.le_refl _) (by unfold maxLen; omega) hrow _ (by simp [HN.out]) (fun j hj => by
          have hj' : j < zs.length := by rw [HN.out]; exact hj
          rw [List.getElem?_map, List.getElem?_eq_getElem hj', if_pos (by omega), List.getD_eq_getElem?_getD, List.getElem?_eq_getElem hj']; rfl)
        clear hrow
        go_wp2
        go_ret
        exact ⟨_, rfl, HO.out, hbel⟩

set_option maxHeartbeats 1000000 in
theorem spaces_any (v : Value) (m : Int) (base n : Nat) (xs : List Value) (w : World) (hm : m ≤ 2000000) (hn : n ≤ 2000000) (hbase : base ≤ w.heap.size) (hown : w.ownsRow base 5 1 v n xs) :
    Calls Try.prog 23 #[v, .int .i64 m] w fun e w' => ∃ v', e = .returned v' ∧ w'.ownsRow base 5 1 v' (n + m.toNat) (xs ++ List.replicate m.toNat (.int .u8 32)) ∧ Below base w w' := by
  obtain ⟨i0, hi, hz0, hz1, hz2⟩ := info_parts Try.info5
  go_enter Try.func23, Try.ntmps23
  go_wp2
  go_loopw [0, 6] (fun u i wr => ∃ k : Nat, k ≤ m.toNat ∧ i = .int .i64 k ∧ wr.ownsRow base 5 1 u (n + k) (xs ++ List.replicate k (.int .u8 32)) ∧ Below base w wr) (fun _ i _ => m.toNat - (intOf i).toNat)
  case atStart => exact ⟨0, Nat.zero_le _, rfl, by simpa using hown, Below.refl _ _⟩
  case round =>
    obtain ⟨k, hk, rfl, hownr, hbel⟩ := hrel
    clear hown
    by_cases hlt : (k : Int) < m
    · go_wp2_with (at_builtin; refine wpList_append_own _ rfl _ _ 22 rfl base 5 i0 (.int .u8 0) 1 1 Try.underlying22 hi hz0 hz1 hz2 rfl (by decide) _ _ _ rfl (hownr.alloc _) ⟨wr.heap.size, 0, none⟩ 1 1 [.int .u8 32] rfl rfl ?c1 ?c2 ?c3 ?c4 ?c5 ?_)
      case c1 =>
        intro j u hj
        match j, hj with
        | 0, hj => simp at hj; subst hj; simp [Addr.add]
      case c2 => intro u hu; simp at hu; subst hu; rfl
      case c3 => unfold maxLen; omega
      case c4 => omega
      case c5 => have := hbel.size; simp; omega
      intro v' w2 hown' hgrow' _
      have hb2 : Below base w w2 := (hbel.alloc (by have := hbel.size; omega) _).grown hgrow' (by have := hbel.size; simp; omega) (fun j hj => (hownr.lt j hj).1)
      rw [← List.replicate_succ'] at hown'
      have HO : Hid (w2.ownsRow base 5 1 v' (n + (k + 1)) (xs ++ List.replicate (k + 1) (.int .u8 32))) := hown'
      clear hown' hgrow' hownr hbel
      go_wp2
      go_roundw
      case rel => exact ⟨k + 1, by omega, by go_num, HO.out, hb2⟩
      case measure => simp [intOf]; omega
    · have hkm : k = m.toNat := by omega
      subst hkm
      go_wp2
      go_ret
      exact ⟨_, rfl, hownr, hbel⟩

theorem zzspaces_any (v : Value) (m : Int) (base n : Nat) (xs : List Value) (w : World) (hm : m ≤ 2000000) (hn : n ≤ 2000000) (hbase : base ≤ w.heap.size) (hown : w.ownsRow base 5 1 v n xs) :
    Calls Try.prog 8 #[v, .int .i64 m] w fun e w' => ∃ v', e = .returned v' ∧ w'.ownsRow base 5 1 v' (n + m.toNat) (xs ++ List.replicate m.toNat (.int .u8 32)) ∧ Below base w w' := by
  go_enter Try.func8, Try.ntmps8
  go_wp2_with fail
  refine (spaces_any v m base n xs w hm hn hbase hown).mono ?_
  rintro e w' ⟨v', rfl, h1, h2⟩
  go_wp2_with fail
  go_ret
  exact ⟨_, rfl, h1, h2⟩
end Go.Proofs.Qxb6003659a
