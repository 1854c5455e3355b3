import Derived.Test.Qxb6003659aSpec
import Derived.Test.Qxb6003659aLimit2
namespace Go.Proofs.Qxb6003659a
open Go.RowKit

/-- A's up to n, then B's. -/
def jn {α : Type} (n : Nat) (f g : Nat → α) (r : Nat) : α := if r < n then f r else g (r - n)
theorem jn_lt {α : Type} (n : Nat) (f g : Nat → α) (r : Nat) (h : r < n) : jn n f g r = f r := by unfold jn; rw [if_pos h]
theorem jn_ge {α : Type} (n : Nat) (f g : Nat → α) (r : Nat) (h : ¬ r < n) : jn n f g r = g (r - n) := by unfold jn; rw [if_neg h]
theorem jn_at {α : Type} (n : Nat) (f g : Nat → α) (r : Nat) : jn n f g (n + r) = g r := by rw [jn_ge n f g _ (by omega)]; congr 1; omega

/-- The copies that the law keeps. -/
structure Held (w : World) (c rA rB : Value) (n mA mB : Nat) (N T : Nat → ByteArray) (B : Nat → Bool) (LA LB : Nat → Nat) (SA SB : Nat → Nat → ByteArray) : Prop where
  c : Sl w 0 c n 3 (colF N T B)
  a : Rws w 0 rA mA LA SA
  b : Rws w 0 rB mB LB SB
theorem Held.below {w w' : World} {c rA rB : Value} {n mA mB : Nat} {N T : Nat → ByteArray} {B : Nat → Bool} {LA LB : Nat → Nat} {SA SB : Nat → Nat → ByteArray} (h : Held w c rA rB n mA mB N T B LA LB SA SB) (hb : Below w.heap.size w w') : Held w' c rA rB n mA mB N T B LA LB SA SB :=
  ⟨h.c.below hb, h.a.below hb, h.b.below hb⟩

/-- A page table in the variable at block tb. -/
structure TabAt (w : World) (tb : Nat) (cap : ByteArray) (hv rv : Value) (n m : Nat) (T : Nat → ByteArray) (B : Nat → Bool) (L : Nat → Nat) (S : Nat → Nat → ByteArray) (U : Nat → Value) : Prop where
  blk : w.heap[tb]? = some (.cells #[.string cap, hv, rv] 37 (0, 0))
  tab : Tab w 0 hv rv n m T B L S U
theorem TabAt.below {w w' : World} {tb : Nat} {cap : ByteArray} {hv rv : Value} {n m : Nat} {T : Nat → ByteArray} {B : Nat → Bool} {L : Nat → Nat} {S : Nat → Nat → ByteArray} {U : Nat → Value} (h : TabAt w tb cap hv rv n m T B L S U) (hb : Below w.heap.size w w') : TabAt w' tb cap hv rv n m T B L S U :=
  ⟨by rw [hb.block _ (lt_of_block h.blk)]; exact h.blk, h.tab.below hb⟩
theorem TabAt.of {w w' : World} {base : Nat} {cap : ByteArray} {hv rv : Value} {n m : Nat} {T : Nat → ByteArray} {B : Nat → Bool} {L : Nat → Nat} {S : Nat → Nat → ByteArray} {U : Nat → Value} (h : Tab w base hv rv n m T B L S U) (e : w' = w.alloc (.cells #[.string cap, hv, rv] 37)) : TabAt w' w.heap.size cap hv rv n m T B L S U := by
  subst e
  exact ⟨heap_alloc_new _ _, (h.below ((Below.refl _ _).alloc (Nat.le_refl _) _)).mono (Nat.zero_le _)⟩

/-- A copy laid into the joined rows. -/
theorem fill_step {wr w2 : World} {J n k : Nat} {V Z : Nat → Value} {L : Nat → Nat} {S : Nat → Nat → ByteArray} {u : Value} (hk : k < n) (hrow : wr.rowIs J 45 n (part V Z k)) (hV : ∀ j, j < k → Sl wr (J + 1) (V j) (L j) 1 (strF (S j))) (hb2 : Below wr.heap.size wr w2) (hu : Sl w2 wr.heap.size u (L k) 1 (strF (S k))) :
    (w2.setCell ⟨J, k, none⟩ u).rowIs J 45 n (part (upd V k u) Z (k + 1)) ∧ (∀ j, j < k + 1 → Sl (w2.setCell ⟨J, k, none⟩ u) (J + 1) (upd V k u j) (L j) 1 (strF (S j))) ∧ (∃ x, w2.cell? ⟨J, k, none⟩ = some x) ∧ w2.frozen? ⟨J, k, none⟩ = false := by
  have hlt := hrow.lt
  have hrow2 : w2.rowIs J 45 n (part (upd V k u) Z k) := part_upd (rowIs_below hrow hb2 hlt) u
  refine ⟨part_set hrow2 (upd_same V k u).symm, fun j hj => ?_, part_cell hrow2 hk, hrow2.frozen k⟩
  refine Sl.setOther (base := J + 1) ?_ (Nat.lt_succ_self J) _
  by_cases e : j = k
  · subst e; rw [upd_same]; exact hu.mono hlt
  · rw [upd_other _ _ _ _ e]; exact (hV j (by omega)).below hb2

/-- A row of a list of rows, as it lies. -/
theorem Rws.rowAt {w : World} {base : Nat} {a : Option Addr} {c m : Nat} {L : Nat → Nat} {S : Nat → Nat → ByteArray} (h : Rws w base (.slice a m c) m L S) (k : Nat) (hk : k < m) :
    ∃ b off u1 u2, a = some ⟨b, off, none⟩ ∧ w.cell? ⟨b, off + k, none⟩ = some (.slice u1 (L k) u2) ∧ Sl w base (.slice u1 (L k) u2) (L k) 1 (strF (S k)) := by
  obtain ⟨U, hU, hS⟩ := h
  obtain ⟨_, _, e, _, HC⟩ := hU.form
  obtain ⟨rfl, rfl⟩ : _ ∧ _ := by simpa using e
  obtain ⟨b, off, rfl, _, _, hc⟩ := HC.out (by omega)
  have hk' := hS k hk
  obtain ⟨u1, u2, eu⟩ := sl_form hk'
  exact ⟨b, off, u1, u2, rfl, by rw [hc k (by omega), eu], by rw [← eu]; exact hk'⟩
theorem Tab.rowAt {w : World} {base : Nat} {hv : Value} {a : Option Addr} {c n m : Nat} {T : Nat → ByteArray} {B : Nat → Bool} {L : Nat → Nat} {S : Nat → Nat → ByteArray} {U : Nat → Value} (h : Tab w base hv (.slice a m c) n m T B L S U) (k : Nat) (hk : k < m) :
    ∃ b off u1 u2, a = some ⟨b, off, none⟩ ∧ w.cell? ⟨b, off + k, none⟩ = some (.slice u1 (L k) u2) ∧ Sl w base (.slice u1 (L k) u2) (L k) 2 (celF (S k) B) ∧ Value.slice u1 (L k) u2 ≠ .slice none 0 0 := by
  obtain ⟨_, _, e, _, HC⟩ := h.r.form
  obtain ⟨rfl, rfl⟩ : _ ∧ _ := by simpa using e
  obtain ⟨b, off, rfl, _, _, hc⟩ := HC.out (by omega)
  obtain ⟨hk', hne⟩ := h.rows k hk
  obtain ⟨u1, u2, eu⟩ := sl_form hk'
  exact ⟨b, off, u1, u2, rfl, by rw [hc k (by omega), eu], by rw [← eu]; exact hk', by rw [← eu]; exact hne⟩

set_option maxHeartbeats 8000000 in
set_option maxRecDepth 100000 in
theorem join_walk (cap : ByteArray) (cv rvA rvB : Value) (n mA mB : Nat) (N T : Nat → ByteArray) (B : Nat → Bool) (LA LB : Nat → Nat) (SA SB : Nat → Nat → ByteArray) (w : World) (hc : Sl w 0 cv n 3 (colF N T B)) (hrA : Rws w 0 rvA mA LA SA) (hrB : Rws w 0 rvB mB LB SB) :
    Calls Try.prog 5 #[.string cap, cv, rvA, rvB] w fun e w' => e = .returned (.bool true) ∧ Below w.heap.size w w' := by
  obtain ⟨ac, cc, rfl⟩ := sl_form hc
  obtain ⟨arA, crA, rfl⟩ := rws_form hrA
  obtain ⟨arB, crB, rfl⟩ := rws_form hrB
  have hH : Held w (.slice ac n cc) (.slice arA mA crA) (.slice arB mB crB) n mA mB N T B LA LB SA SB := ⟨hc, hrA, hrB⟩
  clear hc hrA hrB
  go_enter Try.func5, Try.ntmps5
  go_wp2_with fail
  refine (limit2_any cap _ _ _ n mA mB N T B LA LB SA SB w hH.c hH.a hH.b).mono ?_
  rintro e w' ⟨⟨b, rfl, hlim⟩, rfl⟩
  cases b with
  | false =>
    clear hlim
    go_wp2_with fail
    go_ret
    exact ⟨rfl, Below.refl _ _⟩
  | true =>
    obtain ⟨hn, hm, hLA, hLB⟩ := hlim rfl
    clear hlim
    have HLA : Hid (∀ r, r < mA → LA r ≤ 2000000) := fun r hr => by have := hLA r hr; omega
    have HLB : Hid (∀ r, r < mB → LB r ≤ 2000000) := fun r hr => by have := hLB r hr; omega
    clear hLA hLB
    go_wp2_with fail
    refine (colsSize_any _ _ 0 n N T B _ (by omega) hH.c).mono ?_
    rintro e w1 ⟨⟨y1, rfl⟩, q1, rfl⟩
    have hb1 := below_drew' w' q1
    have hH1 := hH.below hb1
    clear hH
    generalize w'.drewN q1 = w1 at *
    go_wp2_with fail
    refine (rowsSize_any _ _ 0 mA LA SA w1 (by omega) HLA hH1.a).mono ?_
    rintro e w2 ⟨⟨y2, rfl⟩, rfl⟩
    go_wp2_with fail
    refine (rowsSize_any _ _ 0 mB LB SB w2 (by omega) HLB hH1.b).mono ?_
    rintro e w1 ⟨⟨y3, rfl⟩, rfl⟩
    by_cases hy : 1048576 < y3
    · go_wp2_with fail
      go_ret
      exact ⟨rfl, hb1⟩
    go_wp2_with fail
    refine (rowsFit_any _ 0 mA n LA SA w1 (by omega) hH1.a).mono ?_
    rintro e w2 ⟨⟨b, rfl, hfitA⟩, rfl⟩
    cases b with
    | false =>
      clear hfitA
      go_wp2_with fail
      go_ret
      exact ⟨rfl, hb1⟩
    | true =>
      have HFA : Hid (∀ r, r < mA → LA r ≤ n) := hfitA rfl
      clear hfitA
      go_wp2_with fail
      refine (rowsFit_any _ 0 mB n LB SB w2 (by omega) hH1.b).mono ?_
      rintro e w3 ⟨⟨b, rfl, hfitB⟩, rfl⟩
      cases b with
      | false =>
        clear hfitB
        go_wp2_with fail
        go_ret
        exact ⟨rfl, hb1⟩
      | true =>
        have HFB : Hid (∀ r, r < mB → LB r ≤ n) := hfitB rfl
        clear hfitB
        go_wp2_with fail
        refine (cloneCols_any _ 0 n N T B w3 (by omega) hH1.c).mono ?_
        rintro e w4 ⟨c1, rfl, hc1, hb4⟩
        have hH4 := hH1.below hb4
        go_wp2_with fail
        refine (cloneRows_any _ 0 mA LA SA w4 (by omega) HLA hH4.a).mono ?_
        rintro e w5 ⟨rA, rfl, hrA, hb5⟩
        have hH5 := hH4.below hb5
        go_wp2_with fail
        refine (cloneRows_any _ 0 mB LB SB w5 (by omega) HLB hH5.b).mono ?_
        rintro e w6 ⟨rB, rfl, hrB, hb6⟩
        have hH6 : Held w6 c1 rA rB n mA mB N T B LA LB SA SB := ⟨((hc1.below hb5).below hb6).mono (Nat.zero_le _), (hrA.below hb6).mono (Nat.zero_le _), hrB.mono (Nat.zero_le _)⟩
        have hb14 : Below w'.heap.size w' w4 := hb1.trans (hb4.mono hb1.size)
        have hb15 : Below w'.heap.size w' w5 := hb14.trans (hb5.mono hb14.size)
        have hb16 : Below w'.heap.size w' w6 := hb15.trans (hb6.mono hb15.size)
        clear hH1 hH4 hH5 hc1 hrA hrB hb1 hb4 hb5 hb6 hb14 hb15
        obtain ⟨ac1, cc1, rfl⟩ := sl_form hH6.c
        obtain ⟨arA1, crA1, rfl⟩ := rws_form hH6.a
        obtain ⟨arB1, crB1, rfl⟩ := rws_form hH6.b
        go_wp2_with fail
        refine (makeColumns_any _ 0 n N T B w6 (by omega) hH6.c).mono ?_
        rintro e u1A ⟨kA, rfl, hkA, hx1A⟩
        have hG1A := hH6.below hx1A
        go_wp2_with fail
        refine (cloneRows_any _ 0 mA LA SA u1A (by omega) HLA hG1A.a).mono ?_
        rintro e u2A ⟨lA, rfl, hlA, hx2A⟩
        have hG2A := hG1A.below hx2A
        have hk2A := hkA.below hx2A
        obtain ⟨akA, ckA, rfl⟩ := sl_form hk2A
        obtain ⟨alA, clA, rfl⟩ := rws_form hlA
        go_wp2_with fail
        refine (makeReport_any _ _ akA alA n ckA mA clA rfl rfl u2A).mono ?_
        rintro e u3A ⟨rfl, hw3A⟩
        have hx3A : Below u2A.heap.size u2A u3A := by rw [← hw3A]; exact (Below.refl _ _).alloc (Nat.le_refl _) _
        have hblkA : u3A.heap[u2A.heap.size]? = some (.cells #[.slice akA n ckA, .slice alA mA clA] 52 (0, 0)) := by rw [← hw3A]; exact heap_alloc_new _ _
        have HP0A : Hid (u3A.cell? ⟨u2A.heap.size, 0, none⟩ = some (.slice akA n ckA)) := cell_at hblkA 0 _ rfl
        have HP1A : Hid (u3A.cell? ⟨u2A.heap.size, 0 + 1, none⟩ = some (.slice alA mA clA)) := cell_at hblkA 1 _ rfl
        have HKKA : Hid (Sl u3A w6.heap.size (.slice akA n ckA) n 3 (colF N T B)) := hk2A.below hx3A
        have HLLA : Hid (Rws u3A u1A.heap.size (.slice alA mA clA) mA LA SA) := hlA.below hx3A
        clear hw3A hblkA hkA hk2A hlA
        go_wp2_with fail
        refine (zztable_any cap u2A.heap.size 0 _ _ w6.heap.size u1A.heap.size n mA N T B LA SA u3A (by omega) (by omega) HFA HP0A.out HP1A.out HKKA.out HLLA.out).mono ?_
        rintro e u4A ⟨a1A, a2A, p1A, p2A, UA, rfl, htabA, hx4A⟩
        have hx24A : Below u2A.heap.size u2A u4A := hx3A.trans (hx4A.mono hx3A.size)
        have hx14A : Below u1A.heap.size u1A u4A := hx2A.trans (hx24A.mono hx2A.size)
        have hx04A : Below w6.heap.size w6 u4A := hx1A.trans (hx14A.mono hx1A.size)
        have halA : Below u4A.heap.size u4A (u4A.alloc (.cells #[.string cap, .slice a1A n p1A, .slice a2A mA p2A] 37)) := (Below.refl _ _).alloc (Nat.le_refl _) _
        have hx05A : Below w6.heap.size w6 (u4A.alloc (.cells #[.string cap, .slice a1A n p1A, .slice a2A mA p2A] 37)) := hx04A.trans (halA.mono hx04A.size)
        have tA := TabAt.of (cap := cap) htabA rfl
        have hKA := hH6.below hx05A
        have hbbA : Below w'.heap.size w' (u4A.alloc (.cells #[.string cap, .slice a1A n p1A, .slice a2A mA p2A] 37)) := hb16.trans (hx05A.mono hb16.size)
        clear hG1A hG2A HP0A HP1A HKKA HLLA htabA hx1A hx2A hx3A hx4A hx24A hx14A hx04A halA hH6 hb16
        go_wp2_with fail
        generalize hwA : u4A.alloc (.cells #[.string cap, .slice a1A n p1A, .slice a2A mA p2A] 37) = wA at *
        clear hwA
        have hx6A : Below w6.heap.size w6 wA := hx05A
        clear hx05A
        refine (makeColumns_any _ 0 n N T B wA (by omega) hKA.c).mono ?_
        rintro e u1B ⟨kB, rfl, hkB, hx1B⟩
        have hG1B := hKA.below hx1B
        go_wp2_with fail
        refine (cloneRows_any _ 0 mB LB SB u1B (by omega) HLB hG1B.b).mono ?_
        rintro e u2B ⟨lB, rfl, hlB, hx2B⟩
        have hG2B := hG1B.below hx2B
        have hk2B := hkB.below hx2B
        obtain ⟨akB, ckB, rfl⟩ := sl_form hk2B
        obtain ⟨alB, clB, rfl⟩ := rws_form hlB
        go_wp2_with fail
        refine (makeReport_any _ _ akB alB n ckB mB clB rfl rfl u2B).mono ?_
        rintro e u3B ⟨rfl, hw3B⟩
        have hx3B : Below u2B.heap.size u2B u3B := by rw [← hw3B]; exact (Below.refl _ _).alloc (Nat.le_refl _) _
        have hblkB : u3B.heap[u2B.heap.size]? = some (.cells #[.slice akB n ckB, .slice alB mB clB] 52 (0, 0)) := by rw [← hw3B]; exact heap_alloc_new _ _
        have HP0B : Hid (u3B.cell? ⟨u2B.heap.size, 0, none⟩ = some (.slice akB n ckB)) := cell_at hblkB 0 _ rfl
        have HP1B : Hid (u3B.cell? ⟨u2B.heap.size, 0 + 1, none⟩ = some (.slice alB mB clB)) := cell_at hblkB 1 _ rfl
        have HKKB : Hid (Sl u3B wA.heap.size (.slice akB n ckB) n 3 (colF N T B)) := hk2B.below hx3B
        have HLLB : Hid (Rws u3B u1B.heap.size (.slice alB mB clB) mB LB SB) := hlB.below hx3B
        clear hw3B hblkB hkB hk2B hlB
        go_wp2_with fail
        refine (zztable_any cap u2B.heap.size 0 _ _ wA.heap.size u1B.heap.size n mB N T B LB SB u3B (by omega) (by omega) HFB HP0B.out HP1B.out HKKB.out HLLB.out).mono ?_
        rintro e u4B ⟨a1B, a2B, p1B, p2B, UB, rfl, htabB, hx4B⟩
        have hx24B : Below u2B.heap.size u2B u4B := hx3B.trans (hx4B.mono hx3B.size)
        have hx14B : Below u1B.heap.size u1B u4B := hx2B.trans (hx24B.mono hx2B.size)
        have hx04B : Below wA.heap.size wA u4B := hx1B.trans (hx14B.mono hx1B.size)
        have halB : Below u4B.heap.size u4B (u4B.alloc (.cells #[.string cap, .slice a1B n p1B, .slice a2B mB p2B] 37)) := (Below.refl _ _).alloc (Nat.le_refl _) _
        have hx05B : Below wA.heap.size wA (u4B.alloc (.cells #[.string cap, .slice a1B n p1B, .slice a2B mB p2B] 37)) := hx04B.trans (halB.mono hx04B.size)
        have tB := TabAt.of (cap := cap) htabB rfl
        have hKB := hKA.below hx05B
        have hbbB : Below w'.heap.size w' (u4B.alloc (.cells #[.string cap, .slice a1B n p1B, .slice a2B mB p2B] 37)) := hbbA.trans (hx05B.mono hbbA.size)
        clear hG1B hG2B HP0B HP1B HKKB HLLB htabB hx1B hx2B hx3B hx4B hx24B hx14B hx04B halB hKA hbbA
        have tA2 := tA.below hx05B
        clear tA
        have hmk := run_make_row' (P := Try.prog) 27 45 _ 24 Try.underlying27 Try.info45 rfl .i64 .i64 (mA + mB) (by omega) (by omega)
        rw [show (((mA + mB : Nat)) : Int) = (mA : Int) + (mB : Int) from by omega] at hmk
        go_wp2_with fail
        clear hmk
        have hJ0 : (u4B.alloc (.cells #[.string cap, .slice a1B n p1B, .slice a2B mB p2B] 37)).heap.size = u4B.heap.size + 1 := by simp
        generalize hwB : u4B.alloc (.cells #[.string cap, .slice a1B n p1B, .slice a2B mB p2B] 37) = wB at *
        clear hwB hx05B hx6A
        have HJ : Hid (wB.heap.size = u4B.heap.size + 1) := hJ0
        have HR0 : Hid ((wB.alloc (.cells (madeCells #[Value.slice none 0 0] (mA + mB)) 45)).rowIs (u4B.heap.size + 1) 45 (mA + mB) (part (fun _ => undef) (fun _ => .slice none 0 0) 0)) := by
          have := World.rowIs_made wB (.slice none 0 0) (mA + mB) 45
          rw [hJ0] at this
          exact part_zero this
        have HB0 : Hid (Below (u4B.heap.size + 1) wB (wB.alloc (.cells (madeCells #[Value.slice none 0 0] (mA + mB)) 45))) := (Below.refl _ _).alloc (by omega) _
        clear hJ0
        go_loopw [14] (fun i wx => ∃ (k : Nat) (V : Nat → Value), k ≤ mA ∧ i = .int .i64 k ∧ wx.rowIs (u4B.heap.size + 1) 45 (mA + mB) (part V (fun _ => .slice none 0 0) k) ∧ Hid (∀ j, j < k → Sl wx (u4B.heap.size + 1 + 1) (V j) (jn mA LA LB j) 1 (strF (jn mA SA SB j))) ∧ Below (u4B.heap.size + 1) wB wx) (fun i _ => mA - (intOf i).toNat)
        case atStart => exact ⟨0, _, Nat.zero_le _, rfl, HR0.out, fun j hj => by omega, HB0.out⟩
        case round =>
          obtain ⟨k, V, hk, rfl, hrow, hV, hbr⟩ := hrel
          clear HR0 HB0
          have hBr : Below wB.heap.size wB wr := by rw [HJ.out]; exact hbr
          by_cases hlt : k < mA
          · have hkz : (k : Int) < (mA : Int) := by omega
            have hkz2 : (k : Int) < (mA : Int) + (mB : Int) := by omega
            obtain ⟨b, off, x1, x2, rfl, cc0, hx⟩ := (hKB.a.below hBr).rowAt k hlt
            have HX : Hid (Sl wr 0 (.slice x1 (LA k) x2) (LA k) 1 (strF (SA k))) := hx
            have HRow : Hid (wr.rowIs (u4B.heap.size + 1) 45 (mA + mB) (part V (fun _ => .slice none 0 0) k)) := hrow
            clear hx hrow hBr
            go_wp2_with fail
            refine (cloneRow_any _ 0 (LA k) (SA k) wr (HLA.out k hlt) HX.out).mono ?_
            rintro e w2 ⟨u, rfl, hu, hb2⟩
            obtain ⟨f1, f2, ⟨x0, d0⟩, f3⟩ := fill_step (L := jn mA LA LB) (S := jn mA SA SB) (by omega) HRow.out hV.out hb2 (by rw [jn_lt mA LA LB k hlt, jn_lt mA SA SB k hlt]; exact hu)
            have F1 : Hid ((w2.setCell ⟨u4B.heap.size + 1, k, none⟩ u).rowIs (u4B.heap.size + 1) 45 (mA + mB) (part (upd V k u) (fun _ => .slice none 0 0) (k + 1))) := f1
            have F2 : Hid (∀ j, j < k + 1 → Sl (w2.setCell ⟨u4B.heap.size + 1, k, none⟩ u) (u4B.heap.size + 1 + 1) (upd V k u j) (jn mA LA LB j) 1 (strF (jn mA SA SB j))) := f2
            have hbr2 : Below (u4B.heap.size + 1) wB (w2.setCell ⟨u4B.heap.size + 1, k, none⟩ u) := (hbr.trans (hb2.mono (Nat.le_of_lt HRow.out.lt))).setCell (Nat.le_refl _) _
            obtain ⟨xu, yu, rfl⟩ := sl_form hu
            clear f1 f2 HRow hV HX hb2 hu hbr cc0
            go_wp2_with fail
            go_roundw
            case rel => exact ⟨k + 1, _, by omega, by go_num, F1.out, F2.out, hbr2⟩
            case measure => simp [intOf]; omega
          · obtain rfl : mA = k := by omega
            have HRow0 : Hid (wr.rowIs (u4B.heap.size + 1) 45 (mA + mB) (part V (fun _ => .slice none 0 0) (mA + 0))) := hrow
            have HV0 : Hid (∀ j, j < mA + 0 → Sl wr (u4B.heap.size + 1 + 1) (V j) (jn mA LA LB j) 1 (strF (jn mA SA SB j))) := hV
            clear hrow hV hBr
            go_wp2_with fail
            go_loopw [15] (fun i wx => ∃ (k : Nat) (V : Nat → Value), k ≤ mB ∧ i = .int .i64 k ∧ wx.rowIs (u4B.heap.size + 1) 45 (mA + mB) (part V (fun _ => .slice none 0 0) (mA + k)) ∧ Hid (∀ j, j < mA + k → Sl wx (u4B.heap.size + 1 + 1) (V j) (jn mA LA LB j) 1 (strF (jn mA SA SB j))) ∧ Below (u4B.heap.size + 1) wB wx) (fun i _ => mB - (intOf i).toNat)
            case atStart => exact ⟨0, V, Nat.zero_le _, rfl, HRow0.out, HV0.out, hbr⟩
            case round =>
              obtain ⟨k, V2, hk2, rfl, hrow, hV, hbr2⟩ := hrel
              clear HRow0 HV0 hbr
              have hBr : Below wB.heap.size wB wr := by rw [HJ.out]; exact hbr2
              by_cases hlt2 : k < mB
              · have hkz : (k : Int) < (mB : Int) := by omega
                have hkz2 : (mA : Int) + (k : Int) < (mA : Int) + (mB : Int) := by omega
                obtain ⟨b, off, x1, x2, rfl, cc0, hx⟩ := (hKB.b.below hBr).rowAt k hlt2
                have HX : Hid (Sl wr 0 (.slice x1 (LB k) x2) (LB k) 1 (strF (SB k))) := hx
                have HRow : Hid (wr.rowIs (u4B.heap.size + 1) 45 (mA + mB) (part V2 (fun _ => .slice none 0 0) (mA + k))) := hrow
                clear hx hrow hBr
                go_wp2_with fail
                refine (cloneRow_any _ 0 (LB k) (SB k) wr (HLB.out k hlt2) HX.out).mono ?_
                rintro e w2 ⟨u, rfl, hu, hb2⟩
                obtain ⟨f1, f2, ⟨x0, d0⟩, f3⟩ := fill_step (L := jn mA LA LB) (S := jn mA SA SB) (k := mA + k) (by omega) HRow.out hV.out hb2 (by rw [jn_at mA LA LB k, jn_at mA SA SB k]; exact hu)
                have F1 : Hid ((w2.setCell ⟨u4B.heap.size + 1, mA + k, none⟩ u).rowIs (u4B.heap.size + 1) 45 (mA + mB) (part (upd V2 (mA + k) u) (fun _ => .slice none 0 0) (mA + (k + 1)))) := f1
                have F2 : Hid (∀ j, j < mA + (k + 1) → Sl (w2.setCell ⟨u4B.heap.size + 1, mA + k, none⟩ u) (u4B.heap.size + 1 + 1) (upd V2 (mA + k) u j) (jn mA LA LB j) 1 (strF (jn mA SA SB j))) := f2
                have hbr3 : Below (u4B.heap.size + 1) wB (w2.setCell ⟨u4B.heap.size + 1, mA + k, none⟩ u) := (hbr2.trans (hb2.mono (Nat.le_of_lt HRow.out.lt))).setCell (Nat.le_refl _) _
                obtain ⟨xu, yu, rfl⟩ := sl_form hu
                clear f1 f2 HRow hV HX hb2 hu hbr2 cc0
                go_wp2_with fail
                go_roundw
                case rel => exact ⟨k + 1, _, by omega, by go_num, F1.out, F2.out, hbr3⟩
                case measure => simp [intOf]; omega
              · obtain rfl : mB = k := by omega
                have hJrow := part_full hrow
                have hRJ : Rws wr 0 (.slice (some ⟨u4B.heap.size + 1, 0, none⟩) (mA + mB) (mA + mB)) (mA + mB) (jn mA LA LB) (jn mA SA SB) :=
                  ⟨V2, Sl.of_row (size := 1) (by rw [Nat.mul_one]; exact hJrow) (Nat.zero_le _), fun j hj => (hV.out j hj).mono (Nat.zero_le _)⟩
                have hH7 := hKB.below hBr
                have tA3 := tA2.below hBr
                have tB3 := tB.below hBr
                have hb7 : Below w'.heap.size w' wr := hbbB.trans (hBr.mono hbbB.size)
                clear hJrow hrow hV hBr hbr2 hKB tA2 tB hbbB HJ
                have HFJ : Hid (∀ r, r < mA + mB → jn mA LA LB r ≤ n) := fun r hr => by
                  by_cases h : r < mA
                  · rw [jn_lt _ _ _ _ h]; exact HFA.out r h
                  · rw [jn_ge _ _ _ _ h]; exact HFB.out _ (by omega)
                go_wp2_with fail
                refine (makeColumns_any _ 0 n N T B wr (by omega) hH7.c).mono ?_
                rintro e v1 ⟨kC, rfl, hkC, hx1⟩
                obtain ⟨akC, ckC, rfl⟩ := sl_form hkC
                have hRJ1 := hRJ.below hx1
                go_wp2_with fail
                refine (makeReport_any _ _ akC (some ⟨u4B.heap.size + 1, 0, none⟩) n ckC (mA + mB) (mA + mB) rfl rfl v1).mono ?_
                rintro e v2 ⟨rfl, hw2⟩
                have hx2 : Below v1.heap.size v1 v2 := by rw [← hw2]; exact (Below.refl _ _).alloc (Nat.le_refl _) _
                have hblk2 : v2.heap[v1.heap.size]? = some (.cells #[.slice akC n ckC, .slice (some ⟨u4B.heap.size + 1, 0, none⟩) (mA + mB) (mA + mB)] 52 (0, 0)) := by rw [← hw2]; exact heap_alloc_new _ _
                have HP0 : Hid (v2.cell? ⟨v1.heap.size, 0, none⟩ = some (.slice akC n ckC)) := cell_at hblk2 0 _ rfl
                have HP1 : Hid (v2.cell? ⟨v1.heap.size, 0 + 1, none⟩ = some (.slice (some ⟨u4B.heap.size + 1, 0, none⟩) (mA + mB) (mA + mB))) := cell_at hblk2 1 _ rfl
                have HKK : Hid (Sl v2 wr.heap.size (.slice akC n ckC) n 3 (colF N T B)) := hkC.below hx2
                have HLL : Hid (Rws v2 0 (.slice (some ⟨u4B.heap.size + 1, 0, none⟩) (mA + mB) (mA + mB)) (mA + mB) (jn mA LA LB) (jn mA SA SB)) := hRJ1.below hx2
                clear hw2 hblk2 hkC hRJ hRJ1
                go_wp2_with fail
                refine (zztable_any cap v1.heap.size 0 _ _ wr.heap.size 0 n (mA + mB) N T B (jn mA LA LB) (jn mA SA SB) v2 (by omega) (by omega) HFJ HP0.out HP1.out HKK.out HLL.out).mono ?_
                rintro e v3 ⟨a1C, a2C, p1C, p2C, UC, rfl, htabC, hx3⟩
                have hx23 : Below v1.heap.size v1 v3 := hx2.trans (hx3.mono hx2.size)
                have hx13 : Below wr.heap.size wr v3 := hx1.trans (hx23.mono hx1.size)
                have hal : Below v3.heap.size v3 (v3.alloc (.cells #[.string cap, .slice a1C n p1C, .slice a2C (mA + mB) p2C] 37)) := (Below.refl _ _).alloc (Nat.le_refl _) _
                have hx14 : Below wr.heap.size wr (v3.alloc (.cells #[.string cap, .slice a1C n p1C, .slice a2C (mA + mB) p2C] 37)) := hx13.trans (hal.mono hx13.size)
                have tC := TabAt.of (cap := cap) htabC rfl
                have hH8 := hH7.below hx14
                have tA4 := tA3.below hx14
                have tB4 := tB3.below hx14
                have hb8 : Below w'.heap.size w' (v3.alloc (.cells #[.string cap, .slice a1C n p1C, .slice a2C (mA + mB) p2C] 37)) := hb7.trans (hx14.mono hb7.size)
                have cA : (v3.alloc (.cells #[.string cap, .slice a1C n p1C, .slice a2C (mA + mB) p2C] 37)).cell? ⟨u4A.heap.size, 2, none⟩ = some (.slice a2A mA p2A) := cell_at tA4.blk 2 _ rfl
                have cB : (v3.alloc (.cells #[.string cap, .slice a1C n p1C, .slice a2C (mA + mB) p2C] 37)).cell? ⟨u4B.heap.size, 2, none⟩ = some (.slice a2B mB p2B) := cell_at tB4.blk 2 _ rfl
                clear HP0 HP1 HKK HLL htabC hx1 hx2 hx3 hx23 hx13 hal hx14 hH7 tA3 tB3 hb7
                go_wp2_with fail
                refine (headings_yes _ _ 0 0 n N T B _ (by omega) tC.tab.h tC.tab.hnil hH8.c).mono ?_
                rintro e v4 ⟨rfl, q, hq⟩
                have hx4 : Below (v3.alloc (.cells #[.string cap, .slice a1C n p1C, .slice a2C (mA + mB) p2C] 37)).heap.size (v3.alloc (.cells #[.string cap, .slice a1C n p1C, .slice a2C (mA + mB) p2C] 37)) v4 := by rw [hq]; exact below_drew' _ q
                have tC5 := tC.below hx4
                have tA5 := tA4.below hx4
                have tB5 := tB4.below hx4
                have hH9 := hH8.below hx4
                have hb9 : Below w'.heap.size w' v4 := hb8.trans (hx4.mono hb8.size)
                clear hq hx4 tC tA4 tB4 hH8 hb8 cA cB
                go_wp2_with fail
                go_loopw [17] (fun i wx => ∃ k : Nat, k ≤ mA + mB ∧ i = .int .i64 k ∧ Below v4.heap.size v4 wx) (fun i _ => mA + mB - (intOf i).toNat)
                case atStart => exact ⟨0, Nat.zero_le _, rfl, Below.refl _ _⟩
                case round =>
                  obtain ⟨k, hk3, rfl, hbz⟩ := hrel
                  by_cases hlt3 : k < mA + mB
                  · have hkz : (k : Int) < (mA : Int) + (mB : Int) := by omega
                    have tCr := tC5.below hbz
                    have tAr := tA5.below hbz
                    have tBr := tB5.below hbz
                    have hHr := hH9.below hbz
                    have cC : wr.cell? ⟨v3.heap.size, 2, none⟩ = some (.slice a2C (mA + mB) p2C) := cell_at tCr.blk 2 _ rfl
                    have cA : wr.cell? ⟨u4A.heap.size, 2, none⟩ = some (.slice a2A mA p2A) := cell_at tAr.blk 2 _ rfl
                    have cB : wr.cell? ⟨u4B.heap.size, 2, none⟩ = some (.slice a2B mB p2B) := cell_at tBr.blk 2 _ rfl
                    obtain ⟨b1, o1, x1, y1', rfl, e1, s1, ne1⟩ := tCr.tab.rowAt k hlt3
                    by_cases hA : k < mA
                    · have hkA : (k : Int) < (mA : Int) := by omega
                      rw [jn_lt _ _ _ _ hA] at e1 s1 ne1
                      rw [jn_lt _ _ _ _ hA] at s1
                      obtain ⟨b2, o2, x2, y2', rfl, e2, s2, _⟩ := tAr.tab.rowAt k hA
                      obtain ⟨b3, o3, x3, y3', rfl, e3, s3⟩ := hHr.a.rowAt k hA
                      have S1 : Hid (Sl wr 0 (.slice x1 (LA k) y1') (LA k) 2 (celF (SA k) B)) := s1
                      have S2 : Hid (Sl wr 0 (.slice x2 (LA k) y2') (LA k) 2 (celF (SA k) B)) := s2
                      have S3 : Hid (Sl wr 0 (.slice x3 (LA k) y3') (LA k) 1 (strF (SA k))) := s3
                      have NE : Hid (Value.slice x1 (LA k) y1' ≠ .slice none 0 0) := ne1
                      have SC : Hid (Sl wr 0 (.slice ac1 n cc1) n 3 (colF N T B)) := hHr.c
                      clear s1 s2 s3 ne1 tCr tAr tBr hHr tC5 tA5 tB5 hH9
                      go_wp2_with fail
                      refine (rowIs_yes _ _ _ 0 0 0 (LA k) n (SA k) N T B wr (by omega) (HFA.out k hA) S1.out NE.out S3.out SC.out).mono ?_
                      rintro e wq ⟨rfl, q, rfl⟩
                      go_wp2_with fail
                      refine (sameCells_yes _ _ 0 0 (LA k) (SA k) B _ (HLA.out k hA) (S1.out.below (below_drew' _ _)) (S2.out.below (below_drew' _ _))).mono ?_
                      rintro e wq2 ⟨rfl, q2, rfl⟩
                      go_wp2_with fail
                      go_roundw
                      case rel => exact ⟨k + 1, by omega, by go_num, hbz.trans ((below_drew' wr _).mono hbz.size)⟩
                      case measure => simp [intOf]; omega
                    · obtain ⟨r, rfl⟩ : ∃ r, k = mA + r := ⟨k - mA, by omega⟩
                      have hrB : r < mB := by omega
                      have hkB : (r : Int) < (mB : Int) := by omega
                      rw [jn_at] at e1 s1 ne1
                      rw [jn_at] at s1
                      obtain ⟨b2, o2, x2, y2', rfl, e2, s2, _⟩ := tBr.tab.rowAt r hrB
                      obtain ⟨b3, o3, x3, y3', rfl, e3, s3⟩ := hHr.b.rowAt r hrB
                      have S1 : Hid (Sl wr 0 (.slice x1 (LB r) y1') (LB r) 2 (celF (SB r) B)) := s1
                      have S2 : Hid (Sl wr 0 (.slice x2 (LB r) y2') (LB r) 2 (celF (SB r) B)) := s2
                      have S3 : Hid (Sl wr 0 (.slice x3 (LB r) y3') (LB r) 1 (strF (SB r))) := s3
                      have NE : Hid (Value.slice x1 (LB r) y1' ≠ .slice none 0 0) := ne1
                      have SC : Hid (Sl wr 0 (.slice ac1 n cc1) n 3 (colF N T B)) := hHr.c
                      clear s1 s2 s3 ne1 tCr tAr tBr hHr tC5 tA5 tB5 hH9
                      go_wp2_with fail
                      refine (rowIs_yes _ _ _ 0 0 0 (LB r) n (SB r) N T B wr (by omega) (HFB.out r hrB) S1.out NE.out S3.out SC.out).mono ?_
                      rintro e wq ⟨rfl, q, rfl⟩
                      go_wp2_with fail
                      refine (sameCells_yes _ _ 0 0 (LB r) (SB r) B _ (HLB.out r hrB) (S1.out.below (below_drew' _ _)) (S2.out.below (below_drew' _ _))).mono ?_
                      rintro e wq2 ⟨rfl, q2, rfl⟩
                      go_wp2_with fail
                      go_roundw
                      case rel => exact ⟨mA + r + 1, by omega, by go_num, hbz.trans ((below_drew' wr _).mono hbz.size)⟩
                      case measure => simp [intOf]; omega
                  · clear tC5 tA5 tB5 hH9
                    go_wp2
                    go_ret
                    exact ⟨rfl, hb9.trans (hbz.mono hb9.size)⟩
end Go.Proofs.Qxb6003659a
