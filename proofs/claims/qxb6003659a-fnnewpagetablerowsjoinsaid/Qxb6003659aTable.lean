import Derived.Test.Qxb6003659aMid
namespace Go.Proofs.Qxb6003659a
open Go.RowKit

theorem own_form {w : World} {base : Nat} {e : TypeId} {size : Nat} {v : Value} {n : Nat} {xs : List Value} (h : w.ownsRow base e size v n xs) : ∃ a c, v = .slice a n c := by
  rcases h.2 with ⟨rfl, rfl⟩ | ⟨g, c, cur, rfl, _⟩
  · exact ⟨_, _, rfl⟩
  · exact ⟨_, _, rfl⟩

theorem cell_at {w : World} {b : Nat} {cs : Array Value} {t : TypeId} (h : w.heap[b]? = some (.cells cs t (0, 0))) (i : Nat) (v : Value) (hv : cs[i]? = some v) : w.cell? ⟨b, i, none⟩ = some v := by simp [World.cell?, h, hv]
theorem free_at {w : World} {b : Nat} {cs : Array Value} {t : TypeId} (h : w.heap[b]? = some (.cells cs t (0, 0))) (i : Nat) : w.frozen? ⟨b, i, none⟩ = false := by simp [World.frozen?, h]

theorem mid_start (w : World) (cap : ByteArray) (T : Nat → ByteArray) (B : Nat → Bool) (L : Nat → Nat) (S : Nat → Nat → ByteArray) (U : Nat → Value) :
    Mid w ((w.alloc (.cells #[.string ⟨#[]⟩, .slice none 0 0, .slice none 0 0] 37)).alloc (.cells #[.string cap, .slice none 0 0, .slice none 0 0] 37)) cap T B L S (.slice none 0 0) (.slice none 0 0) 0 0 U := by
  refine ⟨((Below.refl _ _).alloc (Nat.le_refl _) _).alloc (by simp) _, ?_, ?_, World.ownsRow_nil _ _ _ _, World.ownsRow_nil _ _ _ _, fun _ => rfl, fun _ => rfl, fun j hj => by omega⟩
  · rw [Below.heap_alloc _ _ _ (by simp)]; exact heap_alloc_new _ _
  · have := heap_alloc_new (w.alloc (.cells #[.string ⟨#[]⟩, .slice none 0 0, .slice none 0 0] 37)) (.cells #[.string cap, .slice none 0 0, .slice none 0 0] 37)
    simpa using this

theorem mid_loc {w w2 w3 : World} {cap : ByteArray} {T : Nat → ByteArray} {B : Nat → Bool} {L : Nat → Nat} {S : Nat → Nat → ByteArray} {hv rv : Value} {i k : Nat} {U : Nat → Value} {row : Option Nat} (h : Mid w w2 cap T B L S hv rv i k U) (hg : w2.grownBy w3 row) (hr : ∀ j, row = some j → w.heap.size + 2 ≤ j) :
    w3.heap[w.heap.size + 1]? = some (.cells #[.string cap, hv, rv] 37 (0, 0)) := by
  rw [hg.block _ (by have := h.size; omega) (fun e => by have := hr _ e.symm; omega)]
  exact h.loc

theorem Sl.of_owns {w : World} {base e size n : Nat} {v : Value} {xs : List Value} {F : Nat → Value} (h : w.ownsRow base e size v n xs) (hx : ∀ j, j < n * size → xs[j]? = some (F j)) : Sl w base v n size F := by
  rcases h.2 with ⟨rfl, rfl⟩ | ⟨g, c, cur, rfl, hg, hh, _⟩
  · exact Sl.nil _ _ _ _
  · exact ⟨_, c, rfl, (fun h => by cases h), fun _ => ⟨g, 0, rfl, hg, lt_of_block hh, fun j hj => by rw [Nat.zero_add, h.cellAt j hj]; exact hx j hj⟩⟩

/-- WHAT A PAGE TABLE HOLDS: n headings, m rows. -/
structure Tab (w : World) (base : Nat) (hv rv : Value) (n m : Nat) (T : Nat → ByteArray) (B : Nat → Bool) (L : Nat → Nat) (S : Nat → Nat → ByteArray) (U : Nat → Value) : Prop where
  h : Sl w base hv n 2 (celF T B)
  hnil : n = 0 → hv = .slice none 0 0
  r : Sl w base rv m 1 U
  rnil : m = 0 → rv = .slice none 0 0
  rows : ∀ j, j < m → Sl w base (U j) (L j) 2 (celF (S j) B) ∧ U j ≠ .slice none 0 0

section
variable {w w' : World} {base : Nat} {hv rv : Value} {n m : Nat} {T : Nat → ByteArray} {B : Nat → Bool} {L : Nat → Nat} {S : Nat → Nat → ByteArray} {U : Nat → Value}
theorem Tab.setOther (t : Tab w base hv rv n m T B L S U) {p : Addr} (hp : p.block < base) (u : Value) : Tab (w.setCell p u) base hv rv n m T B L S U :=
  ⟨t.h.setOther hp u, t.hnil, t.r.setOther hp u, t.rnil, fun j hj => ⟨(t.rows j hj).1.setOther hp u, (t.rows j hj).2⟩⟩
theorem Tab.below (t : Tab w base hv rv n m T B L S U) (hb : Below w.heap.size w w') : Tab w' base hv rv n m T B L S U :=
  ⟨t.h.below hb, t.hnil, t.r.below hb, t.rnil, fun j hj => ⟨(t.rows j hj).1.below hb, (t.rows j hj).2⟩⟩
theorem Tab.mono {base' : Nat} (t : Tab w base hv rv n m T B L S U) (hb : base' ≤ base) : Tab w base' hv rv n m T B L S U :=
  ⟨t.h.mono hb, t.hnil, t.r.mono hb, t.rnil, fun j hj => ⟨(t.rows j hj).1.mono hb, (t.rows j hj).2⟩⟩
theorem Mid.tab {wr : World} {cap : ByteArray} (h : Mid w wr cap T B L S hv rv n m U) : Tab wr (w.heap.size + 2) hv rv n m T B L S U :=
  ⟨Sl.of_owns h.hown (fun j hj => hd_get T B n j hj), h.hnil, Sl.of_owns h.rown (fun j hj => vs_get U m j (by omega)), h.rnil, fun j hj => by
    obtain ⟨g, e1, e2, e3⟩ := h.rows j hj
    rw [e1]
    exact ⟨Sl.of_row e3 e2, by simp⟩⟩
end

/-- What newPageTable answers. -/
def TabSays (w : World) (cap : ByteArray) (n m : Nat) (T : Nat → ByteArray) (B : Nat → Bool) (L : Nat → Nat) (S : Nat → Nat → ByteArray) (e : Ending) (w' : World) : Prop :=
  ∃ (a1 a2 : Option Addr) (c1 c2 : Nat) (U : Nat → Value), e = .returned (.agg #[.string cap, .slice a1 n c1, .slice a2 m c2]) ∧ Tab w' w.heap.size (.slice a1 n c1) (.slice a2 m c2) n m T B L S U ∧ Below w.heap.size w w'

set_option maxHeartbeats 2000000 in
theorem table_any (cap : ByteArray) (pb po : Nat) (cv rv0 : Value) (bc br n m : Nat) (N T : Nat → ByteArray) (B : Nat → Bool) (L : Nat → Nat) (S : Nat → Nat → ByteArray) (w : World)
    (hn : n ≤ 2000000) (hm : m ≤ 2000000) (hL : Hid (∀ r, r < m → L r ≤ n)) (hp0 : w.cell? ⟨pb, po, none⟩ = some cv) (hp1 : w.cell? ⟨pb, po + 1, none⟩ = some rv0) (hc : Sl w bc cv n 3 (colF N T B)) (hr : Rws w br rv0 m L S) :
    Calls Try.prog 24 #[.string cap, .pointer (some ⟨pb, po, none⟩)] w fun e w' => TabSays w cap n m T B L S e w' := by
  obtain ⟨i0, hi, hz0, hz1, hz2⟩ := info_parts Try.info57
  obtain ⟨j0, hji, hjz0, hjz1, hjz2⟩ := info_parts Try.info34
  obtain ⟨ac, cc, rfl, hcn, HC⟩ := hc.form
  clear hc hcn
  obtain ⟨U0, hU0, hS0⟩ := hr
  obtain ⟨ar, cr, rfl, hrn, HR⟩ := hU0.form
  have HS : Hid (∀ j, j < m → Sl w br (U0 j) (L j) 1 (strF (S j))) := hS0
  clear hU0 hS0 hrn
  have hpb : pb < w.heap.size := World.block_lt_of_cell? _ _ hp0
  go_enter Try.func24, Try.ntmps24
  go_wp2_with fail
  have hM := mid_start w cap T B L S (fun _ => undef)
  go_loopw [20] (fun i wr => ∃ (k : Nat) (hv : Value), k ≤ n ∧ i = .int .i64 k ∧ Mid w wr cap T B L S hv (.slice none 0 0) k 0 (fun _ => undef)) (fun i _ => n - (intOf i).toNat)
  case atStart => exact ⟨0, _, Nat.zero_le _, rfl, hM⟩
  case round =>
    obtain ⟨k, hv, hk, rfl, hmid⟩ := hrel
    clear hM
    by_cases hlt : k < n
    · have hkz : (k : Int) < (n : Int) := by omega
      obtain ⟨b, off, rfl, _, hb, hc⟩ := HC.out (by omega)
      have c0 : wr.cell? ⟨b, off + k * 3, none⟩ = some (.string (N k)) := by rw [hmid.bel.cell (p := ⟨b, off + k * 3, none⟩) hb, hc _ (by omega), colF0]
      have c1 : wr.cell? ⟨b, off + k * 3 + 1, none⟩ = some (.string (T k)) := by rw [hmid.bel.cell (p := ⟨b, off + k * 3 + 1, none⟩) hb, Nat.add_assoc, hc _ (by omega), colF1]
      have c2 : wr.cell? ⟨b, off + k * 3 + 2, none⟩ = some (.bool (B k)) := by rw [hmid.bel.cell (p := ⟨b, off + k * 3 + 2, none⟩) hb, Nat.add_assoc, hc _ (by omega), colF2]
      clear hc HC
      obtain ⟨ah, ch, rfl⟩ := own_form hmid.hown
      have l1 : wr.cell? ⟨w.heap.size + 1, 1, none⟩ = some (.slice ah k ch) := cell_at hmid.loc 1 _ rfl
      have f1 : wr.frozen? ⟨w.heap.size + 1, 1, none⟩ = false := free_at hmid.loc 1
      have hsz := hmid.size
      have l2 : ∀ o, (wr.alloc o).cell? ⟨w.heap.size + 1, 1, none⟩ = some (.slice ah k ch) := fun o => by rw [World.cell?_alloc_old _ _ _ (by show w.heap.size + 1 ≠ wr.heap.size; omega)]; exact l1
      have HM : Hid (Mid w wr cap T B L S (.slice ah k ch) (.slice none 0 0) k 0 (fun _ => undef)) := hmid
      clear hmid
      go_wp2_with (at_builtin; refine wpList_append_own _ rfl _ _ 34 rfl (w.heap.size + 2) 57 i0 (.agg #[.string ⟨#[]⟩, .bool false]) 2 24 Try.underlying34 hi hz0 hz1 hz2 rfl (by decide) _ _ _ rfl ((HM.out.hown.alloc _).alloc _) ⟨wr.heap.size + 1, 0, none⟩ 1 1 [.string (T k), .bool (B k)] rfl rfl ?c1 ?c2 ?c3 ?c4 ?c5 ?_)
      case c1 =>
        intro j u hj
        match j, hj with
        | 0, hj => simp at hj; subst hj; simp [Addr.add]
        | 1, hj => simp at hj; subst hj; simp [Addr.add]
      case c2 =>
        intro u hu
        simp at hu
        rcases hu with rfl | rfl <;> rfl
      case c3 => unfold maxLen; omega
      case c4 => omega
      case c5 => simp; omega
      intro v' w3 hown' hgrow' _
      have hM2 := HM.out.below (((Below.refl wr.heap.size wr).alloc (Nat.le_refl _) (.cells #[.string (N k), .string (T k), .bool (B k)] 54)).alloc (by simp) (.cells #[.string (T k), .bool (B k)] 57))
      have hloc := mid_loc hM2 hgrow' (fun j hj => (hM2.hown.lt j hj).1)
      have d1 : w3.cell? ⟨w.heap.size + 1, 1, none⟩ = some (.slice ah k ch) := cell_at hloc 1 _ rfl
      have e1 : w3.frozen? ⟨w.heap.size + 1, 1, none⟩ = false := free_at hloc 1
      have HM3 : Hid (Mid w (w3.setCell ⟨w.heap.size + 1, 1, none⟩ v') cap T B L S v' (.slice none 0 0) (k + 1) 0 (fun _ => undef)) := mid_head hM2 hown' hgrow'
      obtain ⟨av, cv, rfl⟩ := own_form hown'
      clear hM2 hloc hown' hgrow' HM l1 l2 f1 c0 c1 c2
      go_wp2_with fail
      go_roundw
      case rel => exact ⟨k + 1, _, by omega, by go_num, HM3.out⟩
      case measure => simp [intOf]; omega
    · obtain rfl : n = k := by omega
      have p1 : wr.cell? ⟨pb, po + 1, none⟩ = some (.slice ar m cr) := by rw [hmid.bel.cell (p := ⟨pb, po + 1, none⟩) hpb]; exact hp1
      obtain ⟨ah, ch, rfl⟩ := own_form hmid.hown
      have HM : Hid (Mid w wr cap T B L S (.slice ah n ch) (.slice none 0 0) n 0 (fun _ => undef)) := hmid
      clear hmid
      go_wp2_with fail
      clear p1
      go_loopw [40] (fun i wx => ∃ (k : Nat) (rv : Value) (U : Nat → Value), k ≤ m ∧ i = .int .i64 k ∧ Mid w wx cap T B L S (.slice ah n ch) rv n k U) (fun i _ => m - (intOf i).toNat)
      case atStart => exact ⟨0, _, _, Nat.zero_le _, rfl, HM.out⟩
      case round =>
        obtain ⟨k, rv, U, hk, rfl, hmid⟩ := hrel
        clear HM
        by_cases hlt2 : k < m
        · have hkz : (k : Int) < (m : Int) := by omega
          obtain ⟨b, off, rfl, _, hb, hcell⟩ := HR.out (by omega)
          obtain ⟨a1, cp1, hUk, _, HC1⟩ := (HS.out k hlt2).form
          have c0 : wr.cell? ⟨b, off + k, none⟩ = some (.slice a1 (L k) cp1) := by rw [hmid.bel.cell (p := ⟨b, off + k, none⟩) hb, hcell _ (by omega), hUk]
          have hLk := hL.out k hlt2
          clear hcell hUk
          obtain ⟨av, cv, rfl⟩ := own_form hmid.rown
          have hsz := hmid.size
          obtain ⟨wo, hwo⟩ : ∃ wo : World, wo = wr := ⟨_, rfl⟩
          have HM : Hid (Mid w wo cap T B L S (.slice ah n ch) (.slice av k cv) n k U) := by rw [hwo]; exact hmid
          have hszo : w.heap.size + 2 ≤ wo.heap.size := by rw [hwo]; exact hsz
          have HB : Hid (Below wo.heap.size wo (wr.alloc (.cells (madeCells #[Value.string ⟨#[]⟩, .bool false] (L k * 2)) 57))) := by
            rw [hwo]; exact (Below.refl _ _).alloc (Nat.le_refl _) _
          have HR0 : Hid ((wr.alloc (.cells (madeCells #[Value.string ⟨#[]⟩, .bool false] (L k * 2)) 57)).rowIs wo.heap.size 57 (L k * 2) (part (celF (S k) B) (fun j => #[Value.string ⟨#[]⟩, .bool false][j % 2]!) 0)) := by
            rw [hwo]; exact part_zero (rowIs_wide wr _ (L k * 2) 57)
          have HWS : Hid (wr.heap.size = wo.heap.size) := by rw [hwo]; rfl
          have hmk := run_make_wide (P := Try.prog) 34 57 _ 2 24 Try.underlying34 Try.info57 .i64 .i64 (L k) (by omega) (by omega)
          clear hmid hwo
          go_wp2_with fail
          clear hmk c0
          rw [HWS.out]
          go_loopw [49] (fun i wi => ∃ (c : Nat), c ≤ L k ∧ i = .int .i64 c ∧ Below wo.heap.size wo wi ∧ wi.rowIs wo.heap.size 57 (L k * 2) (part (celF (S k) B) (fun j => #[Value.string ⟨#[]⟩, .bool false][j % 2]!) (c * 2))) (fun i _ => L k - (intOf i).toNat)
          case atStart => exact ⟨0, Nat.zero_le _, rfl, HB.out, HR0.out⟩
          case round =>
            obtain ⟨c, hc, rfl, hbi, hrow⟩ := hrel
            clear HB HR0 HWS
            by_cases hlc : c < L k
            · have hcz : (c : Int) < (L k : Int) := by omega
              have hcn : (c : Int) < (n : Int) := by omega
              obtain ⟨b2, off2, rfl, _, hb2, hcell2⟩ := HC1.out (by omega)
              obtain ⟨b3, off3, rfl, _, hb3, hcell3⟩ := HC.out (by omega)
              have hbw : Below w.heap.size w wr := HM.out.bel.trans (hbi.mono (by omega))
              have s0 : wr.cell? ⟨b2, off2 + c, none⟩ = some (.string (S k c)) := by rw [hbw.cell (p := ⟨b2, off2 + c, none⟩) hb2, hcell2 _ (by omega)]; rfl
              have s1 : wr.cell? ⟨pb, po, none⟩ = some (.slice (some ⟨b3, off3, none⟩) n cc) := by rw [hbw.cell (p := ⟨pb, po, none⟩) hpb]; exact hp0
              have s2 : wr.cell? ⟨b3, off3 + c * 3 + 2, none⟩ = some (.bool (B c)) := by rw [hbw.cell (p := ⟨b3, off3 + c * 3 + 2, none⟩) hb3, Nat.add_assoc, hcell3 _ (by omega), colF2]
              obtain ⟨x0, d0⟩ := part_cell hrow (i := c * 2) (by omega)
              obtain ⟨x1, d1⟩ := part_cell hrow (i := c * 2 + 1) (by omega)
              have f0 := hrow.frozen (c * 2)
              have f1 := hrow.frozen (c * 2 + 1)
              have HR2 : Hid (((wr.setCell ⟨wo.heap.size, c * 2, none⟩ (.string (S k c))).setCell ⟨wo.heap.size, c * 2 + 1, none⟩ (.bool (B c))).rowIs wo.heap.size 57 (L k * 2) (part (celF (S k) B) (fun j => #[Value.string ⟨#[]⟩, .bool false][j % 2]!) ((c + 1) * 2))) := by
                have := part_set (part_set hrow (celF0 (S k) B c).symm) (celF1 (S k) B c).symm
                rw [show (c + 1) * 2 = c * 2 + 1 + 1 by omega]
                exact this
              clear hrow hcell2 hcell3 HC HC1 HS HR HM hbw
              go_wp2_with fail
              go_roundw
              case rel => exact ⟨c + 1, by omega, by go_num, (hbi.setCell (Nat.le_refl _) _).setCell (Nat.le_refl _) _, HR2.out⟩
              case measure => simp [intOf]; omega
            · obtain rfl : c = L k := by omega
              have hM2 := HM.out.below hbi
              have hfull := part_full hrow
              have l1 : wr.cell? ⟨w.heap.size + 1, 2, none⟩ = some (.slice av k cv) := cell_at hM2.loc 2 _ rfl
              have hsz2 := hM2.size
              have HM2 : Hid (Mid w wr cap T B L S (.slice ah n ch) (.slice av k cv) n k U) := hM2
              have HFull : Hid (wr.rowIs wo.heap.size 57 (L k * 2) (celF (S k) B)) := hfull
              clear hM2 hfull hrow HM HC HC1 HS HR hbi
              go_wp2_with (at_builtin; refine wpList_append_own _ rfl _ _ 35 rfl (w.heap.size + 2) 34 j0 (.slice none 0 0) 1 24 Try.underlying35 hji hjz0 hjz1 hjz2 rfl (by decide) _ _ _ rfl (HM2.out.rown.alloc _) ⟨wr.heap.size, 0, none⟩ 1 1 [.slice (some ⟨wo.heap.size, 0, none⟩) (L k) (L k)] rfl rfl ?e1 ?e2 ?e3 ?e4 ?e5 ?_)
              case e1 =>
                intro j u hj
                match j, hj with
                | 0, hj => simp at hj; subst hj; simp [Addr.add]
              case e2 => intro u hu; simp at hu; subst hu; rfl
              case e3 => unfold maxLen; omega
              case e4 => omega
              case e5 => simp; omega
              intro v' w3 hown' hgrow' _
              have hM3 := HM2.out.below ((Below.refl wr.heap.size wr).alloc (Nat.le_refl _) (.cells #[.slice (some ⟨wo.heap.size, 0, none⟩) (L k) (L k)] 34))
              have hloc := mid_loc hM3 hgrow' (fun j hj => (hM3.rown.lt j hj).1)
              have d1 : w3.cell? ⟨w.heap.size + 1, 2, none⟩ = some (.slice av k cv) := cell_at hloc 2 _ rfl
              have e1 : w3.frozen? ⟨w.heap.size + 1, 2, none⟩ = false := free_at hloc 2
              have HM4 : Hid (Mid w (w3.setCell ⟨w.heap.size + 1, 2, none⟩ v') cap T B L S (.slice ah n ch) v' n (k + 1) (upd U k (.slice (some ⟨wo.heap.size, 0, none⟩) (L k) (L k)))) := mid_row hM3 hszo (HFull.out.alloc _) hown' hgrow'
              obtain ⟨av', cv', rfl⟩ := own_form hown'
              clear hM3 hloc hown' hgrow' HM2 HFull l1
              go_wp2_with fail
              go_roundw
              case rel => exact ⟨k + 1, _, _, by omega, by go_num, HM4.out⟩
              case measure => simp [intOf]; omega
        · obtain rfl : m = k := by omega
          obtain ⟨av, cv, rfl⟩ := own_form hmid.rown
          have l0 : wr.cell? ⟨w.heap.size + 1, 0, none⟩ = some (.string cap) := cell_at hmid.loc 0 _ rfl
          have l1 : wr.cell? ⟨w.heap.size + 1, 1, none⟩ = some (.slice ah n ch) := cell_at hmid.loc 1 _ rfl
          have l2 : wr.cell? ⟨w.heap.size + 1, 2, none⟩ = some (.slice av m cv) := cell_at hmid.loc 2 _ rfl
          have r0 : wr.cell? ⟨w.heap.size, 0, none⟩ = some (.string ⟨#[]⟩) := cell_at hmid.res 0 _ rfl
          have r1 : wr.cell? ⟨w.heap.size, 1, none⟩ = some (.slice none 0 0) := cell_at hmid.res 1 _ rfl
          have r2 : wr.cell? ⟨w.heap.size, 2, none⟩ = some (.slice none 0 0) := cell_at hmid.res 2 _ rfl
          have g0 : wr.frozen? ⟨w.heap.size, 0, none⟩ = false := free_at hmid.res 0
          have g1 : wr.frozen? ⟨w.heap.size, 1, none⟩ = false := free_at hmid.res 1
          have g2 : wr.frozen? ⟨w.heap.size, 2, none⟩ = false := free_at hmid.res 2
          have HM : Hid (Mid w wr cap T B L S (.slice ah n ch) (.slice av m cv) n m U) := hmid
          clear hmid HC HR HS
          go_wp2_with fail
          refine bodyPost_ret (v := .agg #[.string cap, .slice ah n ch, .slice av m cv]) (by simp [results, Try.results24, go_sem, r0, r1, r2]) rfl ?_
          exact ⟨ah, av, ch, cv, U, rfl, (((HM.out.tab.setOther (by show w.heap.size < w.heap.size + 2; omega) _).setOther (by show w.heap.size < w.heap.size + 2; omega) _).setOther (by show w.heap.size < w.heap.size + 2; omega) _).mono (by omega),
            ((HM.out.bel.setCell (Nat.le_refl _) _).setCell (Nat.le_refl _) _).setCell (Nat.le_refl _) _⟩

set_option maxHeartbeats 1000000 in
theorem zztable_any (cap : ByteArray) (pb po : Nat) (cv rv0 : Value) (bc br n m : Nat) (N T : Nat → ByteArray) (B : Nat → Bool) (L : Nat → Nat) (S : Nat → Nat → ByteArray) (w : World)
    (hn : n ≤ 2000000) (hm : m ≤ 2000000) (hL : Hid (∀ r, r < m → L r ≤ n)) (hp0 : w.cell? ⟨pb, po, none⟩ = some cv) (hp1 : w.cell? ⟨pb, po + 1, none⟩ = some rv0) (hc : Sl w bc cv n 3 (colF N T B)) (hr : Rws w br rv0 m L S) :
    Calls Try.prog 15 #[.string cap, .pointer (some ⟨pb, po, none⟩)] w fun e w' => TabSays w cap n m T B L S e w' := by
  have hpb : pb < w.heap.size := World.block_lt_of_cell? _ _ hp0
  have hbel1 : Below w.heap.size w (w.alloc (.cells #[.string ⟨#[]⟩, .slice none 0 0, .slice none 0 0] 37)) := (Below.refl _ _).alloc (Nat.le_refl _) _
  have HP0 : Hid ((w.alloc (.cells #[.string ⟨#[]⟩, .slice none 0 0, .slice none 0 0] 37)).cell? ⟨pb, po, none⟩ = some cv) := (hbel1.cell (p := ⟨pb, po, none⟩) hpb).trans hp0
  have HP1 : Hid ((w.alloc (.cells #[.string ⟨#[]⟩, .slice none 0 0, .slice none 0 0] 37)).cell? ⟨pb, po + 1, none⟩ = some rv0) := (hbel1.cell (p := ⟨pb, po + 1, none⟩) hpb).trans hp1
  have HC1 : Hid (Sl (w.alloc (.cells #[.string ⟨#[]⟩, .slice none 0 0, .slice none 0 0] 37)) bc cv n 3 (colF N T B)) := hc.below hbel1
  have HR1 : Hid (Rws (w.alloc (.cells #[.string ⟨#[]⟩, .slice none 0 0, .slice none 0 0] 37)) br rv0 m L S) := hr.below hbel1
  clear hp0 hp1 hc hr
  go_enter Try.func15, Try.ntmps15
  go_wp2_with fail
  refine (table_any cap pb po cv rv0 bc br n m N T B L S _ hn hm hL HP0.out HP1.out HC1.out HR1.out).mono ?_
  rintro e w2 ⟨a1, a2, c1, c2, U, rfl, htab, hbel⟩
  clear HP0 HP1 HC1 HR1
  have hblk : w2.heap[w.heap.size]? = some (.cells #[.string ⟨#[]⟩, .slice none 0 0, .slice none 0 0] 37 (0, 0)) := by
    rw [hbel.block _ (by simp)]; exact heap_alloc_new _ _
  have r0 : w2.cell? ⟨w.heap.size, 0, none⟩ = some (.string ⟨#[]⟩) := cell_at hblk 0 _ rfl
  have r1 : w2.cell? ⟨w.heap.size, 1, none⟩ = some (.slice none 0 0) := cell_at hblk 1 _ rfl
  have r2 : w2.cell? ⟨w.heap.size, 2, none⟩ = some (.slice none 0 0) := cell_at hblk 2 _ rfl
  have g0 : w2.frozen? ⟨w.heap.size, 0, none⟩ = false := free_at hblk 0
  have g1 : w2.frozen? ⟨w.heap.size, 1, none⟩ = false := free_at hblk 1
  have g2 : w2.frozen? ⟨w.heap.size, 2, none⟩ = false := free_at hblk 2
  have htab' : Tab w2 (w.heap.size + 1) (.slice a1 n c1) (.slice a2 m c2) n m T B L S U := by simpa using htab
  have HTab : Hid (Tab w2 (w.heap.size + 1) (.slice a1 n c1) (.slice a2 m c2) n m T B L S U) := htab'
  have hbel2 : Below w.heap.size w w2 := hbel1.trans (hbel.mono (by simp))
  clear hblk htab htab' hbel hbel1
  go_wp2_with fail
  refine bodyPost_ret (v := .agg #[.string cap, .slice a1 n c1, .slice a2 m c2]) (by simp [results, Try.results15, go_sem, r0, r1, r2]) rfl ?_
  exact ⟨a1, a2, c1, c2, U, rfl, (((HTab.out.setOther (by show w.heap.size < w.heap.size + 1; omega) _).setOther (by show w.heap.size < w.heap.size + 1; omega) _).setOther (by show w.heap.size < w.heap.size + 1; omega) _).mono (by omega),
    ((hbel2.setCell (Nat.le_refl _) _).setCell (Nat.le_refl _) _).setCell (Nat.le_refl _) _⟩
end Go.Proofs.Qxb6003659a
