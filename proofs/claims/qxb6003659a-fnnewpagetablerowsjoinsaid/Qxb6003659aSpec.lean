import Derived.Test.Qxb6003659aTable
import Derived.Test.Qxb6003659aLimit
namespace Go.Proofs.Qxb6003659a
open Go.RowKit

theorem rws_form {w : World} {base : Nat} {v : Value} {n : Nat} {L : Nat → Nat} {S : Nat → Nat → ByteArray} (h : Rws w base v n L S) : ∃ a c, v = .slice a n c := by
  obtain ⟨U, ⟨a, c, rfl, _⟩, _⟩ := h
  exact ⟨a, c, rfl⟩
theorem sl_form {w : World} {base : Nat} {v : Value} {n size : Nat} {F : Nat → Value} (h : Sl w base v n size F) : ∃ a c, v = .slice a n c := by
  obtain ⟨a, c, rfl, _⟩ := h
  exact ⟨a, c, rfl⟩
theorem below_drew' (w : World) (q : Nat) : Below w.heap.size w (w.drewN q) := ⟨rfl, rfl, rfl, Nat.le_refl _, fun _ _ => rfl⟩

set_option maxHeartbeats 4000000 in
set_option maxRecDepth 100000 in
theorem spec_walk (cap : ByteArray) (cv rv : Value) (n m : Nat) (N T : Nat → ByteArray) (B : Nat → Bool) (L : Nat → Nat) (S : Nat → Nat → ByteArray) (w : World) (hc : Sl w 0 cv n 3 (colF N T B)) (hr : Rws w 0 rv m L S) :
    Calls Try.prog 4 #[.string cap, cv, rv] w fun e w' => e = .returned (.bool true) ∧ Below w.heap.size w w' := by
  have q35 : ∀ (w : World) (a : Option Addr) (n c n' c' : Nat), (binOp .eql 35 (.slice a n c) (.slice none n' c')).run Try.prog w = .ok (.bool a.isNone) w := fun w a n c n' c' => Lib.run_eql_slice_nil w 35 34 a n c n' c' Try.underlying35
  obtain ⟨ac, cc, rfl⟩ := sl_form hc
  obtain ⟨ar, cr, rfl⟩ := rws_form hr
  have HC : Hid (Sl w 0 (.slice ac n cc) n 3 (colF N T B)) := hc
  have HR : Hid (Rws w 0 (.slice ar m cr) m L S) := hr
  clear hc hr
  go_enter Try.func4, Try.ntmps4
  go_wp2_with fail
  refine (limit_any cap _ _ 0 0 n m N T B L S w HC.out HR.out).mono ?_
  rintro e w' ⟨⟨b, rfl, hlim⟩, rfl⟩
  cases b with
  | false =>
    clear hlim
    go_wp2_with fail
    go_ret
    exact ⟨rfl, Below.refl _ _⟩
  | true =>
    obtain ⟨hn, hm, hL⟩ := hlim rfl
    clear hlim
    have HL : Hid (∀ r, r < m → L r ≤ 2000000) := fun r hr => by have := hL r hr; omega
    clear hL
    go_wp2_with fail
    refine (colsSize_any _ _ 0 n N T B _ (by omega) HC.out).mono ?_
    rintro e w1 ⟨⟨y1, rfl⟩, q1, rfl⟩
    have hb1 := below_drew' w' q1
    have HC1 := HC.out.below hb1
    have HR1 := HR.out.below hb1
    have HCC : Hid (Sl (w'.drewN q1) 0 (.slice ac n cc) n 3 (colF N T B)) := HC1
    have HRR : Hid (Rws (w'.drewN q1) 0 (.slice ar m cr) m L S) := HR1
    clear HC HR HC1 HR1
    generalize w'.drewN q1 = w1 at *
    go_wp2_with fail
    refine (rowsSize_any _ _ 0 m L S w1 (by omega) HL HRR.out).mono ?_
    rintro e w2 ⟨⟨y2, rfl⟩, rfl⟩
    by_cases hy : 1048576 < y2
    · go_wp2_with fail
      go_ret
      exact ⟨rfl, hb1⟩
    go_wp2_with fail
    refine (rowsFit_any _ 0 m n L S w2 (by omega) HRR.out).mono ?_
    rintro e w3 ⟨⟨b, rfl, hfit⟩, rfl⟩
    cases b with
    | false =>
      clear hfit
      go_wp2_with fail
      go_ret
      exact ⟨rfl, hb1⟩
    | true =>
      have HF : Hid (∀ r, r < m → L r ≤ n) := hfit rfl
      clear hfit
      go_wp2_with fail
      refine (cloneCols_any _ 0 n N T B w3 (by omega) HCC.out).mono ?_
      rintro e w4 ⟨c1, rfl, hc1, hb4⟩
      have HR4 : Hid (Rws w4 0 (.slice ar m cr) m L S) := HRR.out.below hb4
      clear HCC HRR
      go_wp2_with fail
      refine (cloneRows_any _ 0 m L S w4 (by omega) HL HR4.out).mono ?_
      rintro e w5 ⟨r1, rfl, hr1, hb5⟩
      have HC5 : Hid (Sl w5 w3.heap.size c1 n 3 (colF N T B)) := hc1.below hb5
      have HR5 : Hid (Rws w5 w4.heap.size r1 m L S) := hr1
      have hb15 : Below w'.heap.size w' w5 := (hb1.trans (hb4.mono hb1.size)).trans (hb5.mono (Nat.le_trans hb1.size hb4.size))
      clear hc1 hr1 HR4 hb1 hb4 hb5
      go_wp2_with fail
      refine (makeColumns_any _ w3.heap.size n N T B w5 (by omega) HC5.out).mono ?_
      rintro e w6 ⟨k1, rfl, hk1, hb6⟩
      have HC6 : Hid (Sl w6 w3.heap.size c1 n 3 (colF N T B)) := HC5.out.below hb6
      have HR6 : Hid (Rws w6 w4.heap.size r1 m L S) := HR5.out.below hb6
      clear HC5 HR5
      go_wp2_with fail
      refine (cloneRows_any _ w4.heap.size m L S w6 (by omega) HL HR6.out).mono ?_
      rintro e w7 ⟨r2, rfl, hr2, hb7⟩
      have HC7 : Hid (Sl w7 w3.heap.size c1 n 3 (colF N T B)) := HC6.out.below hb7
      have HR7 : Hid (Rws w7 w4.heap.size r1 m L S) := HR6.out.below hb7
      have hk7 := hk1.below hb7
      have hb17 : Below w'.heap.size w' w7 := (hb15.trans (hb6.mono hb15.size)).trans (hb7.mono (Nat.le_trans hb15.size hb6.size))
      clear HC6 HR6 hb6 hb7 hk1 hb15
      obtain ⟨ak, ck, rfl⟩ := sl_form hk7
      obtain ⟨ar2, cr2, rfl⟩ := rws_form hr2
      have HK : Hid (Sl w7 w5.heap.size (.slice ak n ck) n 3 (colF N T B)) := hk7
      have HR2 : Hid (Rws w7 w6.heap.size (.slice ar2 m cr2) m L S) := hr2
      clear hk7 hr2
      go_wp2_with fail
      refine (makeReport_any _ _ ak ar2 n ck m cr2 rfl rfl w7).mono ?_
      rintro e w8 ⟨rfl, hw8⟩
      have hb8 : Below w7.heap.size w7 w8 := by rw [← hw8]; exact (Below.refl _ _).alloc (Nat.le_refl _) _
      have hblk : w8.heap[w7.heap.size]? = some (.cells #[.slice ak n ck, .slice ar2 m cr2] 52 (0, 0)) := by rw [← hw8]; exact heap_alloc_new _ _
      clear hw8
      have HP0 : Hid (w8.cell? ⟨w7.heap.size, 0, none⟩ = some (.slice ak n ck)) := cell_at hblk 0 _ rfl
      have HP1 : Hid (w8.cell? ⟨w7.heap.size, 0 + 1, none⟩ = some (.slice ar2 m cr2)) := cell_at hblk 1 _ rfl
      clear hblk
      go_wp2_with fail
      refine (zztable_any cap w7.heap.size 0 _ _ w5.heap.size w6.heap.size n m N T B L S w8 (by omega) (by omega) HF HP0.out HP1.out (HK.out.below hb8) (HR2.out.below hb8)).mono ?_
      rintro e w9 ⟨a1, a2, p1, p2, U, rfl, htab, hb9⟩
      have hb79 : Below w7.heap.size w7 w9 := hb8.trans (hb9.mono hb8.size)
      have HC9 : Hid (Sl w9 w3.heap.size c1 n 3 (colF N T B)) := HC7.out.below hb79
      have HR9 : Hid (Rws w9 w4.heap.size r1 m L S) := HR7.out.below hb79
      have HT9 : Hid (Tab w9 w8.heap.size (.slice a1 n p1) (.slice a2 m p2) n m T B L S U) := htab
      have hb19 : Below w'.heap.size w' w9 := hb17.trans (hb79.mono hb17.size)
      clear HC7 HR7 htab hb9 hb8 hb79 hb17 HP0 HP1 HK HR2
      obtain ⟨ac1, cc1, rfl⟩ := sl_form HC9.out
      obtain ⟨ar1, cr1, rfl⟩ := rws_form HR9.out
      have hba : Below w9.heap.size w9 (w9.alloc (.cells #[.string cap, .slice a1 n p1, .slice a2 m p2] 37)) := (Below.refl _ _).alloc (Nat.le_refl _) _
      have HCA : Hid (Sl (w9.alloc (.cells #[.string cap, .slice a1 n p1, .slice a2 m p2] 37)) w3.heap.size (.slice ac1 n cc1) n 3 (colF N T B)) := HC9.out.below hba
      have HTA : Hid (Tab (w9.alloc (.cells #[.string cap, .slice a1 n p1, .slice a2 m p2] 37)) w8.heap.size (.slice a1 n p1) (.slice a2 m p2) n m T B L S U) := HT9.out.below hba
      go_wp2_with fail
      refine (headings_yes _ _ w8.heap.size w3.heap.size n N T B _ (by omega) HTA.out.h HTA.out.hnil HCA.out).mono ?_
      rintro e w10 ⟨rfl, q, hw10⟩
      have hb10 : Below w9.heap.size w9 w10 := by rw [hw10]; exact hba.trans ((below_drew' _ q).mono (by simp))
      have hblk2 : w10.heap[w9.heap.size]? = some (.cells #[.string cap, .slice a1 n p1, .slice a2 m p2] 37 (0, 0)) := by rw [hw10]; exact heap_alloc_new w9 _
      have ct : w10.cell? ⟨w9.heap.size, 2, none⟩ = some (.slice a2 m p2) := cell_at hblk2 2 _ rfl
      have hCf := HC9.out.below hb10
      have hRf := HR9.out.below hb10
      have hTf := HT9.out.below hb10
      have hbf : Below w'.heap.size w' w10 := hb19.trans (hb10.mono hb19.size)
      clear HC9 HR9 HT9 HCA HTA hba hb10 hblk2 hb19 hw10
      obtain ⟨V, hV, hVs⟩ := hRf
      obtain ⟨_, _, e1, _, HV⟩ := hV.form
      obtain ⟨rfl, rfl⟩ : _ ∧ _ := by simpa using e1
      obtain ⟨_, _, e2, hnil2, HU⟩ := hTf.r.form
      obtain ⟨rfl, rfl⟩ : _ ∧ _ := by simpa using e2
      have hrn := hTf.rnil
      have HVs : Hid (∀ j, j < m → Sl w10 w4.heap.size (V j) (L j) 1 (strF (S j))) := hVs
      have HUs : Hid (∀ j, j < m → Sl w10 w8.heap.size (U j) (L j) 2 (celF (S j) B) ∧ U j ≠ .slice none 0 0) := hTf.rows
      have HCf : Hid (Sl w10 w3.heap.size (.slice ac1 n cc1) n 3 (colF N T B)) := hCf
      clear hTf hV hVs hCf e1 e2
      by_cases hm0 : m = 0
      · subst hm0
        have := hrn rfl
        simp at this
        obtain ⟨rfl, rfl⟩ := this
        clear hrn hnil2 HU HV HUs HVs HCf
        go_wp2_with fail
        go_loop [8] (fun i => i = .int .i64 0) (fun _ => 0)
        case atStart => rfl
        case round =>
          subst hrel
          go_wp2
          go_ret
          exact ⟨rfl, hbf⟩
      · obtain ⟨b2, o2, rfl, _, _, hcu⟩ := HU.out (by omega)
        obtain ⟨b3, o3, rfl, _, _, hcv⟩ := HV.out (by omega)
        have HCU : Hid (∀ j, j < m * 1 → w10.cell? ⟨b2, o2 + j, none⟩ = some (U j)) := hcu
        have HCV : Hid (∀ j, j < m * 1 → w10.cell? ⟨b3, o3 + j, none⟩ = some (V j)) := hcv
        have hmz : ((m : Int) == 0) = false := beq_eq_false_iff_ne.2 (by omega)
        clear hcu hcv HU HV hrn hnil2
        go_wp2_with fail
        clear q35
        go_loopw [8] (fun i wr => ∃ k : Nat, k ≤ m ∧ i = .int .i64 k ∧ Below w10.heap.size w10 wr) (fun i _ => m - (intOf i).toNat)
        case atStart => exact ⟨0, Nat.zero_le _, rfl, Below.refl _ _⟩
        case round =>
          obtain ⟨k, hk, rfl, hbr⟩ := hrel
          have ct' : wr.cell? ⟨w9.heap.size, 2, none⟩ = some (.slice (some ⟨b2, o2, none⟩) m p2) := by rw [hbr.cell (p := ⟨w9.heap.size, 2, none⟩) (World.block_lt_of_cell? _ _ ct)]; exact ct
          clear ct
          by_cases hlt : k < m
          · have hkz : (k : Int) < (m : Int) := by omega
            obtain ⟨hUk, hnn⟩ := HUs.out k hlt
            have hVk := HVs.out k hlt
            have c1 : wr.cell? ⟨b2, o2 + k, none⟩ = some (U k) := by
              have := HCU.out k (by omega)
              rw [hbr.cell (p := ⟨b2, o2 + k, none⟩) (World.block_lt_of_cell? _ _ this)]; exact this
            have c2 : wr.cell? ⟨b3, o3 + k, none⟩ = some (V k) := by
              have := HCV.out k (by omega)
              rw [hbr.cell (p := ⟨b3, o3 + k, none⟩) (World.block_lt_of_cell? _ _ this)]; exact this
            have HUk : Hid (Sl wr w8.heap.size (U k) (L k) 2 (celF (S k) B)) := hUk.below hbr
            have HVk : Hid (Sl wr w4.heap.size (V k) (L k) 1 (strF (S k))) := hVk.below hbr
            have HCk : Hid (Sl wr w3.heap.size (.slice ac1 n cc1) n 3 (colF N T B)) := HCf.out.below hbr
            have HNN : Hid (U k ≠ .slice none 0 0) := hnn
            obtain ⟨au, cu, eu⟩ := sl_form hUk
            obtain ⟨av, cv, ev⟩ := sl_form hVk
            clear hUk hVk hnn
            generalize U k = u at *
            generalize V k = v at *
            subst eu ev
            have hfk := HF.out k hlt
            clear HCU HCV HUs HVs
            go_wp2_with fail
            go_quiet ((go_at_call 19; exact Calls.quiet_of (rowIs_yes _ _ _ _ _ _ (L k) n (S k) N T B _ (by omega) hfk (HUk.out.below (below_drew' _ _)) HNN.out (HVk.out.below (below_drew' _ _)) (HCk.out.below (below_drew' _ _)))))
            go_wp2_with fail
            go_roundw
            case rel => exact ⟨k + 1, by omega, by go_num, hbr.trans ((below_drew' _ _).mono hbr.size)⟩
            case measure => simp [intOf]; omega
          · go_wp2
            go_ret
            exact ⟨rfl, hbf.trans (hbr.mono hbf.size)⟩
end Go.Proofs.Qxb6003659a
