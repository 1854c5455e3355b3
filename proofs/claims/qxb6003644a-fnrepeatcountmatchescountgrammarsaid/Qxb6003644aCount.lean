import Derived.Test.Qxb6003644aWalks
namespace Go.Proofs.Qxb6003644a
open Go.RowKit Plain

theorem frozen_set (w : World) (q a : Addr) (u : Value) : (w.setCell q u).frozen? a = w.frozen? a := by
  simp

theorem digits_abs (kI : Int) (s : ByteArray) (p q : Addr) (z : Bool) (w : World) (hpq : p ≠ q) (h0 : 0 ≤ kI) (hk : kI ≤ s.size + 1) (hs : s.size ≤ 2000000)
    (hp : w.cell? p = some (.string s)) (hq : w.cell? q = some (.bool z)) (hf : w.frozen? q = false) :
    Calls Try.prog 22 #[.int .i64 kI, .pointer (some p), .pointer (some q)] w fun e w' => e = .returned (.int .i64 (dend (bt s) s.size kI.toNat)) ∧ w'.cell? p = some (.string s) ∧ w'.cell? q = some (.bool (z || lz (bt s) s.size kI.toNat)) ∧ w'.frozen? q = false ∧ (∀ W, Grown W w → W.heap.size ≤ q.block → Grown W w') := by
  obtain ⟨k0, rfl⟩ := Int.eq_ofNat_of_zero_le h0
  rw [Int.toNat_natCast]
  refine (digits_any s k0 p q z w (by omega) hs hp hq hf).mono ?_
  rintro e w' ⟨rfl, rfl⟩
  refine ⟨rfl, ?_⟩
  generalize lz (bt s) s.size k0 = b
  cases b with
  | true =>
    rw [mark_true]
    exact ⟨by rw [World.cell?_setCell_other _ _ _ _ (fun e => hpq e.symm)]; exact hp, by rw [World.cell?_setCell_same _ _ _ hq, Bool.or_true], by rw [frozen_set]; exact hf, fun W hg hb => hg.setCell hb _⟩
  | false =>
    rw [mark_false]
    exact ⟨hp, by rw [Bool.or_false]; exact hq, hf, fun W hg _ => hg⟩

theorem grown_drewN {W w : World} (h : Grown W w) (n : Nat) : Grown W (w.drewN n) := h

theorem grown_trans {W a b : World} (h : Grown W a) (k : Grown a b) : Grown W b :=
  ⟨World.keptBut_trans h.1 k.1, fun x => (k.2.1 x).trans (h.2.1 x), Nat.le_trans h.2.2 k.2.2⟩

theorem ret_count {a b : Int} {x y : Bool} {r : Int × Bool} (h1 : r = (b, y)) (h2 : a = b) (h3 : x = y) : Ending.returned (.tuple #[.int .i64 a, .bool x]) = .returned (.tuple #[.int .i64 r.1, .bool r.2]) := by subst h1 h2 h3; rfl

theorem rc_none (f : Nat → Nat) (n : Nat) (h : dend f n 1 = 1) : rc f n = (-1, false) := by unfold rc; rw [if_pos h]
theorem rc_one (f : Nat → Nat) (n : Nat) (h : ¬ dend f n 1 = 1) (h2 : ¬ f (dend f n 1) = 44) : rc f n = fin f (dend f n 1) (lz f n 1) := by unfold rc; rw [if_neg h, if_neg h2]
theorem rc_two (f : Nat → Nat) (n : Nat) (h : ¬ dend f n 1 = 1) (h2 : f (dend f n 1) = 44) : rc f n = fin f (dend f n (dend f n 1 + 1)) (lz f n 1 || lz f n (dend f n 1 + 1)) := by unfold rc; rw [if_neg h, if_pos h2]
theorem fin_yes (f : Nat → Nat) (e : Nat) (z : Bool) (h : f e = 125) : fin f e z = ((e : Int) + 1, z) := by unfold fin; rw [if_pos h]
theorem fin_no (f : Nat → Nat) (e : Nat) (z : Bool) (h : ¬ f e = 125) : fin f e z = (-1, false) := by unfold fin; rw [if_neg h]

set_option maxHeartbeats 1000000 in
theorem count_any (s : ByteArray) (w : World) (hs : s.size ≤ 2000000) :
    Calls Try.prog 18 #[.string s] w fun e w' => e = .returned (.tuple #[.int .i64 (rc (bt s) s.size).1, .bool (rc (bt s) s.size).2]) ∧ Grown w w' := by
  go_enter Try.func18, Try.ntmps18
  go_wp2_with fail
  refine (digits_abs 1 s ⟨w.heap.size, 0, none⟩ ⟨w.heap.size + 1, 0, none⟩ false _ (by simp) (by omega) (by omega) hs (by go_simp) (by go_simp) (by go_simp)).mono ?_
  rintro e w1 ⟨rfl, hp, hq, hf, hg⟩
  have hgr : Grown w w1 := hg w (((Grown.refl w).alloc _ _).alloc _ _) (by simp)
  clear hg
  rw [show (1 : Int).toNat = 1 from rfl, Bool.false_or] at hq
  rw [show (1 : Int).toNat = 1 from rfl]
  have hge := dend_ge (bt s) s.size 1
  have hle := dend_le' (bt s) s.size 1
  generalize hE : dend (bt s) s.size 1 = e1 at *
  generalize hZ : lz (bt s) s.size 1 = z1 at *
  have HE : Hid (dend (bt s) s.size 1 = e1) := hE
  have HZ : Hid (lz (bt s) s.size 1 = z1) := hZ
  clear hE hZ
  by_cases h1 : e1 = 1
  · subst h1
    go_wp2_with fail
    go_ret2
    exact ⟨ret_count (rc_none _ _ HE.out) rfl rfl, hgr⟩
  have hb1 : ((e1 : Int) == 1) = false := beq_eq_false_iff_ne.2 (by omega)
  have hle' : e1 ≤ s.size := by omega
  clear hle
  by_cases hlt : e1 < s.size
  · by_cases hc : (s[e1].toNat : Int) = 44
    · have hcb : ((s[e1].toNat : Int) == 44) = true := by simpa using hc
      have HC : Hid ((s[e1].toNat : Int) = 44) := hc
      clear hc
      go_wp2_with fail
      refine (digits_abs ((e1 : Int) + 1) s ⟨w.heap.size, 0, none⟩ ⟨w.heap.size + 1, 0, none⟩ z1 w1 (by simp) (by omega) (by omega) hs hp hq hf).mono ?_
      rintro e w2 ⟨rfl, hp2, hq2, hf2, hg⟩
      have hgr2 : Grown w w2 := hg w hgr (by simp)
      clear hg hgr hp hq hf hf2
      rw [show ((e1 : Int) + 1).toNat = e1 + 1 from by omega] at hq2 ⊢
      have hge2 := dend_ge (bt s) s.size (e1 + 1)
      have hle2 := dend_le (bt s) s.size (e1 + 1) hlt
      have H2 : Hid (rc (bt s) s.size = fin (bt s) (dend (bt s) s.size (e1 + 1)) (z1 || lz (bt s) s.size (e1 + 1))) := by
        have h1' : ¬ dend (bt s) s.size 1 = 1 := by rw [HE.out]; exact h1
        have h2' : bt s (dend (bt s) s.size 1) = 44 := by rw [HE.out, bt_in s e1 hlt]; have := HC.out; omega
        have := rc_two (bt s) s.size h1' h2'
        rw [HE.out, HZ.out] at this; exact this
      generalize dend (bt s) s.size (e1 + 1) = e2 at *
      generalize (z1 || lz (bt s) s.size (e1 + 1)) = z2 at *
      clear HE HZ
      by_cases hlt2 : e2 < s.size
      · by_cases hd : (s[e2].toNat : Int) = 125
        · have hdb' : ((s[e2].toNat : Int) != 125) = false := by simpa using hd
          have HD : Hid ((s[e2].toNat : Int) = 125) := hd
          have hne : ((e2 : Int) == (s.size : Int)) = false := beq_eq_false_iff_ne.2 (by omega)
          clear hd
          go_wp2_with fail
          go_quiet (fail)
          go_wp2_with fail
          go_ret2
          exact ⟨ret_count (H2.out.trans (fin_yes _ _ _ (by rw [bt_in s e2 hlt2]; have := HD.out; omega))) rfl rfl, grown_drewN hgr2 _⟩
        · have hdb' : ((s[e2].toNat : Int) != 125) = true := by simpa using hd
          have hne : ((e2 : Int) == (s.size : Int)) = false := beq_eq_false_iff_ne.2 (by omega)
          go_wp2_with fail
          go_ret2
          exact ⟨ret_count (H2.out.trans (fin_no _ _ _ (by rw [bt_in s e2 hlt2]; omega))) rfl rfl, hgr2⟩
      · obtain rfl : e2 = s.size := by omega
        go_wp2_with fail
        go_ret2
        exact ⟨ret_count (H2.out.trans (fin_no _ _ _ (by rw [bt_out s _ (Nat.le_refl _)]; omega))) rfl rfl, hgr2⟩
    · have hcb : ((s[e1].toNat : Int) == 44) = false := by simpa using hc
      have hne : ((e1 : Int) == (s.size : Int)) = false := beq_eq_false_iff_ne.2 (by omega)
      have H2 : Hid (rc (bt s) s.size = fin (bt s) e1 z1) := by
        have h1' : ¬ dend (bt s) s.size 1 = 1 := by rw [HE.out]; exact h1
        have h2' : ¬ bt s (dend (bt s) s.size 1) = 44 := by rw [HE.out, bt_in s e1 hlt]; omega
        have := rc_one (bt s) s.size h1' h2'
        rw [HE.out, HZ.out] at this; exact this
      by_cases hd : (s[e1].toNat : Int) = 125
      · have hdb' : ((s[e1].toNat : Int) != 125) = false := by simpa using hd
        have HD : Hid ((s[e1].toNat : Int) = 125) := hd
        clear hd
        go_wp2_with fail
        go_quiet (fail)
        go_wp2_with fail
        go_ret2
        exact ⟨ret_count (H2.out.trans (fin_yes _ _ _ (by rw [bt_in s e1 hlt]; have := HD.out; omega))) rfl rfl, grown_drewN hgr _⟩
      · have hdb' : ((s[e1].toNat : Int) != 125) = true := by simpa using hd
        go_wp2_with fail
        go_ret2
        exact ⟨ret_count (H2.out.trans (fin_no _ _ _ (by rw [bt_in s e1 hlt]; omega))) rfl rfl, hgr⟩
  · obtain rfl : e1 = s.size := by omega
    have H2 : Hid (rc (bt s) s.size = fin (bt s) s.size z1) := by
      have h1' : ¬ dend (bt s) s.size 1 = 1 := by rw [HE.out]; exact h1
      have h2' : ¬ bt s (dend (bt s) s.size 1) = 44 := by rw [HE.out, bt_out s s.size (Nat.le_refl _)]; omega
      have := rc_one (bt s) s.size h1' h2'
      rw [HE.out, HZ.out] at this; exact this
    clear HE HZ
    go_wp2_with fail
    go_ret2
    exact ⟨ret_count (H2.out.trans (fin_no _ _ _ (by rw [bt_out s _ (Nat.le_refl _)]; omega))) rfl rfl, hgr⟩

theorem zzcount_any (s : ByteArray) (w : World) (hs : s.size ≤ 2000000) :
    Calls Try.prog 9 #[.string s] w fun e w' => e = .returned (.tuple #[.int .i64 (rc (bt s) s.size).1, .bool (rc (bt s) s.size).2]) ∧ Grown w w' := by
  go_enter Try.func9, Try.ntmps9
  go_wp2_with fail
  refine (count_any s _ hs).mono ?_
  rintro e w1 ⟨rfl, hg⟩
  go_wp2_with fail
  go_ret2
  exact ⟨rfl, hg⟩
end Go.Proofs.Qxb6003644a
