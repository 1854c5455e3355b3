import Derived.Test.Qxb6003644aCount
namespace Go.Proofs.Qxb6003644a
open Go.RowKit Plain

/-- Where a '?' at k is passed over. -/
def nx (s : ByteArray) (k : Nat) : Nat := if bt s k = 63 then k + 1 else k
/-- The count at i. -/
def cnt (s : ByteArray) (i : Nat) : Int × Bool := rc (fun k => bt s (i + k)) (s.size - i)
/-- What repeat answers at i. -/
def rep (s : ByteArray) (i : Nat) : Int × ByteArray :=
  if bt s i = 123 then
    (if (cnt s i).1 < 0 then (0, { data := #[123] })
     else if (cnt s i).2 = true then (0, s.extract i (i + (cnt s i).1.toNat))
     else (nx s (i + (cnt s i).1.toNat), { data := #[] }))
  else (nx s (i + 1), { data := #[] })

theorem cnt_eq (s : ByteArray) (i : Nat) : rc (bt (s.extract i s.size)) (s.extract i s.size).size = cnt s i := by
  unfold cnt
  rw [show bt (s.extract i s.size) = fun k => bt s (i + k) from funext (bt_extract_end s i), ByteArray.size_extract, Nat.min_self]
theorem txt_at (s : ByteArray) (i : Nat) (hi : i ≤ s.size) : Txt (fun k => bt s (i + k)) (s.size - i) :=
  ⟨fun k hk => bt_out s _ (by omega), fun k hk => bt_lt s _ (by omega)⟩
theorem cnt_bounds (s : ByteArray) (i : Nat) (hi : i ≤ s.size) : cnt s i = (-1, false) ∨ (3 ≤ (cnt s i).1 ∧ (cnt s i).1 ≤ s.size - i) := by
  have := rc_bounds _ _ (txt_at s i hi)
  rcases this with h | h
  · exact Or.inl h
  · right; refine ⟨h.1, ?_⟩
    have := h.2
    show (rc _ _).1 ≤ _
    omega

theorem ret_rep {a : Int} {x : ByteArray} {r : Int × ByteArray} (h1 : r = (a, x)) : Ending.returned (.tuple #[.int .i64 a, .string x]) = .returned (.tuple #[.int .i64 r.1, .string r.2]) := by subst h1; rfl

theorem nx_yes (s : ByteArray) (k : Nat) (h : bt s k = 63) : nx s k = k + 1 := by unfold nx; rw [if_pos h]
theorem nx_no (s : ByteArray) (k : Nat) (h : ¬ bt s k = 63) : nx s k = k := by unfold nx; rw [if_neg h]

set_option maxHeartbeats 1000000 in
theorem rep_any (s : ByteArray) (iI : Int) (d : Addr) (w : World) (hs : s.size ≤ 1500000) (h0 : 0 ≤ iI) (hi : iI < s.size) (hd : w.cell? d = some (.string s)) :
    Calls Try.prog 21 #[.pointer (some d), .int .i64 iI] w fun e w' => e = .returned (.tuple #[.int .i64 (rep s iI.toNat).1, .string (rep s iI.toNat).2]) ∧ Grown w w' := by
  obtain ⟨i, rfl⟩ := Int.eq_ofNat_of_zero_le h0
  rw [Int.toNat_natCast]
  have hi' : i < s.size := by omega
  by_cases hb : (s[i].toNat : Int) = 123
  · have hbb : ((s[i].toNat : Int) == 123) = true := by simpa using hb
    have HB : Hid (bt s i = 123) := by show bt s i = 123; rw [bt_in s i hi']; omega
    clear hb
    go_enter Try.func21, Try.ntmps21
    go_wp2_with fail
    have hsz : (s.extract i s.size).size ≤ 2000000 := by rw [ByteArray.size_extract]; omega
    refine (count_any (s.extract i s.size) w hsz).mono ?_
    rintro e w1 ⟨rfl, hg⟩
    rw [cnt_eq]
    have hbd := cnt_bounds s i (by omega)
    have HR : Hid (rep s i = if (cnt s i).1 < 0 then (0, { data := #[123] }) else if (cnt s i).2 = true then (0, s.extract i (i + (cnt s i).1.toNat)) else (((nx s (i + (cnt s i).1.toNat) : Nat) : Int), ({ data := #[] } : ByteArray))) := by
      show rep s i = _
      unfold rep; rw [if_pos HB.out]
    clear hsz hd HB
    generalize cnt s i = r at *
    obtain ⟨L, z⟩ := r
    simp only at hbd HR ⊢
    rcases hbd with hbd | ⟨hb1, hb2⟩
    · obtain ⟨rfl, rfl⟩ : L = -1 ∧ z = false := by simpa using hbd
      clear hbd
      go_wp2_with fail
      go_ret2
      exact ⟨ret_rep (HR.out.trans (if_pos (by omega))), hg⟩
    · obtain ⟨m, rfl⟩ := Int.eq_ofNat_of_zero_le (show 0 ≤ L by omega)
      have him : i + m ≤ s.size := by omega
      have HR2 : Hid (rep s i = if z = true then (0, s.extract i (i + m)) else (((nx s (i + m) : Nat) : Int), ({ data := #[] } : ByteArray))) := by
        refine HR.out.trans ?_
        rw [if_neg (by omega), Int.toNat_natCast]
      clear HR
      cases z with
      | true =>
        go_wp2_with fail
        go_quiet (fail)
        go_wp2_with fail
        go_ret2
        exact ⟨ret_rep (HR2.out.trans (if_pos (by simp))), grown_drewN hg _⟩
      | false =>
        have HR : Hid (rep s i = (((nx s (i + m) : Nat) : Int), ({ data := #[] } : ByteArray))) := HR2.out.trans (if_neg (by simp))
        clear HR2
        by_cases hlt : i + m < s.size
        · by_cases hq : (s[i + m].toNat : Int) = 63
          · have hqb : ((s[i + m].toNat : Int) == 63) = true := by simpa using hq
            have HQ : Hid (bt s (i + m) = 63) := by show bt s _ = 63; rw [bt_in s _ hlt]; omega
            clear hq
            go_wp2_with fail
            go_ret2
            exact ⟨ret_rep (HR.out.trans (by rw [nx_yes s _ HQ.out]; push_cast; rfl)), hg⟩
          · have hqb : ((s[i + m].toNat : Int) == 63) = false := by simpa using hq
            go_wp2_with fail
            go_ret2
            exact ⟨ret_rep (HR.out.trans (by rw [nx_no s _ (by rw [bt_in s _ hlt]; omega)]; push_cast; rfl)), hg⟩
        · go_wp2_with fail
          go_ret2
          exact ⟨ret_rep (HR.out.trans (by rw [nx_no s _ (by rw [bt_out s _ (by omega)]; omega)]; push_cast; rfl)), hg⟩
  · have hbb : ((s[i].toNat : Int) == 123) = false := by simpa using hb
    have HR : Hid (rep s i = (((nx s (i + 1) : Nat) : Int), ({ data := #[] } : ByteArray))) := by
      show rep s i = _
      unfold rep; rw [if_neg (by rw [bt_in s i hi']; omega)]
    by_cases hlt : i + 1 < s.size
    · by_cases hq : (s[i + 1].toNat : Int) = 63
      · have hqb : ((s[i + 1].toNat : Int) == 63) = true := by simpa using hq
        have HQ : Hid (bt s (i + 1) = 63) := by show bt s _ = 63; rw [bt_in s _ hlt]; omega
        clear hq
        go_enter Try.func21, Try.ntmps21
        go_wp2_with fail
        go_ret2
        exact ⟨ret_rep (HR.out.trans (by rw [nx_yes s _ HQ.out]; push_cast; rfl)), Grown.refl _⟩
      · have hqb : ((s[i + 1].toNat : Int) == 63) = false := by simpa using hq
        go_enter Try.func21, Try.ntmps21
        go_wp2_with fail
        go_ret2
        exact ⟨ret_rep (HR.out.trans (by rw [nx_no s _ (by rw [bt_in s _ hlt]; omega)]; push_cast; rfl)), Grown.refl _⟩
    · go_enter Try.func21, Try.ntmps21
      go_wp2_with fail
      go_ret2
      exact ⟨ret_rep (HR.out.trans (by rw [nx_no s _ (by rw [bt_out s _ (by omega)]; omega)]; push_cast; rfl)), Grown.refl _⟩

theorem zzrep_any (s : ByteArray) (iI : Int) (w : World) (hs : s.size ≤ 1500000) (h0 : 0 ≤ iI) (hi : iI < s.size) :
    Calls Try.prog 15 #[.string s, .int .i64 iI] w fun e w' => e = .returned (.tuple #[.int .i64 (rep s iI.toNat).1, .string (rep s iI.toNat).2]) ∧ Grown w w' := by
  go_enter Try.func15, Try.ntmps15
  go_wp2_with fail
  refine (rep_any s iI ⟨w.heap.size, 0, none⟩ _ hs h0 hi (by go_simp)).mono ?_
  rintro e w1 ⟨rfl, hg⟩
  have hg' : Grown w w1 := grown_trans ((Grown.refl w).alloc _ _) hg
  go_wp2_with fail
  go_ret2
  exact ⟨rfl, hg'⟩

set_option maxHeartbeats 1000000 in
theorem prefix_yes (a p : ByteArray) (w : World) (ha : a.size ≤ 1500000) (hp : p.size ≤ a.size) (h : ∀ k (h1 : k < p.size) (h2 : k < a.size), a[k] = p[k]) :
    Calls Try.prog 16 #[.string a, .string p] w fun e w' => e = .returned (.bool true) ∧ Grown w w' := by
  have H : Hid (∀ k (h1 : k < p.size) (h2 : k < a.size), a[k] = p[k]) := h
  clear h
  go_enter Try.func16, Try.ntmps16
  go_wp2
  go_loopw [5] (fun i wr => ∃ k : Nat, k ≤ p.size ∧ i = .int .i64 k ∧ Grown w wr) (fun i _ => p.size - (intOf i).toNat)
  case atStart => exact ⟨0, Nat.zero_le _, rfl, Grown.refl _⟩
  case round =>
    obtain ⟨k, hk, rfl, hg⟩ := hrel
    by_cases hlt : k < p.size
    · have hlt2 : k < a.size := by omega
      have hlt3 : (k : Int) < a.size := by omega
      have hlt4 : (k : Int) < p.size := by omega
      have he : ((a[k].toNat : Int) != (p[k].toNat : Int)) = false := by rw [H.out k hlt hlt2]; simp
      go_wp2_with fail
      go_quiet (fail)
      go_wp2_with fail
      go_roundw
      case rel => exact ⟨k + 1, by omega, by go_num, grown_drewN hg _⟩
      case measure => simp [intOf]; omega
    · go_wp2
      go_ret
      exact ⟨rfl, hg⟩
end Go.Proofs.Qxb6003644a
