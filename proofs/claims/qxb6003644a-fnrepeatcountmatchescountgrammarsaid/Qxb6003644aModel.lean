import Derived.Test.Qxb6003644aCount
import Derived.Test.Qxb6003644aPlain3
namespace Go.Proofs.Qxb6003644a
open Go.RowKit Plain

theorem isD_at (x : ByteArray) (k : Nat) (h : k < x.size) : IsD (bt x k) ↔ (48 ≤ (x[k].toNat : Int) ∧ (x[k].toNat : Int) ≤ 57) := by
  unfold IsD; rw [bt_in x k h]; omega

theorem zzIsDigit_yes (c : Int) (w : World) (h1 : 48 ≤ c) (h2 : c ≤ 57) : Calls Try.prog 13 #[.int .u8 c] w fun e w' => e = .returned (.bool true) ∧ w' = w := by
  go_enter Try.func13, Try.ntmps13
  go_wp2
  go_ret
  exact ⟨rfl, rfl⟩
theorem zzIsDigit_no (c : Int) (w : World) (h : c < 48 ∨ 57 < c) : Calls Try.prog 13 #[.int .u8 c] w fun e w' => e = .returned (.bool false) ∧ w' = w := by
  by_cases h1 : 48 ≤ c
  · have h2 : ¬ c ≤ 57 := by omega
    clear h
    go_enter Try.func13, Try.ntmps13
    go_wp2
    go_ret
    exact ⟨rfl, rfl⟩
  · clear h
    go_enter Try.func13, Try.ntmps13
    go_wp2
    go_ret
    exact ⟨rfl, rfl⟩

set_option maxHeartbeats 1000000 in
theorem allDigits_yes (x : ByteArray) (w : World) (hx : x.size ≤ 2000000) (h : Hid (∀ k, k < x.size → IsD (bt x k))) :
    Calls Try.prog 19 #[.string x] w fun e w' => e = .returned (.bool true) ∧ w' = w := by
  go_enter Try.func19, Try.ntmps19
  go_wp2
  go_loop [3] (fun i => ∃ k : Nat, k ≤ x.size ∧ i = .int .i64 k) (fun i => x.size - (intOf i).toNat)
  case atStart => exact ⟨0, Nat.zero_le _, rfl⟩
  case round =>
    obtain ⟨k, hk, rfl⟩ := hrel
    by_cases hlt : k < x.size
    · obtain ⟨g1, g2⟩ := (isD_at x k hlt).1 (h.out k hlt)
      go_wp2
      go_round
      case rel => exact ⟨k + 1, by omega, by go_num⟩
      case measure => simp [intOf]; omega
    · go_wp2
      go_ret
      exact ⟨rfl, rfl⟩

set_option maxHeartbeats 1000000 in
theorem allDigits_no (x : ByteArray) (w : World) (hx : x.size ≤ 2000000) (p : Nat) (hp : p < x.size) (h : ¬ IsD (bt x p)) :
    Calls Try.prog 19 #[.string x] w fun e w' => e = .returned (.bool false) ∧ w' = w := by
  have H : Hid (¬ IsD (bt x p)) := h
  clear h
  go_enter Try.func19, Try.ntmps19
  go_wp2
  go_loop [3] (fun i => ∃ k : Nat, k ≤ p ∧ i = .int .i64 k) (fun i => x.size - (intOf i).toNat)
  case atStart => exact ⟨0, Nat.zero_le _, rfl⟩
  case round =>
    obtain ⟨k, hk, rfl⟩ := hrel
    have hlt : k < x.size := by omega
    rcases (show (48 ≤ (x[k].toNat : Int) ∧ (x[k].toNat : Int) ≤ 57) ∨ ((x[k].toNat : Int) < 48 ∨ 57 < (x[k].toNat : Int)) from by omega) with hdig | hno
    · have hne : k ≠ p := by
        intro e; subst e; exact H.out ((isD_at x k hlt).2 hdig)
      have hkp : k < p := by omega
      clear hne
      obtain ⟨g1, g2⟩ := hdig
      go_wp2_with (go_at_call 13; refine (zzIsDigit_yes _ _ g1 g2).mono ?_; rintro e w' ⟨rfl, rfl⟩)
      go_round
      case rel => exact ⟨k + 1, by omega, by go_num⟩
      case measure => simp [intOf]; omega
    · go_wp2_with (go_at_call 13; refine (zzIsDigit_no _ _ hno).mono ?_; rintro e w' ⟨rfl, rfl⟩)
      go_ret
      exact ⟨rfl, rfl⟩

def zl (x : ByteArray) : Bool := decide (1 < x.size ∧ bt x 0 = 48)

set_option maxHeartbeats 1000000 in
theorem zeroLed_any (x : ByteArray) (w : World) (hx : x.size ≤ 2000000) :
    Calls Try.prog 20 #[.string x] w fun e w' => e = .returned (.bool (zl x)) ∧ w' = w := by
  by_cases h1 : 1 < x.size
  · by_cases h2 : (x[0].toNat : Int) = 48
    · have e : zl x = true := by unfold zl; rw [bt_in x 0 (by omega)]; simp; omega
      have hb : ((x[0].toNat : Int) == 48) = true := by simpa using h2
      rw [e]; clear e h2
      go_enter Try.func20, Try.ntmps20
      go_wp2
      go_ret
      exact ⟨rfl, rfl⟩
    · have e : zl x = false := by unfold zl; rw [bt_in x 0 (by omega)]; simp; omega
      have hb : ((x[0].toNat : Int) == 48) = false := by simpa using h2
      rw [e]; clear e h2
      go_enter Try.func20, Try.ntmps20
      go_wp2
      go_ret
      exact ⟨rfl, rfl⟩
  · have e : zl x = false := by unfold zl; simp; omega
    rw [e]; clear e
    go_enter Try.func20, Try.ntmps20
    go_wp2
    go_ret
    exact ⟨rfl, rfl⟩

theorem isEmpty_no' (b : ByteArray) (h : 0 < b.size) : b.toList.isEmpty = false := by
  rw [ByteArray.toList_eq]
  have h1 : b.data.toList.length = b.size := by cases b; rfl
  cases h2 : b.data.toList with
  | nil => rw [h2] at h1; simp at h1; omega
  | cons x xs => rfl
theorem isEmpty_yes (b : ByteArray) (h : b.size = 0) : b.toList.isEmpty = true := by
  rw [ByteArray.toList_eq]
  have h1 : b.data.toList.length = b.size := by cases b; rfl
  cases h2 : b.data.toList with
  | nil => rfl
  | cons x xs => rw [h2] at h1; simp at h1; omega

set_option maxHeartbeats 2000000 in
theorem model_any (s : ByteArray) (w : World) (hs : s.size ≤ 1500000) (h0 : 0 < s.size) :
    Calls Try.prog 10 #[.string s] w fun e w' => e = .returned (.tuple #[.int .i64 (rc (bt s) s.size).1, .bool (rc (bt s) s.size).2]) ∧ w' = w := by
  go_enter Try.func10, Try.ntmps10
  go_wp2_with fail
  go_loop [4, 5] (fun j i => ∃ k : Nat, 1 ≤ k ∧ k ≤ s.size ∧ i = .int .i64 k ∧ j = .int .i64 (-1) ∧ Hid (∀ x, 1 ≤ x → x < k → bt s x ≠ 125)) (fun _ i => s.size - (intOf i).toNat)
  case atStart => exact ⟨1, Nat.le_refl _, h0, rfl, rfl, fun x h1 h2 => by omega⟩
  case round =>
    obtain ⟨j, hj1, hj2, rfl, rfl, hno⟩ := hrel
    by_cases hlt : j < s.size
    · by_cases hb : (s[j].toNat : Int) = 125
      · have hbb : ((s[j].toNat : Int) == 125) = true := by simpa using hb
        have HB : Hid (bt s j = 125) := by show bt s j = 125; rw [bt_in s j hlt]; omega
        clear hb
        go_wp2_with fail
        have hBs : (s.extract 1 j).size = j - 1 := by rw [ByteArray.size_extract]; omega
        have hBx : ∀ x, x < (s.extract 1 j).size → bt (s.extract 1 j) x = bt s (1 + x) := fun x hx => bt_extract _ _ _ _ (by omega)
        generalize s.extract 1 j = B at *
        have HBx : Hid (∀ x, x < B.size → bt B x = bt s (1 + x)) := hBx
        have hBs1 : B.size + 1 ≤ j := by omega
        have hBs2 : j ≤ B.size + 1 := by omega
        clear hBx hBs
        go_loop [7, 8] (fun c i => ∃ k : Nat, k ≤ B.size ∧ i = .int .i64 k ∧ c = .int .i64 (-1) ∧ Hid (∀ x, x < k → bt B x ≠ 44)) (fun _ i => B.size - (intOf i).toNat)
        case atStart => exact ⟨0, Nat.zero_le _, rfl, rfl, fun x hx => by omega⟩
        case round =>
          obtain ⟨k, hk, rfl, rfl, hnc⟩ := hrel
          by_cases hkl : k < B.size
          · by_cases hc : (B[k].toNat : Int) = 44
            · have hcb : ((B[k].toNat : Int) == 44) = true := by simpa using hc
              have HC : Hid (bt B k = 44) := by show bt B k = 44; rw [bt_in B k hkl]; omega
              clear hc
              have hFs : (B.extract 0 k).size = k := by rw [ByteArray.size_extract]; omega
              have hGs : (B.extract (k + 1) B.size).size = B.size - (k + 1) := by rw [ByteArray.size_extract]; omega
              have hFx : ∀ x, x < k → bt (B.extract 0 k) x = bt B x := fun x hx => by rw [bt_extract _ _ _ _ (by omega), Nat.zero_add]
              have hGx : ∀ x, bt (B.extract (k + 1) B.size) x = bt B (k + 1 + x) := fun x => bt_extract_end _ _ _
              have HBD := HB.out
              have HCD := HC.out
              have hBd := HBx.out
              have hcm : bt s (1 + k) = 44 := by rw [← hBd k hkl]; exact HCD
              have hne : ∀ x, 1 ≤ x → x < 1 + k → bt s x ≠ 125 ∧ bt s x ≠ 44 := by
                intro x h1 h2
                refine ⟨hno.out x h1 (by omega), ?_⟩
                have := hnc.out (x - 1) (by omega)
                rw [hBd _ (by omega), show 1 + (x - 1) = x by omega] at this
                exact this
              have HE0 : Hid (k = 0 → rc (bt s) s.size = (-1, false)) := fun h => by
                subst h
                exact rc_empty _ _ (by rw [show (1 : Nat) = 1 + 0 from rfl, hcm]; unfold IsD; omega)
              have HE1 : Hid ((∃ x, x < k ∧ ¬ IsD (bt (B.extract 0 k) x)) → rc (bt s) s.size = (-1, false)) := fun ⟨x, hx, hd⟩ => by
                rw [hFx x hx, hBd x (by omega)] at hd
                exact rc_bad1 _ _ (1 + k) hne ⟨1 + x, by omega, by omega, hd⟩
              have dg : (∀ x, x < k → IsD (bt (B.extract 0 k) x)) → ∀ x, 1 ≤ x → x < 1 + k → IsD (bt s x) := fun hd x h1 h2 => by
                have := hd (x - 1) (by omega)
                rw [hFx _ (by omega), hBd _ (by omega), show 1 + (x - 1) = x by omega] at this
                exact this
              have HE2 : Hid ((∀ x, x < k → IsD (bt (B.extract 0 k) x)) → (∃ x, x < B.size - (k + 1) ∧ ¬ IsD (bt (B.extract (k + 1) B.size) x)) → rc (bt s) s.size = (-1, false)) := fun h1 ⟨x, hx, hd⟩ => by
                rw [hGx, hBd _ (by omega)] at hd
                exact rc_bad2 _ _ (1 + k) j (txt_bt s) (by omega) hcm (dg h1) hno.out ⟨1 + (k + 1 + x), by omega, by omega, hd⟩
              have HE3 : Hid (0 < k → (∀ x, x < k → IsD (bt (B.extract 0 k) x)) → (∀ x, x < B.size - (k + 1) → IsD (bt (B.extract (k + 1) B.size) x)) → rc (bt s) s.size = ((j : Int) + 1, zl (B.extract 0 k) || zl (B.extract (k + 1) B.size))) := fun h0 h1 h2 => by
                rw [rc_good2 (bt s) s.size (1 + k) j (txt_bt s) (by omega) (by omega) hcm HBD (dg h1) (fun x g1 g2 => by
                  have := h2 (x - (1 + k + 1)) (by omega)
                  rw [hGx, hBd _ (by omega), show 1 + (k + 1 + (x - (1 + k + 1))) = x by omega] at this
                  exact this)]
                unfold zl
                rw [hFs, hGs, hFx 0 h0, hBd 0 (by omega), hGx 0]
                rw [show decide (1 < k ∧ bt s (1 + 0) = 48) = decide (2 < 1 + k ∧ bt s 1 = 48) from decide_eq_decide.2 ⟨fun ⟨a, b⟩ => ⟨by omega, b⟩, fun ⟨a, b⟩ => ⟨by omega, b⟩⟩]
                by_cases hz : k + 1 < B.size
                · rw [hBd _ (by omega), show 1 + (k + 1 + 0) = 1 + k + 1 by omega]
                  rw [show decide (1 < B.size - (k + 1) ∧ bt s (1 + k + 1) = 48) = decide (1 + k + 2 < j ∧ bt s (1 + k + 1) = 48) from decide_eq_decide.2 ⟨fun ⟨a, b⟩ => ⟨by omega, b⟩, fun ⟨a, b⟩ => ⟨by omega, b⟩⟩]
                · rw [show decide (1 + k + 2 < j ∧ bt s (1 + k + 1) = 48) = false by simp; omega, show decide (1 < B.size - (k + 1) ∧ bt B (k + 1 + 0) = 48) = false by simp; omega]
              have HFS : Hid ((B.extract 0 k).size = k) := hFs
              have HGS : Hid ((B.extract (k + 1) B.size).size = B.size - (k + 1)) := hGs
              have hFb : (B.extract 0 k).size ≤ 2000000 := by omega
              have hGb : (B.extract (k + 1) B.size).size ≤ 2000000 := by omega
              clear hne hBd HBD HCD hno hnc HBx HB HC hcm dg hFx hGx hFs hGs
              by_cases hF0 : k = 0
              · have hFe := isEmpty_yes (B.extract 0 k) (by rw [HFS.out]; exact hF0)
                have HEE : Hid (rc (bt s) s.size = (-1, false)) := HE0.out hF0
                clear hF0
                go_wp2_with fail
                go_ret2
                exact ⟨ret_count HEE.out rfl rfl, rfl⟩
              have hFe := isEmpty_no' (B.extract 0 k) (by rw [HFS.out]; omega)
              by_cases hFd : ∀ x, x < k → IsD (bt (B.extract 0 k) x)
              · have HFd : Hid (∀ x, x < k → IsD (bt (B.extract 0 k) x)) := hFd
                clear hFd
                go_wp2_with fail
                refine (allDigits_yes (B.extract 0 k) _ hFb (by show ∀ _, _; rw [HFS.out]; exact HFd.out)).mono ?_
                rintro e w' ⟨rfl, rfl⟩
                by_cases hGd : ∀ x, x < B.size - (k + 1) → IsD (bt (B.extract (k + 1) B.size) x)
                · have HGd : Hid (∀ x, x < B.size - (k + 1) → IsD (bt (B.extract (k + 1) B.size) x)) := hGd
                  clear hGd
                  have HEE : Hid (rc (bt s) s.size = ((j : Int) + 1, zl (B.extract 0 k) || zl (B.extract (k + 1) B.size))) := HE3.out (by omega) HFd.out HGd.out
                  go_wp2_with fail
                  refine (allDigits_yes (B.extract (k + 1) B.size) _ hGb (by show ∀ _, _; rw [HGS.out]; exact HGd.out)).mono ?_
                  rintro e w' ⟨rfl, rfl⟩
                  go_wp2_with fail
                  refine (zeroLed_any (B.extract 0 k) _ hFb).mono ?_
                  rintro e w' ⟨rfl, rfl⟩
                  generalize zl (B.extract 0 k) = z1 at *
                  cases z1 with
                  | true =>
                    go_wp2_with fail
                    go_ret2
                    exact ⟨ret_count HEE.out rfl rfl, rfl⟩
                  | false =>
                    go_wp2_with fail
                    refine (zeroLed_any (B.extract (k + 1) B.size) _ hGb).mono ?_
                    rintro e w' ⟨rfl, rfl⟩
                    generalize zl (B.extract (k + 1) B.size) = z2 at *
                    go_wp2_with fail
                    go_ret2
                    exact ⟨ret_count HEE.out rfl rfl, rfl⟩
                · obtain ⟨q, hq⟩ := Classical.not_forall.1 hGd
                  obtain ⟨hq1, hq2⟩ := Classical.not_imp.1 hq
                  have HEE : Hid (rc (bt s) s.size = (-1, false)) := HE2.out HFd.out ⟨q, hq1, hq2⟩
                  have HQ2 : Hid (¬ IsD (bt (B.extract (k + 1) B.size) q)) := hq2
                  clear hGd hq hq2
                  go_wp2_with fail
                  refine (allDigits_no (B.extract (k + 1) B.size) _ hGb q (by rw [HGS.out]; exact hq1) HQ2.out).mono ?_
                  rintro e w' ⟨rfl, rfl⟩
                  go_wp2_with fail
                  go_ret2
                  exact ⟨ret_count HEE.out rfl rfl, rfl⟩
              · obtain ⟨q, hq⟩ := Classical.not_forall.1 hFd
                obtain ⟨hq1, hq2⟩ := Classical.not_imp.1 hq
                have HEE : Hid (rc (bt s) s.size = (-1, false)) := HE1.out ⟨q, hq1, hq2⟩
                have HQ2 : Hid (¬ IsD (bt (B.extract 0 k) q)) := hq2
                clear hFd hq hq2
                go_wp2_with fail
                refine (allDigits_no (B.extract 0 k) _ hFb q (by rw [HFS.out]; exact hq1) HQ2.out).mono ?_
                rintro e w' ⟨rfl, rfl⟩
                go_wp2_with fail
                go_ret2
                exact ⟨ret_count HEE.out rfl rfl, rfl⟩
            · have hcb : ((B[k].toNat : Int) == 44) = false := by simpa using hc
              go_wp2_with fail
              go_round
              case rel => exact ⟨k + 1, by omega, by go_num, rfl, fun x hx => by
                  by_cases e : x = k
                  · subst e; rw [bt_in B x hkl]; omega
                  · exact hnc.out x (by omega)⟩
              case measure => simp [intOf]; omega
          · have hne : ∀ x, 1 ≤ x → x < j → bt s x ≠ 125 ∧ bt s x ≠ 44 := by
              intro x h1 h2
              refine ⟨hno.out x h1 h2, ?_⟩
              have := hnc.out (x - 1) (by omega)
              rw [HBx.out _ (by omega), show 1 + (x - 1) = x by omega] at this
              exact this
            have hBd : ∀ x, x < B.size → bt B x = bt s (1 + x) := HBx.out
            have HBD := HB.out
            have HE0 : Hid (B.size = 0 → rc (bt s) s.size = (-1, false)) := fun h => by
              obtain rfl : j = 1 := by omega
              exact rc_empty _ _ (by rw [HBD]; unfold IsD; omega)
            have HE1 : Hid ((∃ x, x < B.size ∧ ¬ IsD (bt B x)) → rc (bt s) s.size = (-1, false)) := fun ⟨x, hx, hd⟩ => by
              rw [hBd x hx] at hd
              exact rc_bad1 _ _ j hne ⟨1 + x, by omega, by omega, hd⟩
            have HE3 : Hid (0 < B.size → (∀ x, x < B.size → IsD (bt B x)) → rc (bt s) s.size = ((j : Int) + 1, zl B)) := fun h0 hd => by
              rw [rc_good1 (bt s) s.size j (txt_bt s) (by omega) HBD (fun x h1 h2 => by
                have := hd (x - 1) (by omega)
                rw [hBd _ (by omega), show 1 + (x - 1) = x by omega] at this
                exact this)]
              unfold zl
              rw [hBd 0 h0, show decide (1 < B.size ∧ bt s (1 + 0) = 48) = decide (2 < j ∧ bt s 1 = 48) from decide_eq_decide.2 ⟨fun ⟨a, b⟩ => ⟨by omega, b⟩, fun ⟨a, b⟩ => ⟨by omega, b⟩⟩]
            clear hne hBd HBD hno hnc HBx HB
            by_cases hF0 : B.size = 0
            · have hFe := isEmpty_yes B hF0
              have HEE : Hid (rc (bt s) s.size = (-1, false)) := HE0.out hF0
              go_wp2_with fail
              go_ret2
              exact ⟨ret_count HEE.out rfl rfl, rfl⟩
            have hFe := isEmpty_no' B (by omega)
            by_cases hFd : ∀ x, x < B.size → IsD (bt B x)
            · have HFd : Hid (∀ x, x < B.size → IsD (bt B x)) := hFd
              clear hFd
              have HEE : Hid (rc (bt s) s.size = ((j : Int) + 1, zl B)) := HE3.out (by omega) HFd.out
              go_wp2_with fail
              refine (allDigits_yes B _ (by omega) HFd).mono ?_
              rintro e w' ⟨rfl, rfl⟩
              go_wp2_with fail
              refine (allDigits_yes { data := #[] } _ (by decide) (fun x hx => absurd hx (Nat.not_lt_zero x))).mono ?_
              rintro e w' ⟨rfl, rfl⟩
              go_wp2_with fail
              refine (zeroLed_any B _ (by omega)).mono ?_
              rintro e w' ⟨rfl, rfl⟩
              generalize zl B = z1 at *
              cases z1 with
              | true =>
                go_wp2_with fail
                go_ret2
                exact ⟨ret_count HEE.out rfl rfl, rfl⟩
              | false =>
                go_wp2_with fail
                refine (zeroLed_any { data := #[] } _ (by decide)).mono ?_
                rintro e w' ⟨rfl, rfl⟩
                rw [show zl { data := #[] } = false from rfl]
                go_wp2_with fail
                go_ret2
                exact ⟨ret_count HEE.out rfl rfl, rfl⟩
            · obtain ⟨q, hq⟩ := Classical.not_forall.1 hFd
              obtain ⟨hq1, hq2⟩ := Classical.not_imp.1 hq
              have HEE : Hid (rc (bt s) s.size = (-1, false)) := HE1.out ⟨q, hq1, hq2⟩
              have HQ2 : Hid (¬ IsD (bt B q)) := hq2
              clear hFd hq hq2
              go_wp2_with fail
              refine (allDigits_no B _ (by omega) q hq1 HQ2.out).mono ?_
              rintro e w' ⟨rfl, rfl⟩
              go_wp2_with fail
              go_ret2
              exact ⟨ret_count HEE.out rfl rfl, rfl⟩
      · have hbb : ((s[j].toNat : Int) == 125) = false := by simpa using hb
        go_wp2_with fail
        go_round
        case rel => exact ⟨j + 1, by omega, by omega, by go_num, rfl, fun x h1 h2 => by
            by_cases e : x = j
            · subst e; rw [bt_in s x hlt]; omega
            · exact hno.out x h1 (by omega)⟩
        case measure => simp [intOf]; omega
    · have HE : Hid (rc (bt s) s.size = (-1, false)) := rc_nobrace _ _ (txt_bt s) (fun x h1 h2 => hno.out x h1 (by omega))
      go_wp2_with fail
      go_ret2
      exact ⟨ret_count HE.out rfl rfl, rfl⟩
end Go.Proofs.Qxb6003644a
