import Derived.Test.Qxb6003659aBytes
namespace Go.Proofs.Qxb6003659a
open Go.RowKit

/-- What the law reads at place i: the bytes, then spaces. -/
def at_ (zs : List Int) (i : Nat) : Int := if i < zs.length then zs.getD i 0 else 32
theorem at_app (zs : List Int) (k i : Nat) (h : i < zs.length + k) : (zs ++ List.replicate k 32).getD i 0 = at_ zs i := by
  unfold at_
  by_cases hi : i < zs.length
  · rw [if_pos hi, List.getD_eq_getElem?_getD, List.getElem?_append_left hi, ← List.getD_eq_getElem?_getD]
  · rw [if_neg hi, List.getD_eq_getElem?_getD, List.getElem?_append_right (by omega), List.getElem?_replicate, if_pos (by omega)]; rfl
theorem at_in (zs : List Int) (i : Nat) (h : i < zs.length) : at_ zs i = zs.getD i 0 := by unfold at_; rw [if_pos h]
theorem at_out (zs : List Int) (i : Nat) (h : ¬ i < zs.length) : at_ zs i = 32 := by unfold at_; rw [if_neg h]
theorem map_app (zs : List Int) (k : Nat) : zs.map (Value.int .u8) ++ List.replicate k (Value.int .u8 32) = (zs ++ List.replicate k 32).map (Value.int .u8) := by
  rw [List.map_append, List.map_replicate]

theorem zzspaces_k (v : Value) (m : Int) (k base n : Nat) (xs : List Value) (w : World) (hk : m.toNat = k) (hm : m ≤ 2000000) (hn : n ≤ 2000000) (hbase : base ≤ w.heap.size) (hown : w.ownsRow base 5 1 v n xs) :
    Calls Try.prog 8 #[v, .int .i64 m] w fun e w' => ∃ v', e = .returned v' ∧ w'.ownsRow base 5 1 v' (n + k) (xs ++ List.replicate k (.int .u8 32)) ∧ Below base w w' := by
  subst hk; exact zzspaces_any v m base n xs w hm hn hbase hown

/-- What is read of a slice that reads as the bytes zs and k spaces. -/
theorem reads_sp {w : World} {v : Value} {zs : List Int} {k : Nat} (h : Reads w v (zs ++ List.replicate k 32)) :
    ∃ a cap L, v = .slice a L cap ∧ L ≤ zs.length + k ∧ zs.length + k ≤ L ∧ ∀ i, i < zs.length + k → ∃ b off, a = some ⟨b, off, none⟩ ∧ w.cell? ⟨b, off + i, none⟩ = some (.int .u8 (at_ zs i)) := by
  obtain ⟨a, cap, rfl, h1, h2⟩ := h
  have hl : (zs ++ List.replicate k 32).length = zs.length + k := by rw [List.length_append, List.length_replicate]
  refine ⟨a, cap, _, rfl, by omega, by omega, fun i hi => ?_⟩
  cases a with
  | none => have := (h1 rfl).1; omega
  | some x =>
    obtain ⟨b, off, rfl, _, h4⟩ := h2 x rfl (by omega)
    exact ⟨b, off, rfl, by rw [h4 i (by omega), at_app zs k i hi]⟩
theorem reads_plain {w : World} {v : Value} {zs : List Int} (h : Reads w v zs) :
    ∃ a cap, v = .slice a zs.length cap ∧ ∀ i, i < zs.length → ∃ b off, a = some ⟨b, off, none⟩ ∧ w.cell? ⟨b, off + i, none⟩ = some (.int .u8 (at_ zs i)) := by
  obtain ⟨a, cap, rfl, h1, h2⟩ := h
  refine ⟨a, cap, rfl, fun i hi => ?_⟩
  cases a with
  | none => have := (h1 rfl).1; omega
  | some x =>
    obtain ⟨b, off, rfl, _, h4⟩ := h2 x rfl (by omega)
    exact ⟨b, off, rfl, by rw [h4 i hi, at_in zs i hi]⟩

set_option maxHeartbeats 2000000 in
theorem spaces_law (v : Value) (zs : List Int) (m n : Int) (w : World) (hz : Reads w v zs) :
    Calls Try.prog 3 #[v, .int .i64 m, .int .i64 n] w fun e w' => e = .returned (.bool true) ∧ Below w.heap.size w w' := by
  have hz0 := hz
  obtain ⟨a, cap, rfl, h1, h2⟩ := hz0
  clear h1 h2
  by_cases hbig : 1048576 < zs.length
  · go_enter Try.func3, Try.ntmps3
    go_wp2
    go_ret
    exact ⟨rfl, Below.refl _ _⟩
  by_cases hm : 65536 < m
  · go_enter Try.func3, Try.ntmps3
    go_wp2
    go_ret
    exact ⟨rfl, Below.refl _ _⟩
  by_cases hn : 65536 < n
  · go_enter Try.func3, Try.ntmps3
    go_wp2
    go_ret
    exact ⟨rfl, Below.refl _ _⟩
  go_enter Try.func3, Try.ntmps3
  go_wp2_with (go_at_call 6; go_in)
  refine (clone_any _ zs w (by omega) hz).mono ?_
  rintro e w1 ⟨b, rfl, ho1, hb1⟩
  have HRb : Hid (Reads w1 b zs) := reads_of_owns ho1
  clear ho1
  by_cases hm0 : m < 0 <;> by_cases hn0 : n < 0
  all_goals
    go_wp2_with fail
    refine (clone_any b zs w1 (by omega) HRb.out).mono ?_
    rintro e w2 ⟨c, rfl, ho2, hb2⟩
    go_wp2_with fail
    refine (zzspaces_k c m m.toNat w1.heap.size zs.length _ w2 rfl (by omega) (by omega) hb2.size ho2).mono ?_
    rintro e w3 ⟨d, rfl, ho3, hb3⟩
    go_wp2_with fail
    refine (zzspaces_k d n n.toNat w1.heap.size _ _ w3 rfl (by omega) (by omega) (Nat.le_trans hb2.size hb3.size) ho3).mono ?_
    rintro e w4 ⟨t, rfl, ho4, hb4⟩
    have hb14 : Below w1.heap.size w1 w4 := (hb2.trans hb3).trans hb4
    have HR4 : Hid (Reads w4 b zs) := reads_below HRb.out hb14
    have HT4 : Hid (Reads w4 t (zs ++ List.replicate (m.toNat + n.toNat) 32)) := by
      refine reads_of_owns (base := w1.heap.size) ?_
      rw [← map_app, List.length_append, List.length_replicate, ← List.replicate_append_replicate, ← List.append_assoc, ← Nat.add_assoc]
      exact ho4
    clear ho2 ho3 ho4 hb2 hb3 hb4
    go_wp2_with fail
    refine (clone_any b zs w4 (by omega) HR4.out).mono ?_
    rintro e w5 ⟨c2, rfl, ho5, hb5⟩
    go_wp2_with fail
    refine (zzspaces_k c2 _ (m.toNat + n.toNat) w4.heap.size zs.length _ w5 (by omega) (by omega) (by omega) hb5.size ho5).mono ?_
    rintro e w6 ⟨o, rfl, ho6, hb6⟩
    have hb46 : Below w4.heap.size w4 w6 := hb5.trans hb6
    have hbel : Below w.heap.size w w6 := (hb1.trans (hb14.mono hb1.size)).trans (hb46.mono (Nat.le_trans hb1.size hb14.size))
    have HO6 : Hid (Reads w6 o (zs ++ List.replicate (m.toNat + n.toNat) 32)) := by
      refine reads_of_owns (base := w4.heap.size) ?_
      rw [← map_app, List.length_append, List.length_replicate]
      exact ho6
    obtain ⟨at', ct, Lt, rfl, hLt1, hLt2, hct⟩ := reads_sp (reads_below HT4.out hb46)
    obtain ⟨ao, co, Lo, rfl, hLo1, hLo2, hco⟩ := reads_sp HO6.out
    obtain ⟨ab, cb, rfl, hcb⟩ := reads_plain (reads_below HR4.out hb46)
    clear HT4 HO6 HR4 HRb ho5 ho6 hb5 hb6 hb46 hb14 hb1
    have HCT : Hid (∀ i, i < zs.length + (m.toNat + n.toNat) → ∃ b off, at' = some ⟨b, off, none⟩ ∧ w6.cell? ⟨b, off + i, none⟩ = some (.int .u8 (at_ zs i))) := hct
    have HCO : Hid (∀ i, i < zs.length + (m.toNat + n.toNat) → ∃ b off, ao = some ⟨b, off, none⟩ ∧ w6.cell? ⟨b, off + i, none⟩ = some (.int .u8 (at_ zs i))) := hco
    have HCB : Hid (∀ i, i < zs.length → ∃ b off, ab = some ⟨b, off, none⟩ ∧ w6.cell? ⟨b, off + i, none⟩ = some (.int .u8 (at_ zs i))) := hcb
    clear hct hco hcb
    go_wp2_with fail
    go_loop [12] (fun i => ∃ k : Nat, k ≤ zs.length + (m.toNat + n.toNat) ∧ i = .int .i64 k) (fun i => zs.length + (m.toNat + n.toNat) - (intOf i).toNat)
    case atStart => exact ⟨0, Nat.zero_le _, rfl⟩
    case round =>
      obtain ⟨k, hk, rfl⟩ := hrel
      by_cases hlt : k < zs.length + (m.toNat + n.toNat)
      · obtain ⟨bt, ot, rfl, c1⟩ := HCT.out k hlt
        obtain ⟨bo, oo, rfl, c2⟩ := HCO.out k hlt
        have hkt : (k : Int) < (Lt : Int) := by omega
        have hko : (k : Int) < (Lo : Int) := by omega
        clear HCT HCO
        by_cases hin : k < zs.length
        · obtain ⟨bb, ob, rfl, c3⟩ := HCB.out k hin
          have hkb : (k : Int) < (zs.length : Int) := by omega
          clear HCB
          generalize at_ zs k = z at *
          go_wp2
          go_round
          case rel => exact ⟨k + 1, by omega, by go_num⟩
          case measure => simp [intOf]; omega
        rw [at_out zs k hin] at c1 c2
        clear HCB
        try (exfalso; omega)
        all_goals
          go_wp2
          go_round
          case rel => exact ⟨k + 1, by omega, by go_num⟩
          case measure => simp [intOf]; omega
      · clear HCT HCO HCB
        go_wp2
        go_ret
        exact ⟨rfl, hbel⟩
end Go.Proofs.Qxb6003659a
