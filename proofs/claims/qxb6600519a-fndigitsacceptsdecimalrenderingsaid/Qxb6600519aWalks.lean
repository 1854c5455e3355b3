import Derived.Test.Qxb6600519aRows
import Derived.WalkKit
import Derived.WalkSpells
import Derived.BigQuiet
import Derived.Deep.OwnRows
import Derived.Laws.BytesArg
namespace Go.Proofs.Qxb6600519a
open Go.RowKit

/-- A text of digits alone, not empty, of at most 20. -/
def Dig (t : ByteArray) : Prop := 1 ≤ t.size ∧ t.size ≤ 20 ∧ ∀ k (h : k < t.size), 48 ≤ (t[k].toNat : Int) ∧ (t[k].toNat : Int) ≤ 57
def UtoaSays (e : Ending) : Prop := ∃ t, e = .returned (.string t) ∧ Dig t

/-- One digit laid at k. -/
def setAt (f : Nat → Int) (k : Nat) (c : Int) (j : Nat) : Int := if j = k then c else f j
theorem setAt_same (f : Nat → Int) (k : Nat) (c : Int) : setAt f k c k = c := by unfold setAt; rw [if_pos rfl]
theorem setAt_other (f : Nat → Int) (k : Nat) (c : Int) (j : Nat) (h : j ≠ k) : setAt f k c j = f j := by unfold setAt; rw [if_neg h]

theorem pow_step (x i : Nat) (h : x < 10 ^ i) (hx : 0 < x) : ∃ k, i = k + 1 ∧ x / 10 < 10 ^ k := by
  cases i with
  | zero => simp at h; omega
  | succ k =>
    refine ⟨k, rfl, ?_⟩
    rw [Nat.pow_succ] at h
    exact Nat.div_lt_of_lt_mul (by rw [Nat.mul_comm]; exact h)

theorem dig_of (xs : List Int) (h1 : 1 ≤ xs.length) (h2 : xs.length ≤ 20) (h3 : ∀ j, j < xs.length → 48 ≤ xs.getD j 0 ∧ xs.getD j 0 ≤ 57) : Dig (strOfNums xs) := by
  have hsz : (strOfNums xs).size = xs.length := strOfNums_size xs
  refine ⟨by omega, by omega, fun k hk => ?_⟩
  have hk' : k < xs.length := by omega
  have hb := h3 k hk'
  have e : (strOfNums xs)[k] = UInt8.ofNat (xs.getD k 0).toNat := by
    simp [strOfNums, ByteArray.getElem_eq_getElem_data, List.getD_eq_getElem?_getD, hk']
  rw [e]
  rw [UInt8.toNat_ofNat']
  omega

theorem Try.info5 : (Try.prog.info? 5).map (fun i => (i.zero, i.size, i.bytes)) = some (some (.int .u8 0), 1, 1) := by kernel_rfl

theorem slice_buf (b i : Nat) (hi : i < 20) (w : World) :
    (Instr.sliceAt 42 (.pointer (some ⟨b, 0, none⟩)) (some (.int .i64 (i : Int))) none none).run Try.prog w = .ok (.slice (some ⟨b, i, none⟩) (20 - i) (20 - i)) w := by
  obtain ⟨i0, h1, _, h2, _⟩ := info_parts Try.info5
  have e1 : Try.prog.arrayLen 42 = 20 := by unfold Program.arrayLen; rw [Try.underlying42]
  have e2 : Try.prog.elem 42 = 5 := by unfold Program.elem; rw [Try.underlying42]
  have h := run_sliceAt_array_l (P := Try.prog) w 42 ⟨b, 0, none⟩ (by rw [e1, e2]; exact Try.underlying42) .i64 (i : Int) (by omega) (by rw [e1]; omega)
  rw [h, e1, e2]
  have hs : (sizeOf 5).run Try.prog w = .ok 1 w := by simp [sizeOf, typeInfo, h1, h2]
  rw [hs]
  simp only [Result.andThen, slicedAt, Int.toNat_natCast, Nat.mul_one]
  rw [if_neg (by omega), Addr.add_lit, Nat.zero_add]

set_option maxHeartbeats 2000000 in
theorem utoa_any (x : Int) (w : World) (h0 : 0 ≤ x) (h1 : x < 18446744073709551616) :
    Calls Try.prog 19 #[.int .u64 x] w fun e w' => UtoaSays e ∧ Grown w w' := by
  by_cases hz : x = 0
  · subst hz
    clear h0 h1
    have hd : Dig { data := #[48] } := ⟨by decide, by decide, fun k hk => by
      have hk' : k < 1 := hk
      obtain rfl : k = 0 := by omega
      have e : ({ data := #[48] } : ByteArray)[0] = 48 := rfl
      rw [e]
      decide⟩
    go_enter Try.func19, Try.ntmps19
    go_wp2
    go_ret
    exact ⟨⟨_, rfl, hd⟩, Grown.refl _⟩
  · have hzb : (x == 0) = false := beq_eq_false_iff_ne.2 hz
    obtain ⟨n, rfl⟩ := Int.eq_ofNat_of_zero_le h0
    have HN : Hid (n < 10 ^ 20) := by show n < 10 ^ 20; omega
    have hn0 : 0 < n := by omega
    have hn1 : n ≤ 18446744073709551615 := by omega
    clear hz h0 h1
    go_enter Try.func19, Try.ntmps19
    go_wp2
    go_loopw [0, 4] (fun a b wr => ∃ (x i : Nat) (f : Nat → Int), a = .int .u64 x ∧ b = .int .i64 i ∧ i ≤ 20 ∧ Hid (x < 10 ^ i) ∧ x ≤ 18446744073709551615 ∧ (i < 20 ∨ 0 < x) ∧ wr.rowIs w.heap.size 42 20 (fun j => .int .u8 (f j)) ∧ Hid (∀ j, i ≤ j → j < 20 → 48 ≤ f j ∧ f j ≤ 57) ∧ Grown w wr) (fun a _ _ => (intOf a).toNat)
    case atStart =>
      refine ⟨n, 20, fun _ => 0, rfl, rfl, Nat.le_refl _, HN.out, hn1, Or.inr hn0, ?_, fun j h1 h2 => by omega, (Grown.refl _).alloc _ _⟩
      exact World.rowIs_alloc w _ 42 _ (fun i hi => by
        have hi' : i < 20 := hi
        rcases (show i = 0 ∨ i = 1 ∨ i = 2 ∨ i = 3 ∨ i = 4 ∨ i = 5 ∨ i = 6 ∨ i = 7 ∨ i = 8 ∨ i = 9 ∨ i = 10 ∨ i = 11 ∨ i = 12 ∨ i = 13 ∨ i = 14 ∨ i = 15 ∨ i = 16 ∨ i = 17 ∨ i = 18 ∨ i = 19 by omega) with h | h | h | h | h | h | h | h | h | h | h | h | h | h | h | h | h | h | h | h <;> (subst h; rfl))
    case round =>
      obtain ⟨x, i, f, rfl, rfl, hi, hp, hx1, hor, hrow, hf, hg⟩ := hrel
      by_cases hx : 0 < x
      · obtain ⟨k, rfl, hk⟩ := pow_step x i hp.out hx
        have HK : Hid (x / 10 < 10 ^ k) := hk
        have hxz : (0 : Int) < (x : Int) := by omega
        have hk20 : (k : Int) < 20 := by omega
        have d0 : wr.cell? ⟨w.heap.size, k, none⟩ = some (.int .u8 (f k)) := hrow.cell (by omega)
        have f0 := hrow.frozen k
        have HR : Hid (wr.rowIs w.heap.size 42 20 (fun j => .int .u8 (f j))) := hrow
        clear hrow hk hp hor
        go_wp2
        go_roundw
        case rel =>
          refine ⟨x / 10, k, setAt f k (48 + (x : Int) % 10), by go_num, rfl, by omega, HK.out, by omega, Or.inl (by omega), ?_, fun j h1 h2 => ?_, hg.setCell (Nat.le_refl _) _⟩
          · exact (HR.out.set k _).congr (fun j _ => by
              by_cases e : j = k
              · subst e; rw [if_pos rfl, setAt_same]
              · rw [if_neg e, setAt_other _ _ _ _ e])
          · by_cases e : j = k
            · subst e; rw [setAt_same]; omega
            · rw [setAt_other _ _ _ _ e]; exact hf.out j (by omega) h2
        case measure => simp [intOf]; omega
      · have hi20 : i < 20 := by omega
        obtain rfl : x = 0 := by omega
        have hcel : ∀ j, j < 20 - i → wr.cell? ⟨w.heap.size, i + j, none⟩ = some (.int .u8 (((List.range (20 - i)).map (fun j => f (i + j))).getD j 0)) := fun j hj => by
          have := hrow.cell (i := i + j) (by omega)
          rw [this, List.getD_eq_getElem?_getD, List.getElem?_map, List.getElem?_range hj]
          rfl
        have hcv := run_convert_bytes_arg (P := Try.prog) wr 24 5 Try.underlying24 Try.underlying5 w.heap.size i (20 - i) (20 - i) ((List.range (20 - i)).map (fun j => f (i + j))) (by simp) hcel 9 Try.underlying9
        have HD : Hid (Dig (strOfNums ((List.range (20 - i)).map (fun j => f (i + j))))) := dig_of _ (by rw [List.length_map, List.length_range]; omega) (by rw [List.length_map, List.length_range]; omega) (fun j hj => by
          have hj' : j < 20 - i := by simpa using hj
          rw [List.getD_eq_getElem?_getD, List.getElem?_map, List.getElem?_range hj']
          exact hf.out (i + j) (by omega) (by omega))
        generalize strOfNums ((List.range (20 - i)).map (fun j => f (i + j))) = t at *
        clear hcel hp hor hf hrow HN
        have hsl := slice_buf w.heap.size i hi20 wr
        go_wp2
        go_ret
        exact ⟨⟨_, rfl, HD.out⟩, hg⟩

theorem isEmpty_no (b : ByteArray) (h : 0 < b.size) : b.toList.isEmpty = false := by
  rw [ByteArray.toList_eq]
  have h1 : b.data.toList.length = b.size := by cases b; rfl
  cases h2 : b.data.toList with
  | nil => rw [h2] at h1; simp at h1; omega
  | cons x xs => rfl

set_option maxHeartbeats 1000000 in
theorem digits_yes (s : ByteArray) (w : World) (h0 : 1 ≤ s.size) (h1 : s.size ≤ 100) (h : Hid (∀ k (h : k < s.size), 48 ≤ (s[k].toNat : Int) ∧ (s[k].toNat : Int) ≤ 57)) :
    Calls Try.prog 25 #[.string s] w fun e w' => e = .returned (.bool true) ∧ w' = w := by
  have he := isEmpty_no s h0
  go_enter Try.func25, Try.ntmps25
  go_wp2
  go_loop [8] (fun i => ∃ k : Nat, k ≤ s.size ∧ i = .int .i64 k) (fun i => s.size - (intOf i).toNat)
  case atStart => exact ⟨0, Nat.zero_le _, rfl⟩
  case round =>
    obtain ⟨k, hk, rfl⟩ := hrel
    by_cases hlt : k < s.size
    · obtain ⟨g1, g2⟩ := h.out k hlt
      go_wp2
      go_round
      case rel => exact ⟨k + 1, by omega, by go_num⟩
      case measure => simp [intOf]; omega
    · go_wp2
      go_ret
      exact ⟨rfl, rfl⟩

set_option maxHeartbeats 1000000 in
theorem digits_no (s : ByteArray) (w : World) (h1 : s.size ≤ 100) (p : Nat) (hp : p < s.size) (h : (s[p].toNat : Int) < 48) :
    Calls Try.prog 25 #[.string s] w fun e w' => e = .returned (.bool false) ∧ w' = w := by
  have he := isEmpty_no s (by omega)
  have H : Hid ((s[p].toNat : Int) < 48) := h
  clear h
  go_enter Try.func25, Try.ntmps25
  go_wp2
  go_loop [8] (fun i => ∃ k : Nat, k ≤ p ∧ i = .int .i64 k) (fun i => s.size - (intOf i).toNat)
  case atStart => exact ⟨0, Nat.zero_le _, rfl⟩
  case round =>
    obtain ⟨k, hk, rfl⟩ := hrel
    have hlt : k < s.size := by omega
    by_cases g1 : (s[k].toNat : Int) < 48
    · go_wp2
      go_ret
      exact ⟨rfl, rfl⟩
    by_cases g2 : 57 < (s[k].toNat : Int)
    · go_wp2
      go_ret
      exact ⟨rfl, rfl⟩
    have hne : k ≠ p := by
      intro e; subst e; exact g1 H.out
    have hkp : k < p := by omega
    clear hne
    go_wp2
    go_round
    case rel => exact ⟨k + 1, by omega, by go_num⟩
    case measure => simp [intOf]; omega

theorem zzdigits_yes (s : ByteArray) (w : World) (h0 : 1 ≤ s.size) (h1 : s.size ≤ 100) (h : Hid (∀ k (h : k < s.size), 48 ≤ (s[k].toNat : Int) ∧ (s[k].toNat : Int) ≤ 57)) :
    Calls Try.prog 18 #[.string s] w fun e w' => e = .returned (.bool true) ∧ w' = w := by
  go_enter Try.func18, Try.ntmps18
  go_wp2_with fail
  refine (digits_yes s w h0 h1 h).mono ?_
  rintro e w' ⟨rfl, rfl⟩
  go_wp2_with fail
  go_ret
  exact ⟨rfl, rfl⟩

theorem zzdigits_no (s : ByteArray) (w : World) (h1 : s.size ≤ 100) (p : Nat) (hp : p < s.size) (h : (s[p].toNat : Int) < 48) :
    Calls Try.prog 18 #[.string s] w fun e w' => e = .returned (.bool false) ∧ w' = w := by
  have H : Hid ((s[p].toNat : Int) < 48) := h
  clear h
  go_enter Try.func18, Try.ntmps18
  go_wp2_with fail
  refine (digits_no s w h1 p hp H.out).mono ?_
  rintro e w' ⟨rfl, rfl⟩
  go_wp2_with fail
  go_ret
  exact ⟨rfl, rfl⟩

theorem head_at (c : UInt8) (t : ByteArray) (h : 0 < (({ data := #[c] } : ByteArray) ++ t).size) : (({ data := #[c] } : ByteArray) ++ t)[0] = c := by
  rw [ByteArray.getElem_append_left (by show 0 < 1; omega)]; rfl
theorem tail_at (c : UInt8) (t : ByteArray) (h : t.size < (t ++ ({ data := #[c] } : ByteArray)).size) : (t ++ ({ data := #[c] } : ByteArray))[t.size] = c := by
  rw [ByteArray.getElem_append_right (Nat.le_refl _)]
  simp only [Nat.sub_self]
  rfl
theorem one_size (c : UInt8) : ({ data := #[c] } : ByteArray).size = 1 := rfl

set_option maxHeartbeats 1000000 in
theorem law_walk (x : Int) (w : World) (h0 : 0 ≤ x) (h1 : x < 18446744073709551616) :
    Calls Try.prog 7 #[.int .u64 x] w fun e w' => e = .returned (.bool true) ∧ Grown w w' := by
  go_enter Try.func7, Try.ntmps7
  go_wp2_with fail
  refine (utoa_any x w h0 h1).mono ?_
  rintro e w1 ⟨⟨t, rfl, t1, t2, t3⟩, hg⟩
  have HT : Hid (∀ k (h : k < t.size), 48 ≤ (t[k].toNat : Int) ∧ (t[k].toNat : Int) ≤ 57) := t3
  clear t3 h0 h1
  go_wp2_with fail
  refine (zzdigits_yes t _ t1 (by omega) HT).mono ?_
  rintro e w2 ⟨rfl, rfl⟩
  go_wp2_with fail
  refine (zzdigits_no _ _ (by rw [ByteArray.size_append, one_size]; omega) 0 (by rw [ByteArray.size_append, one_size]; omega) (by rw [head_at]; decide)).mono ?_
  rintro e w3 ⟨rfl, rfl⟩
  go_wp2_with fail
  refine (zzdigits_no _ _ (by rw [ByteArray.size_append, one_size]; omega) t.size (by rw [ByteArray.size_append, one_size]; omega) (by rw [tail_at]; decide)).mono ?_
  rintro e w4 ⟨rfl, rfl⟩
  go_wp2_with fail
  refine (zzdigits_no _ _ (by rw [ByteArray.size_append, one_size]; omega) t.size (by rw [ByteArray.size_append, one_size]; omega) (by rw [tail_at]; decide)).mono ?_
  rintro e w5 ⟨rfl, rfl⟩
  go_wp2_with fail
  go_ret
  exact ⟨rfl, hg⟩
end Go.Proofs.Qxb6600519a
