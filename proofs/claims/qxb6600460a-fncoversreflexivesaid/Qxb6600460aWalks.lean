import Derived.Test.Qxb6600460aRows
import Derived.WalkKit
import Derived.WalkSpells
import Derived.BigQuiet
namespace Go.Proofs.Qxb6600460a
open Go.RowKit

/-- The slice value v has n strings S. -/
def Strs (w : World) (v : Value) (n : Nat) (S : Nat → ByteArray) : Prop :=
  ∃ a cap, v = .slice a n cap ∧ Hid (0 < n → ∃ b off, a = some ⟨b, off, none⟩ ∧ ∀ j, j < n → w.cell? ⟨b, off + j, none⟩ = some (.string (S j)))

def IntSays (e : Ending) : Prop := ∃ y, e = .returned (.int .i64 y)
def BoolSays (p : Prop) (e : Ending) : Prop := ∃ b, e = .returned (.bool b) ∧ (b = true → p)
theorem BoolSays.no {p : Prop} : BoolSays p (.returned (.bool false)) := ⟨false, rfl, fun h => by cases h⟩

set_option maxHeartbeats 1000000 in
theorem add_any (n k : Int) (w : World) : Calls Try.prog 20 #[.int .i64 n, .int .i64 k] w fun e w' => IntSays e ∧ w' = w := by
  by_cases h1 : 1048576 < n
  · go_enter Try.func20, Try.ntmps20
    go_wp2
    go_ret
    exact ⟨⟨_, rfl⟩, rfl⟩
  by_cases h2 : k < 0
  · go_enter Try.func20, Try.ntmps20
    go_wp2
    go_ret
    exact ⟨⟨_, rfl⟩, rfl⟩
  by_cases h3 : 1048576 < k
  · go_enter Try.func20, Try.ntmps20
    go_wp2
    go_ret
    exact ⟨⟨_, rfl⟩, rfl⟩
  · go_enter Try.func20, Try.ntmps20
    go_wp2
    go_ret
    exact ⟨⟨_, rfl⟩, rfl⟩

set_option maxHeartbeats 1000000 in
theorem strsBytes_any (x : Int) (v : Value) (n : Nat) (S : Nat → ByteArray) (w : World) (hn : n ≤ 2000000) (h : Strs w v n S) :
    Calls Try.prog 21 #[.int .i64 x, v] w fun e w' => IntSays e ∧ w' = w := by
  obtain ⟨a, cap, rfl, HC⟩ := h
  by_cases hbig : 65536 < n
  · go_enter Try.func21, Try.ntmps21
    go_wp2
    go_ret
    exact ⟨⟨_, rfl⟩, rfl⟩
  go_enter Try.func21, Try.ntmps21
  go_wp2
  go_loop [0, 5] (fun z i => ∃ (k : Nat) (y : Int), k ≤ n ∧ i = .int .i64 k ∧ z = .int .i64 y) (fun _ i => n - (intOf i).toNat)
  case atStart => exact ⟨0, x, Nat.zero_le _, rfl, rfl⟩
  case round =>
    obtain ⟨k, y, hk, rfl, rfl⟩ := hrel
    by_cases hlt : k < n
    · have hkz : (k : Int) < (n : Int) := by omega
      obtain ⟨b, off, rfl, hc⟩ := HC.out (by omega)
      have c0 := hc k hlt
      clear hc HC
      go_wp2_with fail
      refine (add_any _ _ _).mono ?_
      rintro e w' ⟨⟨y1, rfl⟩, rfl⟩
      go_wp2_with fail
      refine (add_any _ _ _).mono ?_
      rintro e w ⟨⟨y2, rfl⟩, rfl⟩
      by_cases hy : 1048576 < y2
      · go_wp2_with fail
        go_ret
        exact ⟨⟨_, rfl⟩, rfl⟩
      · go_wp2_with fail
        go_round
        case rel => exact ⟨k + 1, _, by omega, by go_num, rfl⟩
        case measure => simp [intOf]; omega
    · go_wp2
      go_ret
      exact ⟨⟨_, rfl⟩, rfl⟩

theorem wantBytes_any (x : Int) (t m : ByteArray) (v : Value) (n : Nat) (S : Nat → ByteArray) (w : World) (hn : n ≤ 2000000) (h : Strs w v n S) :
    Calls Try.prog 9 #[.int .i64 x, .string t, .string m, v] w fun e w' => IntSays e ∧ w' = w := by
  have h' := h
  obtain ⟨a, cap, rfl, _⟩ := h'
  go_enter Try.func9, Try.ntmps9
  go_wp2_with fail
  refine (add_any _ _ _).mono ?_
  rintro e w1 ⟨⟨y1, rfl⟩, rfl⟩
  go_wp2_with fail
  refine (add_any _ _ _).mono ?_
  rintro e w2 ⟨⟨y2, rfl⟩, rfl⟩
  go_wp2_with fail
  refine (strsBytes_any _ _ n S _ hn h).mono ?_
  rintro e w3 ⟨⟨y3, rfl⟩, rfl⟩
  go_wp2_with fail
  go_ret
  exact ⟨⟨_, rfl⟩, rfl⟩

set_option maxHeartbeats 2000000 in
theorem limit_any (t m : ByteArray) (v : Value) (n : Nat) (S : Nat → ByteArray) (w : World) (h : Strs w v n S) :
    Calls Try.prog 8 #[.string t, .string m, v] w fun e w' => BoolSays (n ≤ 1048576 ∧ m.size ≤ 1048576) e ∧ w' = w := by
  obtain ⟨a, cap, rfl, HC⟩ := h
  by_cases h1 : 1048576 < t.size
  · go_enter Try.func8, Try.ntmps8
    go_wp2
    go_ret
    exact ⟨BoolSays.no, rfl⟩
  by_cases h2 : 1048576 < m.size
  · go_enter Try.func8, Try.ntmps8
    go_wp2
    all_goals
      go_ret
      exact ⟨BoolSays.no, rfl⟩
  by_cases h3 : 1048576 < t.size + m.size
  · go_enter Try.func8, Try.ntmps8
    go_wp2
    all_goals
      go_ret
      exact ⟨BoolSays.no, rfl⟩
  by_cases h4 : 1048576 < n
  · go_enter Try.func8, Try.ntmps8
    go_wp2
    all_goals
      go_ret
      exact ⟨BoolSays.no, rfl⟩
  by_cases h5 : 1048576 < t.size + m.size + n
  · go_enter Try.func8, Try.ntmps8
    go_wp2
    all_goals
      go_ret
      exact ⟨BoolSays.no, rfl⟩
  go_enter Try.func8, Try.ntmps8
  go_wp2
  go_loop [7, 8] (fun z i => ∃ (k : Nat) (y : Int), k ≤ n ∧ i = .int .i64 k ∧ z = .int .i64 y ∧ 0 ≤ y ∧ y ≤ 1048576) (fun _ i => n - (intOf i).toNat)
  case atStart => exact ⟨0, _, Nat.zero_le _, rfl, rfl, by omega, by omega⟩
  case round =>
    obtain ⟨k, y, hk, rfl, rfl, hy0, hy1⟩ := hrel
    by_cases hlt : k < n
    · have hkz : (k : Int) < (n : Int) := by omega
      obtain ⟨b, off, rfl, hc⟩ := HC.out (by omega)
      have c0 := hc k hlt
      clear hc HC
      by_cases g1 : 1048576 < (S k).size
      · go_wp2
        go_ret
        exact ⟨BoolSays.no, rfl⟩
      by_cases g2 : 1048576 < y + (S k).size
      · go_wp2
        go_ret
        exact ⟨BoolSays.no, rfl⟩
      · go_wp2
        go_round
        case rel => exact ⟨k + 1, _, by omega, by go_num, rfl, by omega, by omega⟩
        case measure => simp [intOf]; omega
    · go_wp2
      go_ret
      exact ⟨⟨true, rfl, fun _ => ⟨by omega, by omega⟩⟩, rfl⟩

set_option maxHeartbeats 1000000 in
theorem suffix33 (s t : ByteArray) (w : World) (hs : s.size ≤ 2000000) : Calls Try.prog 33 #[.string s, .string t] w fun e w' => BoolSays (t.size ≤ s.size) e ∧ w' = w := by
  by_cases h : t.size ≤ s.size
  · go_enter Try.func33, Try.ntmps33
    go_wp2
    go_ret
    exact ⟨⟨_, rfl, fun _ => h⟩, rfl⟩
  · go_enter Try.func33, Try.ntmps33
    go_wp2
    go_ret
    exact ⟨BoolSays.no, rfl⟩

theorem suffix28 (s t : ByteArray) (w : World) (hs : s.size ≤ 2000000) : Calls Try.prog 28 #[.string s, .string t] w fun e w' => BoolSays (t.size ≤ s.size) e ∧ w' = w := by
  go_enter Try.func28, Try.ntmps28
  go_wp2_with fail
  refine (suffix33 s t w hs).mono ?_
  rintro e w' ⟨⟨b, rfl, hb⟩, rfl⟩
  go_wp2_with fail
  go_ret
  exact ⟨⟨b, rfl, hb⟩, rfl⟩

/-- What CutSuffix says. -/
def CutSays (s t : ByteArray) (e : Ending) : Prop := e = .returned (.tuple #[.string s, .bool false]) ∨ (t.size ≤ s.size ∧ e = .returned (.tuple #[.string (s.extract 0 (s.size - t.size)), .bool true]))

set_option maxHeartbeats 1000000 in
theorem cut32 (s t : ByteArray) (w : World) (hs : s.size ≤ 2000000) : Calls Try.prog 32 #[.string s, .string t] w fun e w' => CutSays s t e ∧ w' = w := by
  go_enter Try.func32, Try.ntmps32
  go_wp2_with fail
  refine (suffix33 s t w hs).mono ?_
  rintro e w' ⟨⟨b, rfl, hb⟩, rfl⟩
  cases b with
  | false =>
    clear hb
    go_wp2_with fail
    go_ret2
    exact ⟨Or.inl rfl, rfl⟩
  | true =>
    have hle := hb rfl
    clear hb
    go_wp2_with fail
    go_ret2
    exact ⟨Or.inr ⟨hle, rfl⟩, rfl⟩

theorem cut27 (s t : ByteArray) (w : World) (hs : s.size ≤ 2000000) : Calls Try.prog 27 #[.string s, .string t] w fun e w' => CutSays s t e ∧ w' = w := by
  go_enter Try.func27, Try.ntmps27
  go_wp2_with fail
  refine (cut32 s t w hs).mono ?_
  rintro e w' ⟨h, rfl⟩
  rcases h with rfl | ⟨hle, rfl⟩
  · go_wp2_with fail
    go_ret2
    exact ⟨Or.inl rfl, rfl⟩
  · go_wp2_with fail
    go_ret2
    exact ⟨Or.inr ⟨hle, rfl⟩, rfl⟩

set_option maxHeartbeats 1000000 in
theorem prefix34 (s p : ByteArray) (w : World) (hp : p.size ≤ s.size) (h : s.extract 0 p.size = p) : Calls Try.prog 34 #[.string s, .string p] w fun e w' => e = .returned (.bool true) ∧ w' = w := by
  have hb : ((s.extract 0 p.size).toList == p.toList) = true := by rw [h]; simp
  clear h
  go_enter Try.func34, Try.ntmps34
  go_wp2
  go_ret
  exact ⟨rfl, rfl⟩

theorem prefix29 (s p : ByteArray) (w : World) (hp : p.size ≤ s.size) (h : s.extract 0 p.size = p) : Calls Try.prog 29 #[.string s, .string p] w fun e w' => e = .returned (.bool true) ∧ w' = w := by
  have H : Hid (s.extract 0 p.size = p) := h
  clear h
  go_enter Try.func29, Try.ntmps29
  go_wp2_with fail
  refine (prefix34 s p w hp H.out).mono ?_
  rintro e w' ⟨rfl, rfl⟩
  go_wp2_with fail
  go_ret
  exact ⟨rfl, rfl⟩

set_option maxHeartbeats 2000000 in
theorem covers_any (t m : ByteArray) (a : Option Addr) (n c : Nat) (w : World) (hm : m.size ≤ 2000000) :
    Calls Try.prog 22 #[.agg #[.string t, .string m, .slice a n c], .agg #[.string t, .string m, .slice a n c]] w fun e w' => e = .returned (.bool true) ∧ Below w.heap.size w w' := by
  have hb : Below w.heap.size w ((w.alloc (.cells #[.string t, .string m, .slice a n c] 26)).alloc (.cells #[.string t, .string m, .slice a n c] 26)) := ((Below.refl _ _).alloc (Nat.le_refl _) _).alloc (by simp) _
  go_enter Try.func22, Try.ntmps22
  go_wp2_with fail
  refine (cut27 m _ _ hm).mono ?_
  rintro e w1 ⟨h, rfl⟩
  rcases h with rfl | ⟨hle, rfl⟩
  · go_wp2_with fail
    go_ret
    exact ⟨by simp, hb⟩
  · have hle' : 1 ≤ m.size := hle
    have hsz : (m.extract 0 (m.size - 1)).size = m.size - 1 := by rw [ByteArray.size_extract]; omega
    rw [show ({ data := #[42] } : ByteArray).size = 1 from rfl]
    have HP : Hid (m.extract 0 (m.extract 0 (m.size - 1)).size = m.extract 0 (m.size - 1)) := by show _ = _; rw [hsz]
    generalize m.extract 0 (m.size - 1) = p at *
    have hp1 : p.size + 1 ≤ m.size := by omega
    have hp2 : m.size ≤ p.size + 1 := by omega
    clear hsz hle
    go_wp2_with fail
    refine (suffix28 p _ _ (by omega)).mono ?_
    rintro e w1 ⟨⟨b, rfl, _⟩, hw1⟩
    rw [hw1]
    cases b with
    | false =>
      go_wp2_with fail
      go_ret
      exact ⟨by simp, hb⟩
    | true =>
      go_wp2_with fail
      refine (prefix29 m p _ (by omega) HP.out).mono ?_
      rintro e w2 ⟨rfl, hw2⟩
      rw [hw2]
      go_wp2_with fail
      go_ret
      exact ⟨rfl, hb⟩

theorem zzcovers_any (t m : ByteArray) (a : Option Addr) (n c : Nat) (w : World) (hm : m.size ≤ 2000000) :
    Calls Try.prog 10 #[.agg #[.string t, .string m, .slice a n c], .agg #[.string t, .string m, .slice a n c]] w fun e w' => e = .returned (.bool true) ∧ Below w.heap.size w w' := by
  have hb : Below w.heap.size w ((w.alloc (.cells #[.string t, .string m, .slice a n c] 26)).alloc (.cells #[.string t, .string m, .slice a n c] 26)) := ((Below.refl _ _).alloc (Nat.le_refl _) _).alloc (by simp) _
  go_enter Try.func10, Try.ntmps10
  go_wp2_with fail
  refine (covers_any t m a n c _ hm).mono ?_
  rintro e w1 ⟨rfl, hb1⟩
  have hb2 : Below w.heap.size w w1 := hb.trans (hb1.mono hb.size)
  clear hb hb1
  go_wp2_with fail
  go_ret
  exact ⟨rfl, hb2⟩

set_option maxHeartbeats 2000000 in
theorem law_walk (t m : ByteArray) (v : Value) (n : Nat) (S : Nat → ByteArray) (w : World) (h : Strs w v n S) :
    Calls Try.prog 3 #[.string t, .string m, v] w fun e w' => e = .returned (.bool true) ∧ Below w.heap.size w w' := by
  have h' := h
  obtain ⟨a, cap, rfl, _⟩ := h'
  go_enter Try.func3, Try.ntmps3
  go_wp2_with fail
  refine (limit_any t m _ n S w h).mono ?_
  rintro e w' ⟨⟨b, rfl, hlim⟩, rfl⟩
  cases b with
  | false =>
    clear hlim
    go_wp2_with fail
    go_ret
    exact ⟨rfl, Below.refl _ _⟩
  | true =>
    obtain ⟨hn, hm⟩ := hlim rfl
    clear hlim
    by_cases hbig : 65536 < n
    · go_wp2_with fail
      go_ret
      exact ⟨rfl, Below.refl _ _⟩
    go_wp2_with fail
    refine (wantBytes_any _ t m _ n S _ (by omega) h).mono ?_
    rintro e w1 ⟨⟨y, rfl⟩, rfl⟩
    by_cases hy : 1048576 < y
    · go_wp2_with fail
      go_ret
      exact ⟨rfl, Below.refl _ _⟩
    have hb : Below w1.heap.size w1 (w1.alloc (.cells #[.string t, .string m, .slice a n cap] 26)) := (Below.refl _ _).alloc (Nat.le_refl _) _
    go_wp2_with fail
    refine (zzcovers_any t m a n cap _ (by omega)).mono ?_
    rintro e w2 ⟨rfl, hb1⟩
    have hb2 : Below w1.heap.size w1 w2 := hb.trans (hb1.mono hb.size)
    clear hb hb1
    go_wp2_with fail
    go_ret
    exact ⟨rfl, hb2⟩
end Go.Proofs.Qxb6600460a
