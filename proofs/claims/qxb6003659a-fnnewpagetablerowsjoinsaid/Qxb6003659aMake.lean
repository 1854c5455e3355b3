import Derived.Test.Qxb6003659aChecks
import Derived.Deep.RegionHeld3
namespace Go.Proofs.Qxb6003659a
open Go.RowKit

theorem makeColumn_any (n t : ByteArray) (b : Bool) (w : World) :
    Calls Try.prog 25 #[.string n, .string t, .bool b] w fun e w' => e = .returned (.agg #[.string n, .string t, .bool b]) ∧ w.alloc (.cells #[.string n, .string t, .bool b] 54) = w' := by
  go_enter Try.func25, Try.ntmps25
  go_wp2
  exact bodyPost_ret (v := .agg #[.string n, .string t, .bool b]) (by simp [results, Try.results25, go_sem]) rfl ⟨rfl, rfl⟩

set_option maxHeartbeats 1000000 in
theorem makeColumns_any (v : Value) (base n : Nat) (N T : Nat → ByteArray) (B : Nat → Bool) (w : World) (hn : n ≤ 2000000) (h : Sl w base v n 3 (colF N T B)) :
    Calls Try.prog 17 #[v] w fun e w' => ∃ v', e = .returned v' ∧ Sl w' w.heap.size v' n 3 (colF N T B) ∧ Below w.heap.size w w' := by
  obtain ⟨a, cap, rfl, h1, HC⟩ := h.form
  clear h
  have q26 : ∀ (w : World) (a : Option Addr) (n c n' c' : Nat), (binOp .eql 26 (.slice a n c) (.slice none n' c')).run Try.prog w = .ok (.bool a.isNone) w := fun w a n c n' c' => Lib.run_eql_slice_nil w 26 50 a n c n' c' Try.underlying26
  cases a with
  | none =>
    obtain ⟨rfl, rfl⟩ := h1 rfl
    clear h1 HC hn
    go_enter Try.func17, Try.ntmps17
    go_wp2
    go_ret
    exact ⟨_, rfl, Sl.nil _ _ _ _, Below.refl _ _⟩
  | some x =>
    clear h1
    have hmk := run_make_wide (P := Try.prog) 41 54 _ 3 40 Try.underlying41 Try.info54 .i64 .i64 n (by omega) (by omega)
    go_enter Try.func17, Try.ntmps17
    go_wp2
    clear hmk q26
    go_loopw [4] (fun i wr => ∃ (k : Nat) (Z : Nat → Value), k ≤ n ∧ i = .int .i64 k ∧ wr.rowIs w.heap.size 54 (n * 3) (part (colF N T B) Z (k * 3)) ∧ Below w.heap.size w wr) (fun i _ => n - (intOf i).toNat)
    case atStart => exact ⟨0, _, Nat.zero_le _, rfl, part_zero (rowIs_wide w _ (n * 3) 54), (Below.refl _ _).alloc (Nat.le_refl _) _⟩
    case round =>
      obtain ⟨k, Z, hk, rfl, hrow, hbel⟩ := hrel
      by_cases hlt : k < n
      · have hkz : (k : Int) < (n : Int) := by omega
        obtain ⟨b, off, hx, _, hb, hc⟩ := HC.out (by omega)
        obtain rfl := Option.some.inj hx
        have c0 : wr.cell? ⟨b, off + k * 3, none⟩ = some (.string (N k)) := by rw [hbel.cell (p := ⟨b, off + k * 3, none⟩) hb, hc _ (by omega), colF0]
        have c1 : wr.cell? ⟨b, off + k * 3 + 1, none⟩ = some (.string (T k)) := by rw [hbel.cell (p := ⟨b, off + k * 3 + 1, none⟩) hb, Nat.add_assoc, hc _ (by omega), colF1]
        have c2 : wr.cell? ⟨b, off + k * 3 + 2, none⟩ = some (.bool (B k)) := by rw [hbel.cell (p := ⟨b, off + k * 3 + 2, none⟩) hb, Nat.add_assoc, hc _ (by omega), colF2]
        have n0 := World.new_ne wr ⟨b, off + k * 3, none⟩ c0
        have n1 := World.new_ne wr ⟨b, off + k * 3 + 1, none⟩ c1
        have n2 := World.new_ne wr ⟨b, off + k * 3 + 2, none⟩ c2
        clear hc HC hx
        obtain ⟨x0, d0⟩ := part_cell hrow (i := k * 3) (by omega)
        obtain ⟨x1, d1⟩ := part_cell hrow (i := k * 3 + 1) (by omega)
        obtain ⟨x2, d2⟩ := part_cell hrow (i := k * 3 + 2) (by omega)
        have f0 := hrow.frozen (k * 3)
        have f1 := hrow.frozen (k * 3 + 1)
        have f2 := hrow.frozen (k * 3 + 2)
        have n3 : wr.heap.size ≠ w.heap.size := World.new_ne wr ⟨w.heap.size, k * 3, none⟩ d0
        have n4 : w.heap.size ≠ wr.heap.size := fun e => n3 e.symm
        have n5 : ¬ b = w.heap.size := by omega
        have n6 : ¬ w.heap.size = b := by omega
        have g0 : ∀ o, (wr.alloc o).cell? ⟨w.heap.size, k * 3, none⟩ = some x0 := fun o => by rw [World.cell?_alloc_old _ _ _ n4]; exact d0
        have g1 : ∀ o, (wr.alloc o).cell? ⟨w.heap.size, k * 3 + 1, none⟩ = some x1 := fun o => by rw [World.cell?_alloc_old _ _ _ n4]; exact d1
        have g2 : ∀ o, (wr.alloc o).cell? ⟨w.heap.size, k * 3 + 2, none⟩ = some x2 := fun o => by rw [World.cell?_alloc_old _ _ _ n4]; exact d2
        have h0 : ∀ c t, (wr.alloc (.cells c t)).frozen? ⟨w.heap.size, k * 3, none⟩ = false := fun c t => by rw [frozen?_alloc_cells]; exact f0
        have h1 : ∀ c t, (wr.alloc (.cells c t)).frozen? ⟨w.heap.size, k * 3 + 1, none⟩ = false := fun c t => by rw [frozen?_alloc_cells]; exact f1
        have h2 : ∀ c t, (wr.alloc (.cells c t)).frozen? ⟨w.heap.size, k * 3 + 2, none⟩ = false := fun c t => by rw [frozen?_alloc_cells]; exact f2
        have HRow : Hid (wr.rowIs w.heap.size 54 (n * 3) (part (colF N T B) Z (k * 3))) := hrow
        clear hrow
        go_wp2_with fail
        go_region_held3 (fun w' => w'.cell? ⟨b, off + k * 3, none⟩ = some (.string (N k)) ∧ w'.cell? ⟨b, off + k * 3 + 1, none⟩ = some (.string (T k)) ∧ w'.cell? ⟨b, off + k * 3 + 2, none⟩ = some (.bool (B k))) (go_keep) (first | (go_at_call 25; refine (makeColumn_any _ _ _ _).mono ?_; rintro e w' ⟨rfl, rfl⟩))
        have HR : Hid (((((wr.alloc (.cells #[.string (N k), .string (T k), .bool (B k)] 54)).setCell ⟨w.heap.size, k * 3, none⟩ (.string (N k))).setCell ⟨w.heap.size, k * 3 + 1, none⟩ (.string (T k))).setCell ⟨w.heap.size, k * 3 + 2, none⟩ (.bool (B k))).drew.rowIs w.heap.size 54 (n * 3) (part (colF N T B) Z ((k + 1) * 3))) := by
          have := part_set (part_set (part_set (HRow.out.alloc (.cells #[.string (N k), .string (T k), .bool (B k)] 54)) (colF0 N T B k).symm) (colF1 N T B k).symm) (colF2 N T B k).symm
          rw [show (k + 1) * 3 = k * 3 + 1 + 1 + 1 by omega]
          exact this.drew
        have hb3 : Below w.heap.size w ((((wr.alloc (.cells #[.string (N k), .string (T k), .bool (B k)] 54)).setCell ⟨w.heap.size, k * 3, none⟩ (.string (N k))).setCell ⟨w.heap.size, k * 3 + 1, none⟩ (.string (T k))).setCell ⟨w.heap.size, k * 3 + 2, none⟩ (.bool (B k))).drew :=
          ((((hbel.alloc hbel.size _).setCell (Nat.le_refl _) _).setCell (Nat.le_refl _) _).setCell (Nat.le_refl _) _).drew
        clear HRow d0 d1 d2 f0 f1 f2 g0 g1 g2 h0 h1 h2 n0 n1 n2 n3 n4 n5 n6 c0 c1 c2 hbel
        go_wp2
        go_roundw
        case rel => exact ⟨k + 1, Z, by omega, by go_num, HR.out, hb3⟩
        case measure => simp [intOf]; omega
      · obtain rfl : k = n := by omega
        go_wp2
        go_ret
        exact ⟨_, rfl, Sl.of_row (part_full hrow) (Nat.le_refl _), hbel⟩

theorem makeReport_any (cols rows : Value) (a1 a2 : Option Addr) (n1 c1 n2 c2 : Nat) (h1 : cols = .slice a1 n1 c1) (h2 : rows = .slice a2 n2 c2) (w : World) :
    Calls Try.prog 16 #[cols, rows] w fun e w' => e = .returned (.pointer (some ⟨w.heap.size, 0, none⟩)) ∧ w.alloc (.cells #[cols, rows] 52) = w' := by
  subst h1 h2
  go_enter Try.func16, Try.ntmps16
  go_wp2
  go_ret
  exact ⟨rfl, rfl⟩
end Go.Proofs.Qxb6003659a
