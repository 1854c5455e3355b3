import Derived.Test.Qxb6003644aModel
namespace Go.Proofs.Qxb6003644a
open Go.RowKit Plain

set_option maxHeartbeats 1000000 in
theorem gram_walk (s : ByteArray) (hs : s.size ≤ maxLen) (w : World) :
    Calls Try.prog 3 #[.string s] w fun e w' => e = .returned (.bool true) ∧ Grown w w' := by
  unfold maxLen at hs
  by_cases hbig : 1048576 < s.size
  · go_enter Try.func3, Try.ntmps3
    go_wp2
    go_ret
    exact ⟨rfl, Grown.refl _⟩
  by_cases hz : s.size = 0
  · go_enter Try.func3, Try.ntmps3
    go_wp2
    go_ret
    exact ⟨rfl, Grown.refl _⟩
  have hz0 : 0 < s.size := by omega
  by_cases hb : (s[0].toNat : Int) = 123
  · have hbb : ((s[0].toNat : Int) != 123) = false := by simpa using hb
    have hzb : ((s.size : Int) == 0) = false := beq_eq_false_iff_ne.2 (by omega)
    clear hb
    go_enter Try.func3, Try.ntmps3
    go_wp2_with (first | (go_at_call 8; go_in))
    refine (zzcount_any s _ (by omega)).mono ?_
    rintro e w1 ⟨rfl, hg1⟩
    go_wp2_with fail
    refine (model_any s w1 (by omega) hz0).mono ?_
    rintro e w2 ⟨rfl, rfl⟩
    generalize rc (bt s) s.size = r at *
    obtain ⟨L, z⟩ := r
    go_wp2_with fail
    go_ret
    exact ⟨by simp, hg1⟩
  · have hbb : ((s[0].toNat : Int) != 123) = true := by simpa using hb
    go_enter Try.func3, Try.ntmps3
    go_wp2
    go_ret
    exact ⟨rfl, Grown.refl _⟩
end Go.Proofs.Qxb6003644a
