/-
  THE WALK of FnAbsoluteIsTheSmallOneOfPlusAndMinus.
-/
import Derived.Test.Qxb6617591aAbs
namespace Go.Proofs.Qxb6617591a
open Go.RowKit

/-! ### the plain law -/
theorem wrap64_lo (n : Int) : -9223372036854775808 ≤ wrap64 n := by
  unfold wrap64
  omega
theorem wrap64_hi (n : Int) : wrap64 n ≤ 9223372036854775807 := by
  unfold wrap64
  omega
theorem abs_minus (x : Int) (h1 : -9223372036854775808 ≤ x) (h2 : x ≤ 9223372036854775807) : absI x = absI (wrap64 (-x)) := by
  unfold absI wrap64
  split <;> split <;> omega
theorem one_of (x r : Int) (hr : r = absI x) (h1 : -9223372036854775808 ≤ x) (h2 : x ≤ 9223372036854775807) : ¬ ((r != IntKind.u64.wrap x) = true ∧ (r != IntKind.u64.wrap (-IntKind.u64.wrap x)) = true) := by
  rintro ⟨ha, hb⟩
  rw [bne_iff_ne] at ha hb
  simp only [u64_wrap] at ha hb
  unfold absI at hr
  split at hr <;> omega

set_option maxHeartbeats 400000 in
theorem lawA_any (x : Int) (w : World) (h1 : -9223372036854775808 ≤ x) (h2 : x ≤ 9223372036854775807) :
    Calls Try.prog 3 #[.int .i64 x] w fun e w' => e = .returned (.bool true) ∧ w' = w := by
  obtain ⟨r, hr⟩ : ∃ r, r = absI x := ⟨_, rfl⟩
  have hr0 : 0 ≤ r := by rw [hr]; unfold absI; split <;> omega
  have hr1 : r ≤ 9223372036854775808 := by rw [hr]; unfold absI; split <;> omega
  have HR : Hid (r = absI x) := hr
  clear hr
  go_enter Try.func3, Try.ntmps3
  go_wp2_with fail
  refine (zzabs_is x r _ HR.out h1 h2).mono ?_
  rintro e w' ⟨rfl, rfl⟩
  go_wp2_with fail
  refine (zzabs_is _ r _ (HR.out.trans (abs_minus x h1 h2)) (wrap64_lo _) (wrap64_hi _)).mono ?_
  rintro e w' ⟨rfl, rfl⟩
  go_wp2
  · go_ret
    exact ⟨rfl, rfl⟩
  · have ht : (r != IntKind.u64.wrap x) = true ∧ (r != IntKind.u64.wrap (-IntKind.u64.wrap x)) = true := by assumption
    exact absurd ht (one_of x r HR.out h1 h2)
  · go_ret
    exact ⟨rfl, rfl⟩

end Go.Proofs.Qxb6617591a
