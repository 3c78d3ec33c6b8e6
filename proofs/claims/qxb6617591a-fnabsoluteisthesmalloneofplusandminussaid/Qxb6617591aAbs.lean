/-
  THE WALKS of absolute, and the plain law.
-/
import Derived.Test.Qxb6617591aRows
import Derived.WalkKit
import Derived.WalkSpells
namespace Go.Proofs.Qxb6617591a
open Go.RowKit

/-- The distance from nought. -/
def absI (x : Int) : Int := if x < 0 then -x else x

theorem u64_wrap (n : Int) : IntKind.u64.wrap n = n % 18446744073709551616 := rfl

theorem neg_wrap (x : Int) (h0 : x < 0) (h1 : -9223372036854775808 ≤ x) : IntKind.u64.wrap (wrap64 (-x)) = -x := by
  rw [u64_wrap]
  unfold wrap64
  omega

theorem ret_u64 {a b : Int} (h : a = b) : Ending.returned (.int .u64 a) = .returned (.int .u64 b) := by rw [h]

set_option maxHeartbeats 400000 in
theorem abs_is (x r : Int) (w : World) (hr : r = absI x) (h1 : -9223372036854775808 ≤ x) (h2 : x ≤ 9223372036854775807) :
    Calls Try.prog 6 #[.int .i64 x] w fun e w' => e = .returned (.int .u64 r) ∧ w' = w := by
  have HR : Hid (r = absI x) := hr
  clear hr
  by_cases h0 : x < 0
  · go_enter Try.func6, Try.ntmps6
    go_wp2
    go_ret
    exact ⟨ret_u64 (by rw [neg_wrap x h0 h1, HR.out, absI, if_pos h0]), rfl⟩
  · go_enter Try.func6, Try.ntmps6
    go_wp2
    go_ret
    exact ⟨ret_u64 (by rw [HR.out, absI, if_neg (by omega)]), rfl⟩

set_option maxHeartbeats 400000 in
theorem zzabs_is (x r : Int) (w : World) (hr : r = absI x) (h1 : -9223372036854775808 ≤ x) (h2 : x ≤ 9223372036854775807) :
    Calls Try.prog 5 #[.int .i64 x] w fun e w' => e = .returned (.int .u64 r) ∧ w' = w := by
  have HR : Hid (r = absI x) := hr
  clear hr
  go_enter Try.func5, Try.ntmps5
  go_wp2_with fail
  refine (abs_is x r _ HR.out h1 h2).mono ?_
  rintro e w' ⟨rfl, rfl⟩
  go_wp2
  go_ret
  exact ⟨rfl, rfl⟩

end Go.Proofs.Qxb6617591a
