/-
  THE WALKS of serviceYears, inYear and the law over them.
-/
import Derived.Test.Qxb6617589aRows
import Derived.WalkKit
import Derived.WalkSpells
namespace Go.Proofs.Qxb6617589a
open Go.RowKit

/-! ### the plain law -/

/-- The last month: the sum may wrap once; the step back wraps it back. -/
theorem last_month (x : Int) (h0 : 0 ≤ x) (h1 : x - 1 ≤ 9223372036854775807) (h2 : 1 ≤ x) : wrap64 (wrap64 x - 1) = x - 1 := by
  unfold wrap64
  omega

theorem year_of (x : Int) (h0 : 0 ≤ x) (h1 : x ≤ 9223372036854775807) : wrap64 (x.tdiv 12) = x / 12 := by
  rw [Int.tdiv_eq_ediv_of_nonneg h0]
  unfold wrap64
  omega

theorem ret_true {x : Bool} (h : x = true) : Ending.returned (.bool x) = .returned (.bool true) := by rw [h]
theorem ret_pair {a b a' b' : Int} (h1 : a = a') (h2 : b = b') : Ending.returned (.tuple #[.int .i64 a, .int .i64 b]) = .returned (.tuple #[.int .i64 a', .int .i64 b']) := by rw [h1, h2]

/-! ### the walks -/

set_option maxHeartbeats 400000 in
theorem inYear_yes (y m : Int) (w : World) (h0 : 0 ≤ y) (h1 : 12 * y ≤ m) (h2 : m < 12 * y + 12) (h3 : m ≤ 9223372036854775807) :
    Calls Try.prog 5 #[.int .i64 y, .int .i64 m] w fun e w' => e = .returned (.bool true) ∧ w' = w := by
  have h4 : y ≤ 768614336404564650 := by omega
  have h5 : m - 12 * y < 12 := by omega
  go_enter Try.func5, Try.ntmps5
  go_wp2
  go_ret
  exact ⟨rfl, rfl⟩

theorem inYear_of (m : Int) (w : World) (h0 : 0 ≤ m) (h3 : m ≤ 9223372036854775807) :
    Calls Try.prog 5 #[.int .i64 (m / 12), .int .i64 m] w fun e w' => e = .returned (.bool true) ∧ w' = w :=
  inYear_yes (m / 12) m w (by omega) (by omega) (by omega) h3

set_option maxHeartbeats 400000 in
theorem years_any (s m : Int) (w : World) (h0 : 0 ≤ s) (h1 : 1 ≤ m) (h2 : s + m - 1 ≤ 9223372036854775807) :
    Calls Try.prog 6 #[.int .i64 s, .int .i64 m] w fun e w' => e = .returned (.tuple #[.int .i64 (s / 12), .int .i64 ((s + m - 1) / 12)]) ∧ w' = w := by
  go_enter Try.func6, Try.ntmps6
  go_wp2
  go_ret2
  exact ⟨ret_pair rfl (by rw [last_month _ (by omega) h2 (by omega), year_of _ (by omega) h2]), rfl⟩

set_option maxHeartbeats 400000 in
theorem zzyears_any (s m : Int) (w : World) (h0 : 0 ≤ s) (h1 : 1 ≤ m) (h2 : s + m - 1 ≤ 9223372036854775807) :
    Calls Try.prog 4 #[.int .i64 s, .int .i64 m] w fun e w' => e = .returned (.tuple #[.int .i64 (s / 12), .int .i64 ((s + m - 1) / 12)]) ∧ w' = w := by
  go_enter Try.func4, Try.ntmps4
  go_wp2_with fail
  refine (years_any s m _ h0 h1 h2).mono ?_
  rintro e w' ⟨rfl, rfl⟩
  go_wp2
  go_ret2
  exact ⟨rfl, rfl⟩

set_option maxHeartbeats 800000 in
theorem law_main (s a b : Int) (w : World) (h0 : 0 ≤ s) (h1 : 1 ≤ a) (h2 : 1 ≤ b) (h3 : a ≤ 9223372036854775807 - b) (h4 : s ≤ 9223372036854775807 - (a + b - 1)) :
    Calls Try.prog 3 #[.int .i64 s, .int .i64 a, .int .i64 b] w fun e w' => e = .returned (.bool true) ∧ w' = w := by
  have hx : 1 ≤ s + (a + b) := by omega
  have hy : s + (a + b) - 1 ≤ 9223372036854775807 := by omega
  have hz : 0 ≤ s + (a + b) := by omega
  have ew : wrap64 (wrap64 (s + (a + b)) - 1) = s + (a + b) - 1 := last_month _ hz hy hx
  have EW : Hid (wrap64 (wrap64 (s + (a + b)) - 1) = s + (a + b) - 1) := ew
  clear ew
  go_enter Try.func3, Try.ntmps3
  go_wp2_with fail
  refine (zzyears_any s (a + b) _ h0 (by omega) (by omega)).mono ?_
  rintro e w' ⟨rfl, rfl⟩
  go_wp2_with fail
  refine (zzyears_any s a _ h0 (by omega) (by omega)).mono ?_
  rintro e w' ⟨rfl, rfl⟩
  go_wp2_with fail
  refine (zzyears_any (s + a) b _ (by omega) (by omega) (by omega)).mono ?_
  rintro e w' ⟨rfl, rfl⟩
  go_wp2_with fail
  refine (inYear_of s _ (by omega) (by omega)).mono ?_
  rintro e w' ⟨rfl, rfl⟩
  go_wp2_with fail
  rw [EW.out]
  refine (inYear_of (s + (a + b) - 1) _ (by omega) (by omega)).mono ?_
  rintro e w' ⟨rfl, rfl⟩
  go_wp2_with fail
  refine (inYear_of s _ (by omega) (by omega)).mono ?_
  rintro e w' ⟨rfl, rfl⟩
  go_wp2_with fail
  refine (inYear_of (s + a - 1) _ (by omega) (by omega)).mono ?_
  rintro e w' ⟨rfl, rfl⟩
  go_wp2_with fail
  refine (inYear_of (s + a) _ (by omega) (by omega)).mono ?_
  rintro e w' ⟨rfl, rfl⟩
  go_wp2_with fail
  rw [EW.out, show s + a + b - 1 = s + (a + b) - 1 from by omega]
  refine (inYear_of (s + (a + b) - 1) _ (by omega) (by omega)).mono ?_
  rintro e w' ⟨rfl, rfl⟩
  go_wp2
  go_ret
  exact ⟨ret_true (decide_eq_true (by omega)), rfl⟩

end Go.Proofs.Qxb6617589a
