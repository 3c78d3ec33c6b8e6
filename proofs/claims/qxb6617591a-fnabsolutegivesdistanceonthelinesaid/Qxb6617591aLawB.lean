/-
  THE WALK of FnAbsoluteGivesDistanceOnTheLine.
-/
import Derived.Test.Qxb6617591aAbs
namespace Go.Proofs.Qxb6617591a
open Go.RowKit

/-! ### the plain law -/
theorem ret_true {x : Bool} (h : x = true) : Ending.returned (.bool x) = .returned (.bool true) := by rw [h]

theorem diff_wrap (p q : Int) : IntKind.u64.wrap (IntKind.u64.wrap p - IntKind.u64.wrap q) = IntKind.u64.wrap (p - q) := by
  simp only [u64_wrap]
  omega

theorem signs_part {a b : Int} (h : (!decide (a < 0) == decide (b < 0)) = true) : (a < 0 ∧ 0 ≤ b) ∨ (0 ≤ a ∧ b < 0) := by
  by_cases ha : a < 0 <;> by_cases hb : b < 0 <;> simp [ha, hb] at h <;> omega

theorem signs_same {a b : Int} (h : (!decide (a < 0) == decide (b < 0)) = false) : (a < 0 ∧ b < 0) ∨ (0 ≤ a ∧ 0 ≤ b) := by
  by_cases ha : a < 0 <;> by_cases hb : b < 0 <;> simp [ha, hb] at h <;> omega

/-- p, q: the two numbers, the greater first. -/
theorem opposite {p q a b r s : Int} (hr : r = absI a) (hs : s = absI b) (h : (a < 0 ∧ 0 ≤ b) ∨ (0 ≤ a ∧ b < 0)) (hpq : (p = a ∧ q = b) ∨ (p = b ∧ q = a)) (hle : q ≤ p) : (IntKind.u64.wrap (IntKind.u64.wrap p - IntKind.u64.wrap q) == IntKind.u64.wrap (r + s)) = true := by
  rw [diff_wrap, beq_iff_eq]
  congr 1
  unfold absI at hr hs
  split at hr <;> split at hs <;> omega

theorem same_ge {p q a b r s : Int} (hr : r = absI a) (hs : s = absI b) (h : (a < 0 ∧ b < 0) ∨ (0 ≤ a ∧ 0 ≤ b)) (hpq : (p = a ∧ q = b) ∨ (p = b ∧ q = a)) (hle : q ≤ p) (hrs : s ≤ r) : (IntKind.u64.wrap (IntKind.u64.wrap p - IntKind.u64.wrap q) == IntKind.u64.wrap (r - s)) = true := by
  rw [diff_wrap, beq_iff_eq]
  congr 1
  unfold absI at hr hs
  split at hr <;> split at hs <;> omega

theorem same_lt {p q a b r s : Int} (hr : r = absI a) (hs : s = absI b) (h : (a < 0 ∧ b < 0) ∨ (0 ≤ a ∧ 0 ≤ b)) (hpq : (p = a ∧ q = b) ∨ (p = b ∧ q = a)) (hle : q ≤ p) (hrs : r < s) : (IntKind.u64.wrap (IntKind.u64.wrap p - IntKind.u64.wrap q) == IntKind.u64.wrap (s - r)) = true := by
  rw [diff_wrap, beq_iff_eq]
  congr 1
  unfold absI at hr hs
  split at hr <;> split at hs <;> omega

/-! ### the walk -/
set_option maxHeartbeats 400000 in
theorem lawB_any (a b : Int) (w : World) (ha1 : -9223372036854775808 ≤ a) (ha2 : a ≤ 9223372036854775807) (hb1 : -9223372036854775808 ≤ b) (hb2 : b ≤ 9223372036854775807) :
    Calls Try.prog 4 #[.int .i64 a, .int .i64 b] w fun e w' => e = .returned (.bool true) ∧ w' = w := by
  obtain ⟨r, hr⟩ : ∃ r, r = absI a := ⟨_, rfl⟩
  obtain ⟨s, hs⟩ : ∃ s, s = absI b := ⟨_, rfl⟩
  have HR : Hid (r = absI a) := hr
  have HS : Hid (s = absI b) := hs
  clear hr hs
  by_cases hab : b ≤ a
  · go_enter Try.func4, Try.ntmps4
    go_wp2_with fail
    refine (zzabs_is a r _ HR.out ha1 ha2).mono ?_
    rintro e w' ⟨rfl, rfl⟩
    go_wp2_with fail
    refine (zzabs_is b s _ HS.out hb1 hb2).mono ?_
    rintro e w' ⟨rfl, rfl⟩
    go_wp2
    · have ht : (!decide (a < 0) == decide (b < 0)) = true := by assumption
      go_ret
      exact ⟨ret_true (opposite HR.out HS.out (signs_part ht) (Or.inl ⟨rfl, rfl⟩) hab), rfl⟩
    · have ht : (!decide (a < 0) == decide (b < 0)) = false := by assumption
      have hrs : s ≤ r := by assumption
      go_ret
      exact ⟨ret_true (same_ge HR.out HS.out (signs_same ht) (Or.inl ⟨rfl, rfl⟩) hab hrs), rfl⟩
    · have ht : (!decide (a < 0) == decide (b < 0)) = false := by assumption
      have hrs : r < s := by assumption
      go_ret
      exact ⟨ret_true (same_lt HR.out HS.out (signs_same ht) (Or.inl ⟨rfl, rfl⟩) hab hrs), rfl⟩
  · go_enter Try.func4, Try.ntmps4
    go_wp2_with fail
    refine (zzabs_is a r _ HR.out ha1 ha2).mono ?_
    rintro e w' ⟨rfl, rfl⟩
    go_wp2_with fail
    refine (zzabs_is b s _ HS.out hb1 hb2).mono ?_
    rintro e w' ⟨rfl, rfl⟩
    go_wp2
    · have ht : (!decide (a < 0) == decide (b < 0)) = true := by assumption
      go_ret
      exact ⟨ret_true (opposite HR.out HS.out (signs_part ht) (Or.inr ⟨rfl, rfl⟩) (by omega)), rfl⟩
    · have ht : (!decide (a < 0) == decide (b < 0)) = false := by assumption
      have hrs : s ≤ r := by assumption
      go_ret
      exact ⟨ret_true (same_ge HR.out HS.out (signs_same ht) (Or.inr ⟨rfl, rfl⟩) (by omega) hrs), rfl⟩
    · have ht : (!decide (a < 0) == decide (b < 0)) = false := by assumption
      have hrs : r < s := by assumption
      go_ret
      exact ⟨ret_true (same_lt HR.out HS.out (signs_same ht) (Or.inr ⟨rfl, rfl⟩) (by omega) hrs), rfl⟩

end Go.Proofs.Qxb6617591a
