/-
  WALKS: the functions that only read: slices.Index, slices.Contains (at []string), occursBefore, and the two bounds on lengths.
-/
import Derived.Test.Qxb6617068aRows
import Derived.Test.Qxb6617068aPlain
import Derived.WalkKit
import Derived.WalkSpells
import Derived.WalkLawsBesides
import Derived.Deep.QuietTactic
import Derived.BigQuiet
namespace Go.Proofs.Qxb6617068a
open Go.RowKit

theorem ret_bool {a b : Bool} (h : a = b) : Ending.returned (.bool a) = .returned (.bool b) := by rw [h]

set_option maxHeartbeats 400000 in
theorem index_any (b off len cap : Nat) (S : Nat → ByteArray) (x : ByteArray) (w : World) (hbig : len ≤ 9223372036854775807)
    (hc : ∀ j, j < len → w.cell? ⟨b, off + j, none⟩ = some (.string (S j))) :
    Calls Try.prog 13 #[.slice (some ⟨b, off, none⟩) len cap, .string x] w fun e w' => ∃ n : Int, e = .returned (.int .i64 n) ∧ decide (0 ≤ n) = hasB S len x ∧ w' = w := by
  go_enter Try.func13, Try.ntmps13
  go_wp2
  go_loop [8] (fun i => ∃ k : Nat, k ≤ len ∧ i = .int .i64 k ∧ ∀ j, j < k → S j ≠ x) (fun i => len - (intOf i).toNat)
  case atStart => exact ⟨0, Nat.zero_le _, rfl, fun _ hj => absurd hj (Nat.not_lt_zero _)⟩
  case round =>
    obtain ⟨k, hk, rfl, hno⟩ := hrel
    have hcell : k < len → w.cell? ⟨b, off + k, none⟩ = some (.string (S k)) := fun _ => hc k (by omega)
    have HN : Hid (∀ j, j < k → S j ≠ x) := hno
    clear hno
    go_wp2
    · have hlt : k < len := by assumption
      have he : (x.toList == (S k).toList) = true := by assumption
      have hh : hasB S len x = true := (hasB_iff S x len).2 ⟨k, hlt, ((bytes_eq_iff _ _).1 he).symm⟩
      go_ret
      exact ⟨_, rfl, by rw [hh]; simp, rfl⟩
    · have hlt : k < len := by assumption
      have he : (x.toList == (S k).toList) = false := by assumption
      have hne : S k ≠ x := fun h => (bytes_ne_iff _ _).1 he h.symm
      go_round
      case rel => exact ⟨k + 1, by omega, by go_num, fun j hj => if e : j = k then by rw [e]; exact hne else HN.out j (by omega)⟩
      case measure => simp [intOf]; omega
    · have hge : ¬ k < len := by assumption
      have hh : hasB S len x = false := (hasB_false_iff S x len).2 fun j hj => HN.out j (by omega)
      go_ret
      exact ⟨_, rfl, by rw [hh]; rfl, rfl⟩

set_option maxHeartbeats 400000 in
theorem contains_any (b off len cap : Nat) (S : Nat → ByteArray) (x : ByteArray) (w : World) (hbig : len ≤ 9223372036854775807)
    (hc : ∀ j, j < len → w.cell? ⟨b, off + j, none⟩ = some (.string (S j))) :
    Calls Try.prog 12 #[.slice (some ⟨b, off, none⟩) len cap, .string x] w fun e w' => e = .returned (.bool (hasB S len x)) ∧ w' = w := by
  go_enter Try.func12, Try.ntmps12
  go_wp2_with fail
  refine (index_any b off len cap S x _ hbig hc).mono ?_
  rintro e w' ⟨n, rfl, hn, rfl⟩
  have HN : Hid (decide (0 ≤ n) = hasB S len x) := hn
  clear hn
  go_wp2
  go_ret
  exact ⟨ret_bool HN.out, rfl⟩

theorem contains_is (b off len cap : Nat) (S : Nat → ByteArray) (x : ByteArray) (w : World) (hbig : len ≤ 9223372036854775807)
    (hc : ∀ j, j < len → w.cell? ⟨b, off + j, none⟩ = some (.string (S j))) {r : Bool} (hr : hasB S len x = r) :
    Calls Try.prog 12 #[.slice (some ⟨b, off, none⟩) len cap, .string x] w fun e w' => e = .returned (.bool r) ∧ w' = w := by
  rw [← hr]
  exact contains_any b off len cap S x w hbig hc

set_option maxHeartbeats 400000 in
theorem occurs_any (b off len cap : Nat) (i : Nat) (S : Nat → ByteArray) (w : World) (hbig : len ≤ 9223372036854775807) (hi : i < len)
    (hc : ∀ j, j < len → w.cell? ⟨b, off + j, none⟩ = some (.string (S j))) :
    Calls Try.prog 8 #[.slice (some ⟨b, off, none⟩) len cap, .int .i64 i] w fun e w' => e = .returned (.bool (hasB S i (S i))) ∧ ∃ n, w' = w.drewN n := by
  have hci : w.cell? ⟨b, off + i, none⟩ = some (.string (S i)) := hc i hi
  have hii : (i : Int) < (len : Int) := by omega
  go_enter Try.func8, Try.ntmps8
  go_wp2
  go_loopw [5] (fun t wr => ∃ k : Nat, k ≤ i ∧ t = .int .i64 k ∧ (∀ j, j < k → S j ≠ S i) ∧ ∃ n, wr = w.drewN n) (fun t _ => i - (intOf t).toNat)
  case atStart => exact ⟨0, Nat.zero_le _, rfl, fun _ hj => absurd hj (Nat.not_lt_zero _), 0, rfl⟩
  case round =>
    obtain ⟨k, hk, rfl, hno, n, rfl⟩ := hrel
    have HN : Hid (∀ j, j < k → S j ≠ S i) := hno
    clear hno
    by_cases hlt : k < i
    · have hcell : w.cell? ⟨b, off + k, none⟩ = some (.string (S k)) := hc k (by omega)
      go_wp2
      go_quiet (fail)
      go_wp2
      · have he : ((S k).toList == (S i).toList) = true := by assumption
        have hh : hasB S i (S i) = true := (hasB_iff S _ i).2 ⟨k, hlt, (bytes_eq_iff _ _).1 he⟩
        go_ret
        exact ⟨ret_bool hh.symm, _, World.drewN_drewN _ _ _⟩
      · have he : ((S k).toList == (S i).toList) = false := by assumption
        have hne : S k ≠ S i := (bytes_ne_iff _ _).1 he
        go_roundw
        case rel => exact ⟨k + 1, by omega, by go_num, fun j hj => if e : j = k then by rw [e]; exact hne else HN.out j (by omega), _, rfl⟩
        case measure => simp [intOf]; omega
    · have hh : hasB S i (S i) = false := (hasB_false_iff S _ i).2 fun j hj => HN.out j (by omega)
      have HH : Hid (hasB S i (S i) = false) := hh
      clear hh
      go_wp2
      go_ret
      exact ⟨ret_bool HH.out.symm, _, rfl⟩

/-! ### the bounds on lengths, laid ahead of each law by program -/

set_option maxHeartbeats 400000 in
theorem bytes5_none (a : Option Addr) (cap : Nat) (w : World) :
    Calls Try.prog 5 #[.slice a 0 cap] w fun e w' => e = .returned (.bool true) ∧ w' = w := by
  go_enter Try.func5, Try.ntmps5
  go_wp2
  refine wp_loop_rounds 1 ?_
  rw [rounds_succ]
  go_wp2
  go_ret
  exact ⟨rfl, rfl⟩

set_option maxHeartbeats 400000 in
theorem bytes5_any (b off len cap : Nat) (S : Nat → ByteArray) (w : World)
    (hc : ∀ j, j < len → w.cell? ⟨b, off + j, none⟩ = some (.string (S j))) :
    Calls Try.prog 5 #[.slice (some ⟨b, off, none⟩) len cap] w fun e w' => (e = .returned (.bool false) ∧ w' = w) ∨ (e = .returned (.bool true) ∧ Small S len ∧ w' = w) := by
  by_cases hl : 1048576 < len
  · have hl' : (1048576 : Int) < (len : Int) := by omega
    go_enter Try.func5, Try.ntmps5
    go_wp2
    go_ret
    exact Or.inl ⟨rfl, rfl⟩
  · have hl' : len ≤ 1048576 := by omega
    clear hl
    go_enter Try.func5, Try.ntmps5
    go_wp2
    go_loop [3, 4] (fun t i => ∃ (k : Nat) (z : Int), k ≤ len ∧ i = .int .i64 k ∧ t = .int .i64 z ∧ 0 ≤ z ∧ z ≤ 1048576 ∧ Small S k) (fun _ i => len - (intOf i).toNat)
    case atStart => exact ⟨0, len, Nat.zero_le _, rfl, rfl, by omega, by omega, small_zero S⟩
    case round =>
      obtain ⟨k, z, hk, rfl, rfl, hz0, hz1, hno⟩ := hrel
      have hcell : k < len → w.cell? ⟨b, off + k, none⟩ = some (.string (S k)) := fun _ => hc k (by omega)
      go_wp2
      · go_ret
        exact Or.inl ⟨rfl, rfl⟩
      · go_ret
        exact Or.inl ⟨rfl, rfl⟩
      · have hlt : k < len := by assumption
        have h1 : ((S k).size : Int) ≤ 1048576 := by assumption
        go_round
        case rel => exact ⟨k + 1, _, by omega, by go_num, rfl, by omega, by omega, small_succ hno (by omega)⟩
        case measure => simp [intOf]; omega
      · have hge : ¬ k < len := by assumption
        have e : k = len := by omega
        subst e
        go_ret
        exact Or.inr ⟨rfl, hno, rfl⟩

set_option maxHeartbeats 400000 in
theorem bytes9_none (a : Option Addr) (cap : Nat) (w : World) :
    Calls Try.prog 9 #[.slice a 0 cap] w fun e w' => e = .returned (.bool true) ∧ w' = w := by
  go_enter Try.func9, Try.ntmps9
  go_wp2
  refine wp_loop_rounds 1 ?_
  rw [rounds_succ]
  go_wp2
  go_ret
  exact ⟨rfl, rfl⟩

set_option maxHeartbeats 400000 in
theorem bytes9_any (b off len cap : Nat) (S : Nat → ByteArray) (w : World)
    (hc : ∀ j, j < len → w.cell? ⟨b, off + j, none⟩ = some (.string (S j))) :
    Calls Try.prog 9 #[.slice (some ⟨b, off, none⟩) len cap] w fun e w' => (e = .returned (.bool false) ∧ w' = w) ∨ (e = .returned (.bool true) ∧ Small S len ∧ w' = w) := by
  by_cases hl : 1048576 < len
  · have hl' : (1048576 : Int) < (len : Int) := by omega
    go_enter Try.func9, Try.ntmps9
    go_wp2
    go_ret
    exact Or.inl ⟨rfl, rfl⟩
  · have hl' : len ≤ 1048576 := by omega
    clear hl
    go_enter Try.func9, Try.ntmps9
    go_wp2
    go_loop [3, 4] (fun t i => ∃ (k : Nat) (z : Int), k ≤ len ∧ i = .int .i64 k ∧ t = .int .i64 z ∧ 0 ≤ z ∧ z ≤ 1048576 ∧ Small S k) (fun _ i => len - (intOf i).toNat)
    case atStart => exact ⟨0, len, Nat.zero_le _, rfl, rfl, by omega, by omega, small_zero S⟩
    case round =>
      obtain ⟨k, z, hk, rfl, rfl, hz0, hz1, hno⟩ := hrel
      have hcell : k < len → w.cell? ⟨b, off + k, none⟩ = some (.string (S k)) := fun _ => hc k (by omega)
      go_wp2
      · go_ret
        exact Or.inl ⟨rfl, rfl⟩
      · go_ret
        exact Or.inl ⟨rfl, rfl⟩
      · have hlt : k < len := by assumption
        have h1 : ((S k).size : Int) ≤ 1048576 := by assumption
        go_round
        case rel => exact ⟨k + 1, _, by omega, by go_num, rfl, by omega, by omega, small_succ hno (by omega)⟩
        case measure => simp [intOf]; omega
      · have hge : ¬ k < len := by assumption
        have e : k = len := by omega
        subst e
        go_ret
        exact Or.inr ⟨rfl, hno, rfl⟩

end Go.Proofs.Qxb6617068a
