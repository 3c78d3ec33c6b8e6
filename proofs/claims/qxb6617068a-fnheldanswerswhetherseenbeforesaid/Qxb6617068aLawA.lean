/-
  THE WALK of FnHeldAnswersWhetherSeenBefore.
-/
import Derived.Test.Qxb6617068aState
namespace Go.Proofs.Qxb6617068a
open Go.RowKit

theorem zzheld_dist (B k : Nat) (S : Nat → ByteArray) (w : World) (h : HeldIs w B (dist S k) k) (hx : (S k).size ≤ maxLen) (hc : k ≤ 100000) :
    Calls Try.prog 7 #[.pointer (some ⟨B, 0, none⟩), .string (S k)] w fun e w' => e = .returned (.bool (hasB S k (S k))) ∧ HeldIs w' B (dist S (k + 1)) (k + 1) ∧ Below B w w' := by
  rw [← memB_dist]
  exact zzheld_all B k (dist S k) (S k) w h hx hc

set_option maxHeartbeats 400000 in
set_option maxRecDepth 100000 in
/-- No name: a slice of length 0, a nil one too. -/
theorem lawA_none (a : Option Addr) (cap : Nat) (w : World) :
    Calls Try.prog 3 #[.slice a 0 cap] w fun e w' => e = .returned (.bool true) ∧ Below w.heap.size w w' := by
  go_enter Try.func3, Try.ntmps3
  go_wp2_with fail
  refine (bytes5_none a cap _).mono ?_
  rintro e w' ⟨rfl, rfl⟩
  go_wp2_with fail
  refine wp_loop_rounds 1 ?_
  rw [rounds_succ]
  go_wp2_with fail
  refine (zznew_any _).mono ?_
  rintro e w1 ⟨rfl, hh, hb⟩
  clear hh
  go_wp2_with fail
  refine wp_loop_rounds 1 ?_
  rw [rounds_succ]
  go_wp2
  go_ret
  exact ⟨rfl, hb⟩

set_option maxHeartbeats 800000 in
set_option maxRecDepth 100000 in
theorem lawA_any (b off len cap : Nat) (S : Nat → ByteArray) (w : World) (hbig : len ≤ 9223372036854775807) (hb : b < w.heap.size)
    (hc : ∀ j, j < len → w.cell? ⟨b, off + j, none⟩ = some (.string (S j))) :
    Calls Try.prog 3 #[.slice (some ⟨b, off, none⟩) len cap] w fun e w' => e = .returned (.bool true) ∧ Below w.heap.size w w' := by
  go_enter Try.func3, Try.ntmps3
  go_wp2_with fail
  refine (bytes5_any b off len cap S _ hc).mono ?_
  rintro e w' (⟨rfl, rfl⟩ | ⟨rfl, hsm, rfl⟩)
  · go_wp2
    go_ret
    exact ⟨rfl, Below.refl _ _⟩
  · by_cases h12 : 4096 < len
    · have h12' : (4096 : Int) < (len : Int) := by omega
      go_wp2
      go_ret
      exact ⟨rfl, Below.refl _ _⟩
    · have hl : len ≤ 4096 := by omega
      clear h12
      go_wp2_with fail
      go_loop [3, 4] (fun t i => ∃ (k : Nat) (z : Int), k ≤ len ∧ i = .int .i64 k ∧ t = .int .i64 z ∧ 0 ≤ z ∧ z ≤ 1048576) (fun _ i => len - (intOf i).toNat)
      case atStart => exact ⟨0, 0, Nat.zero_le _, rfl, rfl, by omega, by omega⟩
      case round =>
        obtain ⟨k, z, hk, rfl, rfl, hz0, hz1⟩ := hrel
        by_cases hlt : k < len
        · have hcell : w'.cell? ⟨b, off + k, none⟩ = some (.string (S k)) := hc k hlt
          have hsk : (S k).size ≤ 1048576 := hsm k hlt
          go_wp2_with fail
          · go_ret
            exact ⟨rfl, Below.refl _ _⟩
          · go_round
            case rel => exact ⟨k + 1, _, by omega, by go_num, rfl, by omega, by omega⟩
            case measure => simp [intOf]; omega
        · go_wp2_with fail
          refine (zznew_any _).mono ?_
          rintro e w1 ⟨rfl, hh, hb1⟩
          have HH : Hid (HeldIs w1 w'.heap.size [] 0) := hh
          clear hh
          go_wp2_with fail
          go_loopw [6] (fun i wr => ∃ k : Nat, k ≤ len ∧ i = .int .i64 k ∧ HeldIs wr w'.heap.size (dist S k) k ∧ Below w'.heap.size w' wr) (fun i _ => len - (intOf i).toNat)
          case atStart => exact ⟨0, Nat.zero_le _, rfl, HH.out, hb1⟩
          case round =>
            obtain ⟨k, hk, rfl, hheld, hnx⟩ := hrel
            by_cases hlt : k < len
            · have hcell : wr.cell? ⟨b, off + k, none⟩ = some (.string (S k)) := (hnx.cell hb).trans (hc k hlt)
              have hsk : (S k).size ≤ maxLen := by have := hsm k hlt; unfold maxLen; omega
              go_wp2_with fail
              refine (zzheld_dist w'.heap.size k S _ hheld hsk (by omega)).mono ?_
              rintro e w2 ⟨rfl, hheld2, hnx2⟩
              have hnx3 := hnx.trans hnx2
              go_wp2_with fail
              refine (occurs_any b off len cap k S _ hbig hlt (fun j hj => (hnx3.cell hb).trans (hc j hj))).mono ?_
              rintro e w3 ⟨rfl, q, rfl⟩
              go_wp2
              go_roundw
              case rel => exact ⟨k + 1, by omega, by go_num, hheld2.drewN q, below_drewN hnx3 q⟩
              case measure => simp [intOf]; omega
            · go_wp2
              go_ret
              exact ⟨rfl, hnx⟩

end Go.Proofs.Qxb6617068a
