/-
  THE WALK of FnHeldReplayAndDistinctCount.
-/
import Derived.Test.Qxb6617068aState
import Derived.Test.Qxb6617068aDistinct
namespace Go.Proofs.Qxb6617068a
open Go.RowKit

set_option maxHeartbeats 400000 in
set_option maxRecDepth 100000 in
theorem distinct_none (a : Option Addr) (cap : Nat) (w : World) :
    Calls Try.prog 10 #[.slice a 0 cap] w fun e w' => e = .returned (.int .i64 0) ∧ Below w.heap.size w w' := by
  obtain ⟨i0, hi, hz0, hz1, hz2⟩ := info_parts Try.info9
  go_enter Try.func10, Try.ntmps10
  go_wp2_with (first
    | (at_make; refine wpList_make_full _ rfl _ _ 22 rfl w.heap.size 9 i0 (.string ByteArray.empty) 1 Try.underlying22 hi hz0 hz1 _ _ _ _ 0 rfl rfl rfl rfl (by omega) (by unfold maxLen; omega) (Nat.le_refl _) ?_; intro w1 hrow hgrow)
    | fail)
  have hbel0 : Below w.heap.size w w1 := (Below.refl _ _).grown hgrow (Nat.le_refl _) (fun _ h => by cases h)
  clear hrow hgrow hi hz0 hz1 hz2 i0
  refine wp_loop_rounds 1 ?_
  rw [rounds_succ]
  go_wp2_with fail
  refine wp_loop_rounds 1 ?_
  rw [rounds_succ]
  go_wp2_with fail
  refine wp_loop_rounds 1 ?_
  rw [rounds_succ]
  go_wp2
  go_ret
  exact ⟨rfl, hbel0⟩

set_option maxHeartbeats 400000 in
set_option maxRecDepth 100000 in
/-- No name: a slice of length 0, a nil one too. -/
theorem lawB_none (a : Option Addr) (cap : Nat) (w : World) :
    Calls Try.prog 4 #[.slice a 0 cap] w fun e w' => e = .returned (.bool true) ∧ Below w.heap.size w w' := by
  go_enter Try.func4, Try.ntmps4
  go_wp2_with fail
  refine (bytes9_none a cap _).mono ?_
  rintro e w' ⟨rfl, rfl⟩
  go_wp2_with fail
  refine wp_loop_rounds 1 ?_
  rw [rounds_succ]
  go_wp2_with fail
  refine (zznew_any _).mono ?_
  rintro e w1 ⟨rfl, hh, hb⟩
  clear hh
  go_wp2_with fail
  refine wp_loop_rounds 1 ?_
  rw [rounds_succ]
  go_wp2_with fail
  refine wp_loop_rounds 1 ?_
  rw [rounds_succ]
  go_wp2_with fail
  refine (distinct_none a cap _).mono ?_
  rintro e w2 ⟨rfl, hb2⟩
  go_wp2
  go_ret
  exact ⟨rfl, hb.trans (hb2.mono hb.size)⟩

/-- A name that is on the list. -/
theorem zzheld_again (B c n k : Nat) (S : Nat → ByteArray) (w : World) (hk : k < n) (h : HeldIs w B (dist S n) c) (hx : (S k).size ≤ maxLen) (hc : c ≤ 100000) :
    Calls Try.prog 7 #[.pointer (some ⟨B, 0, none⟩), .string (S k)] w fun e w' => e = .returned (.bool true) ∧ HeldIs w' B (dist S n) (c + 1) ∧ Below B w w' := by
  have hm : memB (dist S n) (S k) = true := (memB_iff _ _).2 ((mem_dist S (S k) n).2 ⟨k, hk, rfl⟩)
  have := zzheld_all B c (dist S n) (S k) w h hx hc
  rw [hm, add_old hm] at this
  exact this

theorem zzheld_dist2 (B k : Nat) (S : Nat → ByteArray) (w : World) (h : HeldIs w B (dist S k) k) (hx : (S k).size ≤ maxLen) (hc : k ≤ 100000) :
    Calls Try.prog 7 #[.pointer (some ⟨B, 0, none⟩), .string (S k)] w fun e w' => e = .returned (.bool (hasB S k (S k))) ∧ HeldIs w' B (dist S (k + 1)) (k + 1) ∧ Below B w w' := by
  rw [← memB_dist]
  exact zzheld_all B k (dist S k) (S k) w h hx hc

set_option maxHeartbeats 800000 in
set_option maxRecDepth 100000 in
theorem lawB_any (b off len cap : Nat) (S : Nat → ByteArray) (w : World) (hbig : len ≤ 9223372036854775807) (hb : b < w.heap.size)
    (hc : ∀ j, j < len → w.cell? ⟨b, off + j, none⟩ = some (.string (S j))) :
    Calls Try.prog 4 #[.slice (some ⟨b, off, none⟩) len cap] w fun e w' => e = .returned (.bool true) ∧ Below w.heap.size w w' := by
  go_enter Try.func4, Try.ntmps4
  go_wp2_with fail
  refine (bytes9_any b off len cap S _ hc).mono ?_
  rintro e w' (⟨rfl, rfl⟩ | ⟨rfl, hsm, rfl⟩)
  · go_wp2
    go_ret
    exact ⟨rfl, Below.refl _ _⟩
  · by_cases h12 : 4096 < len
    · have h12' : (4096 : Int) < (len : Int) := by omega
      go_wp2
      go_ret
      exact ⟨rfl, Below.refl _ _⟩
    · have hl : len ≤ 4096 := by omega
      clear h12
      go_wp2_with fail
      go_loop [3, 4] (fun t i => ∃ (k : Nat) (z : Int), k ≤ len ∧ i = .int .i64 k ∧ t = .int .i64 z ∧ 0 ≤ z ∧ z ≤ 1048576) (fun _ i => len - (intOf i).toNat)
      case atStart => exact ⟨0, 0, Nat.zero_le _, rfl, rfl, by omega, by omega⟩
      case round =>
        obtain ⟨k, z, hk, rfl, rfl, hz0, hz1⟩ := hrel
        by_cases hlt : k < len
        · have hcell : w'.cell? ⟨b, off + k, none⟩ = some (.string (S k)) := hc k hlt
          have hsk : (S k).size ≤ 1048576 := hsm k hlt
          go_wp2_with fail
          · go_ret
            exact ⟨rfl, Below.refl _ _⟩
          · go_round
            case rel => exact ⟨k + 1, _, by omega, by go_num, rfl, by omega, by omega⟩
            case measure => simp [intOf]; omega
        · go_wp2_with fail
          refine (zznew_any _).mono ?_
          rintro e w1 ⟨rfl, hh, hb1⟩
          have HH : Hid (HeldIs w1 w'.heap.size [] 0) := hh
          clear hh
          go_wp2_with fail
          go_loopw [6, 7] (fun c i wr => ∃ k : Nat, k ≤ len ∧ i = .int .i64 k ∧ c = .int .i64 ((dist S k).length : Nat) ∧ HeldIs wr w'.heap.size (dist S k) k ∧ Below w'.heap.size w' wr) (fun _ i _ => len - (intOf i).toNat)
          case atStart => exact ⟨0, Nat.zero_le _, rfl, rfl, HH.out, hb1⟩
          case round =>
            obtain ⟨k, hk, rfl, rfl, hheld, hnx⟩ := hrel
            have hdl := dist_le S k
            by_cases hlt : k < len
            · have hcell : wr.cell? ⟨b, off + k, none⟩ = some (.string (S k)) := (hnx.cell hb).trans (hc k hlt)
              have hsk : (S k).size ≤ maxLen := by have := hsm k hlt; unfold maxLen; omega
              go_wp2_with fail
              refine (zzheld_dist2 w'.heap.size k S _ hheld hsk (by omega)).mono ?_
              rintro e w2 ⟨rfl, hheld2, hnx2⟩
              have hnx3 := hnx.trans hnx2
              go_wp2
              · have ht : (!hasB S k (S k)) = true := by assumption
                have hn := length_dist_new (by simpa using ht)
                go_roundw
                case rel => exact ⟨k + 1, by omega, by go_num, num_of (by omega), hheld2, hnx3⟩
                case measure => simp [intOf]; omega
              · have ht : (!hasB S k (S k)) = false := by assumption
                have hn := length_dist_old (by simpa using ht)
                go_roundw
                case rel => exact ⟨k + 1, by omega, by go_num, num_of (by omega), hheld2, hnx3⟩
                case measure => simp [intOf]; omega
            · have e : k = len := by omega
              subst e
              have HH2 : Hid (HeldIs wr w'.heap.size (dist S k) k) := hheld
              clear hheld
              go_wp2_with fail
              go_loopw [8] (fun i wr => ∃ j : Nat, j ≤ k ∧ i = .int .i64 j ∧ HeldIs wr w'.heap.size (dist S k) (k + j) ∧ Below w'.heap.size w' wr) (fun i _ => k - (intOf i).toNat)
              case atStart => exact ⟨0, Nat.zero_le _, rfl, HH2.out, hnx⟩
              case round =>
                clear HH2 hnx
                obtain ⟨j, hj, rfl, hheld, hnx⟩ := hrel
                by_cases hlt : j < k
                · have hcell : wr.cell? ⟨b, off + j, none⟩ = some (.string (S j)) := (hnx.cell hb).trans (hc j hlt)
                  have hsk : (S j).size ≤ maxLen := by have := hsm j hlt; unfold maxLen; omega
                  go_wp2_with fail
                  refine (zzheld_again w'.heap.size (k + j) k j S _ hlt hheld hsk (by omega)).mono ?_
                  rintro e w2 ⟨rfl, hheld2, hnx2⟩
                  go_wp2
                  go_roundw
                  case rel => exact ⟨j + 1, by omega, by go_num, hheld2, hnx.trans hnx2⟩
                  case measure => simp [intOf]; omega
                · go_wp2_with fail
                  refine (distinct_any b off k cap S _ hl (Nat.lt_of_lt_of_le hb hnx.size) (fun i hi => (hnx.cell hb).trans (hc i hi))).mono ?_
                  rintro e w2 ⟨rfl, hb2⟩
                  go_wp2
                  go_ret
                  exact ⟨rfl, hnx.trans (hb2.mono hnx.size)⟩

end Go.Proofs.Qxb6617068a
