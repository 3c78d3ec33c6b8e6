/-
  THE WALKS of zzAllDigits and isDecimal.
-/
import Derived.Test.Qxb6617610aRows
import Derived.Test.Qxb6617610aPlain
import Derived.WalkKit
import Derived.WalkSpells
import Derived.WalkLawsBesides
namespace Go.Proofs.Qxb6617610a
open Go.RowKit

theorem not_all {s : ByteArray} {a b k : Nat} (h1 : a ≤ k) (h2 : k < b) (hs : k < s.size) (h : ((s[k]'hs).toNat : Int) < 48 ∨ 57 < ((s[k]'hs).toNat : Int)) : ¬ All (byteAt s) a b := fun ha => by
  have := (isD_iff _).1 (ha k h1 h2)
  rw [byteAt_eq s k hs] at this
  omega

theorem all_succ {s : ByteArray} {a k : Nat} (ha : All (byteAt s) a k) (hs : k < s.size) (h : (48 : Int) ≤ ((s[k]'hs).toNat : Int) ∧ ((s[k]'hs).toNat : Int) ≤ 57) : All (byteAt s) a (k + 1) := fun j h1 h2 => by
  by_cases e : j = k
  · subst e
    rw [isD_iff, byteAt_eq s j hs]
    omega
  · exact ha j h1 (by omega)

set_option maxHeartbeats 400000 in
theorem alldigits_any (s : ByteArray) (a b : Nat) (w : World) (hs : s.size ≤ 1048576) (hab : a ≤ b) (hb : b ≤ s.size) :
    Calls Try.prog 8 #[.string s, .int .i64 a, .int .i64 b] w fun e w' => (e = .returned (.bool true) ∧ All (byteAt s) a b ∧ w' = w) ∨ (e = .returned (.bool false) ∧ ¬ All (byteAt s) a b ∧ w' = w) := by
  go_enter Try.func8, Try.ntmps8
  go_wp2
  go_loop [7] (fun i => ∃ k : Nat, a ≤ k ∧ k ≤ b ∧ i = .int .i64 k ∧ All (byteAt s) a k) (fun i => b - (intOf i).toNat)
  case atStart => exact ⟨a, Nat.le_refl _, hab, rfl, fun j h1 h2 => by omega⟩
  case round =>
    obtain ⟨k, hk1, hk2, rfl, hall⟩ := hrel
    have HA : Hid (All (byteAt s) a k) := hall
    clear hall
    by_cases hlt : k < b
    · have hks : k < s.size := by omega
      go_wp2
      · have ht : ((s[k]'hks).toNat : Int) < 48 ∨ 57 < ((s[k]'hks).toNat : Int) := by assumption
        go_ret
        exact Or.inr ⟨rfl, not_all hk1 hlt hks ht, rfl⟩
      · have ht : (48 : Int) ≤ ((s[k]'hks).toNat : Int) ∧ ((s[k]'hks).toNat : Int) ≤ 57 := by assumption
        go_round
        case rel => exact ⟨k + 1, by omega, by omega, by go_num, all_succ HA.out hks ht⟩
        case measure => simp [intOf]; omega
      · have ht : ((s[k]'hks).toNat : Int) < 48 := by assumption
        go_ret
        exact Or.inr ⟨rfl, not_all hk1 hlt hks (Or.inl ht), rfl⟩
    · have e : k = b := by omega
      subst e
      go_wp2
      go_ret
      exact Or.inl ⟨rfl, HA.out, rfl⟩

/-- What isDecimal answers of the string t that it counts over. -/
def Says (t : ByteArray) (w : World) (e : Ending) (w' : World) : Prop :=
  (e = .returned (.bool true) ∧ Counts (byteAt t) t.size ∧ ∃ p, w' = w.iter t p) ∨ (e = .returned (.bool false) ∧ ¬ Counts (byteAt t) t.size ∧ ∃ p, w' = w.iter t p)

theorem num_of {a b : Int} (h : a = b) : Value.int .i64 a = .int .i64 b := by rw [h]

theorem digit_at {t : ByteArray} {k : Nat} (hlt : k < t.size) (t1 : (48 : Int) ≤ ((t[k]'hlt).toNat : Int)) (t2 : ((t[k]'hlt).toNat : Int) ≤ 57) : isD (byteAt t k) = true := by
  rw [byteAt_eq t k hlt, isD_iff]
  omega
theorem digit_ne {c : Nat} (h : isD c = true) : c ≠ 46 := by
  have := (isD_iff c).1 h
  omega
theorem point_at {t : ByteArray} {k : Nat} (hlt : k < t.size) (t2 : (((t[k]'hlt).toNat : Int) == 46) = true) : byteAt t k = 46 := by
  rw [byteAt_eq t k hlt]
  rw [beq_iff_eq] at t2
  omega
theorem says_stop {t : ByteArray} {k p : Nat} {w : World} (hlt : k < t.size) (t1 : ((t[k]'hlt).toNat : Int) < 48 ∨ (57 : Int) < ((t[k]'hlt).toNat : Int)) (t2 : (((t[k]'hlt).toNat : Int) == 46) = false) : Says t w (.returned (.bool false)) (w.iter t p) := by
  refine Or.inr ⟨rfl, fun h => ?_, p, rfl⟩
  have t3 : ((t[k]'hlt).toNat : Int) ≠ 46 := by simpa using t2
  rcases h.1 k hlt with hd | hp
  · rw [byteAt_eq t k hlt, isD_iff] at hd
    omega
  · rw [byteAt_eq t k hlt] at hp
    omega
theorem says_end {t : ByteArray} {p : Nat} {w : World} (hok : Ok (byteAt t) t.size) (hd : 0 < digs (byteAt t) t.size) : Says t w (.returned (.bool (decide ((pts (byteAt t) t.size : Int) ≤ 1)))) (w.iter t p) := by
  by_cases h : (pts (byteAt t) t.size : Int) ≤ 1
  · rw [decide_eq_true h]
    exact Or.inl ⟨rfl, ⟨hok, hd, by omega⟩, p, rfl⟩
  · rw [decide_eq_false h]
    exact Or.inr ⟨rfl, fun hc => h (by have := hc.2.2; omega), p, rfl⟩
theorem says_none {t : ByteArray} {p : Nat} {w : World} (hd : ¬ 0 < digs (byteAt t) t.size) : Says t w (.returned (.bool false)) (w.iter t p) :=
  Or.inr ⟨rfl, fun hc => hd hc.2.1, p, rfl⟩

set_option maxHeartbeats 800000 in
/-- No sign. -/
theorem isdec_plain (s : ByteArray) (w : World) (hs : s.size ≤ 1048576) (h0 : 0 < s.size) (h43 : (((s[0]'h0).toNat : Int) == 43) = false) (h45 : (((s[0]'h0).toNat : Int) == 45) = false) (hne : s.toList.isEmpty = false) :
    Calls Try.prog 7 #[.string s] w (Says s w) := by
  go_enter Try.func7, Try.ntmps7
  go_wp2
  go_loopw [3, 4] (fun d p wr => ∃ k : Nat, k ≤ s.size ∧ wr = w.iter s k ∧ d = .int .i64 (digs (byteAt s) k : Nat) ∧ p = .int .i64 (pts (byteAt s) k : Nat) ∧ Ok (byteAt s) k) (fun _ _ wr => s.size - wr.iterPos w.heap.size)
  case atStart => exact ⟨0, Nat.zero_le _, rfl, rfl, rfl, ok_zero _⟩
  case round =>
    obtain ⟨k, hk, rfl, rfl, rfl, hok⟩ := hrel
    have hd := digs_le (byteAt s) k
    have hp := pts_le (byteAt s) k
    have HO : Hid (Ok (byteAt s) k) := hok
    clear hok
    by_cases hlt : k < s.size
    · by_cases ha : (s[k]'hlt).toNat < 128
      · have hnx : ∀ ty, (Instr.next (.pointer (some ⟨w.heap.size, 0, none⟩)) true ty).run Try.prog (w.iter s k) = _ := fun ty => run_next_ascii w s k ty hlt ha
        go_wp2
        · have t1 : (48 : Int) ≤ ((s[k]'hlt).toNat : Int) := by assumption
          have t2 : ((s[k]'hlt).toNat : Int) ≤ 57 := by assumption
          have hc := digit_at hlt t1 t2
          go_roundw
          case rel => exact ⟨k + 1, by omega, rfl, num_of (by rw [digs_yes hc]; omega), num_of (by rw [pts_no (digit_ne hc)]), ok_succ HO.out (Or.inl hc)⟩
          case measure => simp; omega
        · have t1 : (57 : Int) < ((s[k]'hlt).toNat : Int) := by assumption
          have t2 : (((s[k]'hlt).toNat : Int) == 46) = false := by assumption
          go_ret
          exact says_stop hlt (Or.inr t1) t2
        · have t2 : (((s[k]'hlt).toNat : Int) == 46) = true := by assumption
          have hc := point_at hlt t2
          go_roundw
          case rel => exact ⟨k + 1, by omega, rfl, num_of (by rw [digs_no hc]), num_of (by rw [pts_yes hc]; omega), ok_succ HO.out (Or.inr hc)⟩
          case measure => simp; omega
        · have t1 : ((s[k]'hlt).toNat : Int) < 48 := by assumption
          have t2 : (((s[k]'hlt).toNat : Int) == 46) = false := by assumption
          go_ret
          exact says_stop hlt (Or.inl t1) t2
      · have hnx : ∀ ty, (Instr.next (.pointer (some ⟨w.heap.size, 0, none⟩)) true ty).run Try.prog (w.iter s k) = _ := fun ty => run_next_any w s k ty hlt
        have hhi := (decode_high s k hlt (by omega)).1
        go_wp2
        go_ret
        exact says_stop hlt (Or.inr (by omega)) (by simp; omega)
    · have hnx : ∀ ty, (Instr.next (.pointer (some ⟨w.heap.size, 0, none⟩)) true ty).run Try.prog (w.iter s k) = _ := fun ty => run_next_end w s k ty hlt
      have e : k = s.size := by omega
      subst e
      go_wp2
      · go_ret
        exact says_end HO.out (by assumption)
      · go_ret
        exact says_none (by assumption)

set_option maxHeartbeats 800000 in
/-- The empty string. -/
theorem isdec_empty (s : ByteArray) (w : World) (hs : s.size ≤ 1048576) (hne : s.toList.isEmpty = true) :
    Calls Try.prog 7 #[.string s] w (Says s w) := by
  go_enter Try.func7, Try.ntmps7
  go_wp2
  go_loopw [3, 4] (fun d p wr => ∃ k : Nat, k ≤ s.size ∧ wr = w.iter s k ∧ d = .int .i64 (digs (byteAt s) k : Nat) ∧ p = .int .i64 (pts (byteAt s) k : Nat) ∧ Ok (byteAt s) k) (fun _ _ wr => s.size - wr.iterPos w.heap.size)
  case atStart => exact ⟨0, Nat.zero_le _, rfl, rfl, rfl, ok_zero _⟩
  case round =>
    obtain ⟨k, hk, rfl, rfl, rfl, hok⟩ := hrel
    have hd := digs_le (byteAt s) k
    have hp := pts_le (byteAt s) k
    have HO : Hid (Ok (byteAt s) k) := hok
    clear hok
    by_cases hlt : k < s.size
    · by_cases ha : (s[k]'hlt).toNat < 128
      · have hnx : ∀ ty, (Instr.next (.pointer (some ⟨w.heap.size, 0, none⟩)) true ty).run Try.prog (w.iter s k) = _ := fun ty => run_next_ascii w s k ty hlt ha
        go_wp2
        · have t1 : (48 : Int) ≤ ((s[k]'hlt).toNat : Int) := by assumption
          have t2 : ((s[k]'hlt).toNat : Int) ≤ 57 := by assumption
          have hc := digit_at hlt t1 t2
          go_roundw
          case rel => exact ⟨k + 1, by omega, rfl, num_of (by rw [digs_yes hc]; omega), num_of (by rw [pts_no (digit_ne hc)]), ok_succ HO.out (Or.inl hc)⟩
          case measure => simp; omega
        · have t1 : (57 : Int) < ((s[k]'hlt).toNat : Int) := by assumption
          have t2 : (((s[k]'hlt).toNat : Int) == 46) = false := by assumption
          go_ret
          exact says_stop hlt (Or.inr t1) t2
        · have t2 : (((s[k]'hlt).toNat : Int) == 46) = true := by assumption
          have hc := point_at hlt t2
          go_roundw
          case rel => exact ⟨k + 1, by omega, rfl, num_of (by rw [digs_no hc]), num_of (by rw [pts_yes hc]; omega), ok_succ HO.out (Or.inr hc)⟩
          case measure => simp; omega
        · have t1 : ((s[k]'hlt).toNat : Int) < 48 := by assumption
          have t2 : (((s[k]'hlt).toNat : Int) == 46) = false := by assumption
          go_ret
          exact says_stop hlt (Or.inl t1) t2
      · have hnx : ∀ ty, (Instr.next (.pointer (some ⟨w.heap.size, 0, none⟩)) true ty).run Try.prog (w.iter s k) = _ := fun ty => run_next_any w s k ty hlt
        have hhi := (decode_high s k hlt (by omega)).1
        go_wp2
        go_ret
        exact says_stop hlt (Or.inr (by omega)) (by simp; omega)
    · have hnx : ∀ ty, (Instr.next (.pointer (some ⟨w.heap.size, 0, none⟩)) true ty).run Try.prog (w.iter s k) = _ := fun ty => run_next_end w s k ty hlt
      have e : k = s.size := by omega
      subst e
      go_wp2
      · go_ret
        exact says_end HO.out (by assumption)
      · go_ret
        exact says_none (by assumption)

set_option maxHeartbeats 800000 in
/-- A plus. -/
theorem isdec_plus (s t : ByteArray) (w : World) (hs : s.size ≤ 1048576) (h0 : 0 < s.size) (h43 : (((s[0]'h0).toNat : Int) == 43) = true) (hne : s.toList.isEmpty = false) (ht : t = s.extract 1 s.size) (hts : t.size ≤ 1048576) :
    Calls Try.prog 7 #[.string s] w (Says t w) := by
  have HT : Hid (t = s.extract 1 s.size) := ht
  clear ht
  go_enter Try.func7, Try.ntmps7
  go_wp2
  rw [← HT.out]
  go_loopw [3, 4] (fun d p wr => ∃ k : Nat, k ≤ t.size ∧ wr = w.iter t k ∧ d = .int .i64 (digs (byteAt t) k : Nat) ∧ p = .int .i64 (pts (byteAt t) k : Nat) ∧ Ok (byteAt t) k) (fun _ _ wr => t.size - wr.iterPos w.heap.size)
  case atStart => exact ⟨0, Nat.zero_le _, rfl, rfl, rfl, ok_zero _⟩
  case round =>
    obtain ⟨k, hk, rfl, rfl, rfl, hok⟩ := hrel
    have hd := digs_le (byteAt t) k
    have hp := pts_le (byteAt t) k
    have HO : Hid (Ok (byteAt t) k) := hok
    clear hok
    by_cases hlt : k < t.size
    · by_cases ha : (t[k]'hlt).toNat < 128
      · have hnx : ∀ ty, (Instr.next (.pointer (some ⟨w.heap.size, 0, none⟩)) true ty).run Try.prog (w.iter t k) = _ := fun ty => run_next_ascii w t k ty hlt ha
        go_wp2
        · have t1 : (48 : Int) ≤ ((t[k]'hlt).toNat : Int) := by assumption
          have t2 : ((t[k]'hlt).toNat : Int) ≤ 57 := by assumption
          have hc := digit_at hlt t1 t2
          go_roundw
          case rel => exact ⟨k + 1, by omega, rfl, num_of (by rw [digs_yes hc]; omega), num_of (by rw [pts_no (digit_ne hc)]), ok_succ HO.out (Or.inl hc)⟩
          case measure => simp; omega
        · have t1 : (57 : Int) < ((t[k]'hlt).toNat : Int) := by assumption
          have t2 : (((t[k]'hlt).toNat : Int) == 46) = false := by assumption
          go_ret
          exact says_stop hlt (Or.inr t1) t2
        · have t2 : (((t[k]'hlt).toNat : Int) == 46) = true := by assumption
          have hc := point_at hlt t2
          go_roundw
          case rel => exact ⟨k + 1, by omega, rfl, num_of (by rw [digs_no hc]), num_of (by rw [pts_yes hc]; omega), ok_succ HO.out (Or.inr hc)⟩
          case measure => simp; omega
        · have t1 : ((t[k]'hlt).toNat : Int) < 48 := by assumption
          have t2 : (((t[k]'hlt).toNat : Int) == 46) = false := by assumption
          go_ret
          exact says_stop hlt (Or.inl t1) t2
      · have hnx : ∀ ty, (Instr.next (.pointer (some ⟨w.heap.size, 0, none⟩)) true ty).run Try.prog (w.iter t k) = _ := fun ty => run_next_any w t k ty hlt
        have hhi := (decode_high t k hlt (by omega)).1
        go_wp2
        go_ret
        exact says_stop hlt (Or.inr (by omega)) (by simp; omega)
    · have hnx : ∀ ty, (Instr.next (.pointer (some ⟨w.heap.size, 0, none⟩)) true ty).run Try.prog (w.iter t k) = _ := fun ty => run_next_end w t k ty hlt
      have e : k = t.size := by omega
      subst e
      go_wp2
      · go_ret
        exact says_end HO.out (by assumption)
      · go_ret
        exact says_none (by assumption)

set_option maxHeartbeats 800000 in
/-- A minus. -/
theorem isdec_minus (s t : ByteArray) (w : World) (hs : s.size ≤ 1048576) (h0 : 0 < s.size) (h43 : (((s[0]'h0).toNat : Int) == 43) = false) (h45 : (((s[0]'h0).toNat : Int) == 45) = true) (hne : s.toList.isEmpty = false) (ht : t = s.extract 1 s.size) (hts : t.size ≤ 1048576) :
    Calls Try.prog 7 #[.string s] w (Says t w) := by
  have HT : Hid (t = s.extract 1 s.size) := ht
  clear ht
  go_enter Try.func7, Try.ntmps7
  go_wp2
  rw [← HT.out]
  go_loopw [3, 4] (fun d p wr => ∃ k : Nat, k ≤ t.size ∧ wr = w.iter t k ∧ d = .int .i64 (digs (byteAt t) k : Nat) ∧ p = .int .i64 (pts (byteAt t) k : Nat) ∧ Ok (byteAt t) k) (fun _ _ wr => t.size - wr.iterPos w.heap.size)
  case atStart => exact ⟨0, Nat.zero_le _, rfl, rfl, rfl, ok_zero _⟩
  case round =>
    obtain ⟨k, hk, rfl, rfl, rfl, hok⟩ := hrel
    have hd := digs_le (byteAt t) k
    have hp := pts_le (byteAt t) k
    have HO : Hid (Ok (byteAt t) k) := hok
    clear hok
    by_cases hlt : k < t.size
    · by_cases ha : (t[k]'hlt).toNat < 128
      · have hnx : ∀ ty, (Instr.next (.pointer (some ⟨w.heap.size, 0, none⟩)) true ty).run Try.prog (w.iter t k) = _ := fun ty => run_next_ascii w t k ty hlt ha
        go_wp2
        · have t1 : (48 : Int) ≤ ((t[k]'hlt).toNat : Int) := by assumption
          have t2 : ((t[k]'hlt).toNat : Int) ≤ 57 := by assumption
          have hc := digit_at hlt t1 t2
          go_roundw
          case rel => exact ⟨k + 1, by omega, rfl, num_of (by rw [digs_yes hc]; omega), num_of (by rw [pts_no (digit_ne hc)]), ok_succ HO.out (Or.inl hc)⟩
          case measure => simp; omega
        · have t1 : (57 : Int) < ((t[k]'hlt).toNat : Int) := by assumption
          have t2 : (((t[k]'hlt).toNat : Int) == 46) = false := by assumption
          go_ret
          exact says_stop hlt (Or.inr t1) t2
        · have t2 : (((t[k]'hlt).toNat : Int) == 46) = true := by assumption
          have hc := point_at hlt t2
          go_roundw
          case rel => exact ⟨k + 1, by omega, rfl, num_of (by rw [digs_no hc]), num_of (by rw [pts_yes hc]; omega), ok_succ HO.out (Or.inr hc)⟩
          case measure => simp; omega
        · have t1 : ((t[k]'hlt).toNat : Int) < 48 := by assumption
          have t2 : (((t[k]'hlt).toNat : Int) == 46) = false := by assumption
          go_ret
          exact says_stop hlt (Or.inl t1) t2
      · have hnx : ∀ ty, (Instr.next (.pointer (some ⟨w.heap.size, 0, none⟩)) true ty).run Try.prog (w.iter t k) = _ := fun ty => run_next_any w t k ty hlt
        have hhi := (decode_high t k hlt (by omega)).1
        go_wp2
        go_ret
        exact says_stop hlt (Or.inr (by omega)) (by simp; omega)
    · have hnx : ∀ ty, (Instr.next (.pointer (some ⟨w.heap.size, 0, none⟩)) true ty).run Try.prog (w.iter t k) = _ := fun ty => run_next_end w t k ty hlt
      have e : k = t.size := by omega
      subst e
      go_wp2
      · go_ret
        exact says_end HO.out (by assumption)
      · go_ret
        exact says_none (by assumption)

end Go.Proofs.Qxb6617610a
