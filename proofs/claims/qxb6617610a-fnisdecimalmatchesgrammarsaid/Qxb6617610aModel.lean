/-
  THE WALK of zzDecimalModel.
-/
import Derived.Test.Qxb6617610aWalks1
namespace Go.Proofs.Qxb6617610a
open Go.RowKit

/-- What the model answers: the bytes from place st on. -/
def Shows (s : ByteArray) (st : Nat) (w : World) (e : Ending) (w' : World) : Prop :=
  (e = .returned (.bool true) ∧ Counts (fun j => byteAt s (st + j)) (s.size - st) ∧ w' = w) ∨ (e = .returned (.bool false) ∧ ¬ Counts (fun j => byteAt s (st + j)) (s.size - st) ∧ w' = w)

theorem shows_of {s : ByteArray} {st : Nat} {w : World} {X : Prop} [Decidable X] (h : X ↔ Counts (fun j => byteAt s (st + j)) (s.size - st)) : Shows s st w (.returned (.bool (decide X))) w := by
  by_cases hx : X
  · rw [decide_eq_true hx]
    exact Or.inl ⟨rfl, h.1 hx, rfl⟩
  · rw [decide_eq_false hx]
    exact Or.inr ⟨rfl, fun hc => hx (h.2 hc), rfl⟩
theorem shows_yes {s : ByteArray} {st : Nat} {w : World} (h : Counts (fun j => byteAt s (st + j)) (s.size - st)) : Shows s st w (.returned (.bool true)) w := Or.inl ⟨rfl, h, rfl⟩
theorem shows_no {s : ByteArray} {st : Nat} {w : World} (h : ¬ Counts (fun j => byteAt s (st + j)) (s.size - st)) : Shows s st w (.returned (.bool false)) w := Or.inr ⟨rfl, h, rfl⟩

theorem nopoint_at {t : ByteArray} {k : Nat} (hlt : k < t.size) (t2 : (((t[k]'hlt).toNat : Int) == 46) = false) : byteAt t k ≠ 46 := by
  rw [byteAt_eq t k hlt]
  have : ((t[k]'hlt).toNat : Int) ≠ 46 := by simpa using t2
  omega

theorem all_shift {f : Nat → Nat} {st a b : Nat} : All (fun j => f (st + j)) a b ↔ All f (st + a) (st + b) := by
  constructor
  · intro h j h1 h2
    have := h (j - st) (by omega) (by omega)
    simpa [show st + (j - st) = j from by omega] using this
  · intro h j h1 h2
    exact h (st + j) (by omega) (by omega)

theorem model_point {s : ByteArray} {st k : Nat} (h1 : st ≤ k) (hlt : k < s.size) (hc : byteAt s k = 46) (hn : ∀ j, st ≤ j → j < k → byteAt s j ≠ 46) :
    Counts (fun j => byteAt s (st + j)) (s.size - st) ↔ All (byteAt s) st k ∧ All (byteAt s) (k + 1) s.size ∧ 0 < (k - st) + (s.size - (k + 1)) := by
  rw [counts_point (p := k - st) (by omega) (by rw [show st + (k - st) = k from by omega]; exact hc) (fun j hj => hn (st + j) (by omega) (by omega)), all_shift, all_shift]
  rw [show st + 0 = st from rfl, show st + (k - st) = k from by omega, show st + (k - st + 1) = k + 1 from by omega, show st + (s.size - st) = s.size from by omega]
  exact and_congr Iff.rfl (and_congr Iff.rfl ⟨fun _ => by omega, fun _ => by omega⟩)

theorem model_none {s : ByteArray} {st : Nat} (hn : ∀ j, st ≤ j → j < s.size → byteAt s j ≠ 46) :
    Counts (fun j => byteAt s (st + j)) (s.size - st) ↔ All (byteAt s) st s.size ∧ 0 < s.size - st := by
  rw [counts_none (fun j hj => hn (st + j) (by omega) (by omega)), all_shift]
  by_cases h : st ≤ s.size
  · rw [show st + 0 = st from rfl, show st + (s.size - st) = s.size from by omega]
  · exact ⟨fun h' => absurd h'.2 (by omega), fun h' => absurd h'.2 (by omega)⟩

theorem alldigits_at (s : ByteArray) (A B : Int) (a b : Nat) (w : World) (hA : A = (a : Int)) (hB : B = (b : Int)) (hs : s.size ≤ 1048576) (hab : a ≤ b) (hb : b ≤ s.size) :
    Calls Try.prog 8 #[.string s, .int .i64 A, .int .i64 B] w fun e w' => (e = .returned (.bool true) ∧ All (byteAt s) a b ∧ w' = w) ∨ (e = .returned (.bool false) ∧ ¬ All (byteAt s) a b ∧ w' = w) := by
  subst hA hB
  exact alldigits_any s a b w hs hab hb

set_option maxHeartbeats 800000 in
theorem model_plain (s : ByteArray) (w : World) (hs : s.size ≤ 1048576) (h0 : 0 < s.size) (h43 : (((s[0]'h0).toNat : Int) == 43) = false) (h45 : (((s[0]'h0).toNat : Int) == 45) = false) :
    Calls Try.prog 6 #[.string s] w (Shows s 0 w) := by
  go_enter Try.func6, Try.ntmps6
  go_wp2_with fail
  go_loop [4, 5] (fun c i => c = .int .i64 (-1) ∧ ∃ k : Nat, 0 ≤ k ∧ k ≤ s.size ∧ i = .int .i64 k ∧ ∀ j, 0 ≤ j → j < k → byteAt s j ≠ 46) (fun _ i => s.size - (intOf i).toNat)
  case atStart => exact ⟨rfl, 0, Nat.le_refl _, by omega, rfl, fun j h1 h2 => by omega⟩
  case round =>
    obtain ⟨rfl, k, hk1, hk2, rfl, hno⟩ := hrel
    have HN : Hid (∀ j, 0 ≤ j → j < k → byteAt s j ≠ 46) := hno
    clear hno
    by_cases hlt : k < s.size
    · go_wp2_with fail
      · have ht : (((s[k]'hlt).toNat : Int) == 46) = true := by assumption
        have hc := point_at hlt ht
        have hiff := model_point hk1 hlt hc HN.out
        have HI : Hid (Counts (fun j => byteAt s (0 + j)) (s.size - 0) ↔ All (byteAt s) 0 k ∧ All (byteAt s) (k + 1) s.size ∧ 0 < (k - 0) + (s.size - (k + 1))) := hiff
        clear hc hiff
        refine (alldigits_at s _ _ 0 k _ rfl rfl hs hk1 (by omega)).mono ?_
        rintro e w' (⟨rfl, hA, rfl⟩ | ⟨rfl, hA, rfl⟩)
        · go_wp2_with fail
          refine (alldigits_at s _ _ (k + 1) s.size _ (by omega) rfl hs (by omega) (Nat.le_refl _)).mono ?_
          rintro e w' (⟨rfl, hB, rfl⟩ | ⟨rfl, hB, rfl⟩)
          · go_wp2
            go_ret
            exact shows_of (Iff.trans ⟨fun h => ⟨hA, hB, by omega⟩, fun h => by have := h.2.2; omega⟩ HI.out.symm)
          · go_wp2
            go_ret
            exact shows_no (fun h => hB (HI.out.1 h).2.1)
        · go_wp2
          go_ret
          exact shows_no (fun h => hA (HI.out.1 h).1)
      · have ht : (((s[k]'hlt).toNat : Int) == 46) = false := by assumption
        have hc := nopoint_at hlt ht
        go_round
        case rel => exact ⟨rfl, k + 1, by omega, by omega, by go_num, fun j h1 h2 => if e : j = k then by rw [e]; exact hc else HN.out j h1 (by omega)⟩
        case measure => simp [intOf]; omega
    · have hiff := model_none (st := 0) (s := s) (fun j h1 h2 => HN.out j h1 (by omega))
      have HI : Hid (Counts (fun j => byteAt s (0 + j)) (s.size - 0) ↔ All (byteAt s) 0 s.size ∧ 0 < s.size - 0) := hiff
      clear hiff
      go_wp2_with fail
      refine (alldigits_at s _ _ 0 s.size _ rfl rfl hs (by omega) (Nat.le_refl _)).mono ?_
      rintro e w' (⟨rfl, hA, rfl⟩ | ⟨rfl, hA, rfl⟩)
      · go_wp2_with fail
        refine (alldigits_at s _ _ s.size s.size _ rfl rfl hs (Nat.le_refl _) (Nat.le_refl _)).mono ?_
        rintro e w' (⟨rfl, hB, rfl⟩ | ⟨rfl, hB, rfl⟩)
        · go_wp2
          go_ret
          exact shows_yes (HI.out.2 ⟨hA, by omega⟩)
        · exact absurd (fun j h1 h2 => by omega) hB
      · go_wp2
        go_ret
        exact shows_no (fun h => hA (HI.out.1 h).1)

set_option maxHeartbeats 800000 in
theorem model_empty (s : ByteArray) (w : World) (hs : s.size ≤ 1048576) (h0 : ¬ 0 < s.size) :
    Calls Try.prog 6 #[.string s] w (Shows s 0 w) := by
  go_enter Try.func6, Try.ntmps6
  go_wp2_with fail
  go_loop [4, 5] (fun c i => c = .int .i64 (-1) ∧ ∃ k : Nat, 0 ≤ k ∧ k ≤ s.size ∧ i = .int .i64 k ∧ ∀ j, 0 ≤ j → j < k → byteAt s j ≠ 46) (fun _ i => s.size - (intOf i).toNat)
  case atStart => exact ⟨rfl, 0, Nat.le_refl _, by omega, rfl, fun j h1 h2 => by omega⟩
  case round =>
    obtain ⟨rfl, k, hk1, hk2, rfl, hno⟩ := hrel
    have HN : Hid (∀ j, 0 ≤ j → j < k → byteAt s j ≠ 46) := hno
    clear hno
    by_cases hlt : k < s.size
    · exact absurd hlt (by omega)
    · have hiff := model_none (st := 0) (s := s) (fun j h1 h2 => HN.out j h1 (by omega))
      have HI : Hid (Counts (fun j => byteAt s (0 + j)) (s.size - 0) ↔ All (byteAt s) 0 s.size ∧ 0 < s.size - 0) := hiff
      clear hiff
      go_wp2_with fail
      refine (alldigits_at s _ _ 0 s.size _ rfl rfl hs (by omega) (Nat.le_refl _)).mono ?_
      rintro e w' (⟨rfl, hA, rfl⟩ | ⟨rfl, hA, rfl⟩)
      · go_wp2_with fail
        refine (alldigits_at s _ _ s.size s.size _ rfl rfl hs (Nat.le_refl _) (Nat.le_refl _)).mono ?_
        rintro e w' (⟨rfl, hB, rfl⟩ | ⟨rfl, hB, rfl⟩)
        · go_wp2
          go_ret
          exact shows_no (fun h => by have := (HI.out.1 h).2; omega)
        · exact absurd (fun j h1 h2 => by omega) hB
      · go_wp2
        go_ret
        exact shows_no (fun h => hA (HI.out.1 h).1)

set_option maxHeartbeats 800000 in
theorem model_plus (s : ByteArray) (w : World) (hs : s.size ≤ 1048576) (h0 : 0 < s.size) (h43 : (((s[0]'h0).toNat : Int) == 43) = true) :
    Calls Try.prog 6 #[.string s] w (Shows s 1 w) := by
  go_enter Try.func6, Try.ntmps6
  go_wp2_with fail
  go_loop [4, 5] (fun c i => c = .int .i64 (-1) ∧ ∃ k : Nat, 1 ≤ k ∧ k ≤ s.size ∧ i = .int .i64 k ∧ ∀ j, 1 ≤ j → j < k → byteAt s j ≠ 46) (fun _ i => s.size - (intOf i).toNat)
  case atStart => exact ⟨rfl, 1, Nat.le_refl _, by omega, rfl, fun j h1 h2 => by omega⟩
  case round =>
    obtain ⟨rfl, k, hk1, hk2, rfl, hno⟩ := hrel
    have HN : Hid (∀ j, 1 ≤ j → j < k → byteAt s j ≠ 46) := hno
    clear hno
    by_cases hlt : k < s.size
    · go_wp2_with fail
      · have ht : (((s[k]'hlt).toNat : Int) == 46) = true := by assumption
        have hc := point_at hlt ht
        have hiff := model_point hk1 hlt hc HN.out
        have HI : Hid (Counts (fun j => byteAt s (1 + j)) (s.size - 1) ↔ All (byteAt s) 1 k ∧ All (byteAt s) (k + 1) s.size ∧ 0 < (k - 1) + (s.size - (k + 1))) := hiff
        clear hc hiff
        refine (alldigits_at s _ _ 1 k _ rfl rfl hs hk1 (by omega)).mono ?_
        rintro e w' (⟨rfl, hA, rfl⟩ | ⟨rfl, hA, rfl⟩)
        · go_wp2_with fail
          refine (alldigits_at s _ _ (k + 1) s.size _ (by omega) rfl hs (by omega) (Nat.le_refl _)).mono ?_
          rintro e w' (⟨rfl, hB, rfl⟩ | ⟨rfl, hB, rfl⟩)
          · go_wp2
            go_ret
            exact shows_of (Iff.trans ⟨fun h => ⟨hA, hB, by omega⟩, fun h => by have := h.2.2; omega⟩ HI.out.symm)
          · go_wp2
            go_ret
            exact shows_no (fun h => hB (HI.out.1 h).2.1)
        · go_wp2
          go_ret
          exact shows_no (fun h => hA (HI.out.1 h).1)
      · have ht : (((s[k]'hlt).toNat : Int) == 46) = false := by assumption
        have hc := nopoint_at hlt ht
        go_round
        case rel => exact ⟨rfl, k + 1, by omega, by omega, by go_num, fun j h1 h2 => if e : j = k then by rw [e]; exact hc else HN.out j h1 (by omega)⟩
        case measure => simp [intOf]; omega
    · have hiff := model_none (st := 1) (s := s) (fun j h1 h2 => HN.out j h1 (by omega))
      have HI : Hid (Counts (fun j => byteAt s (1 + j)) (s.size - 1) ↔ All (byteAt s) 1 s.size ∧ 0 < s.size - 1) := hiff
      clear hiff
      go_wp2_with fail
      refine (alldigits_at s _ _ 1 s.size _ rfl rfl hs (by omega) (Nat.le_refl _)).mono ?_
      rintro e w' (⟨rfl, hA, rfl⟩ | ⟨rfl, hA, rfl⟩)
      · go_wp2_with fail
        refine (alldigits_at s _ _ s.size s.size _ rfl rfl hs (Nat.le_refl _) (Nat.le_refl _)).mono ?_
        rintro e w' (⟨rfl, hB, rfl⟩ | ⟨rfl, hB, rfl⟩)
        · go_wp2
          go_ret
          exact shows_of (Iff.trans ⟨fun h => ⟨hA, by omega⟩, fun h => by have := h.2; omega⟩ HI.out.symm)
        · exact absurd (fun j h1 h2 => by omega) hB
      · go_wp2
        go_ret
        exact shows_no (fun h => hA (HI.out.1 h).1)

set_option maxHeartbeats 800000 in
theorem model_minus (s : ByteArray) (w : World) (hs : s.size ≤ 1048576) (h0 : 0 < s.size) (h43 : (((s[0]'h0).toNat : Int) == 43) = false) (h45 : (((s[0]'h0).toNat : Int) == 45) = true) :
    Calls Try.prog 6 #[.string s] w (Shows s 1 w) := by
  go_enter Try.func6, Try.ntmps6
  go_wp2_with fail
  go_loop [4, 5] (fun c i => c = .int .i64 (-1) ∧ ∃ k : Nat, 1 ≤ k ∧ k ≤ s.size ∧ i = .int .i64 k ∧ ∀ j, 1 ≤ j → j < k → byteAt s j ≠ 46) (fun _ i => s.size - (intOf i).toNat)
  case atStart => exact ⟨rfl, 1, Nat.le_refl _, by omega, rfl, fun j h1 h2 => by omega⟩
  case round =>
    obtain ⟨rfl, k, hk1, hk2, rfl, hno⟩ := hrel
    have HN : Hid (∀ j, 1 ≤ j → j < k → byteAt s j ≠ 46) := hno
    clear hno
    by_cases hlt : k < s.size
    · go_wp2_with fail
      · have ht : (((s[k]'hlt).toNat : Int) == 46) = true := by assumption
        have hc := point_at hlt ht
        have hiff := model_point hk1 hlt hc HN.out
        have HI : Hid (Counts (fun j => byteAt s (1 + j)) (s.size - 1) ↔ All (byteAt s) 1 k ∧ All (byteAt s) (k + 1) s.size ∧ 0 < (k - 1) + (s.size - (k + 1))) := hiff
        clear hc hiff
        refine (alldigits_at s _ _ 1 k _ rfl rfl hs hk1 (by omega)).mono ?_
        rintro e w' (⟨rfl, hA, rfl⟩ | ⟨rfl, hA, rfl⟩)
        · go_wp2_with fail
          refine (alldigits_at s _ _ (k + 1) s.size _ (by omega) rfl hs (by omega) (Nat.le_refl _)).mono ?_
          rintro e w' (⟨rfl, hB, rfl⟩ | ⟨rfl, hB, rfl⟩)
          · go_wp2
            go_ret
            exact shows_of (Iff.trans ⟨fun h => ⟨hA, hB, by omega⟩, fun h => by have := h.2.2; omega⟩ HI.out.symm)
          · go_wp2
            go_ret
            exact shows_no (fun h => hB (HI.out.1 h).2.1)
        · go_wp2
          go_ret
          exact shows_no (fun h => hA (HI.out.1 h).1)
      · have ht : (((s[k]'hlt).toNat : Int) == 46) = false := by assumption
        have hc := nopoint_at hlt ht
        go_round
        case rel => exact ⟨rfl, k + 1, by omega, by omega, by go_num, fun j h1 h2 => if e : j = k then by rw [e]; exact hc else HN.out j h1 (by omega)⟩
        case measure => simp [intOf]; omega
    · have hiff := model_none (st := 1) (s := s) (fun j h1 h2 => HN.out j h1 (by omega))
      have HI : Hid (Counts (fun j => byteAt s (1 + j)) (s.size - 1) ↔ All (byteAt s) 1 s.size ∧ 0 < s.size - 1) := hiff
      clear hiff
      go_wp2_with fail
      refine (alldigits_at s _ _ 1 s.size _ rfl rfl hs (by omega) (Nat.le_refl _)).mono ?_
      rintro e w' (⟨rfl, hA, rfl⟩ | ⟨rfl, hA, rfl⟩)
      · go_wp2_with fail
        refine (alldigits_at s _ _ s.size s.size _ rfl rfl hs (Nat.le_refl _) (Nat.le_refl _)).mono ?_
        rintro e w' (⟨rfl, hB, rfl⟩ | ⟨rfl, hB, rfl⟩)
        · go_wp2
          go_ret
          exact shows_of (Iff.trans ⟨fun h => ⟨hA, by omega⟩, fun h => by have := h.2; omega⟩ HI.out.symm)
        · exact absurd (fun j h1 h2 => by omega) hB
      · go_wp2
        go_ret
        exact shows_no (fun h => hA (HI.out.1 h).1)

end Go.Proofs.Qxb6617610a
