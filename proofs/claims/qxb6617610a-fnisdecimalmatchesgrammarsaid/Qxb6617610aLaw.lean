/-
  THE WALK of FnIsDecimalMatchesGrammar.
-/
import Derived.Test.Qxb6617610aModel
import Derived.RowKit3
namespace Go.Proofs.Qxb6617610a
open Go.RowKit

/-! ### the string without its sign -/

theorem size_tail (s : ByteArray) : (s.extract 1 s.size).size = s.size - 1 := by
  rw [ByteArray.size_extract]
  omega

theorem byteAt_tail (s : ByteArray) : byteAt (s.extract 1 s.size) = fun j => byteAt s (1 + j) := by
  funext j
  by_cases h : j < s.size - 1
  · rw [byteAt_eq _ j (by rw [size_tail]; exact h), byteAt_eq s (1 + j) (by omega), ByteArray.getElem_extract]
  · rw [byteAt, dif_neg (by rw [size_tail]; exact h), byteAt, dif_neg (by omega)]

theorem counts_tail (s : ByteArray) : Counts (byteAt (s.extract 1 s.size)) (s.extract 1 s.size).size ↔ Counts (fun j => byteAt s (1 + j)) (s.size - 1) := by
  rw [byteAt_tail, size_tail]

theorem counts_whole (s : ByteArray) : Counts (byteAt s) s.size ↔ Counts (fun j => byteAt s (0 + j)) (s.size - 0) := by
  have e : (fun j => byteAt s (0 + j)) = byteAt s := by
    funext j
    rw [Nat.zero_add]
  rw [e, Nat.sub_zero]

theorem isEmpty_of (s : ByteArray) (h : s.size = 0) : s.toList.isEmpty = true := by
  rw [ByteArray.toList_eq, List.isEmpty_iff, ← List.length_eq_zero_iff, Array.length_toList]
  exact h
theorem not_isEmpty_of (s : ByteArray) (h : 0 < s.size) : s.toList.isEmpty = false := by
  cases hc : s.toList.isEmpty
  · rfl
  · rw [ByteArray.toList_eq, List.isEmpty_iff, ← List.length_eq_zero_iff, Array.length_toList] at hc
    exact absurd hc (by have : s.data.size = s.size := rfl; omega)

/-! ### the iterator's block is new -/

theorem grown_iter (w : World) (t : ByteArray) (p : Nat) : Grown w (w.iter t p) := by
  refine ⟨World.keptBut_alloc _ _ _, fun a => ?_, by show w.heap.size ≤ (w.heap.push _).size; simp⟩
  by_cases h : a.block = w.heap.size
  · have e1 : (w.iter t p).heap[a.block]? = some (.stringIter t p) := by rw [h]; exact World.iter_heap w t p
    have e2 : w.heap[a.block]? = none := by rw [h]; simp
    simp [World.frozen?, e1, e2]
  · exact World.frozen?_alloc_old _ _ _ h

/-! ### the walks -/

set_option maxHeartbeats 400000 in
theorem zzisdec {s t : ByteArray} {w : World} (h : Calls Try.prog 7 #[.string s] w (Says t w)) : Calls Try.prog 5 #[.string s] w (Says t w) := by
  go_enter Try.func5, Try.ntmps5
  go_wp2_with fail
  refine h.mono ?_
  rintro e w' (⟨rfl, hc, p, rfl⟩ | ⟨rfl, hc, p, rfl⟩)
  · go_wp2
    go_ret
    exact Or.inl ⟨rfl, hc, p, rfl⟩
  · go_wp2
    go_ret
    exact Or.inr ⟨rfl, hc, p, rfl⟩

set_option maxHeartbeats 400000 in
theorem bytes_yes (s : ByteArray) (w : World) (hs : s.size ≤ 1048576) : Calls Try.prog 4 #[.string s] w fun e w' => e = .returned (.bool true) ∧ w' = w := by
  go_enter Try.func4, Try.ntmps4
  go_wp2
  go_ret
  exact ⟨rfl, rfl⟩

set_option maxHeartbeats 400000 in
theorem bytes_no (s : ByteArray) (w : World) (hs : 1048576 < s.size) : Calls Try.prog 4 #[.string s] w fun e w' => e = .returned (.bool false) ∧ w' = w := by
  go_enter Try.func4, Try.ntmps4
  go_wp2
  go_ret
  exact ⟨rfl, rfl⟩

set_option maxHeartbeats 400000 in
theorem law_of (s t : ByteArray) (st : Nat) (w : World) (hs : s.size ≤ 1048576) (h5 : ∀ w, Calls Try.prog 7 #[.string s] w (Says t w)) (h6 : ∀ w, Calls Try.prog 6 #[.string s] w (Shows s st w))
    (hiff : Counts (byteAt t) t.size ↔ Counts (fun j => byteAt s (st + j)) (s.size - st)) :
    Calls Try.prog 3 #[.string s] w fun e w' => e = .returned (.bool true) ∧ Grown w w' := by
  have H5 : Hid (∀ w, Calls Try.prog 7 #[.string s] w (Says t w)) := h5
  have H6 : Hid (∀ w, Calls Try.prog 6 #[.string s] w (Shows s st w)) := h6
  have HI : Hid (Counts (byteAt t) t.size ↔ Counts (fun j => byteAt s (st + j)) (s.size - st)) := hiff
  clear h5 h6 hiff
  go_enter Try.func3, Try.ntmps3
  go_wp2_with fail
  refine (bytes_yes s _ hs).mono ?_
  rintro e w' ⟨rfl, rfl⟩
  go_wp2_with fail
  refine (zzisdec (H5.out _)).mono ?_
  rintro e w1 (⟨rfl, hc, p, rfl⟩ | ⟨rfl, hc, p, rfl⟩)
  · go_wp2_with fail
    refine (H6.out _).mono ?_
    rintro e w2 (⟨rfl, hd, rfl⟩ | ⟨rfl, hd, rfl⟩)
    · go_wp2
      go_ret
      exact ⟨rfl, grown_iter _ _ _⟩
    · exact absurd (HI.out.1 hc) hd
  · go_wp2_with fail
    refine (H6.out _).mono ?_
    rintro e w2 (⟨rfl, hd, rfl⟩ | ⟨rfl, hd, rfl⟩)
    · exact absurd (HI.out.2 hd) hc
    · go_wp2
      go_ret
      exact ⟨rfl, grown_iter _ _ _⟩

set_option maxHeartbeats 400000 in
theorem law_any (s : ByteArray) (w : World) :
    Calls Try.prog 3 #[.string s] w fun e w' => e = .returned (.bool true) ∧ Grown w w' := by
  by_cases hs : s.size ≤ 1048576
  · by_cases h0 : 0 < s.size
    · have hne := not_isEmpty_of s h0
      have hts : (s.extract 1 s.size).size ≤ 1048576 := by rw [size_tail]; omega
      by_cases h43 : (((s[0]'h0).toNat : Int) == 43) = true
      · exact law_of s _ 1 w hs (fun w => isdec_plus s _ w hs h0 h43 hne rfl hts) (fun w => model_plus s w hs h0 h43) (counts_tail s)
      · have h43' : (((s[0]'h0).toNat : Int) == 43) = false := by simpa using h43
        by_cases h45 : (((s[0]'h0).toNat : Int) == 45) = true
        · exact law_of s _ 1 w hs (fun w => isdec_minus s _ w hs h0 h43' h45 hne rfl hts) (fun w => model_minus s w hs h0 h43' h45) (counts_tail s)
        · have h45' : (((s[0]'h0).toNat : Int) == 45) = false := by simpa using h45
          exact law_of s s 0 w hs (fun w => isdec_plain s w hs h0 h43' h45' hne) (fun w => model_plain s w hs h0 h43' h45') (counts_whole s)
    · exact law_of s s 0 w hs (fun w => isdec_empty s w hs (isEmpty_of s (by omega))) (fun w => model_empty s w hs h0) (counts_whole s)
  · go_enter Try.func3, Try.ntmps3
    go_wp2_with fail
    refine (bytes_no s _ (by omega)).mono ?_
    rintro e w' ⟨rfl, rfl⟩
    go_wp2
    go_ret
    exact ⟨rfl, Grown.refl _⟩

end Go.Proofs.Qxb6617610a
