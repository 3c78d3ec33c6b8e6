/-
  PLAIN LAW (no Go in sight): what 'held' gathers: the list of the different names, in the order of their first places.
-/
import Derived.Laws.Strings
namespace Go.Proofs.Qxb6617068a

/-- Is x among S 0 .. S (n - 1)? -/
def hasB (S : Nat → ByteArray) : Nat → ByteArray → Bool
  | 0, _ => false
  | n + 1, x => hasB S n x || decide (S n = x)

theorem hasB_iff (S : Nat → ByteArray) (x : ByteArray) : ∀ n, hasB S n x = true ↔ ∃ j, j < n ∧ S j = x
  | 0 => by simp [hasB]
  | n + 1 => by
    rw [hasB, Bool.or_eq_true, hasB_iff S x n, decide_eq_true_eq]
    constructor
    · rintro (⟨j, hj, h⟩ | h)
      · exact ⟨j, by omega, h⟩
      · exact ⟨n, by omega, h⟩
    · rintro ⟨j, hj, h⟩
      by_cases e : j = n
      · subst e; exact Or.inr h
      · exact Or.inl ⟨j, by omega, h⟩

theorem hasB_false_iff (S : Nat → ByteArray) (x : ByteArray) (n : Nat) : hasB S n x = false ↔ ∀ j, j < n → S j ≠ x := by
  rw [← Bool.not_eq_true, hasB_iff]
  simp

theorem bytes_eq_iff (x y : ByteArray) : (x.toList == y.toList) = true ↔ x = y := by
  rw [beq_iff_eq, ByteArray.toList_eq, ByteArray.toList_eq]
  exact ⟨fun h => ByteArray.ext (Array.toList_inj.mp h), fun h => by rw [h]⟩

theorem bytes_ne_iff (x y : ByteArray) : (x.toList == y.toList) = false ↔ x ≠ y := by
  rw [Ne, ← bytes_eq_iff x y, Bool.not_eq_true]

/-- Each of S 0 .. S (n - 1) is short. -/
def Small (S : Nat → ByteArray) (n : Nat) : Prop := ∀ j, j < n → (S j).size ≤ 1048576
theorem small_zero (S : Nat → ByteArray) : Small S 0 := fun _ hj => absurd hj (Nat.not_lt_zero _)
theorem small_succ {S : Nat → ByteArray} {k : Nat} (h : Small S k) (hk : (S k).size ≤ 1048576) : Small S (k + 1) := fun j hj =>
  if e : j = k then by rw [e]; exact hk else h j (by omega)

/-- Is x on the list? -/
def memB (l : List ByteArray) (x : ByteArray) : Bool := l.any fun s => decide (s = x)

theorem memB_iff (l : List ByteArray) (x : ByteArray) : memB l x = true ↔ x ∈ l := by
  unfold memB
  rw [List.any_eq_true]
  constructor
  · rintro ⟨s, hs, h⟩
    rw [decide_eq_true_eq] at h
    exact h ▸ hs
  · intro h
    exact ⟨x, h, by simp⟩

theorem memB_false_iff (l : List ByteArray) (x : ByteArray) : memB l x = false ↔ x ∉ l := by
  rw [← memB_iff, Bool.not_eq_true]

theorem hasB_mem (F : Nat → ByteArray) (n : Nat) (x : ByteArray) : hasB F n x = memB ((List.range n).map F) x := by
  rw [Bool.eq_iff_iff, hasB_iff, memB_iff]
  simp

/-- A name goes to the list's end where it is not on it. -/
def add (l : List ByteArray) (x : ByteArray) : List ByteArray := if memB l x then l else l ++ [x]

theorem mem_add (l : List ByteArray) (x y : ByteArray) : y ∈ add l x ↔ y ∈ l ∨ y = x := by
  unfold add
  by_cases h : memB l x
  · rw [if_pos h]
    exact ⟨Or.inl, fun h' => h'.elim id fun e => e ▸ (memB_iff l x).1 h⟩
  · rw [if_neg h]
    simp

/-- The different ones among S 0 .. S (k - 1), in the order of their first places. -/
def dist (S : Nat → ByteArray) : Nat → List ByteArray
  | 0 => []
  | k + 1 => add (dist S k) (S k)

theorem mem_dist (S : Nat → ByteArray) (x : ByteArray) : ∀ k, x ∈ dist S k ↔ ∃ j, j < k ∧ S j = x
  | 0 => by simp [dist]
  | k + 1 => by
    rw [dist, mem_add, mem_dist S x k]
    constructor
    · rintro (⟨j, hj, h⟩ | h)
      · exact ⟨j, by omega, h⟩
      · exact ⟨k, by omega, h.symm⟩
    · rintro ⟨j, hj, h⟩
      by_cases e : j = k
      · subst e; exact Or.inr h.symm
      · exact Or.inl ⟨j, by omega, h⟩

theorem memB_dist (S : Nat → ByteArray) (k : Nat) (x : ByteArray) : memB (dist S k) x = hasB S k x := by
  rw [Bool.eq_iff_iff, memB_iff, mem_dist, hasB_iff]

theorem add_old {l : List ByteArray} {x : ByteArray} (h : memB l x = true) : add l x = l := by rw [add, if_pos h]
theorem add_new {l : List ByteArray} {x : ByteArray} (h : memB l x = false) : add l x = l ++ [x] := by rw [add, if_neg (by rw [h]; exact Bool.false_ne_true)]

theorem memB_add_self (l : List ByteArray) (x : ByteArray) : memB (add l x) x = true := (memB_iff _ _).2 ((mem_add l x x).2 (Or.inr rfl))
theorem memB_add_other (l : List ByteArray) {x y : ByteArray} (h : y ≠ x) : memB (add l x) y = memB l y := by
  rw [Bool.eq_iff_iff, memB_iff, memB_iff, mem_add]
  exact ⟨fun h' => h'.elim id fun e => absurd e h, Or.inl⟩

theorem range_snoc {F G : Nat → ByteArray} {n : Nat} (h : ∀ j, j < n → G j = F j) : (List.range (n + 1)).map G = (List.range n).map F ++ [G n] := by
  rw [List.range_succ, List.map_append, List.map_singleton]
  congr 1
  exact List.map_congr_left fun j hj => h j (List.mem_range.1 hj)

theorem dist_le (S : Nat → ByteArray) : ∀ k, (dist S k).length ≤ k
  | 0 => by simp [dist]
  | k + 1 => by
    have := dist_le S k
    rw [dist]
    unfold add
    split
    · omega
    · simp; omega

end Go.Proofs.Qxb6617068a
