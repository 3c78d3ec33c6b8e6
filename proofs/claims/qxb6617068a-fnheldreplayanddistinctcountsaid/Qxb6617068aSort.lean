/-
  PLAIN LAW (no Go in sight): an insertion into a sorted row; a sorted row has as many runs as different names; names that are met in one row and in another alike are as many.
-/
import Derived.Test.Qxb6617068aPlain
import GoSem.Op.String
namespace Go.Proofs.Qxb6617068a

/-! ### the order on strings -/

def leL (x y : List UInt8) : Bool := Op.bytesLess x y || x == y

theorem leL_nil (y : List UInt8) : leL [] y = true := by cases y <;> simp [leL, Op.bytesLess]
theorem leL_cons_nil (a : UInt8) (x : List UInt8) : leL (a :: x) [] = false := by simp [leL, Op.bytesLess]
theorem leL_cons (a b : UInt8) (x y : List UInt8) : leL (a :: x) (b :: y) = true ↔ a < b ∨ (a = b ∧ leL x y = true) := by
  simp only [leL, Op.bytesLess, Bool.or_eq_true, Bool.and_eq_true, decide_eq_true_eq, beq_iff_eq, List.cons.injEq]
  constructor
  · rintro ((h | ⟨h1, h2⟩) | ⟨h1, h2⟩)
    · exact Or.inl h
    · exact Or.inr ⟨h1, Or.inl h2⟩
    · exact Or.inr ⟨h1, Or.inr h2⟩
  · rintro (h | ⟨h1, h2 | h2⟩)
    · exact Or.inl (Or.inl h)
    · exact Or.inl (Or.inr ⟨h1, h2⟩)
    · exact Or.inr ⟨h1, h2⟩

theorem leL_trans : ∀ (x y z : List UInt8), leL x y = true → leL y z = true → leL x z = true
  | [], _, z, _, _ => leL_nil z
  | _ :: _, [], _, h, _ => by rw [leL_cons_nil] at h; cases h
  | _ :: _, _ :: _, [], _, h => by rw [leL_cons_nil] at h; cases h
  | a :: x, b :: y, c :: z, h1, h2 => by
    rw [leL_cons] at h1 h2 ⊢
    rcases h1 with h1 | ⟨rfl, h1⟩
    · rcases h2 with h2 | ⟨rfl, h2⟩
      · exact Or.inl (UInt8.lt_trans h1 h2)
      · exact Or.inl h1
    · rcases h2 with h2 | ⟨rfl, h2⟩
      · exact Or.inl h2
      · exact Or.inr ⟨rfl, leL_trans x y z h1 h2⟩

theorem leL_antisymm : ∀ (x y : List UInt8), leL x y = true → leL y x = true → x = y
  | [], [], _, _ => rfl
  | _ :: _, [], h, _ => by rw [leL_cons_nil] at h; cases h
  | [], _ :: _, _, h => by rw [leL_cons_nil] at h; cases h
  | a :: x, b :: y, h1, h2 => by
    rw [leL_cons] at h1 h2
    rcases h1 with h1 | ⟨rfl, h1⟩
    · rcases h2 with h2 | ⟨rfl, h2⟩
      · exact absurd (UInt8.lt_trans h1 h2) (UInt8.lt_irrefl _)
      · exact absurd h1 (UInt8.lt_irrefl _)
    · rcases h2 with h2 | ⟨_, h2⟩
      · exact absurd h2 (UInt8.lt_irrefl _)
      · rw [leL_antisymm x y h1 h2]

theorem leL_total : ∀ (x y : List UInt8), leL x y = false → leL y x = true
  | [], y, h => by rw [leL_nil] at h; cases h
  | _ :: _, [], _ => leL_nil _
  | a :: x, b :: y, h => by
    have h' : ¬ (a < b ∨ (a = b ∧ leL x y = true)) := fun e => by
      rw [(leL_cons a b x y).2 e] at h
      cases h
    rw [leL_cons]
    by_cases hab : a = b
    · subst hab
      refine Or.inr ⟨rfl, leL_total x y ?_⟩
      cases hc : leL x y
      · rfl
      · exact absurd (Or.inr ⟨rfl, hc⟩) h'
    · left
      have h1 : ¬ a < b := fun e => h' (Or.inl e)
      rw [UInt8.lt_iff_toNat_lt] at h1 ⊢
      have h2 : a.toNat ≠ b.toNat := fun e => hab (UInt8.toNat_inj.1 e)
      omega

/-- x comes no later than y. -/
def le (x y : ByteArray) : Prop := leL x.toList y.toList = true

theorem le_refl (x : ByteArray) : le x x := by simp [le, leL]
theorem le_trans {x y z : ByteArray} (h1 : le x y) (h2 : le y z) : le x z := leL_trans _ _ _ h1 h2
theorem le_antisymm {x y : ByteArray} (h1 : le x y) (h2 : le y x) : x = y := (bytes_eq_iff x y).1 (by rw [beq_iff_eq]; exact leL_antisymm _ _ h1 h2)
theorem le_of_not {x y : ByteArray} (h : ¬ le x y) : le y x := leL_total _ _ (by simpa [le] using h)

/-! ### a sorted row -/

/-- T 0 .. T (k - 1) rise. -/
def Rises (T : Nat → ByteArray) (k : Nat) : Prop := ∀ i j, i ≤ j → j < k → le (T i) (T j)

/-- The row while the insertion goes on: place m is free, what stood from m on stands one place on. -/
def shifted (T : Nat → ByteArray) (m k : Nat) (i : Nat) : ByteArray := if m < i ∧ i ≤ k then T (i - 1) else T i
/-- The row behind it. -/
def inserted (T : Nat → ByteArray) (m k : Nat) (i : Nat) : ByteArray := if i = m then T k else shifted T m k i

theorem shifted_start (T : Nat → ByteArray) (k : Nat) : shifted T k k = T := by
  funext i
  unfold shifted
  rw [if_neg (by omega)]

theorem shifted_step (T : Nat → ByteArray) (m k : Nat) (hm : 0 < m) (hk : m ≤ k) (i : Nat) : shifted T (m - 1) k i = if i = m then T (m - 1) else shifted T m k i := by
  unfold shifted
  by_cases e : i = m
  · subst e
    rw [if_pos (by omega), if_pos rfl]
  · rw [if_neg e]
    by_cases h : m < i ∧ i ≤ k
    · rw [if_pos h, if_pos (by omega)]
    · rw [if_neg h, if_neg (by omega)]

theorem shifted_below (T : Nat → ByteArray) (m k i : Nat) (h : i ≤ m) : shifted T m k i = T i := by
  unfold shifted
  rw [if_neg (by omega)]

/-- The members are the same. -/
def Alike (S T : Nat → ByteArray) (n : Nat) : Prop := ∀ x, (∃ j, j < n ∧ S j = x) ↔ (∃ j, j < n ∧ T j = x)

theorem alike_inserted {S T : Nat → ByteArray} {n m k : Nat} (h : Alike S T n) (hm : m ≤ k) (hk : k < n) : Alike S (inserted T m k) n := fun x => by
  rw [h x]
  constructor
  · rintro ⟨j, hj, rfl⟩
    by_cases h1 : j < m
    · exact ⟨j, hj, by unfold inserted shifted; rw [if_neg (by omega), if_neg (by omega)]⟩
    · by_cases h2 : j < k
      · exact ⟨j + 1, by omega, by unfold inserted shifted; rw [if_neg (by omega), if_pos (by omega)]; simp⟩
      · by_cases h3 : j = k
        · subst h3
          exact ⟨m, by omega, by unfold inserted; rw [if_pos rfl]⟩
        · exact ⟨j, hj, by unfold inserted shifted; rw [if_neg (by omega), if_neg (by omega)]⟩
  · rintro ⟨j, hj, rfl⟩
    unfold inserted shifted
    split
    · exact ⟨k, hk, rfl⟩
    · split
      · exact ⟨j - 1, by omega, rfl⟩
      · exact ⟨j, hj, rfl⟩

theorem rises_inserted {T : Nat → ByteArray} {m k : Nat} (h : Rises T k) (hm : m ≤ k) (hlo : 0 < m → le (T (m - 1)) (T k)) (hhi : ∀ i, m ≤ i → i < k → le (T k) (T i)) : Rises (inserted T m k) (k + 1) := by
  intro i j hij hj
  have hlo' : ∀ i, i < m → le (T i) (T k) := fun i hi => le_trans (h i (m - 1) (by omega) (by omega)) (hlo (by omega))
  unfold inserted shifted
  by_cases ei : i = m
  · rw [if_pos ei]
    by_cases ej : j = m
    · rw [if_pos ej]; exact le_refl _
    · rw [if_neg ej, if_pos (by omega)]
      exact hhi _ (by omega) (by omega)
  · rw [if_neg ei]
    by_cases hi : m < i ∧ i ≤ k
    · rw [if_pos hi, if_neg (by omega), if_pos (by omega)]
      exact h _ _ (by omega) (by omega)
    · rw [if_neg hi]
      by_cases ej : j = m
      · rw [if_pos ej]
        exact hlo' i (by omega)
      · rw [if_neg ej]
        by_cases hj' : m < j ∧ j ≤ k
        · rw [if_pos hj']
          exact h _ _ (by omega) (by omega)
        · rw [if_neg hj']
          exact h _ _ (by omega) (by omega)

/-- In a sorted row a name has been met just if it stands right ahead. -/
theorem rises_met {T : Nat → ByteArray} {n k : Nat} (h : Rises T n) (hk : k < n) : hasB T k (T k) = true ↔ 0 < k ∧ T k = T (k - 1) := by
  rw [hasB_iff]
  constructor
  · rintro ⟨j, hj, e⟩
    refine ⟨by omega, le_antisymm ?_ (h _ _ (by omega) hk)⟩
    rw [← e]
    exact h _ _ (by omega) (by omega)
  · rintro ⟨h0, e⟩
    exact ⟨k - 1, by omega, e.symm⟩

/-! ### how many different ones -/

theorem nodup_dist (S : Nat → ByteArray) : ∀ k, (dist S k).Nodup
  | 0 => by simp [dist]
  | k + 1 => by
    rw [dist]
    unfold add
    split
    · exact nodup_dist S k
    · rename_i h
      rw [List.nodup_append]
      refine ⟨nodup_dist S k, by simp, ?_⟩
      intro a ha b hb e
      simp at hb
      subst hb
      subst e
      exact h ((memB_iff _ _).2 ha)

theorem length_le_of_mem : ∀ (l₁ l₂ : List ByteArray), l₁.Nodup → (∀ x ∈ l₁, x ∈ l₂) → l₁.length ≤ l₂.length
  | [], _, _, _ => Nat.zero_le _
  | a :: l, l₂, hn, h => by
    obtain ⟨s, t, e⟩ := List.append_of_mem (h a (by simp))
    have hn' := List.nodup_cons.1 hn
    have := length_le_of_mem l (s ++ t) hn'.2 (fun x hx => by
      have h1 := h x (by simp [hx])
      rw [e] at h1
      rcases List.mem_append.1 h1 with h1 | h1
      · exact List.mem_append.2 (Or.inl h1)
      · rcases List.mem_cons.1 h1 with h1 | h1
        · exact absurd (h1 ▸ hx) hn'.1
        · exact List.mem_append.2 (Or.inr h1))
    rw [e]
    simp at this ⊢
    omega

theorem length_dist_alike {S T : Nat → ByteArray} {n : Nat} (h : Alike S T n) : (dist T n).length = (dist S n).length :=
  Nat.le_antisymm
    (length_le_of_mem _ _ (nodup_dist T n) (fun x hx => (mem_dist S x n).2 ((h x).2 ((mem_dist T x n).1 hx))))
    (length_le_of_mem _ _ (nodup_dist S n) (fun x hx => (mem_dist T x n).2 ((h x).1 ((mem_dist S x n).1 hx))))

theorem length_dist_new {T : Nat → ByteArray} {k : Nat} (h : hasB T k (T k) = false) : (dist T (k + 1)).length = (dist T k).length + 1 := by
  rw [dist, add_new (by rw [memB_dist]; exact h)]
  simp
theorem length_dist_old {T : Nat → ByteArray} {k : Nat} (h : hasB T k (T k) = true) : (dist T (k + 1)).length = (dist T k).length := by
  rw [dist, add_old (by rw [memB_dist]; exact h)]

end Go.Proofs.Qxb6617068a
