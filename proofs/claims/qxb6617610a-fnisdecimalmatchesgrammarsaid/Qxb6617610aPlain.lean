/-
  PLAIN LAW (no Go in sight): digits and points counted, against the split at the first point.
-/
import Derived.Laws.Strings
namespace Go.Proofs.Qxb6617610a

/-- The byte at place j (0 where there is none). -/
def byteAt (s : ByteArray) (j : Nat) : Nat := if h : j < s.size then (s[j]'h).toNat else 0
theorem byteAt_eq (s : ByteArray) (j : Nat) (h : j < s.size) : byteAt s j = (s[j]'h).toNat := by rw [byteAt, dif_pos h]

def isD (c : Nat) : Bool := decide (48 ≤ c) && decide (c ≤ 57)
theorem isD_iff (c : Nat) : isD c = true ↔ 48 ≤ c ∧ c ≤ 57 := by simp [isD]

def digs (f : Nat → Nat) : Nat → Nat
  | 0 => 0
  | k + 1 => digs f k + if isD (f k) then 1 else 0
def pts (f : Nat → Nat) : Nat → Nat
  | 0 => 0
  | k + 1 => pts f k + if f k = 46 then 1 else 0
def Ok (f : Nat → Nat) (k : Nat) : Prop := ∀ j, j < k → isD (f j) = true ∨ f j = 46

theorem digs_le (f : Nat → Nat) : ∀ k, digs f k ≤ k
  | 0 => Nat.le_refl _
  | k + 1 => by have := digs_le f k; rw [digs]; split <;> omega
theorem pts_le (f : Nat → Nat) : ∀ k, pts f k ≤ k
  | 0 => Nat.le_refl _
  | k + 1 => by have := pts_le f k; rw [pts]; split <;> omega

theorem ok_zero (f : Nat → Nat) : Ok f 0 := fun _ h => absurd h (Nat.not_lt_zero _)
theorem ok_succ {f : Nat → Nat} {k : Nat} (h : Ok f k) (hk : isD (f k) = true ∨ f k = 46) : Ok f (k + 1) := fun j hj =>
  if e : j = k then by rw [e]; exact hk else h j (by omega)

theorem digs_yes {f : Nat → Nat} {k : Nat} (h : isD (f k) = true) : digs f (k + 1) = digs f k + 1 := by rw [digs, if_pos h]
theorem digs_no {f : Nat → Nat} {k : Nat} (h : f k = 46) : digs f (k + 1) = digs f k := by rw [digs, if_neg (by rw [isD_iff]; omega)]; rfl
theorem pts_yes {f : Nat → Nat} {k : Nat} (h : f k = 46) : pts f (k + 1) = pts f k + 1 := by rw [pts, if_pos h]
theorem pts_no {f : Nat → Nat} {k : Nat} (h : f k ≠ 46) : pts f (k + 1) = pts f k := by rw [pts, if_neg h]; rfl

theorem sum_ok {f : Nat → Nat} : ∀ {k}, Ok f k → digs f k + pts f k = k
  | 0, _ => rfl
  | k + 1, h => by
    have ih := sum_ok (k := k) (fun j hj => h j (by omega))
    rcases h k (by omega) with hd | hp
    · have : f k ≠ 46 := by rw [isD_iff] at hd; omega
      rw [digs_yes hd, pts_no this]
      omega
    · rw [digs_no hp, pts_yes hp]
      omega

theorem pts_mono (f : Nat → Nat) (a : Nat) : ∀ b, a ≤ b → pts f a ≤ pts f b
  | 0, h => by rw [Nat.le_zero.1 h]; exact Nat.le_refl _
  | b + 1, h => by
    by_cases e : a = b + 1
    · rw [e]; exact Nat.le_refl _
    · have := pts_mono f a b (by omega)
      rw [pts]
      omega

theorem pts_none {f : Nat → Nat} {a : Nat} : ∀ b, a ≤ b → (∀ j, a ≤ j → j < b → f j ≠ 46) → pts f b = pts f a
  | 0, h, _ => by rw [Nat.le_zero.1 h]
  | b + 1, h, hn => by
    by_cases e : a = b + 1
    · rw [e]
    · rw [pts_no (hn b (by omega) (by omega)), pts_none b (by omega) (fun j h1 h2 => hn j h1 (by omega))]

/-- All digits from a on, before b. -/
def All (f : Nat → Nat) (a b : Nat) : Prop := ∀ j, a ≤ j → j < b → isD (f j) = true

/-- What the counting function answers. -/
def Counts (f : Nat → Nat) (n : Nat) : Prop := Ok f n ∧ 0 < digs f n ∧ pts f n ≤ 1

theorem counts_none {f : Nat → Nat} {n : Nat} (hn : ∀ j, j < n → f j ≠ 46) : Counts f n ↔ All f 0 n ∧ 0 < n := by
  have hp : pts f n = 0 := pts_none n (Nat.zero_le _) (fun j _ h => hn j h)
  constructor
  · rintro ⟨hok, hd, _⟩
    have := sum_ok hok
    exact ⟨fun j _ hj => (hok j hj).resolve_right (hn j hj), by omega⟩
  · rintro ⟨ha, h0⟩
    have hok : Ok f n := fun j hj => Or.inl (ha j (Nat.zero_le _) hj)
    have := sum_ok hok
    exact ⟨hok, by omega, by omega⟩

theorem counts_point {f : Nat → Nat} {n p : Nat} (hp : p < n) (hpt : f p = 46) (hn : ∀ j, j < p → f j ≠ 46) : Counts f n ↔ All f 0 p ∧ All f (p + 1) n ∧ 1 < n := by
  have h0 : pts f p = 0 := pts_none p (Nat.zero_le _) (fun j _ h => hn j h)
  have h1 : pts f (p + 1) = 1 := by rw [pts_yes hpt, h0]
  constructor
  · rintro ⟨hok, hd, hle⟩
    have hs := sum_ok hok
    have hm := pts_mono f (p + 1) n (by omega)
    have hno : ∀ j, p + 1 ≤ j → j < n → f j ≠ 46 := fun j hj hjn e => by
      have a1 := pts_mono f (p + 1) j hj
      have a2 := pts_yes e
      have a3 := pts_mono f (j + 1) n (by omega)
      omega
    exact ⟨fun j _ hj => (hok j (by omega)).resolve_right (hn j hj), fun j hj hjn => (hok j hjn).resolve_right (hno j hj hjn), by omega⟩
  · rintro ⟨ha, hb, hn1⟩
    have hok : Ok f n := fun j hj => by
      by_cases e1 : j < p
      · exact Or.inl (ha j (Nat.zero_le _) e1)
      · by_cases e2 : j = p
        · rw [e2]; exact Or.inr hpt
        · exact Or.inl (hb j (by omega) hj)
    have hs := sum_ok hok
    have hpn : pts f n = 1 := by
      rw [← h1]
      exact pts_none n (by omega) (fun j hj hjn => by have := (isD_iff _).1 (hb j hj hjn); omega)
    exact ⟨hok, by omega, by omega⟩

end Go.Proofs.Qxb6617610a
