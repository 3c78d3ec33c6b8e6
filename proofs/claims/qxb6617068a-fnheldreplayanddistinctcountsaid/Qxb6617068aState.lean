/-
  'held' IN ONE CONTRACT: the receiver holds the list l of the different names that it has met.
-/
import Derived.Test.Qxb6617068aHeld
namespace Go.Proofs.Qxb6617068a
open Go.RowKit Go.Maps Go.WideMaps

/-- The object at block B holds just the names of l; at most c calls have been made. -/
def HeldIs (w : World) (B : Nat) (l : List ByteArray) (c : Nat) : Prop :=
  B < w.heap.size ∧ (∀ s ∈ l, s.size ≤ maxLen) ∧
  ((∃ (n : Nat) (F : Nat → ByteArray), n ≤ 8 ∧ l = (List.range n).map F ∧ (∀ j, j < 8 → w.cell? ⟨B, j, none⟩ = some (.string (F j))) ∧ w.cell? ⟨B, 8, none⟩ = some (.int .i64 n) ∧ w.cell? ⟨B, 9, none⟩ = some (.map none) ∧ ∀ j, j < 10 → w.frozen? ⟨B, j, none⟩ = false) ∨
   (∃ bm m D, w.cell? ⟨B, 9, none⟩ = some (.map (some bm)) ∧ w.ownsMap Try.prog 9 (unitElem (H := Unit)) bm m D ∧ (∀ x, Maps.has D (keyS x) = memB l x) ∧ m ≤ c + 9 ∧ B < bm))

theorem HeldIs.drewN {w : World} {B : Nat} {l : List ByteArray} {c : Nat} (h : HeldIs w B l c) (q : Nat) : HeldIs (w.drewN q) B l c := h

theorem keyS_inj {s x : ByteArray} (h : keyS s = keyS x) : s = x := by
  unfold keyS at h
  injection h with h
  exact ByteArray.ext (Array.toList_inj.mp h)

theorem has_put_keys {D : DataW Unit} {l : List ByteArray} (hm : IsMap D) (h : ∀ y, Maps.has D (keyS y) = memB l y) (x y : ByteArray) : Maps.has (D.put (keyS x) (.agg [])) (keyS y) = memB (add l x) y := by
  by_cases e : y = x
  · subst e
    rw [has_put_same hm (isKey y), memB_add_self]
  · rw [has_put_other (fun h' => e (keyS_inj h')), h, memB_add_other l e]

theorem has_SetN (F : Nat → ByteArray) (n : Nat) (x : ByteArray) : Maps.has (SetN F n) (keyS x) = memB ((List.range n).map F) x := by
  unfold SetN
  rw [has_setOf _ _ _ (fun y hy => by obtain ⟨s, _, rfl⟩ := List.mem_map.1 hy; exact isKey _), Bool.eq_iff_iff, memB_iff, List.any_eq_true]
  constructor
  · rintro ⟨y, hy, h⟩
    obtain ⟨j, hj, rfl⟩ := List.mem_map.1 hy
    exact List.mem_map.2 ⟨j, hj, keyS_inj (WideAt.sameKey_eq h)⟩
  · intro h
    obtain ⟨j, hj, rfl⟩ := List.mem_map.1 h
    exact ⟨keyS (F j), List.mem_map.2 ⟨j, hj, rfl⟩, WideAt.sameKey_self (isKey _)⟩

theorem isMap_SetN (F : Nat → ByteArray) (n : Nat) : IsMap (SetN F n) :=
  (tidy_fold _ _ _ tidy_empty (fun y hy => by obtain ⟨s, _, rfl⟩ := List.mem_map.1 hy; exact isKey _)).isMap

theorem addr_ne {B i j : Nat} (h : i ≠ j) : (⟨B, i, none⟩ : Addr) ≠ ⟨B, j, none⟩ := fun e => h (by injection e)

/-- What 'held' does: it tells whether the name is on the list, and puts it there. -/
theorem held_all (B c : Nat) (l : List ByteArray) (x : ByteArray) (w : World) (h : HeldIs w B l c) (hx : x.size ≤ maxLen) (hc : c ≤ 100000) :
    Calls Try.prog 11 #[.pointer (some ⟨B, 0, none⟩), .string x] w fun e w' => e = .returned (.bool (memB l x)) ∧ HeldIs w' B (add l x) (c + 1) ∧ Below B w w' := by
  obtain ⟨hB, hs, ⟨n, F, hn, rfl, hcell, c8, c9, hz⟩ | ⟨bm, m, D, c9, hown, hD, hm, hbm⟩⟩ := h
  · have hs' : ∀ s ∈ add ((List.range n).map F) x, s.size ≤ maxLen := fun s h => by
      rcases (mem_add _ _ _).1 h with h | h
      · exact hs s h
      · exact h ▸ hx
    by_cases hf : hasB F n x = true
    · have hmem : memB ((List.range n).map F) x = true := by rw [← hasB_mem]; exact hf
      refine (held_found B n F x w hn hf hcell c8 c9).mono ?_
      rintro e w' ⟨rfl, q, rfl⟩
      refine ⟨ret_bool hmem.symm, ⟨hB, hs', Or.inl ⟨n, F, hn, add_old hmem, hcell, c8, c9, hz⟩⟩, below_drewN (Below.refl B w) q⟩
    · have hf' : hasB F n x = false := by simpa using hf
      have hmem : memB ((List.range n).map F) x = false := by rw [← hasB_mem]; exact hf'
      by_cases h8 : n < 8
      · refine (held_room B n F x w h8 hf' hcell c8 c9 hz).mono ?_
        rintro e w' ⟨rfl, q, rfl⟩
        refine ⟨ret_bool hmem.symm, ⟨?_, hs', Or.inl ⟨n + 1, fun j => if j = n then x else F j, by omega, ?_, ?_, ?_, ?_, ?_⟩⟩, ?_⟩
        · show B < ((w.setCell _ _).setCell _ _).heap.size
          simpa [World.setCell] using hB
        · rw [add_new hmem, range_snoc (F := F) (fun j hj => if_neg (by omega))]
          simp
        · intro j hj
          show ((w.setCell ⟨B, n, none⟩ (.string x)).setCell ⟨B, 8, none⟩ (.int .i64 (n + 1 : Nat))).cell? ⟨B, j, none⟩ = _
          rw [World.cell?_setCell_other _ _ _ _ (addr_ne (by omega))]
          by_cases e : j = n
          · subst e
            rw [World.cell?_setCell_same _ _ _ (hcell j hj)]
            simp
          · rw [World.cell?_setCell_other _ _ _ _ (addr_ne (fun h => e h.symm)), hcell j hj]
            simp [e]
        · show ((w.setCell ⟨B, n, none⟩ (.string x)).setCell ⟨B, 8, none⟩ (.int .i64 (n + 1 : Nat))).cell? ⟨B, 8, none⟩ = _
          exact World.cell?_setCell_same _ _ _ ((World.cell?_setCell_other _ _ _ _ (addr_ne (by omega))).trans c8)
        · show ((w.setCell ⟨B, n, none⟩ (.string x)).setCell ⟨B, 8, none⟩ (.int .i64 (n + 1 : Nat))).cell? ⟨B, 9, none⟩ = _
          rw [World.cell?_setCell_other _ _ _ _ (addr_ne (by omega)), World.cell?_setCell_other _ _ _ _ (addr_ne (by omega))]
          exact c9
        · intro j hj
          show ((w.setCell ⟨B, n, none⟩ (.string x)).setCell ⟨B, 8, none⟩ (.int .i64 (n + 1 : Nat))).frozen? ⟨B, j, none⟩ = _
          rw [World.frozen?_setCell, World.frozen?_setCell]
          exact hz j hj
        · exact below_drewN (((Below.refl B w).setCell (Nat.le_refl _) _).setCell (Nat.le_refl _) _) q
      · have e8 : n = 8 := by omega
        subst e8
        refine (held_eight B F x w hB hx (fun j hj => hs _ (List.mem_map.2 ⟨j, List.mem_range.2 hj, rfl⟩)) hf' hcell c8 c9 hz).mono ?_
        rintro e w' ⟨rfl, hown, c9', hbel⟩
        refine ⟨ret_bool hmem.symm, ⟨?_, hs', Or.inr ⟨w.heap.size, 9, _, c9', hown, ?_, by omega, hB⟩⟩, hbel⟩
        · exact Nat.lt_of_lt_of_le hB hbel.size
        · intro y
          exact has_put_keys (isMap_SetN F 8) (has_SetN F 8) x y
  · have hs' : ∀ s ∈ add l x, s.size ≤ maxLen := fun s h => by
      rcases (mem_add _ _ _).1 h with h | h
      · exact hs s h
      · exact h ▸ hx
    refine (held_many B bm m D x w hx (by omega) c9 hown (by simp; omega)).mono ?_
    rintro e w' ⟨rfl, hown1, hgrow⟩
    refine ⟨ret_bool (hD x), ⟨Nat.lt_of_lt_of_le hB hgrow.size, hs', Or.inr ⟨bm, m + 1, _, hgrow.cell c9 (by simp; omega), hown1, has_put_keys hown.isMap hD x, by omega, hbm⟩⟩, ?_⟩
    exact (Below.refl B w).grown hgrow (by omega) (fun j hj => by cases hj; omega)

set_option maxHeartbeats 400000 in
theorem zzheld_all (B c : Nat) (l : List ByteArray) (x : ByteArray) (w : World) (h : HeldIs w B l c) (hx : x.size ≤ maxLen) (hc : c ≤ 100000) :
    Calls Try.prog 7 #[.pointer (some ⟨B, 0, none⟩), .string x] w fun e w' => e = .returned (.bool (memB l x)) ∧ HeldIs w' B (add l x) (c + 1) ∧ Below B w w' := by
  go_enter Try.func7, Try.ntmps7
  go_wp2_with fail
  refine (held_all B c l x _ h hx hc).mono ?_
  rintro e w' ⟨rfl, hh, hb⟩
  go_wp2
  go_ret
  exact ⟨rfl, hh, hb⟩

set_option maxHeartbeats 400000 in
theorem zznew_any (w : World) :
    Calls Try.prog 6 #[] w fun e w' => e = .returned (.pointer (some ⟨w.heap.size, 0, none⟩)) ∧ HeldIs w' w.heap.size [] 0 ∧ Below w.heap.size w w' := by
  go_enter Try.func6, Try.ntmps6
  go_wp2
  go_ret
  refine ⟨rfl, ⟨by simp, by simp, Or.inl ⟨0, fun _ => ByteArray.empty, by omega, rfl, ?_, ?_, ?_, ?_⟩⟩, (Below.refl _ _).alloc (Nat.le_refl _) _⟩
  · intro j hj
    rw [World.cell?_alloc_new]
    match j, hj with
    | 0, _ | 1, _ | 2, _ | 3, _ | 4, _ | 5, _ | 6, _ | 7, _ => rfl
  · rw [World.cell?_alloc_new]
    rfl
  · rw [World.cell?_alloc_new]
    rfl
  · intro j _
    exact World.frozen?_alloc_at _ _ _ _ rfl

end Go.Proofs.Qxb6617068a
