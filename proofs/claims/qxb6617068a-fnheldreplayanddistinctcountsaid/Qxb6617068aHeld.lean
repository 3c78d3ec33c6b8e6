/-
  WALKS: (*objectKeys).held, state by state.
-/
import Derived.Test.Qxb6617068aReads
import Derived.Maps.OwnSet
namespace Go.Proofs.Qxb6617068a
open Go.RowKit Go.Maps Go.WideMaps

theorem law9 : Keyed Try.prog 9 := string_keyed Try.underlying9
def keyS (x : ByteArray) : Lit := .string x.data.toList
theorem key_ok {x : ByteArray} (h : x.size ≤ maxLen) : keyOf Try.prog 9 (.string x) = some (keyS x) := keyOf_string_mk Try.underlying9 h
theorem isKey (x : ByteArray) : WideAt.IsKeyLit (keyS x) := trivial

/-- The set of the first n names. -/
def SetN (F : Nat → ByteArray) (n : Nat) : DataW Unit := setOf (.agg []) ((List.range n).map fun j => keyS (F j))

theorem SetN_succ (F : Nat → ByteArray) (n : Nat) : (SetN F n).put (keyS (F n)) (.agg []) = SetN F (n + 1) := by
  unfold SetN
  rw [List.range_succ, List.map_append, List.map_singleton, setOf_snoc]

theorem has_of_size {D : DataW Unit} (h : Tidy D) (k : Lit) : ((size (D.put k (.agg [])) : Int) == (size D : Int)) = Maps.has D k := by
  rw [size_put h]
  cases hh : Maps.has D k
  · simp only [Bool.false_eq_true, if_false]
    simp
    omega
  · simp

set_option maxHeartbeats 400000 in
set_option maxRecDepth 100000 in
/-- The index stands. -/
theorem held_many (B bm m : Nat) (D : DataW Unit) (x : ByteArray) (w : World) (hx : x.size ≤ maxLen) (hm : m ≤ 1000000)
    (c9 : w.cell? ⟨B, 9, none⟩ = some (.map (some bm))) (hown : w.ownsMap Try.prog 9 unitElem bm m D) (hne : some B ≠ some bm) :
    Calls Try.prog 11 #[.pointer (some ⟨B, 0, none⟩), .string x] w fun e w' => e = .returned (.bool (Maps.has D (keyS x))) ∧ w'.ownsMap Try.prog 9 (unitElem (H := Unit)) bm (m + 1) (D.put (keyS x) (.agg [])) ∧ w.grownBy w' (some bm) := by
  have hnn : ∀ (w : World) (r : Option Nat), (binOp .neq 30 (.map r) (.map none)).run Try.prog w = .ok (.bool (!r.isNone)) w := fun w r => run_neq_map_nil w 30 9 34 r Try.underlying30
  have hkey := key_ok hx
  go_enter Try.func11, Try.ntmps11
  go_wp2_with (first
      | (at_len; refine wpList_len_own _ rfl _ 30 rfl 9 34 Try.underlying30 _ bm m _ rfl hown ?_)
      | (at_mapUpdate; refine wpList_mapUpdate_own _ rfl _ _ _ 30 rfl 9 34 law9 Try.underlying30 (unitElem (H := Unit)) bm m _ rfl hown (by unfold maxLen; omega) _ _ _ rfl rfl hkey _ [] unitElem_mk ?_; intro w1 hown1 hgrow1; have c91 : w1.cell? ⟨B, 9, none⟩ = some (.map (some bm)) := hgrow1.cell c9 hne)
      | (at_len; refine wpList_len_own _ rfl _ 30 rfl 9 34 Try.underlying30 _ bm (m + 1) _ rfl hown1 ?_)
      | go_in)
  go_ret
  exact ⟨ret_bool (has_of_size (hown.tidy law9) _), hown1, hgrow1⟩

set_option maxHeartbeats 400000 in
set_option maxRecDepth 100000 in
/-- No index yet; the name is among the few. -/
theorem held_found (B n : Nat) (F : Nat → ByteArray) (x : ByteArray) (w : World) (hn : n ≤ 8) (hf : hasB F n x = true)
    (hc : ∀ j, j < 8 → w.cell? ⟨B, j, none⟩ = some (.string (F j))) (c8 : w.cell? ⟨B, 8, none⟩ = some (.int .i64 n)) (c9 : w.cell? ⟨B, 9, none⟩ = some (.map none)) :
    Calls Try.prog 11 #[.pointer (some ⟨B, 0, none⟩), .string x] w fun e w' => e = .returned (.bool true) ∧ ∃ q, w' = w.drewN q := by
  have hnn : ∀ (w : World) (r : Option Nat), (binOp .neq 30 (.map r) (.map none)).run Try.prog w = .ok (.bool (!r.isNone)) w := fun w r => run_neq_map_nil w 30 9 34 r Try.underlying30
  have hle : (n : Int) ≤ 8 := by omega
  have hal : Try.prog.arrayLen 29 = 8 := by kernel_rfl
  have hcc : ∀ q j, j < n → (w.drewN q).cell? ⟨B, 0 + j, none⟩ = some (.string (F j)) := fun q j hj => by rw [Nat.zero_add]; exact hc j (by omega)
  go_enter Try.func11, Try.ntmps11
  go_wp2
  go_quiet ((go_at_call 12; exact Calls.quiet_of_same (contains_is _ _ _ _ F _ _ (by omega) (hcc _) hf)))
  go_wp2
  go_ret
  exact ⟨rfl, _, rfl⟩

set_option maxHeartbeats 400000 in
set_option maxRecDepth 100000 in
/-- No index yet; the name is new, and there is room among the few. -/
theorem held_room (B n : Nat) (F : Nat → ByteArray) (x : ByteArray) (w : World) (hn : n < 8) (hf : hasB F n x = false)
    (hc : ∀ j, j < 8 → w.cell? ⟨B, j, none⟩ = some (.string (F j))) (c8 : w.cell? ⟨B, 8, none⟩ = some (.int .i64 n)) (c9 : w.cell? ⟨B, 9, none⟩ = some (.map none))
    (hz : ∀ j, j < 10 → w.frozen? ⟨B, j, none⟩ = false) :
    Calls Try.prog 11 #[.pointer (some ⟨B, 0, none⟩), .string x] w fun e w' => e = .returned (.bool false) ∧ ∃ q, w' = ((w.setCell ⟨B, n, none⟩ (.string x)).setCell ⟨B, 8, none⟩ (.int .i64 (n + 1 : Nat))).drewN q := by
  have hnn : ∀ (w : World) (r : Option Nat), (binOp .neq 30 (.map r) (.map none)).run Try.prog w = .ok (.bool (!r.isNone)) w := fun w r => run_neq_map_nil w 30 9 34 r Try.underlying30
  have hle : (n : Int) ≤ 8 := by omega
  have hlt : (n : Int) < 8 := by omega
  have hal : Try.prog.arrayLen 29 = 8 := by kernel_rfl
  have hcc : ∀ q j, j < n → (w.drewN q).cell? ⟨B, 0 + j, none⟩ = some (.string (F j)) := fun q j hj => by rw [Nat.zero_add]; exact hc j (by omega)
  have cn : w.cell? ⟨B, n, none⟩ = some (.string (F n)) := hc n hn
  have zn : w.frozen? ⟨B, n, none⟩ = false := hz n (by omega)
  have z8 : w.frozen? ⟨B, 8, none⟩ = false := hz 8 (by omega)
  clear hc hz
  go_enter Try.func11, Try.ntmps11
  go_wp2
  go_quiet ((go_at_call 12; exact Calls.quiet_of_same (contains_is _ _ _ _ F _ _ (by omega) (hcc _) hf)))
  go_wp2
  go_region
  go_wp2
  go_ret
  exact ⟨rfl, _, rfl⟩

theorem index_few0 (F : Nat → ByteArray) (w : World) : (Instr.index 29 (.agg #[.string (F 0), .string (F 1), .string (F 2), .string (F 3), .string (F 4), .string (F 5), .string (F 6), .string (F 7)]) (.int .i64 0)).run Try.prog w = .ok (.string (F 0)) w := by kernel_rfl
theorem index_few1 (F : Nat → ByteArray) (w : World) : (Instr.index 29 (.agg #[.string (F 0), .string (F 1), .string (F 2), .string (F 3), .string (F 4), .string (F 5), .string (F 6), .string (F 7)]) (.int .i64 1)).run Try.prog w = .ok (.string (F 1)) w := by kernel_rfl
theorem index_few2 (F : Nat → ByteArray) (w : World) : (Instr.index 29 (.agg #[.string (F 0), .string (F 1), .string (F 2), .string (F 3), .string (F 4), .string (F 5), .string (F 6), .string (F 7)]) (.int .i64 2)).run Try.prog w = .ok (.string (F 2)) w := by kernel_rfl
theorem index_few3 (F : Nat → ByteArray) (w : World) : (Instr.index 29 (.agg #[.string (F 0), .string (F 1), .string (F 2), .string (F 3), .string (F 4), .string (F 5), .string (F 6), .string (F 7)]) (.int .i64 3)).run Try.prog w = .ok (.string (F 3)) w := by kernel_rfl
theorem index_few4 (F : Nat → ByteArray) (w : World) : (Instr.index 29 (.agg #[.string (F 0), .string (F 1), .string (F 2), .string (F 3), .string (F 4), .string (F 5), .string (F 6), .string (F 7)]) (.int .i64 4)).run Try.prog w = .ok (.string (F 4)) w := by kernel_rfl
theorem index_few5 (F : Nat → ByteArray) (w : World) : (Instr.index 29 (.agg #[.string (F 0), .string (F 1), .string (F 2), .string (F 3), .string (F 4), .string (F 5), .string (F 6), .string (F 7)]) (.int .i64 5)).run Try.prog w = .ok (.string (F 5)) w := by kernel_rfl
theorem index_few6 (F : Nat → ByteArray) (w : World) : (Instr.index 29 (.agg #[.string (F 0), .string (F 1), .string (F 2), .string (F 3), .string (F 4), .string (F 5), .string (F 6), .string (F 7)]) (.int .i64 6)).run Try.prog w = .ok (.string (F 6)) w := by kernel_rfl
theorem index_few7 (F : Nat → ByteArray) (w : World) : (Instr.index 29 (.agg #[.string (F 0), .string (F 1), .string (F 2), .string (F 3), .string (F 4), .string (F 5), .string (F 6), .string (F 7)]) (.int .i64 7)).run Try.prog w = .ok (.string (F 7)) w := by kernel_rfl
theorem index_few (F : Nat → ByteArray) (k : Nat) (w : World) (hk : k < 8) : (Instr.index 29 (.agg #[.string (F 0), .string (F 1), .string (F 2), .string (F 3), .string (F 4), .string (F 5), .string (F 6), .string (F 7)]) (.int .i64 k)).run Try.prog w = .ok (.string (F k)) w :=
  match k, hk with
  | 0, _ => index_few0 F w
  | 1, _ => index_few1 F w
  | 2, _ => index_few2 F w
  | 3, _ => index_few3 F w
  | 4, _ => index_few4 F w
  | 5, _ => index_few5 F w
  | 6, _ => index_few6 F w
  | 7, _ => index_few7 F w

set_option maxHeartbeats 800000 in
set_option maxRecDepth 100000 in
/-- No index yet; the name is new, and the few are eight. -/
theorem held_eight (B : Nat) (F : Nat → ByteArray) (x : ByteArray) (w : World) (hB : B < w.heap.size) (hx : x.size ≤ maxLen) (hF : ∀ j, j < 8 → (F j).size ≤ maxLen) (hf : hasB F 8 x = false)
    (hc : ∀ j, j < 8 → w.cell? ⟨B, j, none⟩ = some (.string (F j))) (c8 : w.cell? ⟨B, 8, none⟩ = some (.int .i64 8)) (c9 : w.cell? ⟨B, 9, none⟩ = some (.map none))
    (hz : ∀ j, j < 10 → w.frozen? ⟨B, j, none⟩ = false) :
    Calls Try.prog 11 #[.pointer (some ⟨B, 0, none⟩), .string x] w fun e w' => e = .returned (.bool false) ∧ w'.ownsMap Try.prog 9 (unitElem (H := Unit)) w.heap.size 9 ((SetN F 8).put (keyS x) (.agg [])) ∧ w'.cell? ⟨B, 9, none⟩ = some (.map (some w.heap.size)) ∧ Below B w w' := by
  have hnn : ∀ (w : World) (r : Option Nat), (binOp .neq 30 (.map r) (.map none)).run Try.prog w = .ok (.bool (!r.isNone)) w := fun w r => run_neq_map_nil w 30 9 34 r Try.underlying30
  have hmm : ∀ w, (Instr.makeMap 30 (some (.int .i64 16))).run Try.prog w = .ok (.map (some w.heap.size)) (w.alloc (.map #[] 0)) := fun _ => by kernel_rfl
  have hal : Try.prog.arrayLen 29 = 8 := by kernel_rfl
  have hix := fun (k : Nat) (w : World) (hk : k < 8) => index_few F k w hk
  have hcc : ∀ q j, j < 8 → (w.drewN q).cell? ⟨B, 0 + j, none⟩ = some (.string (F j)) := fun q j hj => by rw [Nat.zero_add]; exact hc j (by omega)
  have z9 : ∀ q, ((w.drewN q).alloc (.map #[] 0)).frozen? ⟨B, 9, none⟩ = false := fun q => by
    rw [World.frozen?_alloc_old _ _ _ (by simp; omega)]; exact hz 9 (by omega)
  have ha : ∀ q j, j < 8 → ((w.drewN q).alloc (.map #[] 0)).cell? ⟨B, j, none⟩ = some (.string (F j)) := fun q j hj => by
    rw [World.cell?_alloc_past _ _ _ (show B < (w.drewN q).heap.size from hB)]; exact hc j hj
  have ha9 : ∀ q, ((w.drewN q).alloc (.map #[] 0)).cell? ⟨B, 9, none⟩ = some (.map none) := fun q => by
    rw [World.cell?_alloc_past _ _ _ (show B < (w.drewN q).heap.size from hB)]; exact c9
  have k0 := fun q => ha q 0 (by omega)
  have k1 := fun q => ha q 1 (by omega)
  have k2 := fun q => ha q 2 (by omega)
  have k3 := fun q => ha q 3 (by omega)
  have k4 := fun q => ha q 4 (by omega)
  have k5 := fun q => ha q 5 (by omega)
  have k6 := fun q => ha q 6 (by omega)
  have k7 := fun q => ha q 7 (by omega)
  clear ha
  clear hc hz
  go_enter Try.func11, Try.ntmps11
  go_wp2
  go_quiet ((go_at_call 12; exact Calls.quiet_of_same (contains_is _ _ _ _ F _ _ (by omega) (hcc _) hf)))
  go_wp2
  go_loopw [70] (fun i wr => ∃ k : Nat, k ≤ 8 ∧ i = .int .i64 k ∧ wr.ownsMap Try.prog 9 (unitElem (H := Unit)) w.heap.size k (SetN F k) ∧ wr.cell? ⟨B, 9, none⟩ = some (.map (some w.heap.size)) ∧ Below B w wr) (fun i _ => 8 - (intOf i).toNat)
  case atStart =>
    refine ⟨0, Nat.zero_le _, rfl, ?_, ?_, ?_⟩
    · exact (World.ownsMap_made (w.drewN nq) Try.prog 9 unitElem).setCell (by simp; omega) _
    · go_simp
    · exact ((below_drewN (Below.refl B w) nq).alloc (by simp; omega) _).setCell (Nat.le_refl _) _
  case round =>
    obtain ⟨k, hk, rfl, hown, c9r, hbel⟩ := hrel
    by_cases hlt : k < 8
    · have hkey := key_ok (hF k hlt)
      have hi := fun w => hix k w hlt
      go_wp2_with (first
        | (at_mapUpdate; refine wpList_mapUpdate_own _ rfl _ _ _ 30 rfl 9 34 law9 Try.underlying30 (unitElem (H := Unit)) w.heap.size k _ rfl hown (by unfold maxLen; omega) _ _ _ rfl rfl hkey _ [] unitElem_mk ?_; intro w1 hown1 hgrow1)
        | go_in)
      go_roundw
      case rel => exact ⟨k + 1, by omega, by go_num, SetN_succ F k ▸ hown1, hgrow1.cell c9r (by simp; omega), hbel.grown hgrow1 (by have := hbel.size; omega) (fun j hj => by cases hj; omega)⟩
      case measure => simp [intOf]; omega
    · have e8 : k = 8 := by omega
      subst e8
      have hkey := key_ok hx
      go_wp2_with (first
        | (at_mapUpdate; refine wpList_mapUpdate_own _ rfl _ _ _ 30 rfl 9 34 law9 Try.underlying30 (unitElem (H := Unit)) w.heap.size 8 _ rfl hown (by unfold maxLen; omega) _ _ _ rfl rfl hkey _ [] unitElem_mk ?_; intro w1 hown1 hgrow1)
        | go_in)
      go_ret
      exact ⟨rfl, hown1, hgrow1.cell c9r (by simp; omega), hbel.grown hgrow1 (by have := hbel.size; omega) (fun j hj => by cases hj; omega)⟩

end Go.Proofs.Qxb6617068a
