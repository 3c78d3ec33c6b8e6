/-
  THE WALK of distinctBySorting.
-/
import Derived.Test.Qxb6617068aReads
import Derived.Test.Qxb6617068aSort
namespace Go.Proofs.Qxb6617068a
open Go.RowKit

theorem Try.info9 : (Try.prog.info? 9).map (fun i => (i.zero, i.size, i.bytes)) = some (some (.string ByteArray.empty), 1, 16) := by kernel_rfl

/-- Block G holds the row T 0 .. T (n - 1), which may be written. -/
def RowIs (w : World) (G n : Nat) (T : Nat → ByteArray) : Prop := ∀ j, j < n → w.cell? ⟨G, j, none⟩ = some (.string (T j)) ∧ w.frozen? ⟨G, j, none⟩ = false

theorem RowIs.set {w : World} {G n : Nat} {T T' : Nat → ByteArray} (h : RowIs w G n T) {k : Nat} (x : ByteArray) (hT : ∀ i, T' i = if i = k then x else T i) : RowIs (w.setCell ⟨G, k, none⟩ (.string x)) G n T' := by
  intro j hj
  rw [World.frozen?_setCell, hT]
  refine ⟨?_, (h j hj).2⟩
  by_cases e : j = k
  · subst e
    rw [if_pos rfl]
    exact World.cell?_setCell_same _ _ _ (h j hj).1
  · rw [if_neg e]
    exact (World.cell?_setCell_other _ _ _ _ (fun h => e (by injection h with _ h; exact h.symm))).trans (h j hj).1

theorem RowIs.draw {w : World} {G n : Nat} {T : Nat → ByteArray} (h : RowIs w G n T) (q : Nat) : RowIs (w.drewN q) G n T := h

theorem rowIs_made {w1 : World} {G n : Nat} (h : w1.ownsRow G 9 1 (.slice (some ⟨G, 0, none⟩) n n) n (madeCells (Value.string ByteArray.empty).cells (n * 1)).toList) : RowIs w1 G n (fun _ => ByteArray.empty) := by
  intro j hj
  refine ⟨?_, h.frozenAt j⟩
  rw [h.cellAt j (by omega)]
  show (madeCells #[Value.string ByteArray.empty] (n * 1)).toList[j]? = _
  rw [toList_madeCells_one, List.getElem?_replicate, if_pos (by omega)]

theorem copy_step (S : Nat → ByteArray) (k i : Nat) : (if i < k + 1 then S i else ByteArray.empty) = if i = k then S k else if i < k then S i else ByteArray.empty := by
  by_cases e : i = k
  · subst e
    rw [if_pos (by omega), if_pos rfl]
  · rw [if_neg e]
    by_cases h : i < k
    · rw [if_pos h, if_pos (by omega)]
    · rw [if_neg h, if_neg (by omega)]

theorem not_le_of_test {x y : ByteArray} (h : (!Op.bytesLess x.toList y.toList) = true ∧ (!x.toList == y.toList) = true) : ¬ le x y := by
  unfold le leL
  rw [Bool.not_eq_true', Bool.not_eq_true'] at h
  rw [h.1, h.2]
  decide
theorem le_of_test {x y : ByteArray} (h : (!Op.bytesLess x.toList y.toList) = false ∨ (!x.toList == y.toList) = false) : le x y := by
  unfold le leL
  rw [Bool.not_eq_false', Bool.not_eq_false'] at h
  rcases h with h | h
  · rw [h]; rfl
  · rw [h]; simp
theorem runs_new {T : Nat → ByteArray} {n q : Nat} (h : Rises T n) (hq : q < n) (ht : (!(T q).toList == (T (q - 1)).toList) = true) : hasB T q (T q) = false := by
  cases hh : hasB T q (T q)
  · rfl
  · have := ((rises_met h hq).1 hh).2
    rw [Bool.not_eq_true', bytes_ne_iff] at ht
    exact absurd this ht
theorem runs_old {T : Nat → ByteArray} {n q : Nat} (h : Rises T n) (hq : q < n) (h0 : 0 < q) (ht : (!(T q).toList == (T (q - 1)).toList) = false) : hasB T q (T q) = true := by
  rw [Bool.not_eq_false', bytes_eq_iff] at ht
  exact (rises_met h hq).2 ⟨h0, ht⟩
theorem num_of {a b : Int} (h : a = b) : Value.int .i64 a = .int .i64 b := by rw [h]

theorem ret_int {a b : Int} (h : a = b) : Ending.returned (.int .i64 a) = .returned (.int .i64 b) := by rw [h]

theorem rises_one (T : Nat → ByteArray) : Rises T 1 := fun i j hij hj => by
  obtain rfl : i = 0 := by omega
  obtain rfl : j = 0 := by omega
  exact le_refl _

set_option maxHeartbeats 1000000 in
set_option maxRecDepth 100000 in
theorem distinct_any (b off len cap : Nat) (S : Nat → ByteArray) (w : World) (hl : len ≤ 4096) (hb : b < w.heap.size)
    (hc : ∀ j, j < len → w.cell? ⟨b, off + j, none⟩ = some (.string (S j))) :
    Calls Try.prog 10 #[.slice (some ⟨b, off, none⟩) len cap] w fun e w' => e = .returned (.int .i64 ((dist S len).length : Nat)) ∧ Below w.heap.size w w' := by
  obtain ⟨i0, hi, hz0, hz1, hz2⟩ := info_parts Try.info9
  go_enter Try.func10, Try.ntmps10
  go_wp2_with (first
    | (at_make; refine wpList_make_full _ rfl _ _ 22 rfl w.heap.size 9 i0 (.string ByteArray.empty) 1 Try.underlying22 hi hz0 hz1 _ _ _ _ len rfl rfl rfl rfl (by rw [hz2]; omega) (by unfold maxLen; omega) (Nat.le_refl _) ?_; intro w1 hrow hgrow)
    | fail)
  have hrow0 : RowIs w1 w.heap.size len (fun _ => ByteArray.empty) := rowIs_made hrow
  have hbel0 : Below w.heap.size w w1 := (Below.refl _ _).grown hgrow (Nat.le_refl _) (fun _ h => by cases h)
  have H0 : Hid (RowIs w1 w.heap.size len (fun _ => ByteArray.empty)) := hrow0
  clear hrow hrow0 hgrow hi hz0 hz1 hz2 i0
  go_loopw [4] (fun i wr => ∃ k : Nat, k ≤ len ∧ i = .int .i64 k ∧ RowIs wr w.heap.size len (fun j => if j < k then S j else ByteArray.empty) ∧ Below w.heap.size w wr) (fun i _ => len - (intOf i).toNat)
  case atStart => exact ⟨0, Nat.zero_le _, rfl, H0.out, hbel0⟩
  case round =>
    clear H0 hbel0
    obtain ⟨k, hk, rfl, hr, hbel⟩ := hrel
    by_cases hlt : k < len
    · have hcell : wr.cell? ⟨b, off + k, none⟩ = some (.string (S k)) := (hbel.cell hb).trans (hc k hlt)
      have hcg := (hr k hlt).1
      have hfg := (hr k hlt).2
      go_wp2_with fail
      go_roundw
      case rel => exact ⟨k + 1, by omega, by go_num, hr.set (S k) (copy_step S k), hbel.setCell (Nat.le_refl _) _⟩
      case measure => simp [intOf]; omega
    · have e : k = len := by omega
      subst e
      have hr1 : RowIs wr w.heap.size k S := fun j hj => by have := hr j hj; simpa [hj] using this
      have HR : Hid (RowIs wr w.heap.size k S) := hr1
      clear hr hr1
      go_wp2_with fail
      go_loopw [5] (fun i wr => ∃ (m : Nat) (T : Nat → ByteArray), 1 ≤ m ∧ (m ≤ k ∨ m = 1) ∧ i = .int .i64 m ∧ RowIs wr w.heap.size k T ∧ Rises T m ∧ Alike S T k ∧ Below w.heap.size w wr) (fun i _ => k - (intOf i).toNat)
      case atStart => exact ⟨1, S, Nat.le_refl _, Or.inr rfl, rfl, HR.out, rises_one S, fun x => Iff.rfl, hbel⟩
      case round =>
        clear HR hbel
        obtain ⟨m, T, hm1, hm2, rfl, hr, hrise, halike, hbel⟩ := hrel
        by_cases hlt : m < k
        · have hcg := (hr m hlt).1
          have HR : Hid (RowIs wr w.heap.size k T) := hr
          have HU : Hid (Rises T m) := hrise
          have HA : Hid (Alike S T k) := halike
          clear hr hrise halike
          go_wp2_with fail
          go_loopw [7] (fun t wr => ∃ p : Nat, p ≤ m ∧ t = .int .i64 p ∧ RowIs wr w.heap.size k (shifted T p m) ∧ (∀ i, p ≤ i → i < m → le (T m) (T i)) ∧ Below w.heap.size w wr) (fun t _ => (intOf t).toNat)
          case atStart => exact ⟨m, Nat.le_refl _, rfl, by rw [shifted_start]; exact HR.out, fun i h1 h2 => by omega, hbel⟩
          case round =>
            clear hcg hbel
            obtain ⟨p, hp, rfl, hr, hhi, hbel⟩ := hrel
            have HH : Hid (∀ i, p ≤ i → i < m → le (T m) (T i)) := hhi
            have hcp := (hr p (by omega)).1
            have hfp := (hr p (by omega)).2
            clear hhi
            by_cases hp0 : 0 < p
            · have hcq : wr.cell? ⟨w.heap.size, p - 1, none⟩ = some (.string (T (p - 1))) := by
                rw [(hr (p - 1) (by omega)).1, shifted_below T p m (p - 1) (by omega)]
              have HR2 : Hid (RowIs wr w.heap.size k (shifted T p m)) := hr
              clear hr
              go_wp2_with fail
              · have ht : (!Op.bytesLess (T (p - 1)).toList (T m).toList) = true ∧ (!(T (p - 1)).toList == (T m).toList) = true := by assumption
                have hg := le_of_not (not_le_of_test ht)
                go_roundw
                case rel => exact ⟨p - 1, by omega, by go_num, HR2.out.set (T (p - 1)) (fun i => shifted_step T p m hp0 hp i), fun i h1 h2 => if e : i = p - 1 then by rw [e]; exact hg else HH.out i (by omega) h2, hbel.setCell (Nat.le_refl _) _⟩
                case measure => simp [intOf]; omega
              · have ht : (!Op.bytesLess (T (p - 1)).toList (T m).toList) = false ∨ (!(T (p - 1)).toList == (T m).toList) = false := by assumption
                have hg := le_of_test ht
                go_roundw
                case rel => exact ⟨m + 1, inserted T p m, by omega, by omega, by go_num, HR2.out.set (T m) (fun _ => rfl), rises_inserted HU.out hp (fun _ => hg) HH.out, alike_inserted HA.out hp hlt, hbel.setCell (Nat.le_refl _) _⟩
                case measure => simp [intOf]; omega
            · have HR2 : Hid (RowIs wr w.heap.size k (shifted T p m)) := hr
              clear hr
              go_wp2_with fail
              go_roundw
              case rel => exact ⟨m + 1, inserted T p m, by omega, by omega, by go_num, HR2.out.set (T m) (fun _ => rfl), rises_inserted HU.out hp (fun h => absurd h hp0) HH.out, alike_inserted HA.out hp hlt, hbel.setCell (Nat.le_refl _) _⟩
              case measure => simp [intOf]; omega
        · have hrise' : Rises T k := fun i j h1 h2 => hrise i j h1 (by omega)
          have HU : Hid (Rises T k) := hrise'
          have HA : Hid (Alike S T k) := halike
          have HR : Hid (RowIs wr w.heap.size k T) := hr
          clear hrise halike hrise' hr
          go_wp2_with fail
          go_loopw [8, 9] (fun c i wr => ∃ q : Nat, q ≤ k ∧ i = .int .i64 q ∧ c = .int .i64 ((dist T q).length : Nat) ∧ RowIs wr w.heap.size k T ∧ Below w.heap.size w wr) (fun _ i _ => k - (intOf i).toNat)
          case atStart => exact ⟨0, Nat.zero_le _, rfl, rfl, HR.out, hbel⟩
          case round =>
            clear HR hbel
            obtain ⟨q, hq, rfl, rfl, hr, hbel⟩ := hrel
            have hdl := dist_le T q
            by_cases hqk : q < k
            · by_cases hq0 : q = 0
              · subst hq0
                go_wp2
                go_quiet (fail)
                go_wp2
                go_roundw
                case rel => exact ⟨1, by omega, by go_num, num_of rfl, hr.draw _, below_drewN hbel _⟩
                case measure => simp [intOf]; omega
              · have hd : ((q : Int) == 0) = false := by simp; omega
                have hcq := (hr q hqk).1
                have hcp := (hr (q - 1) (by omega)).1
                go_wp2
                go_quiet (fail)
                go_wp2
                · have ht : (!(T q).toList == (T (q - 1)).toList) = true := by assumption
                  have hn := length_dist_new (runs_new HU.out hqk ht)
                  go_roundw
                  case rel => exact ⟨q + 1, by omega, by go_num, num_of (by omega), hr.draw _, below_drewN hbel _⟩
                  case measure => simp [intOf]; omega
                · have ht : (!(T q).toList == (T (q - 1)).toList) = false := by assumption
                  have hn := length_dist_old (runs_old HU.out hqk (by omega) ht)
                  go_roundw
                  case rel => exact ⟨q + 1, by omega, by go_num, num_of (by omega), hr.draw _, below_drewN hbel _⟩
                  case measure => simp [intOf]; omega
            · have e : q = k := by omega
              subst e
              have hlen := length_dist_alike HA.out
              have HL : Hid ((dist T q).length = (dist S q).length) := hlen
              clear hlen
              go_wp2
              go_ret
              exact ⟨ret_int (congrArg Int.ofNat HL.out), hbel⟩

end Go.Proofs.Qxb6617068a
