import Derived.Test.Qxb6000901aModsWMem
namespace Go.Proofs.Qxb6000901aMods
open Go.RowKit

theorem sees_cells {w w1 : World} {a : Option Addr} {p : List Int} {X : List Value} (HX : Hid (X = p.map (Value.int .u8))) (hs : Sees w a p) (hb : Below w.heap.size w w1) :
    0 < X.length → ∃ ad, a = some ad ∧ ∀ j v, X[j]? = some v → w1.cell? (ad.add j) = some v := by
  intro hpos
  rw [HX.out] at hpos ⊢
  rcases sees_below hs hb with rfl | ⟨b, off, rfl, hc⟩
  · simp at hpos
  · refine ⟨_, rfl, fun j v hv => ?_⟩
    obtain ⟨hj, rfl⟩ := List.getElem?_eq_some_iff.1 hv
    simp only [List.length_map] at hj
    have h := hc j hj
    have e : (⟨b, off, none⟩ : Addr).add j = ⟨b, off + j, none⟩ := by
      by_cases h0 : j = 0
      · subst h0; simp [Addr.add]
      · simp [Addr.add, h0]
    rw [e, h]; simp [List.getD, hj]

theorem splice_two {Z X Y : List Value} (h : Z.length = X.length + Y.length) : splice (splice Z 0 X) X.length Y = X ++ Y := by
  simp [splice]; omega

theorem sees_row {w : World} {g : Nat} {bs : List Int} (h : w.heap[g]? = some (.cells (bs.map (Value.int .u8)).toArray 5 (0, 0))) : Sees w (some ⟨g, 0, none⟩) bs := sees_lies h

set_option maxHeartbeats 400000 in
theorem join_empty (a1 a2 : Option Addr) (n1 c1 c2 : Nat) (p : List Int) (w : World) (h1 : p.length = n1) (hm : n1 ≤ 1073741824) (s1 : Sees w a1 p) :
    Calls Trym.prog 16 #[.slice a1 n1 c1, .slice a2 0 c2] w fun e w' => ∃ a', e = .returned (.slice a' n1 n1) ∧ Sees w' a' p ∧ Below w.heap.size w w' := by
  obtain ⟨i0, hi, hz0, hz1, hz2⟩ := info_parts Trym.info5
  obtain ⟨X, HX⟩ : ∃ X : List Value, Hid (X = p.map (Value.int .u8)) := ⟨_, rfl⟩
  have hXl : X.length = n1 := by rw [HX.out]; simpa using h1
  obtain ⟨Z, HZ⟩ : ∃ Z : List Value, Hid (Z = (madeCells (Value.int IntKind.u8 0).cells (n1 * 1)).toList) := ⟨_, rfl⟩
  have hZl : Z.length = n1 := by rw [HZ.out]; simp [size_madeCells]
  have hnone : ∀ dp d c (v : World), Sem.run Trym.prog (Builtin.copy_ #[22, 22] 3 #[.slice dp d c, .slice a2 0 c2]) v = .ok (.int .i64 0) v := fun dp d c v =>
    run_copy_none (P := Trym.prog) v 22 22 3 5 dp a2 d c 0 c2 Trym.underlying22 Trym.size5 (by simp)
  go_enter Trym.func16, Trym.ntmps16
  go_wp2_with (at_make; refine wpList_make_full _ rfl _ _ 22 rfl w.heap.size 5 i0 (.int .u8 0) 1 Trym.underlying22 hi hz0 hz1 _ _ _ _ n1 rfl rfl (by omega) (by omega) (by rw [hz2]; omega) (by unfold maxLen; omega) (Nat.le_refl _) ?_; intro w1 hown hgrow; rw [← HZ.out] at hown; obtain ⟨w2, hcp, HG2, hB2⟩ := copy_run w1 w w.heap.size w.heap.size 0 n1 n1 n1 c1 (some ⟨w.heap.size, 0, none⟩) a1 Z X (full_block hown) (by rw [hXl]; simp) (fun h => ⟨rfl, sees_cells HX s1 (below_grown hgrow) h⟩) (by omega) (ones_map HX) (below_grown hgrow) (Nat.le_refl _))
  all_goals
    go_ret
    refine ⟨_, rfl, sees_row ?_, hB2⟩
    have := HG2.out
    rw [splice_all (by omega), HX.out] at this
    exact this

set_option maxHeartbeats 400000 in
theorem join_two (a1 a2 : Option Addr) (n1 c1 n2 c2 : Nat) (p q : List Int) (w : World) (h1 : p.length = n1) (h2 : q.length = n2) (hm : n1 + n2 ≤ 1073741824) (hn : ¬ n2 = 0) (s1 : Sees w a1 p) (s2 : Sees w a2 q) :
    Calls Trym.prog 16 #[.slice a1 n1 c1, .slice a2 n2 c2] w fun e w' => ∃ a', e = .returned (.slice a' (n1 + n2) (n1 + n2)) ∧ Sees w' a' (p ++ q) ∧ Below w.heap.size w w' := by
  obtain ⟨i0, hi, hz0, hz1, hz2⟩ := info_parts Trym.info5
  obtain ⟨X, HX⟩ : ∃ X : List Value, Hid (X = p.map (Value.int .u8)) := ⟨_, rfl⟩
  have hXl : X.length = n1 := by rw [HX.out]; simpa using h1
  obtain ⟨Y, HY⟩ : ∃ Y : List Value, Hid (Y = q.map (Value.int .u8)) := ⟨_, rfl⟩
  have hYl : Y.length = n2 := by rw [HY.out]; simpa using h2
  obtain ⟨Z, HZ⟩ : ∃ Z : List Value, Hid (Z = (madeCells (Value.int IntKind.u8 0).cells ((n1 + n2) * 1)).toList) := ⟨_, rfl⟩
  have hZl : Z.length = n1 + n2 := by rw [HZ.out]; simp [size_madeCells]
  go_enter Trym.func16, Trym.ntmps16
  go_wp2_with (at_make; refine wpList_make_full _ rfl _ _ 22 rfl w.heap.size 5 i0 (.int .u8 0) 1 Trym.underlying22 hi hz0 hz1 _ _ _ _ (n1 + n2) rfl rfl (by omega) (by omega) (by rw [hz2]; omega) (by unfold maxLen; omega) (Nat.le_refl _) ?_; intro w1 hown hgrow; rw [← HZ.out] at hown; obtain ⟨w2, hcp, HG2, hB2⟩ := copy_run w1 w w.heap.size w.heap.size 0 (n1 + n2) (n1 + n2) n1 c1 (some ⟨w.heap.size, 0, none⟩) a1 Z X (full_block hown) (by rw [hXl]; exact (Nat.min_eq_left (by omega)).symm) (fun h => ⟨rfl, sees_cells HX s1 (below_grown hgrow) h⟩) (by omega) (ones_map HX) (below_grown hgrow) (Nat.le_refl _); obtain ⟨w3, hcp3, HG3, hB3⟩ := copy_run w2 w w.heap.size w.heap.size n1 n2 n2 n2 c2 (some ⟨w.heap.size, n1, none⟩) a2 (splice Z 0 X) Y HG2.out (by rw [hYl]; simp) (fun h => ⟨rfl, sees_cells HY s2 hB2 h⟩) (by rw [length_splice _ _ _ (by omega)]; omega) (ones_map HY) hB2 (Nat.le_refl _))
  go_ret
  refine ⟨_, rfl, sees_row ?_, hB3⟩
  have := HG3.out
  rw [show n1 = X.length from hXl.symm, splice_two (by omega), HX.out, HY.out] at this
  rw [this]; simp

/-- join2_b1 -/
theorem join_any (a1 a2 : Option Addr) (n1 c1 n2 c2 : Nat) (p q : List Int) (w : World) (h1 : p.length = n1) (h2 : q.length = n2) (hm : n1 + n2 ≤ 1073741824) (s1 : Sees w a1 p) (s2 : Sees w a2 q) :
    Calls Trym.prog 16 #[.slice a1 n1 c1, .slice a2 n2 c2] w fun e w' => ∃ a', e = .returned (.slice a' (n1 + n2) (n1 + n2)) ∧ Sees w' a' (p ++ q) ∧ Below w.heap.size w w' := by
  by_cases hn : n2 = 0
  · subst hn
    obtain rfl := List.eq_nil_of_length_eq_zero h2
    rw [List.append_nil]
    exact join_empty a1 a2 n1 c1 c2 p w h1 hm s1
  · exact join_two a1 a2 n1 c1 n2 c2 p q w h1 h2 hm hn s1 s2
end Go.Proofs.Qxb6000901aMods
