import Derived.Test.Qxb6000901aModsPlainNum
/- PLAIN LAWS on 'numEnd': what lies ahead does not matter; cut right behind the number it is found again. -/
namespace Go.Proofs.Qxb6000901aMods.Pl

theorem has_take (bs : List Int) (r k : Nat) (c : Int) : has (bs.take r) k c = (decide (k < r) && has bs k c) := by
  rw [Bool.eq_iff_iff, has_iff, Bool.and_eq_true, has_iff, decide_eq_true_eq]
  simp only [List.length_take, List.getD, List.getElem?_take]
  by_cases h : k < r
  · rw [if_pos h]; constructor
    · rintro ⟨h1, h2⟩; exact ⟨h, by omega, h2⟩
    · rintro ⟨_, h1, h2⟩; exact ⟨by omega, h2⟩
  · constructor
    · rintro ⟨h1, _⟩; omega
    · rintro ⟨h1, _⟩; omega

theorem dspan_take : ∀ (l : List Int) (n : Nat), dspan (l.take n) = min (dspan l) n
  | [], n => by simp [dspan]
  | c :: r, 0 => by simp [dspan]
  | c :: r, n + 1 => by
    rw [List.take_succ_cons, dspan, dspan]
    split
    · rw [dspan_take r n]; omega
    · omega

theorem dEnd_take (bs : List Int) (r k : Nat) (h : k ≤ r) : dEnd (bs.take r) k = min (dEnd bs k) r := by
  unfold dEnd
  rw [List.drop_take, dspan_take]; omega

theorem getD_take (bs : List Int) (r k : Nat) (h : k < r) : (bs.take r).getD k 0 = bs.getD k 0 := by
  simp [List.getD, h]

theorem signEnd_bd (bs : List Int) (i : Nat) : i ≤ signEnd bs i := by unfold signEnd; split <;> omega

theorem intEnd_bd {bs : List Int} {j e : Nat} (h : intEnd bs j = some e) : j < e ∧ e ≤ bs.length := by
  unfold intEnd at h
  split at h
  · rename_i h1; have := (has_iff _ _ _).1 h1; simp at h; omega
  · split at h
    · rename_i h2
      simp at h
      have h3 := dEnd_yes bs j h2.1 (by omega) h2.2.2
      have h4 := dEnd_ge bs (j + 1)
      have h5 := dEnd_le bs j (by omega)
      omega
    · simp at h

theorem fracEnd_bd {bs : List Int} {e f : Nat} (h : fracEnd bs e = some f) (he : e ≤ bs.length) : e ≤ f ∧ f ≤ bs.length ∧ (has bs e 46 = true → e < f) := by
  unfold fracEnd at h
  split at h
  · rename_i h1
    have h0 := (has_iff _ _ _).1 h1
    split at h
    · simp at h
    · simp at h
      have h4 := dEnd_ge bs (e + 1)
      have h5 := dEnd_le bs (e + 1) (by omega)
      exact ⟨by omega, by omega, fun _ => by omega⟩
  · rename_i h1
    simp at h
    exact ⟨by omega, by omega, fun h => absurd h h1⟩

theorem expStart_bd (bs : List Int) (i : Nat) (h : i ≤ bs.length) : i ≤ expStart bs i ∧ expStart bs i ≤ bs.length ∧ expStart bs i ≤ i + 1 := by
  unfold expStart
  split
  · rename_i h1
    rw [has_iff, has_iff] at h1
    omega
  · omega

theorem expEnd_bd {bs : List Int} {f r : Nat} (h : expEnd bs f = some r) (he : f ≤ bs.length) : f ≤ r ∧ r ≤ bs.length := by
  unfold expEnd at h
  split at h
  · rename_i h1
    rw [has_iff, has_iff] at h1
    split at h
    · simp at h
    · simp at h
      have h3 := expStart_bd bs (f + 1) (by omega)
      have h4 := dEnd_ge bs (expStart bs (f + 1))
      have h5 := dEnd_le bs (expStart bs (f + 1)) (by omega)
      omega
  · simp at h; omega

theorem numEnd_parts {bs : List Int} {i r : Nat} (h : numEnd bs i = some r) : ∃ e f, intEnd bs (signEnd bs i) = some e ∧ fracEnd bs e = some f ∧ expEnd bs f = some r := by
  unfold numEnd at h
  obtain ⟨e, h1, h⟩ := Option.bind_eq_some_iff.1 h
  obtain ⟨f, h2, h⟩ := Option.bind_eq_some_iff.1 h
  exact ⟨e, f, h1, h2, h⟩

theorem numEnd_bd {bs : List Int} {i r : Nat} (h : numEnd bs i = some r) : i < r ∧ r ≤ bs.length := by
  obtain ⟨e, f, h1, h2, h3⟩ := numEnd_parts h
  have b0 := signEnd_bd bs i
  have b1 := intEnd_bd h1
  have b2 := fracEnd_bd h2 (by omega)
  have b3 := expEnd_bd h3 (by omega)
  omega

theorem numEnd_take {bs : List Int} {i r : Nat} (h : numEnd bs i = some r) : numEnd (bs.take r) i = some r := by
  obtain ⟨e, f, h1, h2, h3⟩ := numEnd_parts h
  have b0 := signEnd_bd bs i
  have b1 := intEnd_bd h1
  have b2 := fracEnd_bd h2 (by omega)
  have b3 := expEnd_bd h3 (by omega)
  have t0 : signEnd (bs.take r) i = signEnd bs i := by
    unfold signEnd; rw [has_take]; simp [show i < r by omega]
  have t1 : intEnd (bs.take r) (signEnd bs i) = some e := by
    rw [← h1]
    unfold intEnd at h1 ⊢
    rw [has_take, getD_take _ _ _ (by omega), dEnd_take _ _ _ (by omega)]
    simp only [show signEnd bs i < r by omega, decide_true, Bool.true_and]
    split
    · rfl
    · rename_i h4
      rw [if_neg h4] at h1
      split at h1
      · rename_i h5
        simp at h1
        rw [if_pos (by rw [List.length_take]; omega), if_pos h5]
        rw [h1]; simp; omega
      · simp at h1
  have t2 : fracEnd (bs.take r) e = some f := by
    have h2' := h2
    unfold fracEnd at h2 ⊢
    rw [has_take]
    cases hb : has bs e 46
    · rw [hb] at h2
      simpa using h2
    · rw [hb] at h2
      have h5 := b2.2.2 hb
      simp only [if_true] at h2
      split at h2
      · simp at h2
      · rename_i h6
        simp at h2
        rw [dEnd_take _ _ _ (by omega), h2]
        rw [h2] at h6
        simp [show e < r by omega]
        omega
  have t3 : expEnd (bs.take r) f = some r := by
    unfold expEnd at h3 ⊢
    rw [has_take, has_take]
    by_cases hb : has bs f 101 = true ∨ has bs f 69 = true
    · rw [if_pos hb] at h3
      split at h3
      · simp at h3
      · rename_i h6
        have hb' : f < bs.length := by rcases hb with h | h <;> exact ((has_iff _ _ _).1 h).1
        have b4 := expStart_bd bs (f + 1) (by omega)
        simp at h3
        have h7 := dEnd_ge bs (expStart bs (f + 1))
        have t4 : expStart (bs.take r) (f + 1) = expStart bs (f + 1) := by
          unfold expStart at h3 h6 h7 ⊢
          rw [has_take, has_take]
          by_cases hc : has bs (f + 1) 43 = true ∨ has bs (f + 1) 45 = true
          · rw [if_pos hc] at h3 h6 h7 ⊢
            rw [if_pos]
            simp [show f + 1 < r by omega, hc]
          · rw [if_neg hc, if_neg]
            simp only [Bool.and_eq_true]
            intro h8
            exact hc (h8.elim (fun h => .inl h.2) (fun h => .inr h.2))
        rw [t4, dEnd_take _ _ _ (by omega), h3]
        rw [h3] at h6
        rw [if_pos (by simp [show f < r by omega, hb]), if_neg (by omega)]
        simp
    · rw [if_neg hb] at h3
      rw [if_neg]
      · exact h3
      · simp only [Bool.and_eq_true]
        intro h8
        exact hb (h8.elim (fun h => .inl h.2) (fun h => .inr h.2))
  unfold numEnd
  rw [t0, t1]; simp [t2, t3]

/-- What the law's Go text asks. -/
theorem numRes_trunc (bs : List Int) (i : Nat) : (numRes bs i < 0 ∧ numRes bs i = -1) ∨ ∃ r : Nat, numRes bs i = r ∧ i < r ∧ r ≤ bs.length ∧ numRes (bs.take r) i = r := by
  unfold numRes
  cases h : numEnd bs i with
  | none => left; simp [res]
  | some r =>
    right
    have h1 := numEnd_bd h
    exact ⟨r, rfl, h1.1, h1.2, by rw [numEnd_take h]; rfl⟩

end Go.Proofs.Qxb6000901aMods.Pl
