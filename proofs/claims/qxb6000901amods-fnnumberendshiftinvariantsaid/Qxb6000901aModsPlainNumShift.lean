import Derived.Test.Qxb6000901aModsPlainNumLaws
/- PLAIN LAW on 'numEnd': the bytes ahead of the offset do not matter. -/
namespace Go.Proofs.Qxb6000901aMods.Pl

theorem has_shift (p bs : List Int) (k : Nat) (c : Int) : has (p ++ bs) (p.length + k) c = has bs k c := by
  rw [Bool.eq_iff_iff, has_iff, has_iff]
  simp [List.getD, List.getElem?_append_right]

theorem getD_shift (p bs : List Int) (k : Nat) : (p ++ bs).getD (p.length + k) 0 = bs.getD k 0 := by
  simp [List.getD, List.getElem?_append_right]

theorem dEnd_shift (p bs : List Int) (k : Nat) : dEnd (p ++ bs) (p.length + k) = p.length + dEnd bs k := by
  unfold dEnd
  rw [List.drop_length_add_append]; omega

theorem signEnd_shift (p bs : List Int) (k : Nat) : signEnd (p ++ bs) (p.length + k) = p.length + signEnd bs k := by
  unfold signEnd; rw [has_shift]; split <;> omega

theorem intEnd_shift (p bs : List Int) (k : Nat) : intEnd (p ++ bs) (p.length + k) = (intEnd bs k).map (p.length + ·) := by
  unfold intEnd
  rw [has_shift, getD_shift, dEnd_shift]
  simp only [List.length_append, Nat.add_lt_add_iff_left]
  split
  · simp; omega
  · split <;> simp

theorem fracEnd_shift (p bs : List Int) (k : Nat) : fracEnd (p ++ bs) (p.length + k) = (fracEnd bs k).map (p.length + ·) := by
  unfold fracEnd
  rw [has_shift, Nat.add_assoc, dEnd_shift]
  split
  · simp only [Nat.add_left_cancel_iff]
    split <;> simp
  · simp

theorem expStart_shift (p bs : List Int) (k : Nat) : expStart (p ++ bs) (p.length + k) = p.length + expStart bs k := by
  unfold expStart
  rw [has_shift, has_shift]; split <;> omega

theorem expEnd_shift (p bs : List Int) (k : Nat) : expEnd (p ++ bs) (p.length + k) = (expEnd bs k).map (p.length + ·) := by
  unfold expEnd
  rw [has_shift, has_shift, Nat.add_assoc, expStart_shift, dEnd_shift]
  split
  · simp only [Nat.add_left_cancel_iff]
    split <;> simp
  · simp

theorem numEnd_shift (p bs : List Int) (k : Nat) : numEnd (p ++ bs) (p.length + k) = (numEnd bs k).map (p.length + ·) := by
  unfold numEnd
  rw [signEnd_shift, intEnd_shift]
  cases intEnd bs (signEnd bs k) with
  | none => rfl
  | some e =>
    simp only [Option.map_some, Option.bind_some]
    rw [fracEnd_shift]
    cases fracEnd bs e with
    | none => rfl
    | some f =>
      simp only [Option.map_some, Option.bind_some]
      rw [expEnd_shift]

/-- What the law's Go text asks. -/
theorem numRes_shift (p bs : List Int) (k : Nat) : (numRes bs k = -1 ∧ numRes (p ++ bs) (p.length + k) = -1) ∨ ∃ r : Nat, numRes bs k = r ∧ r ≤ bs.length ∧ numRes (p ++ bs) (p.length + k) = ((r + p.length : Nat) : Int) := by
  unfold numRes
  rw [numEnd_shift]
  cases h : numEnd bs k with
  | none => left; simp [res]
  | some r =>
    right
    have h1 := numEnd_bd h
    exact ⟨r, rfl, h1.2, by simp [res]; omega⟩

end Go.Proofs.Qxb6000901aMods.Pl
