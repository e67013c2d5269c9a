/- PLAIN LAWS, NO Go IN SIGHT: what 'digitsEnd' and 'numberEnd' compute, over lists of numbers. -/
namespace Go.Proofs.Qxb6000901aMods.Pl

/-- Is c a decimal digit? -/
def dig (c : Int) : Bool := decide (48 ≤ c ∧ c ≤ 57)

/-- How many digits stand at the list's head. -/
def dspan : List Int → Nat
  | [] => 0
  | c :: r => if dig c = true then dspan r + 1 else 0

def dEnd (bs : List Int) (i : Nat) : Nat := i + dspan (bs.drop i)

/-- Does c stand at place i? -/
def has (bs : List Int) (i : Nat) (c : Int) : Bool := decide (i < bs.length ∧ bs.getD i 0 = c)

def signEnd (bs : List Int) (i : Nat) : Nat := if has bs i 45 = true then i + 1 else i
def intEnd (bs : List Int) (i : Nat) : Option Nat :=
  if has bs i 48 = true then some (i + 1) else if i < bs.length ∧ 49 ≤ bs.getD i 0 ∧ bs.getD i 0 ≤ 57 then some (dEnd bs i) else none
def fracEnd (bs : List Int) (i : Nat) : Option Nat :=
  if has bs i 46 = true then (if dEnd bs (i + 1) = i + 1 then none else some (dEnd bs (i + 1))) else some i
def expStart (bs : List Int) (i : Nat) : Nat := if has bs i 43 = true ∨ has bs i 45 = true then i + 1 else i
def expEnd (bs : List Int) (i : Nat) : Option Nat :=
  if has bs i 101 = true ∨ has bs i 69 = true then
    (if dEnd bs (expStart bs (i + 1)) = expStart bs (i + 1) then none else some (dEnd bs (expStart bs (i + 1)))) else some i
def numEnd (bs : List Int) (i : Nat) : Option Nat :=
  (intEnd bs (signEnd bs i)).bind fun j => (fracEnd bs j).bind fun k => expEnd bs k
def res : Option Nat → Int
  | none => -1
  | some r => (r : Int)
def numRes (bs : List Int) (i : Nat) : Int := res (numEnd bs i)

theorem drop_at (bs : List Int) (i : Nat) (h : i < bs.length) : bs.drop i = bs.getD i 0 :: bs.drop (i + 1) := by
  rw [List.drop_eq_getElem_cons h]; simp [List.getD, h]

theorem dspan_yes (bs : List Int) (i : Nat) (h : i < bs.length) (h1 : 48 ≤ bs.getD i 0) (h2 : bs.getD i 0 ≤ 57) : dspan (bs.drop i) = dspan (bs.drop (i + 1)) + 1 := by
  rw [drop_at bs i h, dspan, if_pos (by simp only [dig, decide_eq_true_eq]; exact ⟨h1, h2⟩)]

theorem dspan_no (bs : List Int) (i : Nat) (h : i < bs.length) (h1 : ¬ (48 ≤ bs.getD i 0 ∧ bs.getD i 0 ≤ 57)) : dspan (bs.drop i) = 0 := by
  rw [drop_at bs i h, dspan, if_neg (by simp only [dig, decide_eq_true_eq]; exact h1)]

theorem dspan_out (bs : List Int) (i : Nat) (h : bs.length ≤ i) : dspan (bs.drop i) = 0 := by
  rw [List.drop_eq_nil_of_le h]; rfl

theorem dEnd_yes (bs : List Int) (i : Nat) (h : i < bs.length) (h1 : 48 ≤ bs.getD i 0) (h2 : bs.getD i 0 ≤ 57) : dEnd bs (i + 1) = dEnd bs i := by
  unfold dEnd; rw [dspan_yes bs i h h1 h2]; omega

theorem dEnd_no (bs : List Int) (i : Nat) (h : i < bs.length) (h1 : ¬ (48 ≤ bs.getD i 0 ∧ bs.getD i 0 ≤ 57)) : dEnd bs i = i := by
  unfold dEnd; rw [dspan_no bs i h h1]; omega

theorem dEnd_out (bs : List Int) (i : Nat) (h : bs.length ≤ i) : dEnd bs i = i := by
  unfold dEnd; rw [dspan_out bs i h]; omega

theorem dspan_le : ∀ l : List Int, dspan l ≤ l.length
  | [] => Nat.le_refl _
  | c :: r => by
    have := dspan_le r
    rw [dspan]; split <;> simp <;> omega

theorem dEnd_ge (bs : List Int) (i : Nat) : i ≤ dEnd bs i := by unfold dEnd; omega
theorem dEnd_le (bs : List Int) (i : Nat) (h : i ≤ bs.length) : dEnd bs i ≤ bs.length := by
  have := dspan_le (bs.drop i)
  simp at this; unfold dEnd; omega

theorem has_iff (bs : List Int) (i : Nat) (c : Int) : has bs i c = true ↔ i < bs.length ∧ bs.getD i 0 = c := by simp only [has, decide_eq_true_eq]

theorem numRes_1 (bs : List Int) (i j : Nat) (h1 : signEnd bs i = j) (h2 : intEnd bs j = none) : -1 = numRes bs i := by
  simp [numRes, numEnd, h1, h2, res]
theorem numRes_2 (bs : List Int) (i j e : Nat) (h1 : signEnd bs i = j) (h2 : intEnd bs j = some e) (h3 : fracEnd bs e = none) : -1 = numRes bs i := by
  simp [numRes, numEnd, h1, h2, h3, res]
theorem numRes_3 (bs : List Int) (i j e f : Nat) (h1 : signEnd bs i = j) (h2 : intEnd bs j = some e) (h3 : fracEnd bs e = some f) (h4 : expEnd bs f = none) : -1 = numRes bs i := by
  simp [numRes, numEnd, h1, h2, h3, h4, res]
theorem numRes_4 (bs : List Int) (i j e f r : Nat) (h1 : signEnd bs i = j) (h2 : intEnd bs j = some e) (h3 : fracEnd bs e = some f) (h4 : expEnd bs f = some r) : (r : Int) = numRes bs i := by
  simp [numRes, numEnd, h1, h2, h3, h4, res]

end Go.Proofs.Qxb6000901aMods.Pl
