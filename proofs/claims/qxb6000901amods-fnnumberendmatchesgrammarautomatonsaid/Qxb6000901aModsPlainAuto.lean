import Derived.Test.Qxb6000901aModsPlainNumLaws
/- PLAIN: the table of the number grammar, run from a place on; it answers as 'numRes' does. -/
namespace Go.Proofs.Qxb6000901aMods.Pl

def nstep (s : Nat) (c : Int) : Int :=
  match s with
  | 0 => if c = 45 then 1 else if c = 48 then 2 else if 48 ≤ c ∧ c ≤ 57 then 3 else -1
  | 1 => if c = 48 then 2 else if 48 ≤ c ∧ c ≤ 57 then 3 else -1
  | 2 => if c = 46 then 4 else if c = 101 ∨ c = 69 then 6 else -1
  | 3 => if 48 ≤ c ∧ c ≤ 57 then 3 else if c = 46 then 4 else if c = 101 ∨ c = 69 then 6 else -1
  | 4 => if 48 ≤ c ∧ c ≤ 57 then 5 else -1
  | 5 => if 48 ≤ c ∧ c ≤ 57 then 5 else if c = 101 ∨ c = 69 then 6 else -1
  | 6 => if c = 43 ∨ c = 45 then 7 else if 48 ≤ c ∧ c ≤ 57 then 8 else -1
  | _ => if 48 ≤ c ∧ c ≤ 57 then 8 else -1

theorem nstep_bd (s : Nat) (c : Int) : nstep s c = -1 ∨ (0 ≤ nstep s c ∧ nstep s c ≤ 8) := by
  unfold nstep; split <;> (repeat' split) <;> omega

/-- Run the table: the state and the number of bytes eaten when it stalls. -/
def run (s : Nat) : List Int → Nat × Nat
  | [] => (s, 0)
  | c :: r => if nstep s c < 0 then (s, 0) else ((run (nstep s c).toNat r).1, (run (nstep s c).toNat r).2 + 1)

def acc (s : Nat) : Bool := decide (s = 2 ∨ s = 3 ∨ s = 5 ∨ s = 8)

/-- What 'modelNumberEnd_b1' comes to from state s at place k on. -/
def runRes (bs : List Int) (s k : Nat) : Int :=
  if acc (run s (bs.drop k)).1 = true then ((k + (run s (bs.drop k)).2 : Nat) : Int) else -1

def modRes (bs : List Int) (i : Nat) : Int := if bs.length ≤ i then -1 else runRes bs 0 i

theorem runRes_go (bs : List Int) (s k : Nat) (h : k < bs.length) (h1 : ¬ nstep s (bs.getD k 0) < 0) : runRes bs s k = runRes bs (nstep s (bs.getD k 0)).toNat (k + 1) := by
  unfold runRes
  rw [drop_at bs k h, run, if_neg h1]
  simp only
  rw [show k + ((run (nstep s (bs.getD k 0)).toNat (bs.drop (k + 1))).2 + 1) = k + 1 + (run (nstep s (bs.getD k 0)).toNat (bs.drop (k + 1))).2 from by omega]

theorem runRes_stall (bs : List Int) (s k : Nat) (h : k < bs.length) (h1 : nstep s (bs.getD k 0) < 0) : runRes bs s k = if acc s = true then (k : Int) else -1 := by
  unfold runRes
  rw [drop_at bs k h, run, if_pos h1]
  simp

theorem runRes_end (bs : List Int) (s k : Nat) (h : ¬ k < bs.length) : runRes bs s k = if acc s = true then (k : Int) else -1 := by
  unfold runRes
  rw [List.drop_eq_nil_of_le (by omega), run]
  simp

end Go.Proofs.Qxb6000901aMods.Pl
