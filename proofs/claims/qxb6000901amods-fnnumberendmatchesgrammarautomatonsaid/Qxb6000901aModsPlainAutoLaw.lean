import Derived.Test.Qxb6000901aModsPlainAuto
/- PLAIN LAW: the table answers as 'numRes' does. -/
namespace Go.Proofs.Qxb6000901aMods.Pl

theorem has_at {bs : List Int} {k : Nat} (h : k < bs.length) (x : Int) : has bs k x = decide (bs.getD k 0 = x) := by
  rw [Bool.eq_iff_iff, has_iff, decide_eq_true_eq]; simp [h]
theorem has_beyond {bs : List Int} {k : Nat} (h : ¬ k < bs.length) (x : Int) : has bs k x = false := by
  rw [Bool.eq_false_iff, Ne, has_iff]; intro h1; exact h h1.1

/-- Through the digits. -/
theorem runRes_digits (bs : List Int) (s : Nat) (hs : ∀ c : Int, 48 ≤ c ∧ c ≤ 57 → nstep s c = s) : ∀ (m k : Nat), bs.length - k ≤ m → runRes bs s k = runRes bs s (dEnd bs k)
  | 0, k, hm => by rw [dEnd_out bs k (by omega)]
  | m + 1, k, hm => by
    by_cases hk : k < bs.length
    · by_cases hd : 48 ≤ bs.getD k 0 ∧ bs.getD k 0 ≤ 57
      · have h1 := hs _ hd
        rw [runRes_go bs s k hk (by rw [h1]; omega), h1, Int.toNat_natCast, runRes_digits bs s hs m (k + 1) (by omega), dEnd_yes bs k hk hd.1 hd.2]
      · rw [dEnd_no bs k hk hd]
    · rw [dEnd_out bs k (by omega)]

theorem dEnd_stop (bs : List Int) : ∀ (m k : Nat), bs.length - k ≤ m → dEnd bs k < bs.length → ¬ (48 ≤ bs.getD (dEnd bs k) 0 ∧ bs.getD (dEnd bs k) 0 ≤ 57)
  | 0, k, hm => by rw [dEnd_out bs k (by omega)]; omega
  | m + 1, k, hm => by
    by_cases hk : k < bs.length
    · by_cases hd : 48 ≤ bs.getD k 0 ∧ bs.getD k 0 ≤ 57
      · rw [← dEnd_yes bs k hk hd.1 hd.2]
        exact dEnd_stop bs m (k + 1) (by omega)
      · rw [dEnd_no bs k hk hd]; intro _; exact hd
    · rw [dEnd_out bs k (by omega)]; omega

theorem r8_stop (bs : List Int) (k : Nat) (h : k < bs.length → ¬ (48 ≤ bs.getD k 0 ∧ bs.getD k 0 ≤ 57)) : runRes bs 8 k = k := by
  by_cases hk : k < bs.length
  · rw [runRes_stall bs 8 k hk (by simp only [nstep, if_neg (h hk)]; omega)]; simp [acc]
  · rw [runRes_end bs 8 k hk]; simp [acc]

theorem r8 (bs : List Int) (k : Nat) : runRes bs 8 k = dEnd bs k := by
  rw [runRes_digits bs 8 (fun c hc => by simp only [nstep, if_pos hc]; rfl) _ k (Nat.le_refl _)]
  exact r8_stop bs _ (dEnd_stop bs _ k (Nat.le_refl _))

theorem r7 (bs : List Int) (k : Nat) : runRes bs 7 k = if dEnd bs k = k then -1 else (dEnd bs k : Int) := by
  by_cases hk : k < bs.length
  · by_cases hd : 48 ≤ bs.getD k 0 ∧ bs.getD k 0 ≤ 57
    · have h1 := dEnd_yes bs k hk hd.1 hd.2
      have h2 := dEnd_ge bs (k + 1)
      have h3 : nstep 7 (bs.getD k 0) = 8 := by simp only [nstep, if_pos hd]
      rw [runRes_go bs 7 k hk (by rw [h3]; omega), h3]
      show runRes bs 8 (k + 1) = _
      rw [r8, h1, if_neg (by omega)]
    · rw [dEnd_no bs k hk hd, if_pos rfl, runRes_stall bs 7 k hk (by simp only [nstep, if_neg hd]; omega)]; simp [acc]
  · rw [dEnd_out bs k (by omega), if_pos rfl, runRes_end bs 7 k hk]; simp [acc]

theorem r6 (bs : List Int) (k : Nat) : runRes bs 6 k = if dEnd bs (expStart bs k) = expStart bs k then -1 else (dEnd bs (expStart bs k) : Int) := by
  by_cases hk : k < bs.length
  · by_cases hs : bs.getD k 0 = 43 ∨ bs.getD k 0 = 45
    · have h3 : nstep 6 (bs.getD k 0) = 7 := by simp only [nstep, if_pos hs]
      rw [runRes_go bs 6 k hk (by rw [h3]; omega), h3]
      have e : expStart bs k = k + 1 := by rw [expStart, if_pos (by rw [has_at hk, has_at hk]; simpa using hs)]
      show runRes bs 7 (k + 1) = _
      rw [r7, e]
    · have e : expStart bs k = k := by rw [expStart, if_neg (by rw [has_at hk, has_at hk]; simpa using hs)]
      rw [e]
      by_cases hd : 48 ≤ bs.getD k 0 ∧ bs.getD k 0 ≤ 57
      · have h1 := dEnd_yes bs k hk hd.1 hd.2
        have h2 := dEnd_ge bs (k + 1)
        have h3 : nstep 6 (bs.getD k 0) = 8 := by simp only [nstep, if_neg hs, if_pos hd]
        rw [runRes_go bs 6 k hk (by rw [h3]; omega), h3]
        show runRes bs 8 (k + 1) = _
        rw [r8, h1, if_neg (by omega)]
      · rw [dEnd_no bs k hk hd, if_pos rfl, runRes_stall bs 6 k hk (by simp only [nstep, if_neg hs, if_neg hd]; omega)]; simp [acc]
  · have e : expStart bs k = k := by rw [expStart, if_neg (by rw [has_beyond hk, has_beyond hk]; simp)]
    rw [e, dEnd_out bs k (by omega), if_pos rfl, runRes_end bs 6 k hk]; simp [acc]

theorem res_expEnd_yes (bs : List Int) (k : Nat) (h : has bs k 101 = true ∨ has bs k 69 = true) : res (expEnd bs k) = runRes bs 6 (k + 1) := by
  rw [r6, expEnd, if_pos h]; split <;> simp [res]

/-- At the number's tail: an accepting state s at a place where no digit and no point that s would take stands. -/
theorem rTail (bs : List Int) (s k : Nat) (ha : acc s = true) (hs : ∀ c : Int, k < bs.length → c = bs.getD k 0 → nstep s c = if c = 101 ∨ c = 69 then 6 else -1) : runRes bs s k = res (expEnd bs k) := by
  by_cases hk : k < bs.length
  · have h3 := hs _ hk rfl
    by_cases he : bs.getD k 0 = 101 ∨ bs.getD k 0 = 69
    · rw [if_pos he] at h3
      rw [runRes_go bs s k hk (by rw [h3]; omega), h3, res_expEnd_yes bs k (by rw [has_at hk, has_at hk]; simpa using he)]; rfl
    · rw [if_neg he] at h3
      rw [runRes_stall bs s k hk (by rw [h3]; omega), if_pos ha, expEnd, if_neg (by rw [has_at hk, has_at hk]; simpa using he)]; rfl
  · rw [runRes_end bs s k hk, if_pos ha, expEnd, if_neg (by rw [has_beyond hk, has_beyond hk]; simp)]; rfl

theorem r5_stop (bs : List Int) (k : Nat) (h : k < bs.length → ¬ (48 ≤ bs.getD k 0 ∧ bs.getD k 0 ≤ 57)) : runRes bs 5 k = res (expEnd bs k) :=
  rTail bs 5 k (by simp [acc]) (fun c hk hc => by subst hc; simp only [nstep, if_neg (h hk)])

theorem r5 (bs : List Int) (k : Nat) : runRes bs 5 k = res (expEnd bs (dEnd bs k)) := by
  rw [runRes_digits bs 5 (fun c hc => by simp only [nstep, if_pos hc]; rfl) _ k (Nat.le_refl _)]
  exact r5_stop bs _ (dEnd_stop bs _ k (Nat.le_refl _))

theorem r4 (bs : List Int) (k : Nat) : runRes bs 4 k = if dEnd bs k = k then -1 else res (expEnd bs (dEnd bs k)) := by
  by_cases hk : k < bs.length
  · by_cases hd : 48 ≤ bs.getD k 0 ∧ bs.getD k 0 ≤ 57
    · have h1 := dEnd_yes bs k hk hd.1 hd.2
      have h2 := dEnd_ge bs (k + 1)
      have h3 : nstep 4 (bs.getD k 0) = 5 := by simp only [nstep, if_pos hd]
      rw [runRes_go bs 4 k hk (by rw [h3]; omega), h3]
      show runRes bs 5 (k + 1) = _
      rw [r5, h1, if_neg (by omega)]
    · rw [dEnd_no bs k hk hd, if_pos rfl, runRes_stall bs 4 k hk (by simp only [nstep, if_neg hd]; omega)]; simp [acc]
  · rw [dEnd_out bs k (by omega), if_pos rfl, runRes_end bs 4 k hk]; simp [acc]

def tailRes (bs : List Int) (k : Nat) : Int := res ((fracEnd bs k).bind fun f => expEnd bs f)

/-- Behind the integer: states 2 and 3, at a place where no digit stands that the state would take. -/
theorem rInt (bs : List Int) (s k : Nat) (ha : acc s = true) (hs : ∀ c : Int, k < bs.length → c = bs.getD k 0 → nstep s c = if c = 46 then 4 else if c = 101 ∨ c = 69 then 6 else -1) : runRes bs s k = tailRes bs k := by
  by_cases hp : has bs k 46 = true
  · obtain ⟨hk, hc⟩ := (has_iff _ _ _).1 hp
    have h3 := hs _ hk rfl
    rw [if_pos hc] at h3
    rw [runRes_go bs s k hk (by rw [h3]; omega), h3]
    show runRes bs 4 (k + 1) = _
    rw [r4, tailRes, fracEnd, if_pos hp]
    split <;> simp [res]
  · rw [tailRes, fracEnd, if_neg hp]
    refine rTail bs s k ha (fun c hk hc => ?_)
    have h3 := hs c hk hc
    rw [if_neg (by intro h4; exact hp ((has_iff _ _ _).2 ⟨hk, by omega⟩))] at h3
    exact h3

theorem r2 (bs : List Int) (k : Nat) : runRes bs 2 k = tailRes bs k :=
  rInt bs 2 k (by simp [acc]) (fun c _ _ => by simp only [nstep])

theorem r3 (bs : List Int) (k : Nat) : runRes bs 3 k = tailRes bs (dEnd bs k) := by
  rw [runRes_digits bs 3 (fun c hc => by simp only [nstep, if_pos hc]; rfl) _ k (Nat.le_refl _)]
  exact rInt bs 3 _ (by simp [acc]) (fun c hk hc => by subst hc; simp only [nstep, if_neg (dEnd_stop bs _ k (Nat.le_refl _) hk)])

def headRes (bs : List Int) (k : Nat) : Int := res ((intEnd bs k).bind fun e => (fracEnd bs e).bind fun f => expEnd bs f)

/-- Ahead of the integer: states 0 (where no sign stands) and 1. -/
theorem rHead (bs : List Int) (s k : Nat) (ha : acc s = false) (hs : ∀ c : Int, k < bs.length → c = bs.getD k 0 → nstep s c = if c = 48 then 2 else if 48 ≤ c ∧ c ≤ 57 then 3 else -1) : runRes bs s k = headRes bs k := by
  by_cases hk : k < bs.length
  · have h3 := hs _ hk rfl
    by_cases h48 : bs.getD k 0 = 48
    · rw [if_pos h48] at h3
      rw [runRes_go bs s k hk (by rw [h3]; omega), h3]
      show runRes bs 2 (k + 1) = _
      rw [r2, headRes, intEnd, if_pos ((has_iff _ _ _).2 ⟨hk, h48⟩)]; rfl
    · rw [if_neg h48] at h3
      have hn : ¬ has bs k 48 = true := by rw [has_iff]; intro h; exact h48 h.2
      by_cases hd : 48 ≤ bs.getD k 0 ∧ bs.getD k 0 ≤ 57
      · rw [if_pos hd] at h3
        rw [runRes_go bs s k hk (by rw [h3]; omega), h3]
        show runRes bs 3 (k + 1) = _
        rw [r3, dEnd_yes bs k hk hd.1 hd.2, headRes, intEnd, if_neg hn, if_pos ⟨hk, by omega, hd.2⟩]; rfl
      · rw [if_neg hd] at h3
        rw [runRes_stall bs s k hk (by rw [h3]; omega), ha, if_neg Bool.false_ne_true, headRes, intEnd, if_neg hn, if_neg (by omega)]; rfl
  · rw [runRes_end bs s k hk, ha, if_neg Bool.false_ne_true, headRes, intEnd, if_neg (by rw [has_beyond hk]; simp), if_neg (by omega)]; rfl

theorem r0 (bs : List Int) (k : Nat) : runRes bs 0 k = numRes bs k := by
  have e : numRes bs k = headRes bs (signEnd bs k) := rfl
  rw [e, signEnd]
  by_cases hp : has bs k 45 = true
  · obtain ⟨hk, hc⟩ := (has_iff _ _ _).1 hp
    have h3 : nstep 0 (bs.getD k 0) = 1 := by simp only [nstep, if_pos hc]
    rw [if_pos hp, runRes_go bs 0 k hk (by rw [h3]; omega), h3]
    show runRes bs 1 (k + 1) = _
    exact rHead bs 1 (k + 1) (by simp [acc]) (fun c _ _ => by simp only [nstep])
  · rw [if_neg hp]
    refine rHead bs 0 k (by simp [acc]) (fun c hk hc => ?_)
    have hn : ¬ c = 45 := by intro h; exact hp ((has_iff _ _ _).2 ⟨hk, by omega⟩)
    simp only [nstep, if_neg hn]

/-- THE LAW -/
theorem modRes_eq (bs : List Int) (i : Nat) : numRes bs i = modRes bs i := by
  unfold modRes
  split
  · rename_i h
    rw [← r0, runRes_end bs 0 i (by omega)]; simp [acc]
  · exact (r0 bs i).symm

end Go.Proofs.Qxb6000901aMods.Pl
