import Derived.Test.Qxb6000901aModsPlainNumLaws
/- PLAIN LAWS: what 'stringEnd' and 'jsonQuote_b1' compute, over lists of numbers. -/
namespace Go.Proofs.Qxb6000901aMods.Pl

def isHex (c : Int) : Bool := decide ((48 ≤ c ∧ c ≤ 57) ∨ (97 ≤ c ∧ c ≤ 102) ∨ (65 ≤ c ∧ c ≤ 70))
def esc (c : Int) : Bool := decide (c = 34 ∨ c = 92 ∨ c = 47 ∨ c = 98 ∨ c = 102 ∨ c = 110 ∨ c = 114 ∨ c = 116)

/-- How far the closing quote stands from the list's head (the opening quote lies ahead of the list). -/
def scan : List Int → Option Nat
  | [] => none
  | c :: r =>
    if c = 34 then some 0 else if c < 32 then none
    else if c = 92 then
      (match r with
        | [] => none
        | d :: r2 =>
          if esc d = true then (scan r2).map (· + 2)
          else if d = 117 then
            (match r2 with
              | h1 :: h2 :: h3 :: h4 :: r3 => if (isHex h1 && isHex h2 && isHex h3 && isHex h4) = true then (scan r3).map (· + 6) else none
              | _ => none)
          else none)
    else (scan r).map (· + 1)

def strAt (bs : List Int) (k : Nat) : Option Nat := (scan (bs.drop k)).map (k + ·)
def strRes (bs : List Int) (k : Nat) : Int := res (strAt bs k)

theorem scan_cons (c : Int) (r : List Int) : scan (c :: r) =
    if c = 34 then some 0 else if c < 32 then none
    else if c = 92 then
      (match r with
        | [] => none
        | d :: r2 =>
          if esc d = true then (scan r2).map (· + 2)
          else if d = 117 then
            (match r2 with
              | h1 :: h2 :: h3 :: h4 :: r3 => if (isHex h1 && isHex h2 && isHex h3 && isHex h4) = true then (scan r3).map (· + 6) else none
              | _ => none)
          else none)
    else (scan r).map (· + 1) := by rw [scan.eq_def]
theorem scan_quote (r : List Int) : scan (34 :: r) = some 0 := by rw [scan_cons, if_pos rfl]
theorem scan_ctl (c : Int) (r : List Int) (h1 : ¬ c = 34) (h2 : c < 32) : scan (c :: r) = none := by rw [scan_cons, if_neg h1, if_pos h2]
theorem scan_plain (c : Int) (r : List Int) (h1 : ¬ c = 34) (h2 : ¬ c < 32) (h3 : ¬ c = 92) : scan (c :: r) = (scan r).map (· + 1) := by rw [scan_cons, if_neg h1, if_neg h2, if_neg h3]
theorem scan_bs (r : List Int) : scan (92 :: r) = (match r with
        | [] => none
        | d :: r2 =>
          if esc d = true then (scan r2).map (· + 2)
          else if d = 117 then
            (match r2 with
              | h1 :: h2 :: h3 :: h4 :: r3 => if (isHex h1 && isHex h2 && isHex h3 && isHex h4) = true then (scan r3).map (· + 6) else none
              | _ => none)
          else none) := by rw [scan_cons, if_neg (by omega), if_neg (by omega), if_pos rfl]
theorem scan_bs_end : scan [92] = none := by rw [scan_bs]
theorem scan_esc (d : Int) (r : List Int) (h : esc d = true) : scan (92 :: d :: r) = (scan r).map (· + 2) := by
  rw [scan_bs]; simp only [if_pos h]
theorem esc_u : ¬ esc 117 = true := by simp [esc]
theorem scan_u (h1 h2 h3 h4 : Int) (r : List Int) : scan (92 :: 117 :: h1 :: h2 :: h3 :: h4 :: r) = if (isHex h1 && isHex h2 && isHex h3 && isHex h4) = true then (scan r).map (· + 6) else none := by
  rw [scan_bs]; simp only [if_neg esc_u, if_true]
theorem scan_u_short (r : List Int) (h : r.length < 4) : scan (92 :: 117 :: r) = none := by
  rw [scan_bs]; simp only [if_neg esc_u, if_true]
  match r, h with
  | [], _ => rfl
  | [_], _ => rfl
  | [_, _], _ => rfl
  | [_, _, _], _ => rfl
  | _ :: _ :: _ :: _ :: _, h => exact absurd h (by simp)
theorem scan_bad (d : Int) (r : List Int) (h : ¬ esc d = true) (h1 : ¬ d = 117) : scan (92 :: d :: r) = none := by
  rw [scan_bs]; simp only [if_neg h, if_neg h1]

/-! ### By places -/
theorem map_step (o : Option Nat) (k n : Nat) : (o.map (· + n)).map (k + ·) = o.map (k + n + ·) := by
  cases o <;> simp; omega

theorem str_end (bs : List Int) (k : Nat) (h : ¬ k < bs.length) : strAt bs k = none := by
  rw [strAt, List.drop_eq_nil_of_le (by omega)]; rfl
theorem str_quote (bs : List Int) (k : Nat) (h : k < bs.length) (h1 : bs.getD k 0 = 34) : strAt bs k = some k := by
  rw [strAt, drop_at bs k h, h1, scan_quote]; simp
theorem str_ctl (bs : List Int) (k : Nat) (h : k < bs.length) (h1 : ¬ bs.getD k 0 = 34) (h2 : bs.getD k 0 < 32) : strAt bs k = none := by
  rw [strAt, drop_at bs k h, scan_ctl _ _ h1 h2]; rfl
theorem str_plain (bs : List Int) (k : Nat) (h : k < bs.length) (h1 : ¬ bs.getD k 0 = 34) (h2 : ¬ bs.getD k 0 < 32) (h3 : ¬ bs.getD k 0 = 92) : strAt bs k = strAt bs (k + 1) := by
  rw [strAt, drop_at bs k h, scan_plain _ _ h1 h2 h3, map_step]; rfl
theorem str_bs_end (bs : List Int) (k : Nat) (h : k + 1 = bs.length) (h1 : bs.getD k 0 = 92) : strAt bs k = none := by
  rw [strAt, drop_at bs k (by omega), h1, List.drop_eq_nil_of_le (by omega), scan_bs_end]; rfl
theorem str_esc (bs : List Int) (k : Nat) (h : k + 1 < bs.length) (h1 : bs.getD k 0 = 92) (h2 : esc (bs.getD (k + 1) 0) = true) : strAt bs k = strAt bs (k + 2) := by
  rw [strAt, drop_at bs k (by omega), h1, drop_at bs (k + 1) h, scan_esc _ _ h2, map_step]; rfl
theorem str_bad (bs : List Int) (k : Nat) (h : k + 1 < bs.length) (h1 : bs.getD k 0 = 92) (h2 : ¬ esc (bs.getD (k + 1) 0) = true) (h3 : ¬ bs.getD (k + 1) 0 = 117) : strAt bs k = none := by
  rw [strAt, drop_at bs k (by omega), h1, drop_at bs (k + 1) h, scan_bad _ _ h2 h3]; rfl
theorem str_u_short (bs : List Int) (k : Nat) (h : k + 1 < bs.length) (h1 : bs.getD k 0 = 92) (h2 : bs.getD (k + 1) 0 = 117) (h3 : bs.length ≤ k + 5) : strAt bs k = none := by
  rw [strAt, drop_at bs k (by omega), h1, drop_at bs (k + 1) h, h2, scan_u_short _ (by simp; omega)]; rfl
theorem str_u (bs : List Int) (k : Nat) (h : k + 5 < bs.length) (h1 : bs.getD k 0 = 92) (h2 : bs.getD (k + 1) 0 = 117) :
    strAt bs k = if (isHex (bs.getD (k + 2) 0) && isHex (bs.getD (k + 3) 0) && isHex (bs.getD (k + 4) 0) && isHex (bs.getD (k + 5) 0)) = true then strAt bs (k + 6) else none := by
  rw [strAt, drop_at bs k (by omega), h1, drop_at bs (k + 1) (by omega), h2, drop_at bs (k + 1 + 1) (by omega), drop_at bs (k + 1 + 1 + 1) (by omega), drop_at bs (k + 1 + 1 + 1 + 1) (by omega), drop_at bs (k + 1 + 1 + 1 + 1 + 1) (by omega), scan_u]
  simp only [Nat.add_assoc, Nat.reduceAdd]
  split
  · rw [map_step]; rfl
  · rfl

/-! ### The closing quote decides -/
theorem scan_cut : ∀ (l : List Int) (n : Nat), scan l = some n → n < l.length ∧ l.getD n 0 = 34 ∧ ∀ t, scan (l.take (n + 1) ++ t) = some n
  | [], n, h => by simp [scan] at h
  | c :: r, n, h => by
    by_cases h1 : c = 34
    · subst h1
      rw [scan_quote] at h
      obtain rfl : 0 = n := by simpa using h
      exact ⟨by simp, rfl, fun t => by simp [scan_quote]⟩
    · by_cases h2 : c < 32
      · rw [scan_ctl _ _ h1 h2] at h; simp at h
      · by_cases h3 : c = 92
        · subst h3
          match r, h with
          | [], h => rw [scan_bs_end] at h; simp at h
          | d :: r2, h =>
            by_cases h4 : esc d = true
            · rw [scan_esc _ _ h4] at h
              obtain ⟨m, hm, rfl⟩ := Option.map_eq_some_iff.1 h
              have ih := scan_cut r2 m hm
              refine ⟨by simp; omega, by simpa using ih.2.1, fun t => ?_⟩
              rw [show m + 2 + 1 = m + 1 + 1 + 1 from rfl, List.take_succ_cons, List.take_succ_cons, List.cons_append, List.cons_append, scan_esc _ _ h4, ih.2.2 t]; rfl
            · by_cases h5 : d = 117
              · subst h5
                match r2, h with
                | [], h => rw [scan_u_short _ (by simp)] at h; simp at h
                | [_], h => rw [scan_u_short _ (by simp)] at h; simp at h
                | [_, _], h => rw [scan_u_short _ (by simp)] at h; simp at h
                | [_, _, _], h => rw [scan_u_short _ (by simp)] at h; simp at h
                | a1 :: a2 :: a3 :: a4 :: r3, h =>
                  rw [scan_u] at h
                  split at h
                  · rename_i h6
                    obtain ⟨m, hm, rfl⟩ := Option.map_eq_some_iff.1 h
                    have ih := scan_cut r3 m hm
                    refine ⟨by simp; omega, by simpa using ih.2.1, fun t => ?_⟩
                    rw [show m + 6 + 1 = m + 1 + 1 + 1 + 1 + 1 + 1 + 1 from rfl, List.take_succ_cons, List.take_succ_cons, List.take_succ_cons, List.take_succ_cons, List.take_succ_cons, List.take_succ_cons, List.cons_append, List.cons_append, List.cons_append, List.cons_append, List.cons_append, List.cons_append, scan_u, if_pos h6, ih.2.2 t]; rfl
                  · simp at h
              · rw [scan_bad _ _ h4 h5] at h; simp at h
        · rw [scan_plain _ _ h1 h2 h3] at h
          obtain ⟨m, hm, rfl⟩ := Option.map_eq_some_iff.1 h
          have ih := scan_cut r m hm
          refine ⟨by simp; omega, by simpa using ih.2.1, fun t => ?_⟩
          rw [List.take_succ_cons, List.cons_append, scan_plain _ _ h1 h2 h3, ih.2.2 t]; rfl

theorem strAt_cut {bs : List Int} {k r : Nat} (h : strAt bs k = some r) : k ≤ r ∧ r < bs.length ∧ bs.getD r 0 = 34 ∧ ∀ t, strAt (bs.take (r + 1) ++ t) k = some r := by
  unfold strAt at h
  obtain ⟨n, hn, rfl⟩ := Option.map_eq_some_iff.1 h
  have ih := scan_cut _ n hn
  have hlt : k + n < bs.length := by have := ih.1; simp at this; omega
  refine ⟨by omega, hlt, ?_, fun t => ?_⟩
  · have := ih.2.1
    simpa [List.getD] using this
  · unfold strAt
    rw [List.drop_append_of_le_length (by simp; omega), List.drop_take, show k + n + 1 - k = n + 1 from by omega, ih.2.2 t]; rfl

/-! ### jsonQuote_b1 -/
def hexd (x : Int) : Int := if x < 10 then 48 + x else 87 + x
def enc (c : Int) : List Int :=
  if c = 34 then [92, 34] else if c = 92 then [92, 92] else if c < 32 then [92, 117, 48, 48, hexd (c / 16), hexd (c % 16)] else [c]
def encAll : List Int → List Int
  | [] => []
  | c :: r => enc c ++ encAll r
def quote (s : List Int) : List Int := 34 :: (encAll s ++ [34])

theorem isHex_hexd (x : Int) (h0 : 0 ≤ x) (h1 : x < 16) : isHex (hexd x) = true := by
  unfold isHex hexd; simp only [decide_eq_true_eq]; split <;> omega

theorem scan_enc (c : Int) (r : List Int) (h0 : 0 ≤ c) : scan (enc c ++ r) = (scan r).map (· + (enc c).length) := by
  unfold enc
  split
  · exact scan_esc 34 r (by simp [esc])
  · split
    · exact scan_esc 92 r (by simp [esc])
    · split
      · rename_i h1 h2 h3
        show scan (92 :: 117 :: 48 :: 48 :: hexd (c / 16) :: hexd (c % 16) :: r) = _
        rw [scan_u, isHex_hexd (c / 16) (by omega) (by omega), isHex_hexd (c % 16) (by omega) (by omega)]
        simp [isHex]
      · rename_i h1 h2 h3
        exact scan_plain c r h1 h3 h2

theorem scan_encAll : ∀ (s t : List Int), (∀ c ∈ s, 0 ≤ c) → scan (encAll s ++ 34 :: t) = some (encAll s).length
  | [], t, _ => by simp [encAll, scan_quote]
  | c :: r, t, h => by
    rw [encAll, List.append_assoc, scan_enc c _ (h c (by simp)), scan_encAll r t (fun x hx => h x (by simp [hx]))]
    simp; omega

theorem enc_len (c : Int) : (enc c).length ≤ 6 := by
  unfold enc; (repeat' split) <;> simp
theorem encAll_len : ∀ s : List Int, (encAll s).length ≤ 6 * s.length
  | [] => by simp [encAll]
  | c :: r => by
    have h1 := enc_len c
    have h2 := encAll_len r
    simp [encAll]; omega
theorem quote_len (s : List Int) : (quote s).length ≤ 2 + 6 * s.length := by
  have := encAll_len s
  simp [quote]; omega

/-- THE LAW of the encoded string: between any prefix and any tail it ends at its own closing quote. -/
theorem strRes_quote (p s t : List Int) (h : ∀ c ∈ s, 0 ≤ c) : strRes (p ++ quote s ++ t) (p.length + 1) = ((p.length + (quote s).length - 1 : Nat) : Int) := by
  have e : (p ++ quote s ++ t).drop (p.length + 1) = encAll s ++ 34 :: t := by
    rw [List.append_assoc, List.drop_length_add_append]
    simp [quote]
  rw [strRes, strAt, e, scan_encAll s t h]
  simp [res, quote]; omega

end Go.Proofs.Qxb6000901aMods.Pl
