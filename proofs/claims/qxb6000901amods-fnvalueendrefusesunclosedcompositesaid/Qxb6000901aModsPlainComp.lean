import Derived.Test.Qxb6000901aModsPlainVal
/- PLAIN LAWS: what 'buildComposite_b1' lays, and where 'valueEnd' finds its end. -/
namespace Go.Proofs.Qxb6000901aMods.Pl

def decoy (x : Int) : List Int := [x, 123, 91, 34, 92, 93, 125]

/-- What is still laid: the ops that are left, and the closers of what is open, the innermost first. -/
def build : List Int → List Int → List Int
  | [], st => st
  | c :: r, st =>
    if c = 91 then 91 :: build r (93 :: st)
    else if c = 123 then 123 :: build r (125 :: st)
    else if c = 93 ∨ c = 125 then (if 1 < st.length then st.headD 0 :: build r st.tail else build r st)
    else if c = 34 then
      (match r with
        | [] => quote (decoy 97) ++ st
        | x :: r2 => quote (decoy x) ++ build r2 st)
    else c :: build r st

theorem build_cons (c : Int) (r st : List Int) : build (c :: r) st =
    if c = 91 then 91 :: build r (93 :: st)
    else if c = 123 then 123 :: build r (125 :: st)
    else if c = 93 ∨ c = 125 then (if 1 < st.length then st.headD 0 :: build r st.tail else build r st)
    else if c = 34 then
      (match r with
        | [] => quote (decoy 97) ++ st
        | x :: r2 => quote (decoy x) ++ build r2 st)
    else c :: build r st := by rw [build.eq_def]

theorem b_nil (st : List Int) : build [] st = st := by rw [build.eq_def]
theorem b_arr (r st : List Int) : build (91 :: r) st = 91 :: build r (93 :: st) := by rw [build_cons, if_pos rfl]
theorem b_obj (r st : List Int) : build (123 :: r) st = 123 :: build r (125 :: st) := by rw [build_cons, if_neg (by omega), if_pos rfl]
theorem b_close (c : Int) (r : List Int) (t u : Int) (st : List Int) (h : c = 93 ∨ c = 125) : build (c :: r) (t :: u :: st) = t :: build r (u :: st) := by
  rw [build_cons, if_neg (by omega), if_neg (by omega), if_pos h, if_pos (by simp)]; rfl
theorem b_keep (c : Int) (r st : List Int) (h : c = 93 ∨ c = 125) (hs : ¬ 1 < st.length) : build (c :: r) st = build r st := by
  rw [build_cons, if_neg (by omega), if_neg (by omega), if_pos h, if_neg hs]
theorem b_strEnd (st : List Int) : build [34] st = quote (decoy 97) ++ st := by
  rw [build_cons, if_neg (by omega), if_neg (by omega), if_neg (by omega), if_pos rfl]
theorem b_str (x : Int) (r st : List Int) : build (34 :: x :: r) st = quote (decoy x) ++ build r st := by
  rw [build_cons, if_neg (by omega), if_neg (by omega), if_neg (by omega), if_pos rfl]
theorem b_other (c : Int) (r st : List Int) (h1 : ¬ c = 91) (h2 : ¬ c = 123) (h3 : ¬ (c = 93 ∨ c = 125)) (h4 : ¬ c = 34) : build (c :: r) st = c :: build r st := by
  rw [build_cons, if_neg h1, if_neg h2, if_neg h3, if_neg h4]

/-- Closers alone. -/
def Cl (st : List Int) : Prop := st ≠ [] ∧ ∀ x ∈ st, x = 125 ∨ x = 93

/-- How a property of what 'build' lays is shown: the seven ways. -/
theorem build_ind (P : List Int → List Int → Prop)
    (hnil : ∀ st, Cl st → P [] st)
    (harr : ∀ r st, Cl st → P r (93 :: st) → P (91 :: r) st)
    (hobj : ∀ r st, Cl st → P r (125 :: st) → P (123 :: r) st)
    (hclose : ∀ c r t u st, (c = 93 ∨ c = 125) → Cl (t :: u :: st) → P r (u :: st) → P (c :: r) (t :: u :: st))
    (hkeep : ∀ c r t, (c = 93 ∨ c = 125) → Cl [t] → P r [t] → P (c :: r) [t])
    (hstrEnd : ∀ st, Cl st → P [34] st)
    (hstr : ∀ x r st, 0 ≤ x → Cl st → P r st → P (34 :: x :: r) st)
    (hother : ∀ c r st, ¬ c = 91 → ¬ c = 123 → ¬ (c = 93 ∨ c = 125) → ¬ c = 34 → Cl st → P r st → P (c :: r) st) :
    ∀ (ops : List Int) (st : List Int), (∀ c ∈ ops, 0 ≤ c) → Cl st → P ops st
  | [], st, _, hs => hnil st hs
  | c :: r, st, ho, hs => by
    have ho' : ∀ c ∈ r, 0 ≤ c := fun x hx => ho x (by simp [hx])
    by_cases h1 : c = 91
    · subst h1
      exact harr r st hs (build_ind P hnil harr hobj hclose hkeep hstrEnd hstr hother r _ ho' ⟨by simp, fun x hx => by
        rcases List.mem_cons.1 hx with rfl | hx
        · right; rfl
        · exact hs.2 x hx⟩)
    · by_cases h2 : c = 123
      · subst h2
        exact hobj r st hs (build_ind P hnil harr hobj hclose hkeep hstrEnd hstr hother r _ ho' ⟨by simp, fun x hx => by
          rcases List.mem_cons.1 hx with rfl | hx
          · left; rfl
          · exact hs.2 x hx⟩)
      · by_cases h3 : c = 93 ∨ c = 125
        · match st, hs with
          | [], hs => exact absurd rfl hs.1
          | [t], hs => exact hkeep c r t h3 hs (build_ind P hnil harr hobj hclose hkeep hstrEnd hstr hother r _ ho' hs)
          | t :: u :: st, hs =>
            exact hclose c r t u st h3 hs (build_ind P hnil harr hobj hclose hkeep hstrEnd hstr hother r _ ho' ⟨by simp, fun x hx => hs.2 x (by simp [List.mem_cons.1 hx])⟩)
        · by_cases h4 : c = 34
          · subst h4
            match r, ho', ho with
            | [], _, _ => exact hstrEnd st hs
            | x :: r2, ho', ho =>
              exact hstr x r2 st (ho' x (by simp)) hs (build_ind P hnil harr hobj hclose hkeep hstrEnd hstr hother r2 st (fun y hy => ho' y (by simp [hy])) hs)
          · exact hother c r st h1 h2 h3 h4 hs (build_ind P hnil harr hobj hclose hkeep hstrEnd hstr hother r st ho' hs)

theorem vs_quote (d : Int) (s l : List Int) (h : ∀ c ∈ s, 0 ≤ c) : vscan 0 d (quote s ++ l) = (vscan 0 d l).map (· + (quote s).length) := by
  have e : quote s ++ l = 34 :: (encAll s ++ 34 :: l) := by simp [quote]
  rw [e, vs_str, scan_encAll s l h, Option.bind_some, vscan_skip]
  have e2 : (encAll s ++ 34 :: l).drop ((encAll s).length + 1) = l := by rw [List.drop_length_add_append]; rfl
  rw [e2]
  cases vscan 0 d l <;> simp [quote]; omega

theorem decoy_pos (x : Int) (h : 0 ≤ x) : ∀ c ∈ decoy x, 0 ≤ c := by
  intro c hc
  simp [decoy] at hc
  omega

theorem vs_closers : ∀ (st t : List Int), Cl st → vscan 0 st.length (st ++ t) = some st.length
  | [], t, h => absurd rfl h.1
  | [x], t, h => by
    have hx := h.2 x (by simp)
    show vscan 0 1 (x :: t) = some 1
    exact vs_close1 x t hx
  | x :: y :: s, t, h => by
    have hx := h.2 x (by simp)
    have ih := vs_closers (y :: s) t ⟨by simp, fun z hz => h.2 z (by simp [List.mem_cons.1 hz])⟩
    rw [List.cons_append, vs_close _ _ _ hx (by simp; omega)]
    rw [show (((x :: y :: s).length : Nat) : Int) - 1 = (((y :: s).length : Nat) : Int) from by simp]
    rw [ih]; simp

/-- THE COMPOSITE ENDS AT ITS LAST BRACKET, whatever follows. -/
theorem vs_build (t : List Int) : ∀ (ops st : List Int), (∀ c ∈ ops, 0 ≤ c) → Cl st → vscan 0 st.length (build ops st ++ t) = some (build ops st).length := by
  refine build_ind _ ?_ ?_ ?_ ?_ ?_ ?_ ?_ ?_
  · intro st hs
    rw [b_nil]; exact vs_closers st t hs
  · intro r st hs ih
    rw [b_arr, List.cons_append, vs_open _ _ _ (.inr rfl)]
    rw [show ((st.length : Nat) : Int) + 1 = (((93 :: st).length : Nat) : Int) from by simp]
    rw [ih]; simp
  · intro r st hs ih
    rw [b_obj, List.cons_append, vs_open _ _ _ (.inl rfl)]
    rw [show ((st.length : Nat) : Int) + 1 = (((125 :: st).length : Nat) : Int) from by simp]
    rw [ih]; simp
  · intro c r x u st hc hs ih
    have hx := hs.2 x (by simp)
    rw [b_close c r x u st hc, List.cons_append, vs_close _ _ _ hx (by simp; omega)]
    rw [show (((x :: u :: st).length : Nat) : Int) - 1 = (((u :: st).length : Nat) : Int) from by simp]
    rw [ih]; simp
  · intro c r x hc hs ih
    rw [b_keep c r [x] hc (by simp)]; exact ih
  · intro st hs
    rw [b_strEnd, List.append_assoc, vs_quote _ _ _ (decoy_pos 97 (by omega)), vs_closers st t hs]
    simp; omega
  · intro x r st hx hs ih
    rw [b_str, List.append_assoc, vs_quote _ _ _ (decoy_pos x hx), ih]
    simp; omega
  · intro c r st h1 h2 h3 h4 hs ih
    rw [b_other c r st h1 h2 h3 h4, List.cons_append, vs_other _ _ _ h4 (by omega) (by omega), ih]
    simp

theorem build_ne : ∀ (ops st : List Int), (∀ c ∈ ops, 0 ≤ c) → Cl st → build ops st ≠ [] := by
  refine build_ind _ ?_ ?_ ?_ ?_ ?_ ?_ ?_ ?_
  · intro st hs; rw [b_nil]; exact hs.1
  · intro r st hs ih; rw [b_arr]; simp
  · intro r st hs ih; rw [b_obj]; simp
  · intro c r x u st hc hs ih; rw [b_close c r x u st hc]; simp
  · intro c r x hc hs ih; rw [b_keep c r [x] hc (by simp)]; exact ih
  · intro st hs; rw [b_strEnd]; simp [quote]
  · intro x r st hx hs ih; rw [b_str]; simp [quote]
  · intro c r st h1 h2 h3 h4 hs ih; rw [b_other c r st h1 h2 h3 h4]; simp

theorem vs_closers_open : ∀ (st : List Int), Cl st → vscan 0 st.length st.dropLast = none
  | [], h => absurd rfl h.1
  | [x], h => rfl
  | x :: y :: s, h => by
    have hx := h.2 x (by simp)
    have ih := vs_closers_open (y :: s) ⟨by simp, fun z hz => h.2 z (by simp [List.mem_cons.1 hz])⟩
    rw [List.dropLast_cons_of_ne_nil (by simp), vs_close _ _ _ hx (by simp; omega)]
    rw [show (((x :: y :: s).length : Nat) : Int) - 1 = (((y :: s).length : Nat) : Int) from by simp]
    rw [ih]; rfl

/-- WITHOUT ITS LAST BRACKET IT HAS NO END. -/
theorem vs_build_open (ops st : List Int) (ho : ∀ c ∈ ops, 0 ≤ c) (hs : Cl st) : vscan 0 st.length (build ops st).dropLast = none := by
  have main : ∀ (ops st : List Int), (∀ c ∈ ops, 0 ≤ c) → Cl st → build ops st ≠ [] ∧ vscan 0 st.length (build ops st).dropLast = none := by
    refine build_ind _ ?_ ?_ ?_ ?_ ?_ ?_ ?_ ?_
    · intro st hs
      rw [b_nil]; exact ⟨hs.1, vs_closers_open st hs⟩
    · intro r st hs ih
      rw [b_arr]
      refine ⟨by simp, ?_⟩
      rw [List.dropLast_cons_of_ne_nil ih.1, vs_open _ _ _ (.inr rfl)]
      rw [show ((st.length : Nat) : Int) + 1 = (((93 :: st).length : Nat) : Int) from by simp]
      rw [ih.2]; rfl
    · intro r st hs ih
      rw [b_obj]
      refine ⟨by simp, ?_⟩
      rw [List.dropLast_cons_of_ne_nil ih.1, vs_open _ _ _ (.inl rfl)]
      rw [show ((st.length : Nat) : Int) + 1 = (((125 :: st).length : Nat) : Int) from by simp]
      rw [ih.2]; rfl
    · intro c r x u st hc hs ih
      have hx := hs.2 x (by simp)
      rw [b_close c r x u st hc]
      refine ⟨by simp, ?_⟩
      rw [List.dropLast_cons_of_ne_nil ih.1, vs_close _ _ _ hx (by simp; omega)]
      rw [show (((x :: u :: st).length : Nat) : Int) - 1 = (((u :: st).length : Nat) : Int) from by simp]
      rw [ih.2]; rfl
    · intro c r x hc hs ih
      rw [b_keep c r [x] hc (by simp)]; exact ih
    · intro st hs
      rw [b_strEnd]
      refine ⟨by simp [quote], ?_⟩
      rw [List.dropLast_append_of_ne_nil hs.1, vs_quote _ _ _ (decoy_pos 97 (by omega)), vs_closers_open st hs]; rfl
    · intro x r st hx hs ih
      rw [b_str]
      refine ⟨by simp [quote], ?_⟩
      rw [List.dropLast_append_of_ne_nil ih.1, vs_quote _ _ _ (decoy_pos x hx), ih.2]; rfl
    · intro c r st h1 h2 h3 h4 hs ih
      rw [b_other c r st h1 h2 h3 h4]
      refine ⟨by simp, ?_⟩
      rw [List.dropLast_cons_of_ne_nil ih.1, vs_other _ _ _ h4 (by omega) (by omega), ih.2]; rfl
  exact (main ops st ho hs).2

theorem quote_decoy_len (x : Int) : (quote (decoy x)).length ≤ 16 := by
  have := enc_len x
  simp [quote, decoy, encAll, enc] at this ⊢
  omega

/-- The whole text. -/
def text (ops : List Int) : List Int := 91 :: build ops [93]

theorem cl93 : Cl [93] := ⟨by simp, fun x hx => by simp at hx; omega⟩

theorem text_len (ops : List Int) (ho : ∀ c ∈ ops, 0 ≤ c) : (text ops).length ≤ 16 * ops.length + 2 := by
  have main : ∀ (ops st : List Int), (∀ c ∈ ops, 0 ≤ c) → Cl st → (build ops st).length ≤ 16 * ops.length + st.length := by
    refine build_ind _ ?_ ?_ ?_ ?_ ?_ ?_ ?_ ?_
    · intro st hs; rw [b_nil]; omega
    · intro r st hs ih; rw [b_arr]; simp at ih ⊢; omega
    · intro r st hs ih; rw [b_obj]; simp at ih ⊢; omega
    · intro c r x u st hc hs ih; rw [b_close c r x u st hc]; simp at ih ⊢; omega
    · intro c r x hc hs ih; rw [b_keep c r [x] hc (by simp)]; simp at ih ⊢; omega
    · intro st hs
      have := quote_decoy_len 97
      rw [b_strEnd]; simp; omega
    · intro x r st hx hs ih
      have := quote_decoy_len x
      rw [b_str]; simp at ih ⊢; omega
    · intro c r st h1 h2 h3 h4 hs ih; rw [b_other c r st h1 h2 h3 h4]; simp at ih ⊢; omega
  have := main ops [93] ho cl93
  simp [text] at this ⊢
  omega

theorem has_head (p : List Int) (l : List Int) : has (p ++ 91 :: l) p.length 91 = true := by
  rw [has_iff]; simp [List.getD]

theorem valRes_spans (p ops t : List Int) (ho : ∀ c ∈ ops, 0 ≤ c) : res (compAt (p ++ text ops ++ t) p.length 0) = ((p.length + (text ops).length : Nat) : Int) := by
  have e : (p ++ text ops ++ t).drop p.length = 91 :: (build ops [93] ++ t) := by
    rw [List.append_assoc, List.drop_left]; rfl
  rw [compAt, e, vs_open _ _ _ (.inr rfl)]
  have := vs_build t ops [93] ho cl93
  rw [show (0 : Int) + 1 = (([93] : List Int).length : Int) from rfl, this]
  simp [res, text]

theorem valRes_open (p ops : List Int) (ho : ∀ c ∈ ops, 0 ≤ c) : res (compAt (p ++ (text ops).dropLast) p.length 0) = -1 := by
  have e : (p ++ (text ops).dropLast).drop p.length = 91 :: (build ops [93]).dropLast := by
    rw [List.drop_left, text, List.dropLast_cons_of_ne_nil (build_ne ops [93] ho cl93)]
  rw [compAt, e, vs_open _ _ _ (.inr rfl)]
  have := vs_build_open ops [93] ho cl93
  rw [show (0 : Int) + 1 = (([93] : List Int).length : Int) from rfl, this]
  rfl

end Go.Proofs.Qxb6000901aMods.Pl
