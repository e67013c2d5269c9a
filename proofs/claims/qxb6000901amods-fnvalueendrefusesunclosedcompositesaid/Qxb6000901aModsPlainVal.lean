import Derived.Test.Qxb6000901aModsPlainStr
/- PLAIN LAWS: what 'valueEnd' and its parts compute, over lists of numbers. -/
namespace Go.Proofs.Qxb6000901aMods.Pl

def litEnd (bs : List Int) (i : Nat) (L : List Int) : Option Nat := if (bs.drop i).take L.length = L then some (i + L.length) else none

def scalEnd (bs : List Int) (i : Nat) : Option Nat :=
  if has bs i 34 = true then (strAt bs (i + 1)).map (· + 1)
  else if has bs i 116 = true then litEnd bs i [116, 114, 117, 101]
  else if has bs i 102 = true then litEnd bs i [102, 97, 108, 115, 101]
  else if has bs i 110 = true then litEnd bs i [110, 117, 108, 108]
  else numEnd bs i

/-- From inside a composite: s bytes are passed over, then brackets are counted; the answer: how far the end lies. -/
def vscan : Nat → Int → List Int → Option Nat
  | _, _, [] => none
  | s + 1, d, _ :: r => (vscan s d r).map (· + 1)
  | 0, d, c :: r =>
    if c = 34 then (scan r).bind (fun n => (vscan (n + 1) d r).map (· + 1))
    else if c = 123 ∨ c = 91 then (vscan 0 (d + 1) r).map (· + 1)
    else if c = 125 ∨ c = 93 then (if d = 1 then some 1 else (vscan 0 (d - 1) r).map (· + 1))
    else (vscan 0 d r).map (· + 1)

def compAt (bs : List Int) (k : Nat) (d : Int) : Option Nat := (vscan 0 d (bs.drop k)).map (k + ·)

def valEnd (bs : List Int) (i : Nat) : Option Nat :=
  if i < bs.length then (if has bs i 123 = true ∨ has bs i 91 = true then compAt bs i 0 else scalEnd bs i) else none
def valRes (bs : List Int) (i : Nat) : Int := res (valEnd bs i)

theorem vscan_skip : ∀ (l : List Int) (s : Nat) (d : Int), vscan s d l = (vscan 0 d (l.drop s)).map (· + s)
  | l, 0, d => by simp
  | [], s + 1, d => by simp [vscan]
  | _ :: r, s + 1, d => by
    rw [vscan, vscan_skip r s d, List.drop_succ_cons]
    cases vscan 0 d (r.drop s) <;> simp; omega

theorem vs_str (d : Int) (r : List Int) : vscan 0 d (34 :: r) = (scan r).bind (fun n => (vscan (n + 1) d r).map (· + 1)) := by rw [vscan, if_pos rfl]
theorem vs_open (d c : Int) (r : List Int) (h : c = 123 ∨ c = 91) : vscan 0 d (c :: r) = (vscan 0 (d + 1) r).map (· + 1) := by rw [vscan, if_neg (by omega), if_pos h]
theorem vs_close1 (c : Int) (r : List Int) (h : c = 125 ∨ c = 93) : vscan 0 1 (c :: r) = some 1 := by rw [vscan, if_neg (by omega), if_neg (by omega), if_pos h, if_pos rfl]
theorem vs_close (d c : Int) (r : List Int) (h : c = 125 ∨ c = 93) (hd : ¬ d = 1) : vscan 0 d (c :: r) = (vscan 0 (d - 1) r).map (· + 1) := by rw [vscan, if_neg (by omega), if_neg (by omega), if_pos h, if_neg hd]
theorem vs_other (d c : Int) (r : List Int) (h0 : ¬ c = 34) (h1 : ¬ (c = 123 ∨ c = 91)) (h2 : ¬ (c = 125 ∨ c = 93)) : vscan 0 d (c :: r) = (vscan 0 d r).map (· + 1) := by rw [vscan, if_neg h0, if_neg h1, if_neg h2]

/-! ### By places -/
theorem comp_end (bs : List Int) (k : Nat) (d : Int) (h : ¬ k < bs.length) : compAt bs k d = none := by
  rw [compAt, List.drop_eq_nil_of_le (by omega)]; rfl
theorem comp_str_no (bs : List Int) (k : Nat) (d : Int) (h : k < bs.length) (h1 : bs.getD k 0 = 34) (h2 : strAt bs (k + 1) = none) : compAt bs k d = none := by
  rw [compAt, drop_at bs k h, h1, vs_str]
  have : scan (bs.drop (k + 1)) = none := by simpa [strAt] using h2
  rw [this]; rfl
theorem comp_str (bs : List Int) (k r : Nat) (d : Int) (h : k < bs.length) (h1 : bs.getD k 0 = 34) (h2 : strAt bs (k + 1) = some r) : compAt bs k d = compAt bs (r + 1) d := by
  rw [compAt, drop_at bs k h, h1, vs_str]
  obtain ⟨n, hn, rfl⟩ := Option.map_eq_some_iff.1 h2
  rw [hn, Option.bind_some, vscan_skip, List.drop_drop, compAt]
  rw [show k + 1 + (n + 1) = k + 1 + n + 1 from by omega]
  cases vscan 0 d (bs.drop (k + 1 + n + 1)) <;> simp; omega
theorem comp_open (bs : List Int) (k : Nat) (d : Int) (h : k < bs.length) (h1 : bs.getD k 0 = 123 ∨ bs.getD k 0 = 91) : compAt bs k d = compAt bs (k + 1) (d + 1) := by
  rw [compAt, drop_at bs k h, vs_open _ _ _ h1, map_step]; rfl
theorem comp_close1 (bs : List Int) (k : Nat) (h : k < bs.length) (h1 : bs.getD k 0 = 125 ∨ bs.getD k 0 = 93) : compAt bs k 1 = some (k + 1) := by
  rw [compAt, drop_at bs k h, vs_close1 _ _ h1]; rfl
theorem comp_close (bs : List Int) (k : Nat) (d : Int) (h : k < bs.length) (h1 : bs.getD k 0 = 125 ∨ bs.getD k 0 = 93) (hd : ¬ d = 1) : compAt bs k d = compAt bs (k + 1) (d - 1) := by
  rw [compAt, drop_at bs k h, vs_close _ _ _ h1 hd, map_step]; rfl
theorem comp_other (bs : List Int) (k : Nat) (d : Int) (h : k < bs.length) (h0 : ¬ bs.getD k 0 = 34) (h1 : ¬ (bs.getD k 0 = 123 ∨ bs.getD k 0 = 91)) (h2 : ¬ (bs.getD k 0 = 125 ∨ bs.getD k 0 = 93)) : compAt bs k d = compAt bs (k + 1) d := by
  rw [compAt, drop_at bs k h, vs_other _ _ _ h0 h1 h2, map_step]; rfl

/-! ### Cut right behind the value -/
theorem vscan_cut : ∀ (l : List Int) (s : Nat) (d : Int) (n : Nat), vscan s d l = some n → s < n ∧ n ≤ l.length ∧ vscan s d (l.take n) = some n
  | [], s, d, n, h => by simp [vscan] at h
  | c :: r, s + 1, d, n, h => by
    rw [vscan] at h
    obtain ⟨m, hm, rfl⟩ := Option.map_eq_some_iff.1 h
    have ih := vscan_cut r s d m hm
    refine ⟨by omega, by simp; omega, ?_⟩
    rw [List.take_succ_cons, vscan, ih.2.2]; rfl
  | c :: r, 0, d, n, h => by
    by_cases h0 : c = 34
    · subst h0
      rw [vs_str] at h
      obtain ⟨q, hq, h⟩ := Option.bind_eq_some_iff.1 h
      obtain ⟨m, hm, rfl⟩ := Option.map_eq_some_iff.1 h
      have ih := vscan_cut r (q + 1) d m hm
      refine ⟨by omega, by simp; omega, ?_⟩
      rw [List.take_succ_cons, vs_str]
      have e : r.take m = r.take (q + 1) ++ (r.drop (q + 1)).take (m - (q + 1)) := by
        have := List.take_add (l := r) (i := q + 1) (j := m - (q + 1))
        rw [show q + 1 + (m - (q + 1)) = m from by omega] at this
        exact this
      have hs : scan (r.take m) = some q := by
        rw [e]; exact (scan_cut r q hq).2.2 _
      rw [hs, Option.bind_some, ih.2.2]; rfl
    · by_cases h1 : c = 123 ∨ c = 91
      · rw [vs_open _ _ _ h1] at h
        obtain ⟨m, hm, rfl⟩ := Option.map_eq_some_iff.1 h
        have ih := vscan_cut r 0 (d + 1) m hm
        refine ⟨by omega, by simp; omega, ?_⟩
        rw [List.take_succ_cons, vs_open _ _ _ h1, ih.2.2]; rfl
      · by_cases h2 : c = 125 ∨ c = 93
        · by_cases hd : d = 1
          · subst hd
            rw [vs_close1 _ _ h2] at h
            obtain rfl : 1 = n := by simpa using h
            refine ⟨by omega, by simp, ?_⟩
            rw [List.take_succ_cons, vs_close1 _ _ h2]
          · rw [vs_close _ _ _ h2 hd] at h
            obtain ⟨m, hm, rfl⟩ := Option.map_eq_some_iff.1 h
            have ih := vscan_cut r 0 (d - 1) m hm
            refine ⟨by omega, by simp; omega, ?_⟩
            rw [List.take_succ_cons, vs_close _ _ _ h2 hd, ih.2.2]; rfl
        · rw [vs_other _ _ _ h0 h1 h2] at h
          obtain ⟨m, hm, rfl⟩ := Option.map_eq_some_iff.1 h
          have ih := vscan_cut r 0 d m hm
          refine ⟨by omega, by simp; omega, ?_⟩
          rw [List.take_succ_cons, vs_other _ _ _ h0 h1 h2, ih.2.2]; rfl

theorem compAt_cut {bs : List Int} {k r : Nat} {d : Int} (h : compAt bs k d = some r) : k < r ∧ r ≤ bs.length ∧ compAt (bs.take r) k d = some r := by
  unfold compAt at h
  obtain ⟨n, hn, rfl⟩ := Option.map_eq_some_iff.1 h
  have ih := vscan_cut _ _ _ _ hn
  have h2 := ih.2.1
  simp at h2
  refine ⟨by omega, by omega, ?_⟩
  rw [compAt, List.drop_take, show k + n - k = n from by omega, ih.2.2]; rfl

theorem litEnd_cut {bs L : List Int} {i r : Nat} (h : litEnd bs i L = some r) (hL : 0 < L.length) (hi : i < bs.length) : i < r ∧ r ≤ bs.length ∧ litEnd (bs.take r) i L = some r := by
  unfold litEnd at h
  split at h
  · rename_i h1
    obtain rfl : i + L.length = r := by simpa using h
    have hl := congrArg List.length h1
    simp at hl
    refine ⟨by omega, by omega, ?_⟩
    unfold litEnd
    rw [List.drop_take, List.take_take, show min L.length (i + L.length - i) = L.length from by omega, if_pos h1]
  · simp at h

theorem scalEnd_cut {bs : List Int} {i r : Nat} (h : scalEnd bs i = some r) (hi : i < bs.length) : i < r ∧ r ≤ bs.length ∧ scalEnd (bs.take r) i = some r := by
  have key : ∀ (hr : i < r), ∀ c, has (bs.take r) i c = has bs i c := fun hr c => by rw [has_take]; simp [hr]
  unfold scalEnd at h
  by_cases h1 : has bs i 34 = true
  · rw [if_pos h1] at h
    obtain ⟨q, hq, rfl⟩ := Option.map_eq_some_iff.1 h
    have hc := strAt_cut hq
    have h4 := hc.2.2.2 []
    rw [List.append_nil] at h4
    refine ⟨by omega, by omega, ?_⟩
    unfold scalEnd
    rw [key (by omega), if_pos h1, h4]; rfl
  · rw [if_neg h1] at h
    by_cases h2 : has bs i 116 = true
    · rw [if_pos h2] at h
      have hc := litEnd_cut h (by simp) hi
      refine ⟨hc.1, hc.2.1, ?_⟩
      unfold scalEnd
      rw [key hc.1, key hc.1, if_neg h1, if_pos h2, hc.2.2]
    · rw [if_neg h2] at h
      by_cases h3 : has bs i 102 = true
      · rw [if_pos h3] at h
        have hc := litEnd_cut h (by simp) hi
        refine ⟨hc.1, hc.2.1, ?_⟩
        unfold scalEnd
        rw [key hc.1, key hc.1, key hc.1, if_neg h1, if_neg h2, if_pos h3, hc.2.2]
      · rw [if_neg h3] at h
        by_cases h4 : has bs i 110 = true
        · rw [if_pos h4] at h
          have hc := litEnd_cut h (by simp) hi
          refine ⟨hc.1, hc.2.1, ?_⟩
          unfold scalEnd
          rw [key hc.1, key hc.1, key hc.1, key hc.1, if_neg h1, if_neg h2, if_neg h3, if_pos h4, hc.2.2]
        · rw [if_neg h4] at h
          have hb := numEnd_bd h
          have hc := numEnd_take h
          refine ⟨hb.1, hb.2, ?_⟩
          unfold scalEnd
          rw [key hb.1, key hb.1, key hb.1, key hb.1, if_neg h1, if_neg h2, if_neg h3, if_neg h4, hc]

theorem valEnd_cut {bs : List Int} {i r : Nat} (h : valEnd bs i = some r) : i < r ∧ r ≤ bs.length ∧ valEnd (bs.take r) i = some r := by
  unfold valEnd at h
  split at h
  · rename_i hi
    have key : ∀ (hr : i < r), ∀ c, has (bs.take r) i c = has bs i c := fun hr c => by rw [has_take]; simp [hr]
    split at h
    · rename_i h1
      have hc := compAt_cut h
      refine ⟨hc.1, hc.2.1, ?_⟩
      unfold valEnd
      rw [if_pos (by simp; omega), key hc.1, key hc.1, if_pos h1, hc.2.2]
    · rename_i h1
      have hc := scalEnd_cut h hi
      refine ⟨hc.1, hc.2.1, ?_⟩
      unfold valEnd
      rw [if_pos (by simp; omega), key hc.1, key hc.1, if_neg h1, hc.2.2]
  · simp at h

/-- What the law's Go text asks. -/
theorem valRes_trunc (bs : List Int) (i : Nat) : (valRes bs i < 0 ∧ valRes bs i = -1) ∨ ∃ r : Nat, valRes bs i = r ∧ i < r ∧ r ≤ bs.length ∧ valRes (bs.take r) i = r := by
  unfold valRes
  cases h : valEnd bs i with
  | none => left; simp [res]
  | some r =>
    right
    have h1 := valEnd_cut h
    exact ⟨r, rfl, h1.1, h1.2.1, by rw [h1.2.2]; rfl⟩

end Go.Proofs.Qxb6000901aMods.Pl
