import Derived.Test.Qxb6000901aModsWVal
namespace Go.Proofs.Qxb6000901aMods
open Go.RowKit

theorem value_out (a : Option Addr) (len cap : Nat) (i : Nat) (w : World) (h : ¬ i < len) :
    Calls Trym.prog 30 #[.slice a len cap, .int .i64 i] w fun e w' => e = .returned (.int .i64 (-1)) ∧ w' = w := by
  go_enter Trym.func30, Trym.ntmps30
  go_wp2
  go_ret
  exact ⟨rfl, rfl⟩

set_option maxHeartbeats 1000000 in
set_option maxRecDepth 100000 in
theorem value_scalar (b off cap len : Nat) (bs : List Int) (i : Nat) (w : World) (hlen : bs.length = len) (hm : len ≤ 1073741824) (hc : len ≤ cap) (hi : i < len) (hp : ∀ c ∈ bs, 0 ≤ c ∧ c ≤ 255)
    (hn : ¬ (Pl.has bs i 123 = true ∨ Pl.has bs i 91 = true)) (hs : Sees w (some ⟨b, off, none⟩) bs) :
    Calls Trym.prog 30 #[.slice (some ⟨b, off, none⟩) len cap, .int .i64 i] w fun e w' => e = .returned (.int .i64 (Pl.res (Pl.scalEnd bs i))) ∧ Below w.heap.size w w' := by
  obtain ⟨c, C, hcell0⟩ := byte_at hs i len hlen
  have hcell := hcell0 hi
  clear hcell0
  have h1 : (c != 123) = true := by
    rw [bne_iff_ne]; intro h; exact hn (.inl (has_t C hlen hi h))
  have h2 : (c != 91) = true := by
    rw [bne_iff_ne]; intro h; exact hn (.inr (has_t C hlen hi h))
  clear hn
  go_enter Trym.func30, Trym.ntmps30
  go_wp2_with (go_at_call 33; refine (scalar_some b off cap len bs i _ hlen hm hc hi hp hs).mono ?_; rintro e w' ⟨rfl, hbl⟩)
  go_ret
  exact ⟨rfl, hbl⟩

set_option maxHeartbeats 1000000 in
set_option maxRecDepth 100000 in
theorem value_comp (b off cap len : Nat) (bs : List Int) (i : Nat) (w : World) (hlen : bs.length = len) (hm : len ≤ 1073741824) (hi : i < len)
    (hn : Pl.has bs i 123 = true ∨ Pl.has bs i 91 = true) (hs : Sees w (some ⟨b, off, none⟩) bs) :
    Calls Trym.prog 30 #[.slice (some ⟨b, off, none⟩) len cap, .int .i64 i] w fun e w' => e = .returned (.int .i64 (Pl.res (Pl.compAt bs i 0))) ∧ w' = w := by
  obtain ⟨c0, C0, hcell0⟩ := byte_at hs i len hlen
  have hcell0 := hcell0 hi
  have hdb : decide (len ≤ i) = false := by simp; omega
  have hor : c0 = 123 ∨ c0 = 91 := by
    rcases hn with h | h
    · left; rw [C0.out]; exact ((Pl.has_iff _ _ _).1 h).2
    · right; rw [C0.out]; exact ((Pl.has_iff _ _ _).1 h).2
  clear hn C0
  rcases hor with rfl | rfl
  all_goals
    go_enter Trym.func30, Trym.ntmps30
    go_wp2
    go_loop [1, 5] (fun t u => ∃ (k : Nat) (d : Int), t = .int .i64 k ∧ u = .int .i64 d ∧ k ≤ len ∧ -(k : Int) ≤ d ∧ d ≤ k ∧ Hid (Pl.compAt bs k d = Pl.compAt bs i 0)) (fun t _ => len - (intOf t).toNat)
    case atStart => exact ⟨i, 0, rfl, rfl, by omega, by omega, by omega, rfl⟩
    case round =>
      obtain ⟨k, d, rfl, rfl, hkl, hd1, hd2, H⟩ := hrel
      obtain ⟨c, C, hcellk⟩ := byte_at hs k len hlen
      have hCo := C.out
      clear hcell0
      have no : Pl.compAt bs k d = none → Hid (-1 = Pl.res (Pl.compAt bs i 0)) := fun h => by show _ = _; rw [← H.out, h]; rfl
      by_cases hk : k < len
      · have hcell := hcellk hk
        clear hcellk
        by_cases h1 : c = 34
        · have hb1 : (c == 34) = true := by simp [h1]
          cases hst : Pl.strAt bs (k + 1) with
          | none =>
            have F := no (Pl.comp_str_no bs k d (by omega) (by omega) hst)
            have HS : Hid (Pl.strRes bs (k + 1) = -1) := by show _ = _; rw [Pl.strRes, hst]; rfl
            clear no hCo h1 hst C H
            go_wp2_with (go_at_call 29; refine (string_any (some ⟨b, off, none⟩) len cap bs k _ hlen hm (by omega) (by omega) hs).mono ?_; rintro e w' ⟨rfl, rfl⟩; rw [Int.toNat_natCast, HS.out])
            go_ret
            exact ⟨ret_i64 F.out, rfl⟩
          | some r =>
            have hrl : r < len := by have := (Pl.strAt_cut hst).2.1; omega
            have hrk : k + 1 ≤ r := (Pl.strAt_cut hst).1
            have G : Hid (Pl.compAt bs (r + 1) d = Pl.compAt bs i 0) := by show _ = _; rw [← H.out, Pl.comp_str bs k r d (by omega) (by omega) hst]
            have HS : Hid (Pl.strRes bs (k + 1) = r) := by show _ = _; rw [Pl.strRes, hst]; rfl
            clear no hCo h1 hst C H
            go_wp2_with (go_at_call 29; refine (string_any (some ⟨b, off, none⟩) len cap bs k _ hlen hm (by omega) (by omega) hs).mono ?_; rintro e w' ⟨rfl, rfl⟩; rw [Int.toNat_natCast, HS.out])
            go_round
            case rel => exact ⟨r + 1, d, by go_num, rfl, by omega, by omega, by omega, G⟩
            case measure => simp [intOf]; omega
        · have hb1 : (c == 34) = false := by simp [h1]
          by_cases h2 : c = 123 ∨ c = 91
          · have G : Hid (Pl.compAt bs (k + 1) (d + 1) = Pl.compAt bs i 0) := by show _ = _; rw [← H.out, Pl.comp_open bs k d (by omega) (by rw [← hCo]; exact h2)]
            clear no hCo h1 C H
            rcases h2 with rfl | rfl
            all_goals
              go_wp2
              go_round
              case rel => exact ⟨k + 1, d + 1, by go_num, rfl, by omega, by omega, by omega, G⟩
              case measure => simp [intOf]; omega
          · by_cases h3 : c = 125 ∨ c = 93
            · by_cases h4 : d = 1
              · subst h4
                have F : Hid (((k + 1 : Nat) : Int) = Pl.res (Pl.compAt bs i 0)) := by show _ = _; rw [← H.out, Pl.comp_close1 bs k (by omega) (by rw [← hCo]; exact h3)]; rfl
                clear no hCo h1 h2 C H
                rcases h3 with rfl | rfl
                all_goals
                  go_wp2
                  go_ret
                  exact ⟨ret_i64 (by rw [← F.out]; omega), rfl⟩
              · have G : Hid (Pl.compAt bs (k + 1) (d - 1) = Pl.compAt bs i 0) := by show _ = _; rw [← H.out, Pl.comp_close bs k d (by omega) (by rw [← hCo]; exact h3) h4]
                have hb4 : (d - 1 == 0) = false := by simp; omega
                clear no hCo h1 h2 h4 C H
                rcases h3 with rfl | rfl
                all_goals
                  go_wp2
                  go_round
                  case rel => exact ⟨k + 1, d - 1, by go_num, rfl, by omega, by omega, by omega, G⟩
                  case measure => simp [intOf]; omega
            · have G : Hid (Pl.compAt bs (k + 1) d = Pl.compAt bs i 0) := by show _ = _; rw [← H.out, Pl.comp_other bs k d (by omega) (by rw [← hCo]; exact h1) (by rw [← hCo]; exact h2) (by rw [← hCo]; exact h3)]
              have g1 : (c == 123) = false := by simp; omega
              have g2 : (c == 91) = false := by simp; omega
              have g3 : (c == 125) = false := by simp; omega
              have g4 : (c == 93) = false := by simp; omega
              clear no hCo h1 h2 h3 C H
              go_wp2
              go_round
              case rel => exact ⟨k + 1, d, by go_num, rfl, by omega, by omega, by omega, G⟩
              case measure => simp [intOf]; omega
      · have F := no (Pl.comp_end bs k d (by omega))
        clear no hCo C H hcellk
        go_wp2
        go_ret
        exact ⟨ret_i64 F.out, rfl⟩

/-- valueEnd -/
theorem value_any (a : Option Addr) (len cap : Nat) (bs : List Int) (i : Int) (w : World) (hlen : bs.length = len) (hm : len ≤ 1073741824) (hc : len ≤ cap) (h0 : 0 ≤ i) (hp : ∀ c ∈ bs, 0 ≤ c ∧ c ≤ 255) (hs : Sees w a bs) :
    Calls Trym.prog 30 #[.slice a len cap, .int .i64 i] w fun e w' => e = .returned (.int .i64 (Pl.valRes bs i.toNat)) ∧ Below w.heap.size w w' := by
  obtain ⟨n, rfl⟩ := Int.eq_ofNat_of_zero_le h0
  rw [Int.toNat_natCast]
  by_cases hi : n < len
  · have hs0 := hs
    rcases hs with rfl | ⟨b, off, rfl, _⟩
    · simp at hlen; omega
    · rw [Pl.valRes, Pl.valEnd, if_pos (by omega)]
      by_cases hb : Pl.has bs n 123 = true ∨ Pl.has bs n 91 = true
      · rw [if_pos hb]
        refine (value_comp b off cap len bs n w hlen hm hi hb hs0).mono ?_
        rintro e w' ⟨rfl, rfl⟩
        exact ⟨rfl, Below.refl _ _⟩
      · rw [if_neg hb]
        exact value_scalar b off cap len bs n w hlen hm hc hi hp hb hs0
  · rw [Pl.valRes, Pl.valEnd, if_neg (by omega)]
    refine (value_out a len cap n w hi).mono ?_
    rintro e w' ⟨rfl, rfl⟩
    exact ⟨rfl, Below.refl _ _⟩

/-- ZZValueEnd -/
theorem zzValue_any (a : Option Addr) (len cap : Nat) (bs : List Int) (i : Int) (w : World) (hlen : bs.length = len) (hm : len ≤ 1073741824) (hc : len ≤ cap) (h0 : 0 ≤ i) (hp : ∀ c ∈ bs, 0 ≤ c ∧ c ≤ 255) (hs : Sees w a bs) :
    Calls Trym.prog 24 #[.slice a len cap, .int .i64 i] w fun e w' => e = .returned (.int .i64 (Pl.valRes bs i.toNat)) ∧ Below w.heap.size w w' := by
  go_enter Trym.func24, Trym.ntmps24
  go_wp2_with (go_at_call 30; refine (value_any a len cap bs i _ hlen hm hc h0 hp hs).mono ?_; rintro e w' ⟨rfl, hb⟩)
  go_ret
  exact ⟨rfl, hb⟩

end Go.Proofs.Qxb6000901aMods
