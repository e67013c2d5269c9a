import Derived.Test.Qxb6000901aModsWMem
import Derived.Test.Qxb6000901aModsPlainStr
import Derived.Deep.Light
namespace Go.Proofs.Qxb6000901aMods
open Go.RowKit

theorem ret_b {a b : Bool} (h : a = b) : Ending.returned (.bool a) = .returned (.bool b) := by rw [h]

set_option maxRecDepth 100000 in
/-- isHex -/
theorem hex_any (c : Int) (w : World) : Calls Trym.prog 32 #[.int .u8 c] w fun e w' => e = .returned (.bool (Pl.isHex c)) ∧ w' = w := by
  go_enter Trym.func32, Trym.ntmps32
  go_wp2
  all_goals
    go_ret
    refine ⟨ret_b ?_, rfl⟩
    rw [Bool.eq_iff_iff]
    unfold Pl.isHex
    simp only [Bool.or_eq_true, decide_eq_true_eq, true_iff, false_iff, Bool.false_eq_true]
    omega

set_option maxHeartbeats 1000000 in
set_option maxRecDepth 100000 in
theorem string_some (b off cap len : Nat) (bs : List Int) (i : Nat) (w : World) (hlen : bs.length = len) (hm : len ≤ 1073741824) (hi : i ≤ len)
    (hs : Sees w (some ⟨b, off, none⟩) bs) :
    Calls Trym.prog 29 #[.slice (some ⟨b, off, none⟩) len cap, .int .i64 i] w fun e w' => e = .returned (.int .i64 (Pl.strRes bs (i + 1))) ∧ w' = w := by
  go_enter Trym.func29, Trym.ntmps29
  go_wp2
  go_loop [5, 6] (fun t _ => ∃ k : Nat, t = .int .i64 k ∧ k ≤ len + 1 ∧ Hid (Pl.strAt bs k = Pl.strAt bs (i + 1))) (fun t _ => len + 1 - (intOf t).toNat)
  case atStart => exact ⟨i + 1, by go_num, by omega, rfl⟩
  case round =>
    obtain ⟨k, rfl, hkl, H⟩ := hrel
    obtain ⟨c, C, hcell⟩ := byte_at hs k len hlen
    have hCo := C.out
    have no : Pl.strAt bs k = none → Hid (-1 = Pl.strRes bs (i + 1)) := fun h => by show _ = _; rw [Pl.strRes, ← H.out, h]; rfl
    by_cases hk : k < len
    · by_cases h1 : c = 34
      · have F : Hid ((k : Int) = Pl.strRes bs (i + 1)) := by
          show _ = _
          rw [Pl.strRes, ← H.out, Pl.str_quote bs k (by omega) (by omega)]; rfl
        have hb : (c == 34) = true := by simp [h1]
        clear no hCo h1
        go_wp2
        go_ret
        exact ⟨ret_i64 F.out, rfl⟩
      · have hb : (c == 34) = false := by simp [h1]
        by_cases h2 : c < 32
        · have F := no (Pl.str_ctl bs k (by omega) (by omega) (by omega))
          clear no hCo h1
          go_wp2
          go_ret
          exact ⟨ret_i64 F.out, rfl⟩
        · by_cases h3 : c = 92
          · have hb3 : (c == 92) = true := by simp [h3]
            by_cases h4 : k + 1 = len
            · have F := no (Pl.str_bs_end bs k (by omega) (by omega))
              clear no hCo h1 h3
              go_wp2
              go_ret
              exact ⟨ret_i64 F.out, rfl⟩
            · have h4' : k + 1 < len := by omega
              have hb4 : ((k : Int) + 1 == (len : Int)) = false := by simp; omega
              obtain ⟨d, D, hcelld⟩ := byte_at hs (k + 1) len hlen
              have hDo := D.out
              have hcd := hcelld h4'
              clear hcelld h4
              by_cases h5 : Pl.esc d = true
              · have F : Hid (Pl.strAt bs (k + 2) = Pl.strAt bs (i + 1)) := by
                  show _ = _
                  rw [← H.out, ← Pl.str_esc bs k (by omega) (by omega) (by rw [← hDo]; exact h5)]
                have h5' : d = 34 ∨ d = 92 ∨ d = 47 ∨ d = 98 ∨ d = 102 ∨ d = 110 ∨ d = 114 ∨ d = 116 := by simpa [Pl.esc] using h5
                clear no hCo hDo h1 h3 h5 D C H
                rcases h5' with rfl | rfl | rfl | rfl | rfl | rfl | rfl | rfl
                all_goals
                  go_wp2
                  go_round
                  case rel => exact ⟨k + 2, by go_num, by omega, F⟩
                  case measure => simp [intOf]; omega
              · by_cases h6 : d = 117
                · have g1 : (d == 34) = false := by simp [h6]
                  have g2 : (d == 92) = false := by simp [h6]
                  have g3 : (d == 47) = false := by simp [h6]
                  have g4 : (d == 98) = false := by simp [h6]
                  have g5 : (d == 102) = false := by simp [h6]
                  have g6 : (d == 110) = false := by simp [h6]
                  have g7 : (d == 114) = false := by simp [h6]
                  have g8 : (d == 116) = false := by simp [h6]
                  have g9 : (d == 117) = true := by simp [h6]
                  by_cases h7 : len ≤ k + 5
                  · have F := no (Pl.str_u_short bs k (by omega) (by omega) (by omega) (by omega))
                    clear no hCo hDo h1 h3 h5 h6 D C H
                    go_wp2
                    go_ret
                    exact ⟨ret_i64 F.out, rfl⟩
                  · obtain ⟨x1, X1, hx1⟩ := byte_at hs (k + 2) len hlen
                    obtain ⟨x2, X2, hx2⟩ := byte_at hs (k + 3) len hlen
                    obtain ⟨x3, X3, hx3⟩ := byte_at hs (k + 4) len hlen
                    obtain ⟨x4, X4, hx4⟩ := byte_at hs (k + 5) len hlen
                    have hx1 := hx1 (by omega)
                    have hx2 := hx2 (by omega)
                    have hx3 := hx3 (by omega)
                    have hx4 := hx4 (by omega)
                    have F : Hid (Pl.strAt bs (i + 1) = if (Pl.isHex x1 && Pl.isHex x2 && Pl.isHex x3 && Pl.isHex x4) = true then Pl.strAt bs (k + 6) else none) := by
                      show _ = _
                      rw [← H.out, Pl.str_u bs k (by omega) (by omega) (by omega), ← X1.out, ← X2.out, ← X3.out, ← X4.out]
                    obtain ⟨y1, Y1⟩ : ∃ y, Hid (Pl.isHex x1 = y) := ⟨_, rfl⟩
                    obtain ⟨y2, Y2⟩ : ∃ y, Hid (Pl.isHex x2 = y) := ⟨_, rfl⟩
                    obtain ⟨y3, Y3⟩ : ∃ y, Hid (Pl.isHex x3 = y) := ⟨_, rfl⟩
                    obtain ⟨y4, Y4⟩ : ∃ y, Hid (Pl.isHex x4 = y) := ⟨_, rfl⟩
                    have F' : Hid (Pl.strAt bs (i + 1) = if (y1 && y2 && y3 && y4) = true then Pl.strAt bs (k + 6) else none) := by
                      show _ = _
                      rw [F.out, Y1.out, Y2.out, Y3.out, Y4.out]
                    clear no hCo hDo h1 h3 h5 h6 D C H X1 X2 X3 X4 F
                    cases y1
                    · have G : Hid (-1 = Pl.strRes bs (i + 1)) := by show _ = _; rw [Pl.strRes, F'.out]; simp [Pl.res]
                      clear F'
                      go_wp2_with (go_at_call 32; refine (hex_any _ _).mono ?_; rintro e w' ⟨rfl, rfl⟩; first | rw [Y1.out] | rw [Y2.out] | rw [Y3.out] | rw [Y4.out])
                      go_ret
                      exact ⟨ret_i64 G.out, rfl⟩
                    · cases y2
                      · have G : Hid (-1 = Pl.strRes bs (i + 1)) := by show _ = _; rw [Pl.strRes, F'.out]; simp [Pl.res]
                        clear F'
                        go_wp2_with (go_at_call 32; refine (hex_any _ _).mono ?_; rintro e w' ⟨rfl, rfl⟩; first | rw [Y1.out] | rw [Y2.out] | rw [Y3.out] | rw [Y4.out])
                        go_ret
                        exact ⟨ret_i64 G.out, rfl⟩
                      · cases y3
                        · have G : Hid (-1 = Pl.strRes bs (i + 1)) := by show _ = _; rw [Pl.strRes, F'.out]; simp [Pl.res]
                          clear F'
                          go_wp2_with (go_at_call 32; refine (hex_any _ _).mono ?_; rintro e w' ⟨rfl, rfl⟩; first | rw [Y1.out] | rw [Y2.out] | rw [Y3.out] | rw [Y4.out])
                          go_ret
                          exact ⟨ret_i64 G.out, rfl⟩
                        · cases y4
                          · have G : Hid (-1 = Pl.strRes bs (i + 1)) := by show _ = _; rw [Pl.strRes, F'.out]; simp [Pl.res]
                            clear F'
                            go_wp2_with (go_at_call 32; refine (hex_any _ _).mono ?_; rintro e w' ⟨rfl, rfl⟩; first | rw [Y1.out] | rw [Y2.out] | rw [Y3.out] | rw [Y4.out])
                            go_ret
                            exact ⟨ret_i64 G.out, rfl⟩
                          · have G : Hid (Pl.strAt bs (k + 6) = Pl.strAt bs (i + 1)) := by show _ = _; rw [F'.out]; simp
                            clear F'
                            go_wp2_with (go_at_call 32; refine (hex_any _ _).mono ?_; rintro e w' ⟨rfl, rfl⟩; first | rw [Y1.out] | rw [Y2.out] | rw [Y3.out] | rw [Y4.out])
                            go_round
                            case rel => exact ⟨k + 6, by go_num, by omega, G⟩
                            case measure => simp [intOf]; omega
                · have F := no (Pl.str_bad bs k (by omega) (by omega) (by rw [← hDo]; exact h5) (by omega))
                  simp only [Pl.esc, decide_eq_true_eq, not_or] at h5
                  obtain ⟨e1, e2, e3, e4, e5, e6, e7, e8⟩ := h5
                  have g1 : (d == 34) = false := by simp [e1]
                  have g2 : (d == 92) = false := by simp [e2]
                  have g3 : (d == 47) = false := by simp [e3]
                  have g4 : (d == 98) = false := by simp [e4]
                  have g5 : (d == 102) = false := by simp [e5]
                  have g6 : (d == 110) = false := by simp [e6]
                  have g7 : (d == 114) = false := by simp [e7]
                  have g8 : (d == 116) = false := by simp [e8]
                  have g9 : (d == 117) = false := by simp [h6]
                  clear no hCo hDo h1 h3 e1 e2 e3 e4 e5 e6 e7 e8 h6 D C H
                  go_wp2
                  go_ret
                  exact ⟨ret_i64 F.out, rfl⟩
          · have F : Hid (Pl.strAt bs (k + 1) = Pl.strAt bs (i + 1)) := by
              show _ = _
              rw [← H.out, ← Pl.str_plain bs k (by omega) (by omega) (by omega) (by omega)]
            have hb3 : (c == 92) = false := by simp [h3]
            clear no hCo h1 h3
            go_wp2
            go_round
            case rel => exact ⟨k + 1, by go_num, by omega, F⟩
            case measure => simp [intOf]; omega
    · have F := no (Pl.str_end bs k (by omega))
      clear no hCo
      go_wp2
      go_ret
      exact ⟨ret_i64 F.out, rfl⟩

theorem string_none (a : Option Addr) (cap : Nat) (i : Nat) (w : World) (hi : i ≤ 1073741824) :
    Calls Trym.prog 29 #[.slice a 0 cap, .int .i64 i] w fun e w' => e = .returned (.int .i64 (-1)) ∧ w' = w := by
  go_enter Trym.func29, Trym.ntmps29
  go_wp2
  refine wp_loop_rounds 1 ?_
  rw [rounds_succ]
  go_wp2
  go_ret
  exact ⟨rfl, rfl⟩

/-- stringEnd -/
theorem string_any (a : Option Addr) (len cap : Nat) (bs : List Int) (i : Int) (w : World) (hlen : bs.length = len) (hm : len ≤ 1073741824) (h0 : 0 ≤ i) (hi : i ≤ len) (hs : Sees w a bs) :
    Calls Trym.prog 29 #[.slice a len cap, .int .i64 i] w fun e w' => e = .returned (.int .i64 (Pl.strRes bs (i.toNat + 1))) ∧ w' = w := by
  obtain ⟨n, rfl⟩ := Int.eq_ofNat_of_zero_le h0
  rw [Int.toNat_natCast]
  have hs0 := hs
  rcases hs with rfl | ⟨b, off, rfl, hc⟩
  · obtain rfl : len = 0 := by simpa using hlen.symm
    rw [show Pl.strRes [] (n + 1) = -1 by rw [Pl.strRes, Pl.str_end _ _ (by simp)]; rfl]
    exact string_none a cap n w (by omega)
  · exact string_some b off cap len bs n w hlen hm (by omega) hs0

/-- ZZStringEnd -/
theorem zzString_any (a : Option Addr) (len cap : Nat) (bs : List Int) (i : Int) (w : World) (hlen : bs.length = len) (hm : len ≤ 1073741824) (h0 : 0 ≤ i) (hi : i ≤ len) (hs : Sees w a bs) :
    Calls Trym.prog 20 #[.slice a len cap, .int .i64 i] w fun e w' => e = .returned (.int .i64 (Pl.strRes bs (i.toNat + 1))) ∧ w' = w := by
  go_enter Trym.func20, Trym.ntmps20
  go_wp2_with (go_at_call 29; refine (string_any a len cap bs i _ hlen hm h0 hi hs).mono ?_; rintro e w' ⟨rfl, rfl⟩)
  go_ret
  exact ⟨rfl, rfl⟩
end Go.Proofs.Qxb6000901aMods
