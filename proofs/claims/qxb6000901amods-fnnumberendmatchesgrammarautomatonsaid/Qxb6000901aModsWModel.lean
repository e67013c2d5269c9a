import Derived.Test.Qxb6000901aModsWAuto
import Derived.Test.Qxb6000901aModsPlainAutoLaw
namespace Go.Proofs.Qxb6000901aMods
open Go.RowKit

theorem acc_ret (s : Nat) (k : Int) : (if Pl.acc s = true then k else -1) = if s = 2 ∨ s = 3 ∨ s = 5 ∨ s = 8 then k else -1 := by
  simp [Pl.acc]

set_option maxRecDepth 100000 in
theorem model_some (b off cap len : Nat) (bs : List Int) (i : Nat) (w : World) (hlen : bs.length = len) (hm : len ≤ 1073741824) (hi : i < len)
    (hs : Sees w (some ⟨b, off, none⟩) bs) :
    Calls Trym.prog 14 #[.slice (some ⟨b, off, none⟩) len cap, .int .i64 i] w fun e w' => e = .returned (.int .i64 (Pl.runRes bs 0 i)) ∧ w' = w := by
  have hdb : decide (len ≤ i) = false := by simp; omega
  go_enter Trym.func14, Trym.ntmps14
  go_wp2
  go_loop [5, 6, 7] (fun s t _ => ∃ q k : Nat, s = .int .i64 q ∧ t = .int .i64 k ∧ q ≤ 8 ∧ k ≤ len ∧ Hid (Pl.runRes bs q k = Pl.runRes bs 0 i)) (fun _ t _ => len - (intOf t).toNat)
  case atStart => exact ⟨0, i, rfl, rfl, by omega, by omega, rfl⟩
  case round =>
    obtain ⟨q, k, rfl, rfl, hq, hkl, H⟩ := hrel
    obtain ⟨c, C, hcell⟩ := byte_at hs k len hlen
    have fin : ¬ k < len ∨ Pl.nstep q c < 0 → Hid ((if q = 2 ∨ q = 3 ∨ q = 5 ∨ q = 8 then (k : Int) else -1) = Pl.runRes bs 0 i) := by
      intro h
      show _ = _
      rw [← H.out, ← acc_ret]
      by_cases hk : k < len
      · rw [Pl.runRes_stall bs q k (by omega) (by rw [← C.out]; omega)]
      · rw [Pl.runRes_end bs q k (by omega)]
    by_cases hk : k < len
    · rcases Pl.nstep_bd q c with hn | ⟨hn0, hn8⟩
      · have F := fin (.inr (by omega))
        clear fin
        go_wp2_with (go_at_call 28; refine (step_any q c _ hq).mono ?_; rintro e w' ⟨rfl, rfl⟩; rw [hn])
        all_goals
          go_ret
          refine ⟨ret_i64 ?_, rfl⟩
          rw [← F.out]
          clear F H C
          go_light
          try simp only [beq_iff_eq, beq_eq_false_iff_ne, ne_eq] at *
          split <;> omega
      · clear fin
        obtain ⟨m, hmd⟩ := Int.eq_ofNat_of_zero_le hn0
        have HN : Hid (Pl.runRes bs m (k + 1) = Pl.runRes bs 0 i) := by
          show _ = _
          have e : Pl.nstep q (bs.getD k 0) = m := by rw [← C.out]; exact hmd
          rw [← H.out, Pl.runRes_go bs q k (by omega) (by rw [e]; omega), e, Int.toNat_natCast]
        have hm8 : m ≤ 8 := by omega
        have HMD : Hid (Pl.nstep q c = (m : Int)) := hmd
        clear hmd hn0 hn8
        go_wp2_with (go_at_call 28; refine (step_any q c _ hq).mono ?_; rintro e w' ⟨rfl, rfl⟩; rw [HMD.out])
        go_round
        case rel => exact ⟨m, k + 1, rfl, by go_num, hm8, by omega, HN⟩
        case measure => simp [intOf]; omega
    · have F := fin (.inl hk)
      clear fin
      go_wp2
      all_goals
        go_ret
        refine ⟨ret_i64 ?_, rfl⟩
        rw [← F.out]
        clear F H C
        go_light
        try simp only [beq_iff_eq, beq_eq_false_iff_ne, ne_eq] at *
        split <;> omega

theorem model_out (a : Option Addr) (len cap : Nat) (i : Nat) (w : World) (h : ¬ i < len) :
    Calls Trym.prog 14 #[.slice a len cap, .int .i64 i] w fun e w' => e = .returned (.int .i64 (-1)) ∧ w' = w := by
  go_enter Trym.func14, Trym.ntmps14
  go_wp2
  go_ret
  exact ⟨rfl, rfl⟩

/-- modelNumberEnd_b1 -/
theorem model_any (a : Option Addr) (len cap : Nat) (bs : List Int) (i : Int) (w : World) (hlen : bs.length = len) (hm : len ≤ 1073741824) (h0 : 0 ≤ i) (hs : Sees w a bs) :
    Calls Trym.prog 14 #[.slice a len cap, .int .i64 i] w fun e w' => e = .returned (.int .i64 (Pl.modRes bs i.toNat)) ∧ w' = w := by
  obtain ⟨n, rfl⟩ := Int.eq_ofNat_of_zero_le h0
  rw [Int.toNat_natCast]
  by_cases hi : n < len
  · rw [Pl.modRes, if_neg (by omega)]
    have hs0 := hs
    rcases hs with rfl | ⟨b, off, rfl, hc⟩
    · simp at hlen; omega
    · exact model_some b off cap len bs n w hlen hm hi hs0
  · rw [Pl.modRes, if_pos (by omega)]
    exact model_out a len cap n w hi
end Go.Proofs.Qxb6000901aMods
