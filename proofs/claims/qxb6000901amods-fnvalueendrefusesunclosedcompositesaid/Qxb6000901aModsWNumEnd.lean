import Derived.Test.Qxb6000901aModsWNum
import Derived.Deep.CutRange
import Derived.Deep.CutBlock
namespace Go.Proofs.Qxb6000901aMods
open Go.RowKit
theorem or_in1 {bs : List Int} {k len : Nat} {c x : Int} (C : Hid (c = bs.getD k 0)) (hlen : bs.length = len) (h : k < len) (hx : c = x) (y : Int) : true = (Pl.has bs k x || Pl.has bs k y) := by
  rw [← has_in C hlen h x, hx]; simp
theorem or_in2 {bs : List Int} {k len : Nat} {c : Int} (C : Hid (c = bs.getD k 0)) (hlen : bs.length = len) (h : k < len) (x y : Int) : (c == x || c == y) = (Pl.has bs k x || Pl.has bs k y) := by
  rw [← has_in C hlen h x, ← has_in C hlen h y]
theorem or_out {bs : List Int} {k len : Nat} (hlen : bs.length = len) (h : ¬ k < len) (x y : Int) : false = (Pl.has bs k x || Pl.has bs k y) := by
  rw [← has_out hlen h x, ← has_out hlen h y]; rfl

set_option maxRecDepth 100000 in
theorem number_some (b off cap len : Nat) (bs : List Int) (i : Nat) (w : World) (hlen : bs.length = len) (hm : len ≤ 1073741824)
    (hs : Sees w (some ⟨b, off, none⟩) bs) :
    Calls Trym.prog 27 #[.slice (some ⟨b, off, none⟩) len cap, .int .i64 i] w fun e w' => e = .returned (.int .i64 (Pl.numRes bs i)) ∧ w' = w := by
  go_enter Trym.func27, Trym.ntmps27
  go_upto_region 1 with fail
  go_cut [17] from 7 to 17 (fun t wx => t = .bool (Pl.has bs i 45) ∧ wx = w)
  case first =>
    obtain ⟨c, C, hcell⟩ := byte_at hs i len hlen
    go_wp2
    · go_meet
      exact ⟨congrArg Value.bool (has_in C hlen (by assumption) 45), rfl⟩
    · go_meet
      exact ⟨congrArg Value.bool (has_out hlen (by assumption) 45), rfl⟩
  case rest =>
  obtain ⟨rfl, hw⟩ := hcut
  subst hw
  go_upto_if 17 with fail
  go_cut [1] from 7 to 19 (fun t wx => ∃ j : Nat, t = .int .i64 j ∧ Hid (Pl.signEnd bs i = j) ∧ wx = wc)
  case first =>
    cases hb : Pl.has bs i 45
    · go_wp2
      go_meet
      exact ⟨i, rfl, by simp [Pl.signEnd, hb, Hid], rfl⟩
    · have hlt : i < bs.length := ((Pl.has_iff _ _ _).1 hb).1
      go_wp2
      go_meet
      exact ⟨i + 1, by go_num, by simp [Pl.signEnd, hb, Hid], rfl⟩
  case rest =>
  obtain ⟨j, rfl, J, hw⟩ := hcut
  subst hw
  go_upto_block 0 with fail
  go_cut [1] from 20 to 55 (fun t wx => ∃ e : Nat, t = .int .i64 e ∧ e ≤ len ∧ Hid (Pl.intEnd bs j = some e) ∧ wx = wc)
  case first =>
    obtain ⟨c, C, hcell⟩ := byte_at hs j len hlen
    have hCo := C.out
    by_cases h1 : j < len
    · by_cases h2 : c = 48
      · have HI : Hid (Pl.intEnd bs j = some (j + 1)) := by
          show _ = _
          rw [Pl.intEnd, if_pos ((Pl.has_iff _ _ _).2 ⟨by omega, by omega⟩)]
        have hcb : (c == 48) = true := by simp [h2]
        clear hCo h2
        go_wp2
        go_meet
        exact ⟨j + 1, by go_num, by omega, HI, rfl⟩
      · by_cases h3 : 49 ≤ c ∧ c ≤ 57
        · have HI : Hid (Pl.intEnd bs j = some (Pl.dEnd bs j)) := by
            show _ = _
            rw [Pl.intEnd, if_neg (by rw [Pl.has_iff]; omega), if_pos (by rw [← hCo]; omega)]
          have hcb : (c == 48) = false := by simp [h2]
          clear hCo h2
          obtain ⟨h3, h4⟩ := h3
          go_wp2_with (go_at_call 31; refine (digits_any (some ⟨b, off, none⟩) len cap bs _ _ hlen hm (by omega) hs).mono ?_; rintro e w' ⟨rfl, rfl⟩)
          go_meet
          exact ⟨Pl.dEnd bs j, by simp, hlen ▸ Pl.dEnd_le bs j (by omega), HI, rfl⟩
        · have HI : Hid (Pl.intEnd bs j = none) := by
            show _ = _
            rw [Pl.intEnd, if_neg (by rw [Pl.has_iff]; omega), if_neg (by rw [← hCo]; omega)]
          have hcb : (c == 48) = false := by simp [h2]
          clear hCo h2
          go_wp2
          all_goals
            go_ret
            exact ⟨ret_i64 (Pl.numRes_1 bs i j J.out HI.out), rfl⟩
    · have HI : Hid (Pl.intEnd bs j = none) := by
        show _ = _
        rw [Pl.intEnd, if_neg (by rw [Pl.has_iff]; omega), if_neg (by omega)]
      clear hCo
      go_wp2
      go_ret
      exact ⟨ret_i64 (Pl.numRes_1 bs i j J.out HI.out), rfl⟩
  case rest =>
  obtain ⟨e, rfl, he, E, hw⟩ := hcut
  subst hw
  go_upto_region 8 with fail
  go_cut [66] from 56 to 66 (fun t wx => t = .bool (Pl.has bs e 46) ∧ wx = wc)
  case first =>
    obtain ⟨c, C, hcell⟩ := byte_at hs e len hlen
    go_wp2
    · go_meet
      exact ⟨congrArg Value.bool (has_in C hlen (by assumption) 46), rfl⟩
    · go_meet
      exact ⟨congrArg Value.bool (has_out hlen (by assumption) 46), rfl⟩
  case rest =>
  obtain ⟨rfl, hw⟩ := hcut
  subst hw
  go_upto_if 66 with fail
  go_cut [1] from 56 to 74 (fun t wx => ∃ f : Nat, t = .int .i64 f ∧ f ≤ len ∧ Hid (Pl.fracEnd bs e = some f) ∧ wx = wc)
  case first =>
    cases hb : Pl.has bs e 46
    · go_wp2
      go_meet
      exact ⟨e, rfl, he, by simp [Pl.fracEnd, hb, Hid], rfl⟩
    · have hlt : e < bs.length := ((Pl.has_iff _ _ _).1 hb).1
      by_cases hd : Pl.dEnd bs (e + 1) = e + 1
      · have HF : Hid (Pl.fracEnd bs e = none) := by simp [Pl.fracEnd, hb, hd, Hid]
        have HD : Hid (Pl.dEnd bs (e + 1) = e + 1) := hd
        clear hd
        go_wp2_with (go_at_call 31; refine (digits_any (some ⟨b, off, none⟩) len cap bs _ _ hlen hm (by omega) hs).mono ?_; rintro e' w' ⟨rfl, rfl⟩; rw [show ((e : Int) + 1).toNat = e + 1 from by omega, HD.out])
        go_ret
        exact ⟨ret_i64 (Pl.numRes_2 bs i j e J.out E.out HF.out), rfl⟩
      · obtain ⟨d, HD⟩ : ∃ d, Hid (Pl.dEnd bs (e + 1) = d) := ⟨_, rfl⟩
        have hdn : ¬ d = e + 1 := HD.out ▸ hd
        have hdl : d ≤ len := by rw [← HD.out, ← hlen]; exact Pl.dEnd_le bs _ (by omega)
        have hdg : e + 1 ≤ d := by rw [← HD.out]; exact Pl.dEnd_ge bs _
        have HF : Hid (Pl.fracEnd bs e = some d) := by have := HD.out; simp [Pl.fracEnd, hb, Hid, this, hdn]
        have hdb : ((d : Int) == (e : Int) + 1) = false := by simp; omega
        clear hd hdn
        go_wp2_with (go_at_call 31; refine (digits_any (some ⟨b, off, none⟩) len cap bs _ _ hlen hm (by omega) hs).mono ?_; rintro e' w' ⟨rfl, rfl⟩; rw [show ((e : Int) + 1).toNat = e + 1 from by omega, HD.out])
        go_meet
        exact ⟨d, rfl, hdl, HF, rfl⟩
  case rest =>
  obtain ⟨f, rfl, hf, F, hw⟩ := hcut
  subst hw
  go_upto_region 13 with fail
  go_cut [92] from 75 to 92 (fun t wx => t = .bool (Pl.has bs f 101 || Pl.has bs f 69) ∧ wx = wc)
  case first =>
    obtain ⟨c, C, hcell⟩ := byte_at hs f len hlen
    go_wp2
    · go_meet
      exact ⟨congrArg Value.bool (or_in1 C hlen (by assumption) (by assumption) 69), rfl⟩
    · go_meet
      exact ⟨congrArg Value.bool (or_in2 C hlen (by assumption) 101 69), rfl⟩
    · go_meet
      exact ⟨congrArg Value.bool (or_out hlen (by assumption) 101 69), rfl⟩
  case rest =>
  obtain ⟨rfl, hw⟩ := hcut
  subst hw
  go_upto_if 92 with fail
  go_cut [1] from 75 to 121 (fun t wx => ∃ r : Nat, t = .int .i64 r ∧ Hid (Pl.expEnd bs f = some r) ∧ wx = wc)
  case first =>
    cases hb : (Pl.has bs f 101 || Pl.has bs f 69)
    · go_wp2
      go_meet
      exact ⟨f, rfl, by simp at hb; simp [Pl.expEnd, hb, Hid], rfl⟩
    · have hb' : Pl.has bs f 101 = true ∨ Pl.has bs f 69 = true := by simpa using hb
      have hlt : f < bs.length := by rcases hb' with h | h <;> exact ((Pl.has_iff _ _ _).1 h).1
      have HB : Hid (Pl.has bs f 101 = true ∨ Pl.has bs f 69 = true) := hb'
      clear hb hb'
      go_upto_region 15 with fail
      go_cut [112] from 95 to 112 (fun t wx => t = .bool (Pl.has bs (f + 1) 43 || Pl.has bs (f + 1) 45) ∧ wx = wc)
      case first =>
        obtain ⟨c, C, hcell0⟩ := byte_at hs (f + 1) len hlen
        by_cases hk : f + 1 < len
        · have hcell := hcell0 hk
          clear hcell0
          go_wp2
          · go_meet
            exact ⟨congrArg Value.bool (or_in1 C hlen (by assumption) (by assumption) 45), rfl⟩
          · go_meet
            exact ⟨congrArg Value.bool (or_in2 C hlen (by assumption) 43 45), rfl⟩
        · clear hcell0
          go_wp2
          go_meet
          exact ⟨congrArg Value.bool (or_out hlen hk 43 45), rfl⟩
      case rest =>
      obtain ⟨rfl, hw⟩ := hcut
      subst hw
      go_upto_if 112 with fail
      go_cut [1] from 95 to 114 (fun t wx => ∃ s : Nat, t = .int .i64 s ∧ f + 1 ≤ s ∧ s ≤ len + 1 ∧ Hid (Pl.expStart bs (f + 1) = s) ∧ wx = wc)
      case first =>
        cases hb : (Pl.has bs (f + 1) 43 || Pl.has bs (f + 1) 45)
        · go_wp2
          go_meet
          exact ⟨f + 1, by go_num, by omega, by omega, by simp at hb; simp [Pl.expStart, hb, Hid], rfl⟩
        · have hb' : Pl.has bs (f + 1) 43 = true ∨ Pl.has bs (f + 1) 45 = true := by simpa using hb
          have hlt2 : f + 1 < bs.length := by rcases hb' with h | h <;> exact ((Pl.has_iff _ _ _).1 h).1
          have HX : Hid (Pl.expStart bs (f + 1) = f + 1 + 1) := by simp [Pl.expStart, hb', Hid]
          clear hb'
          go_wp2
          go_meet
          exact ⟨f + 1 + 1, by go_num, by omega, by omega, HX, rfl⟩
      case rest =>
      obtain ⟨s, rfl, hs1, hs2, S, hw⟩ := hcut
      subst hw
      by_cases hd : Pl.dEnd bs s = s
      · have HF : Hid (Pl.expEnd bs f = none) := by have h1 := HB.out; have h2 := S.out; simp [Pl.expEnd, h1, h2, hd, Hid]
        have HD : Hid (Pl.dEnd bs s = s) := hd
        clear hd
        go_wp2_with (go_at_call 31; refine (digits_any (some ⟨b, off, none⟩) len cap bs _ _ hlen hm (by omega) hs).mono ?_; rintro e' w' ⟨rfl, rfl⟩; rw [Int.toNat_natCast, HD.out])
        go_ret
        exact ⟨ret_i64 (Pl.numRes_3 bs i j e f J.out E.out F.out HF.out), rfl⟩
      · obtain ⟨d, HD⟩ : ∃ d, Hid (Pl.dEnd bs s = d) := ⟨_, rfl⟩
        have hdn : ¬ d = s := HD.out ▸ hd
        have HF : Hid (Pl.expEnd bs f = some d) := by have h1 := HB.out; have h2 := S.out; have h3 := HD.out; simp [Pl.expEnd, h1, h2, h3, hdn, Hid]
        have hdb : ((d : Int) == (s : Int)) = false := by simp; omega
        clear hd hdn
        go_wp2_with (go_at_call 31; refine (digits_any (some ⟨b, off, none⟩) len cap bs _ _ hlen hm (by omega) hs).mono ?_; rintro e' w' ⟨rfl, rfl⟩; rw [Int.toNat_natCast, HD.out])
        go_meet
        exact ⟨d, rfl, HF, rfl⟩
  case rest =>
  obtain ⟨r, rfl, R, hw⟩ := hcut
  subst hw
  go_wp2
  go_ret
  exact ⟨ret_i64 (Pl.numRes_4 bs i j e f r J.out E.out F.out R.out), rfl⟩

theorem number_none (a : Option Addr) (cap : Nat) (i : Nat) (w : World) :
    Calls Trym.prog 27 #[.slice a 0 cap, .int .i64 i] w fun e w' => e = .returned (.int .i64 (-1)) ∧ w' = w := by
  go_enter Trym.func27, Trym.ntmps27
  go_wp2
  go_ret
  exact ⟨rfl, rfl⟩

theorem numRes_nil (n : Nat) : Pl.numRes [] n = -1 := by
  simp [Pl.numRes, Pl.numEnd, Pl.intEnd, Pl.has, Pl.res]

/-- numberEnd -/
theorem number_any (a : Option Addr) (len cap : Nat) (bs : List Int) (i : Int) (w : World) (hlen : bs.length = len) (hm : len ≤ 1073741824) (h0 : 0 ≤ i) (hs : Sees w a bs) :
    Calls Trym.prog 27 #[.slice a len cap, .int .i64 i] w fun e w' => e = .returned (.int .i64 (Pl.numRes bs i.toNat)) ∧ w' = w := by
  obtain ⟨n, rfl⟩ := Int.eq_ofNat_of_zero_le h0
  rw [Int.toNat_natCast]
  have hs0 := hs
  rcases hs with rfl | ⟨b, off, rfl, hc⟩
  · obtain rfl : len = 0 := by simpa using hlen.symm
    rw [numRes_nil]
    exact number_none a cap n w
  · exact number_some b off cap len bs n w hlen hm hs0

/-- ZZNumberEnd -/
theorem zzNumber_any (a : Option Addr) (len cap : Nat) (bs : List Int) (i : Int) (w : World) (hlen : bs.length = len) (hm : len ≤ 1073741824) (h0 : 0 ≤ i) (hs : Sees w a bs) :
    Calls Trym.prog 13 #[.slice a len cap, .int .i64 i] w fun e w' => e = .returned (.int .i64 (Pl.numRes bs i.toNat)) ∧ w' = w := by
  go_enter Trym.func13, Trym.ntmps13
  go_wp2_with (go_at_call 27; refine (number_any a len cap bs i _ hlen hm h0 hs).mono ?_; rintro e w' ⟨rfl, rfl⟩)
  go_ret
  exact ⟨rfl, rfl⟩
end Go.Proofs.Qxb6000901aMods
