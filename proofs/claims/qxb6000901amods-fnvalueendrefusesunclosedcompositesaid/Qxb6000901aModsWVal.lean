import Derived.Test.Qxb6000901aModsWNumEnd
import Derived.Test.Qxb6000901aModsWStr
import Derived.Test.Qxb6000901aModsWLit
namespace Go.Proofs.Qxb6000901aMods
open Go.RowKit

theorem has_t {bs : List Int} {k len : Nat} {c x : Int} (C : Hid (c = bs.getD k 0)) (hlen : bs.length = len) (h : k < len) (hx : c = x) : Pl.has bs k x = true := by
  rw [← has_in C hlen h x]; simp [hx]
theorem has_f {bs : List Int} {k len : Nat} {c x : Int} (C : Hid (c = bs.getD k 0)) (hlen : bs.length = len) (h : k < len) (hx : ¬ c = x) : ¬ Pl.has bs k x = true := by
  rw [← has_in C hlen h x]; simp [hx]

set_option maxHeartbeats 1000000 in
set_option maxRecDepth 100000 in
/-- scalarEnd -/
theorem scalar_some (b off cap len : Nat) (bs : List Int) (i : Nat) (w : World) (hlen : bs.length = len) (hm : len ≤ 1073741824) (hc : len ≤ cap) (hi : i < len) (hp : ∀ c ∈ bs, 0 ≤ c ∧ c ≤ 255)
    (hs : Sees w (some ⟨b, off, none⟩) bs) :
    Calls Trym.prog 33 #[.slice (some ⟨b, off, none⟩) len cap, .int .i64 i] w fun e w' => e = .returned (.int .i64 (Pl.res (Pl.scalEnd bs i))) ∧ Below w.heap.size w w' := by
  obtain ⟨c, C, hcell0⟩ := byte_at hs i len hlen
  have hcell := hcell0 hi
  clear hcell0
  by_cases h1 : c = 34
  · have HB : Hid (Pl.scalEnd bs i = (Pl.strAt bs (i + 1)).map (· + 1)) := by
      show _ = _
      rw [Pl.scalEnd, if_pos (has_t C hlen hi h1)]
    have hb1 : (c == 34) = true := by simp [h1]
    cases hst : Pl.strAt bs (i + 1) with
    | none =>
      have HR : Hid (Pl.res (Pl.scalEnd bs i) = -1) := by show _ = _; rw [HB.out, hst]; rfl
      have HS : Hid (Pl.strRes bs (i + 1) = -1) := by show _ = _; rw [Pl.strRes, hst]; rfl
      clear h1 hst
      go_enter Trym.func33, Trym.ntmps33
      go_wp2_with (go_at_call 29; refine (string_any (some ⟨b, off, none⟩) len cap bs i _ hlen hm (by omega) (by omega) hs).mono ?_; rintro e w' ⟨rfl, rfl⟩; rw [Int.toNat_natCast, HS.out])
      go_ret
      exact ⟨ret_i64 HR.out.symm, Below.refl _ _⟩
    | some r =>
      have hrl : r < len := by have := (Pl.strAt_cut hst).2.1; omega
      have HR : Hid (Pl.res (Pl.scalEnd bs i) = ((r + 1 : Nat) : Int)) := by show _ = _; rw [HB.out, hst]; rfl
      have HS : Hid (Pl.strRes bs (i + 1) = r) := by show _ = _; rw [Pl.strRes, hst]; rfl
      clear h1 hst
      go_enter Trym.func33, Trym.ntmps33
      go_wp2_with (go_at_call 29; refine (string_any (some ⟨b, off, none⟩) len cap bs i _ hlen hm (by omega) (by omega) hs).mono ?_; rintro e w' ⟨rfl, rfl⟩; rw [Int.toNat_natCast, HS.out])
      go_ret
      exact ⟨ret_i64 (by rw [HR.out]; omega), Below.refl _ _⟩
  · have hb1 : (c == 34) = false := by simp [h1]
    by_cases h2 : c = 116
    · have HB : Hid (Pl.scalEnd bs i = Pl.litEnd bs i [116, 114, 117, 101]) := by
        show _ = _
        rw [Pl.scalEnd, if_neg (has_f C hlen hi h1), if_pos (has_t C hlen hi h2)]
      have hb2 : (c == 116) = true := by simp [h2]
      clear h1 h2
      go_enter Trym.func33, Trym.ntmps33
      go_wp2_with (go_at_call 34; refine (literal_some b off cap len bs i _ [116, 114, 117, 101] _ hlen hm hc hi hp rfl (by simp) (by simp) hs).mono ?_; rintro e w' ⟨rfl, hbl⟩)
      go_ret
      exact ⟨ret_i64 (by rw [HB.out]), hbl⟩
    · have hb2 : (c == 116) = false := by simp [h2]
      by_cases h3 : c = 102
      · have HB : Hid (Pl.scalEnd bs i = Pl.litEnd bs i [102, 97, 108, 115, 101]) := by
          show _ = _
          rw [Pl.scalEnd, if_neg (has_f C hlen hi h1), if_neg (has_f C hlen hi h2), if_pos (has_t C hlen hi h3)]
        have hb3 : (c == 102) = true := by simp [h3]
        clear h1 h2 h3
        go_enter Trym.func33, Trym.ntmps33
        go_wp2_with (go_at_call 34; refine (literal_some b off cap len bs i _ [102, 97, 108, 115, 101] _ hlen hm hc hi hp rfl (by simp) (by simp) hs).mono ?_; rintro e w' ⟨rfl, hbl⟩)
        go_ret
        exact ⟨ret_i64 (by rw [HB.out]), hbl⟩
      · have hb3 : (c == 102) = false := by simp [h3]
        by_cases h4 : c = 110
        · have HB : Hid (Pl.scalEnd bs i = Pl.litEnd bs i [110, 117, 108, 108]) := by
            show _ = _
            rw [Pl.scalEnd, if_neg (has_f C hlen hi h1), if_neg (has_f C hlen hi h2), if_neg (has_f C hlen hi h3), if_pos (has_t C hlen hi h4)]
          have hb4 : (c == 110) = true := by simp [h4]
          clear h1 h2 h3 h4
          go_enter Trym.func33, Trym.ntmps33
          go_wp2_with (go_at_call 34; refine (literal_some b off cap len bs i _ [110, 117, 108, 108] _ hlen hm hc hi hp rfl (by simp) (by simp) hs).mono ?_; rintro e w' ⟨rfl, hbl⟩)
          go_ret
          exact ⟨ret_i64 (by rw [HB.out]), hbl⟩
        · have hb4 : (c == 110) = false := by simp [h4]
          have HB : Hid (Pl.res (Pl.scalEnd bs i) = Pl.numRes bs i) := by
            show _ = _
            rw [Pl.scalEnd, if_neg (has_f C hlen hi h1), if_neg (has_f C hlen hi h2), if_neg (has_f C hlen hi h3), if_neg (has_f C hlen hi h4)]; rfl
          clear h1 h2 h3 h4
          go_enter Trym.func33, Trym.ntmps33
          go_wp2_with (go_at_call 27; refine (number_any (some ⟨b, off, none⟩) len cap bs i _ hlen hm (by omega) hs).mono ?_; rintro e w' ⟨rfl, rfl⟩; rw [Int.toNat_natCast])
          go_ret
          exact ⟨ret_i64 HB.out.symm, Below.refl _ _⟩

end Go.Proofs.Qxb6000901aMods
