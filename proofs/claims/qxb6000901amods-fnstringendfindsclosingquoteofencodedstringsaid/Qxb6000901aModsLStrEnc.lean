import Derived.Test.Qxb6000901aModsWStr
import Derived.Test.Qxb6000901aModsWJoin
import Derived.Test.Qxb6000901aModsWQuote
namespace Go.Proofs.Qxb6000901aMods
open Go.RowKit

theorem own_sees {w : World} {B g n cap : Nat} {l : List Int} (h : w.ownsRow B 5 1 (.slice (some ⟨g, 0, none⟩) n cap) n (B8 l)) : Sees w (some ⟨g, 0, none⟩) l := by
  refine .inr ⟨g, 0, rfl, fun k hk => ?_⟩
  have h1 := h.cells (g := g) rfl k (.int .u8 (l.getD k 0)) (by simp [B8, List.getD, hk])
  have e : (⟨g, 0, none⟩ : Addr).add k = ⟨g, 0 + k, none⟩ := by
    by_cases h0 : k = 0
    · subst h0; simp [Addr.add]
    · simp [Addr.add, h0]
  rw [e] at h1
  exact h1

set_option maxHeartbeats 1000000 in
set_option maxRecDepth 100000 in
theorem strEnc_big (a0 : Option Addr) (len0 cap0 : Nat) (a1 : Option Addr) (len1 cap1 : Nat) (a2 : Option Addr) (len2 cap2 : Nat) (w : World) (hmax0 : len0 ≤ 9223372036854775807) (hmax1 : len1 ≤ 9223372036854775807) (hmax2 : len2 ≤ 9223372036854775807)
    (h : ¬ (len0 + 6 * len1 + 2 + len2 ≤ 1048576)) :
    Calls Trym.prog 6 #[.slice a0 len0 cap0, .slice a1 len1 cap1, .slice a2 len2 cap2] w fun e w' => e = .returned (.bool true) ∧ Below w.heap.size w w' := by
  by_cases h0 : len0 ≤ 1048576
  · by_cases h1 : len1 ≤ 1048576
    · by_cases h01 : len0 + len1 ≤ 1048576
      · by_cases h2 : len2 ≤ 1048576
        · by_cases h012 : len0 + len1 + len2 ≤ 1048576
          · go_enter Trym.func6, Trym.ntmps6
            go_wp2
            go_ret
            exact ⟨rfl, Below.refl _ _⟩
          · go_enter Trym.func6, Trym.ntmps6
            go_wp2
            go_ret
            exact ⟨rfl, Below.refl _ _⟩
        · go_enter Trym.func6, Trym.ntmps6
          go_wp2
          go_ret
          exact ⟨rfl, Below.refl _ _⟩
      · go_enter Trym.func6, Trym.ntmps6
        go_wp2
        go_ret
        exact ⟨rfl, Below.refl _ _⟩
    · go_enter Trym.func6, Trym.ntmps6
      go_wp2
      go_ret
      exact ⟨rfl, Below.refl _ _⟩
  · go_enter Trym.func6, Trym.ntmps6
    go_wp2
    go_ret
    exact ⟨rfl, Below.refl _ _⟩

set_option maxHeartbeats 1000000 in
set_option maxRecDepth 100000 in
theorem strEnc_walk (a0 : Option Addr) (len0 cap0 : Nat) (a1 : Option Addr) (len1 cap1 : Nat) (a2 : Option Addr) (len2 cap2 : Nat) (p s t : List Int) (w : World)
    (hcm0 : Came w a0 len0 cap0 p) (hcm1 : Came w a1 len1 cap1 s) (hcm2 : Came w a2 len2 cap2 t) (hmax0 : len0 ≤ maxLen) (hmax1 : len1 ≤ maxLen) (hmax2 : len2 ≤ maxLen) :
    Calls Trym.prog 6 #[.slice a0 len0 cap0, .slice a1 len1 cap1, .slice a2 len2 cap2] w fun e w' => e = .returned (.bool true) ∧ Below w.heap.size w w' := by
  unfold maxLen at hmax0 hmax1 hmax2
  by_cases hgood : len0 + 6 * len1 + 2 + len2 ≤ 1048576
  · have hlen0 := hcm0.1
    have hlen1 := hcm1.1
    have hlen2 := hcm2.1
    have hrg := hcm1.2.1
    have HL : Hid (Pl.strRes (p ++ Pl.quote s ++ t) (len0 + 1) = ((len0 + (Pl.quote s).length - 1 : Nat) : Int)) := by
      have := Pl.strRes_quote p s t (fun c hc => (hrg c hc).1)
      rw [hlen0] at this
      exact this
    have hql := Pl.quote_len s
    have hq2 : 2 ≤ (Pl.quote s).length := by simp [Pl.quote]
    rw [hlen1] at hql
    obtain ⟨T, HT⟩ : ∃ T, Hid (Pl.quote s = T) := ⟨_, rfl⟩
    rw [HT.out] at HL hql hq2
    obtain ⟨m, hTm⟩ : ∃ m, T.length = m := ⟨_, rfl⟩
    rw [hTm] at HL hql hq2
    have hl1 : (p ++ T).length = len0 + m := by simp [hlen0, hTm]
    have hl2 : (p ++ T ++ t).length = len0 + m + len2 := by simp [hlen0, hTm, hlen2]; omega
    go_enter Trym.func6, Trym.ntmps6
    go_wp2_with (go_at_call 18; go_in)
    refine (clone_any a0 len0 cap0 p _ (by omega) hcm0).mono ?_
    rintro e w2 ⟨a0', rfl, hs0, hb0⟩
    go_wp2_with fail
    refine (clone_any a1 len1 cap1 s _ (by omega) (came_below hcm1 hb0)).mono ?_
    rintro e w3 ⟨a1', rfl, hs1, hb1⟩
    have hs0' := sees_below hs0 hb1
    have hb2 : Below w.heap.size w w3 := hb0.trans (hb1.mono hb0.size)
    clear hs0
    go_wp2_with fail
    refine (clone_any a2 len2 cap2 t _ (by omega) (came_below hcm2 hb2)).mono ?_
    rintro e w4 ⟨a2', rfl, hs2, hb3⟩
    have hs0 := sees_below hs0' hb3
    have hs1' := sees_below hs1 hb3
    have hb4 : Below w.heap.size w w4 := hb2.trans (hb3.mono hb2.size)
    clear hcm0 hcm1 hcm2 hs0' hs1
    go_wp2_with fail
    refine (quote_some a1' len1 len1 s _ hlen1 (by omega) hrg hs1').mono ?_
    rintro e w5 ⟨rfl, hown, hb5⟩
    rw [HT.out] at hown ⊢
    rw [hTm] at hown ⊢
    have hsT := own_sees hown
    have hs0'' := sees_below hs0 hb5
    have hs2' := sees_below hs2 hb5
    have hb6 : Below w.heap.size w w5 := hb4.trans (hb5.mono hb4.size)
    clear hown hs0 hs2 hs1'
    go_wp2_with fail
    refine (join_any a0' _ len0 len0 m (2 + 6 * len1) p T _ hlen0 hTm (by omega) hs0'' hsT).mono ?_
    rintro e w6 ⟨a6, rfl, hs6, hb7⟩
    have hs2 := sees_below hs2' hb7
    have hb8 : Below w.heap.size w w6 := hb6.trans (hb7.mono hb6.size)
    go_wp2_with fail
    refine (join_any a6 a2' (len0 + m) (len0 + m) len2 len2 (p ++ T) t _ hl1 hlen2 (by omega) hs6 hs2).mono ?_
    rintro e w7 ⟨a7, rfl, hs7, hb9⟩
    have hb10 : Below w.heap.size w w7 := hb8.trans (hb9.mono hb8.size)
    go_wp2_with fail
    refine (zzString_any a7 (len0 + m + len2) (len0 + m + len2) (p ++ T ++ t) len0 _ hl2 (by omega) (by omega) (by omega) hs7).mono ?_
    rintro e w8 ⟨rfl, rfl⟩
    rw [Int.toNat_natCast, HL.out]
    go_wp2_with fail
    go_ret
    exact ⟨ret_b (by simp; omega), hb10⟩
  · exact strEnc_big a0 len0 cap0 a1 len1 cap1 a2 len2 cap2 w hmax0 hmax1 hmax2 hgood
end Go.Proofs.Qxb6000901aMods
