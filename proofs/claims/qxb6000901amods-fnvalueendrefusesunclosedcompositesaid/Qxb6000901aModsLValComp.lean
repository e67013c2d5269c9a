import Derived.Test.Qxb6000901aModsWValEnd
import Derived.Test.Qxb6000901aModsWJoin
import Derived.Test.Qxb6000901aModsWComp
namespace Go.Proofs.Qxb6000901aMods
open Go.RowKit

theorem own_sees2 {w : World} {B g n cap : Nat} {l : List Int} (h : w.ownsRow B 5 1 (.slice (some ⟨g, 0, none⟩) n cap) n (B8 l)) : Sees w (some ⟨g, 0, none⟩) l := by
  refine .inr ⟨g, 0, rfl, fun k hk => ?_⟩
  have h1 := h.cells (g := g) rfl k (.int .u8 (l.getD k 0)) (by simp [B8, List.getD, hk])
  have e : (⟨g, 0, none⟩ : Addr).add k = ⟨g, 0 + k, none⟩ := by
    by_cases h0 : k = 0
    · subst h0; simp [Addr.add]
    · simp [Addr.add, h0]
  rw [e] at h1
  exact h1

/-- ZZValueEnd where an array begins. -/
theorem zzValue_comp (a : Option Addr) (len cap : Nat) (bs : List Int) (i : Nat) (w : World) (hlen : bs.length = len) (hm : len ≤ 1073741824) (hb : Pl.has bs i 91 = true) (hs : Sees w a bs) :
    Calls Trym.prog 24 #[.slice a len cap, .int .i64 i] w fun e w' => e = .returned (.int .i64 (Pl.res (Pl.compAt bs i 0))) ∧ w' = w := by
  have hi : i < len := by have := ((Pl.has_iff _ _ _).1 hb).1; omega
  have hs0 := hs
  rcases hs with rfl | ⟨b, off, rfl, _⟩
  · simp at hlen; omega
  · have HB : Hid (Pl.has bs i 123 = true ∨ Pl.has bs i 91 = true) := Or.inr hb
    clear hb
    go_enter Trym.func24, Trym.ntmps24
    go_wp2_with (go_at_call 30; refine (value_comp b off cap len bs i _ hlen hm hi HB.out hs0).mono ?_; rintro e w' ⟨rfl, rfl⟩)
    go_ret
    exact ⟨rfl, rfl⟩

set_option maxHeartbeats 1000000 in
set_option maxRecDepth 100000 in
theorem valSpan_big (a0 : Option Addr) (len0 cap0 : Nat) (a1 : Option Addr) (len1 cap1 : Nat) (a2 : Option Addr) (len2 cap2 : Nat) (w : World) (hmax0 : len0 ≤ 9223372036854775807) (hmax1 : len1 ≤ 9223372036854775807) (hmax2 : len2 ≤ 9223372036854775807)
    (h : ¬ (16 * len0 + 32 + len1 + len2 ≤ 1048576)) :
    Calls Trym.prog 8 #[.slice a0 len0 cap0, .slice a1 len1 cap1, .slice a2 len2 cap2] w fun e w' => e = .returned (.bool true) ∧ Below w.heap.size w w' := by
  by_cases h0 : len0 ≤ 1048576
  · by_cases h1 : len1 ≤ 1048576
    · by_cases h01 : len0 + len1 ≤ 1048576
      · by_cases h2 : len2 ≤ 1048576
        · by_cases h012 : len0 + len1 + len2 ≤ 1048576
          · go_enter Trym.func8, Trym.ntmps8
            go_wp2
            go_ret
            exact ⟨rfl, Below.refl _ _⟩
          · go_enter Trym.func8, Trym.ntmps8
            go_wp2
            go_ret
            exact ⟨rfl, Below.refl _ _⟩
        · go_enter Trym.func8, Trym.ntmps8
          go_wp2
          go_ret
          exact ⟨rfl, Below.refl _ _⟩
      · go_enter Trym.func8, Trym.ntmps8
        go_wp2
        go_ret
        exact ⟨rfl, Below.refl _ _⟩
    · go_enter Trym.func8, Trym.ntmps8
      go_wp2
      go_ret
      exact ⟨rfl, Below.refl _ _⟩
  · go_enter Trym.func8, Trym.ntmps8
    go_wp2
    go_ret
    exact ⟨rfl, Below.refl _ _⟩

set_option maxHeartbeats 1000000 in
set_option maxRecDepth 100000 in
theorem valSpan_walk (a0 : Option Addr) (len0 cap0 : Nat) (a1 : Option Addr) (len1 cap1 : Nat) (a2 : Option Addr) (len2 cap2 : Nat) (s p t : List Int) (w : World)
    (hcm0 : Came w a0 len0 cap0 s) (hcm1 : Came w a1 len1 cap1 p) (hcm2 : Came w a2 len2 cap2 t) (hmax0 : len0 ≤ maxLen) (hmax1 : len1 ≤ maxLen) (hmax2 : len2 ≤ maxLen) :
    Calls Trym.prog 8 #[.slice a0 len0 cap0, .slice a1 len1 cap1, .slice a2 len2 cap2] w fun e w' => e = .returned (.bool true) ∧ Below w.heap.size w w' := by
  unfold maxLen at hmax0 hmax1 hmax2
  by_cases hgood : 16 * len0 + 32 + len1 + len2 ≤ 1048576
  · have hlen0 := hcm0.1
    have hlen1 := hcm1.1
    have hlen2 := hcm2.1
    have hrg := hcm0.2.1
    have hrp : ∀ c ∈ s, 0 ≤ c := fun c hc => (hrg c hc).1
    have hl := Pl.text_len s hrp
    rw [hlen0] at hl
    have hhas : Pl.has (p ++ Pl.text s ++ t) len1 91 = true := by
      rw [← hlen1, List.append_assoc]; exact Pl.has_head p (Pl.build s [93] ++ t)
    have HL : Hid (Pl.res (Pl.compAt (p ++ Pl.text s ++ t) len1 0) = ((len1 + (Pl.text s).length : Nat) : Int)) := by
      have := Pl.valRes_spans p s t hrp
      rw [hlen1] at this
      exact this
    obtain ⟨T, HT⟩ : ∃ T, Hid (Pl.text s = T) := ⟨_, rfl⟩
    rw [HT.out] at HL hl hhas
    obtain ⟨m, hTm⟩ : ∃ m, T.length = m := ⟨_, rfl⟩
    rw [hTm] at HL hl
    have HH : Hid (Pl.has (p ++ T ++ t) len1 91 = true) := hhas
    have hl1 : (p ++ T).length = len1 + m := by simp [hlen1, hTm]
    have hl2 : (p ++ T ++ t).length = len1 + m + len2 := by simp [hlen1, hTm, hlen2]; omega
    clear hhas hrp
    go_enter Trym.func8, Trym.ntmps8
    go_wp2_with (go_at_call 22; go_in)
    refine (clone_any a0 len0 cap0 s _ (by omega) hcm0).mono ?_
    rintro e w2 ⟨a0', rfl, hs0, hb0⟩
    go_wp2_with fail
    refine (clone_any a1 len1 cap1 p _ (by omega) (came_below hcm1 hb0)).mono ?_
    rintro e w3 ⟨a1', rfl, hs1, hb1⟩
    have hs0' := sees_below hs0 hb1
    have hb2 : Below w.heap.size w w3 := hb0.trans (hb1.mono hb0.size)
    clear hs0
    go_wp2_with fail
    refine (clone_any a2 len2 cap2 t _ (by omega) (came_below hcm2 hb2)).mono ?_
    rintro e w4 ⟨a2', rfl, hs2, hb3⟩
    have hs0 := sees_below hs0' hb3
    have hs1' := sees_below hs1 hb3
    have hb4 : Below w.heap.size w w4 := hb2.trans (hb3.mono hb2.size)
    clear hcm0 hcm1 hcm2 hs0' hs1
    go_wp2_with fail
    refine (comp_some a0' len0 len0 s _ hlen0 (by omega) hrg hs0).mono ?_
    rintro e w5 ⟨g, cc, rfl, hown, hb5⟩
    rw [HT.out, hTm] at hown ⊢
    have hsT := own_sees2 hown
    have hs1 := sees_below hs1' hb5
    have hs2' := sees_below hs2 hb5
    have hb6 : Below w.heap.size w w5 := hb4.trans (hb5.mono hb4.size)
    clear hown hs0 hs2 hs1'
    go_wp2_with fail
    refine (join_any a1' _ len1 len1 m cc p T _ hlen1 hTm (by omega) hs1 hsT).mono ?_
    rintro e w6 ⟨a6, rfl, hs6, hb7⟩
    have hs2 := sees_below hs2' hb7
    have hb8 : Below w.heap.size w w6 := hb6.trans (hb7.mono hb6.size)
    go_wp2_with fail
    refine (join_any a6 a2' (len1 + m) (len1 + m) len2 len2 (p ++ T) t _ hl1 hlen2 (by omega) hs6 hs2).mono ?_
    rintro e w7 ⟨a7, rfl, hs7, hb9⟩
    have hb10 : Below w.heap.size w w7 := hb8.trans (hb9.mono hb8.size)
    go_wp2_with fail
    refine (zzValue_comp a7 (len1 + m + len2) (len1 + m + len2) (p ++ T ++ t) len1 _ hl2 (by omega) HH.out hs7).mono ?_
    rintro e w8 ⟨rfl, rfl⟩
    rw [HL.out]
    go_wp2_with fail
    go_ret
    exact ⟨ret_b (by simp), hb10⟩
  · exact valSpan_big a0 len0 cap0 a1 len1 cap1 a2 len2 cap2 w hmax0 hmax1 hmax2 hgood

set_option maxHeartbeats 1000000 in
set_option maxRecDepth 100000 in
theorem valOpen_big (a0 : Option Addr) (len0 cap0 : Nat) (a1 : Option Addr) (len1 cap1 : Nat) (w : World) (hmax0 : len0 ≤ 9223372036854775807) (hmax1 : len1 ≤ 9223372036854775807)
    (h : ¬ (16 * len0 + 32 + len1 ≤ 1048576)) :
    Calls Trym.prog 9 #[.slice a0 len0 cap0, .slice a1 len1 cap1] w fun e w' => e = .returned (.bool true) ∧ Below w.heap.size w w' := by
  by_cases h0 : len0 ≤ 1048576
  · by_cases h1 : len1 ≤ 1048576
    · by_cases h01 : len0 + len1 ≤ 1048576
      · go_enter Trym.func9, Trym.ntmps9
        go_wp2
        go_ret
        exact ⟨rfl, Below.refl _ _⟩
      · go_enter Trym.func9, Trym.ntmps9
        go_wp2
        go_ret
        exact ⟨rfl, Below.refl _ _⟩
    · go_enter Trym.func9, Trym.ntmps9
      go_wp2
      go_ret
      exact ⟨rfl, Below.refl _ _⟩
  · go_enter Trym.func9, Trym.ntmps9
    go_wp2
    go_ret
    exact ⟨rfl, Below.refl _ _⟩

theorem text_room (w : World) {B g n cap : Nat} {xs : List Value} (h : w.ownsRow B 5 1 (.slice (some ⟨g, 0, none⟩) n cap) n xs) : n ≤ cap := by
  rcases h.2 with ⟨h0, _⟩ | ⟨g', cap', cur, hv, _, _, hr, _⟩
  · simp at h0
  · simp only [Value.slice.injEq] at hv
    omega

set_option maxHeartbeats 1000000 in
set_option maxRecDepth 100000 in
theorem valOpen_walk (a0 : Option Addr) (len0 cap0 : Nat) (a1 : Option Addr) (len1 cap1 : Nat) (s p : List Int) (w : World)
    (hcm0 : Came w a0 len0 cap0 s) (hcm1 : Came w a1 len1 cap1 p) (hmax0 : len0 ≤ maxLen) (hmax1 : len1 ≤ maxLen) :
    Calls Trym.prog 9 #[.slice a0 len0 cap0, .slice a1 len1 cap1] w fun e w' => e = .returned (.bool true) ∧ Below w.heap.size w w' := by
  unfold maxLen at hmax0 hmax1
  by_cases hgood : 16 * len0 + 32 + len1 ≤ 1048576
  · have hlen0 := hcm0.1
    have hlen1 := hcm1.1
    have hrg := hcm0.2.1
    have hrp : ∀ c ∈ s, 0 ≤ c := fun c hc => (hrg c hc).1
    have hl := Pl.text_len s hrp
    rw [hlen0] at hl
    have hne := Pl.build_ne s [93] hrp Pl.cl93
    have hhas : Pl.has (p ++ (Pl.text s).dropLast) len1 91 = true := by
      rw [← hlen1, Pl.text, List.dropLast_cons_of_ne_nil hne]; exact Pl.has_head p _
    have HL : Hid (Pl.res (Pl.compAt (p ++ (Pl.text s).dropLast) len1 0) = -1) := by
      have := Pl.valRes_open p s hrp
      rw [hlen1] at this
      exact this
    have hpos : 2 ≤ (Pl.text s).length := by
      have : 0 < (Pl.build s [93]).length := List.length_pos_iff.2 hne
      simp [Pl.text]; omega
    obtain ⟨T, HT⟩ : ∃ T, Hid (Pl.text s = T) := ⟨_, rfl⟩
    rw [HT.out] at HL hl hhas hpos
    obtain ⟨m, hTm⟩ : ∃ m, T.length = m + 1 := ⟨T.length - 1, by omega⟩
    rw [hTm] at hl hpos
    rw [List.dropLast_eq_take, hTm, Nat.add_sub_cancel] at HL hhas
    have HH : Hid (Pl.has (p ++ T.take m) len1 91 = true) := hhas
    have hlt : (T.take m).length = m := by simp; omega
    have hl1 : (p ++ T.take m).length = len1 + m := by rw [List.length_append, hlt, hlen1]
    have HTm : Hid (T.length = m + 1) := hTm
    clear hhas hrp hne hTm
    go_enter Trym.func9, Trym.ntmps9
    go_wp2_with (go_at_call 25; go_in)
    refine (clone_any a0 len0 cap0 s _ (by omega) hcm0).mono ?_
    rintro e w2 ⟨a0', rfl, hs0, hb0⟩
    go_wp2_with fail
    refine (clone_any a1 len1 cap1 p _ (by omega) (came_below hcm1 hb0)).mono ?_
    rintro e w3 ⟨a1', rfl, hs1, hb1⟩
    have hs0' := sees_below hs0 hb1
    have hb4 : Below w.heap.size w w3 := hb0.trans (hb1.mono hb0.size)
    clear hcm0 hcm1 hs0
    go_wp2_with fail
    refine (comp_some a0' len0 len0 s _ hlen0 (by omega) hrg hs0').mono ?_
    rintro e w5 ⟨g, cc, rfl, hown, hb5⟩
    rw [HT.out, HTm.out] at hown ⊢
    have hroom := text_room _ hown
    have hsT := sees_take (own_sees2 hown) m
    have hs1' := sees_below hs1 hb5
    have hb6 : Below w.heap.size w w5 := hb4.trans (hb5.mono hb4.size)
    clear hown hs0' hs1
    go_wp2_with fail
    refine (join_any a1' _ len1 len1 m cc p (T.take m) _ hlen1 hlt (by omega) hs1' hsT).mono ?_
    rintro e w6 ⟨a6, rfl, hs6, hb7⟩
    have hb8 : Below w.heap.size w w6 := hb6.trans (hb7.mono hb6.size)
    go_wp2_with fail
    refine (zzValue_comp a6 (len1 + m) (len1 + m) (p ++ T.take m) len1 _ hl1 (by omega) HH.out hs6).mono ?_
    rintro e w8 ⟨rfl, rfl⟩
    rw [HL.out]
    go_wp2_with fail
    go_ret
    exact ⟨ret_b (by simp), hb8⟩
  · exact valOpen_big a0 len0 cap0 a1 len1 cap1 w hmax0 hmax1 hgood
end Go.Proofs.Qxb6000901aMods
