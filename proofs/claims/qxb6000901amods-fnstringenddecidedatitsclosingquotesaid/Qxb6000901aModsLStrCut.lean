import Derived.Test.Qxb6000901aModsWStr
import Derived.Test.Qxb6000901aModsWJoin
namespace Go.Proofs.Qxb6000901aMods
open Go.RowKit

theorem Pl.strRes_cut (bs : List Int) (k : Nat) : Pl.strRes bs k = -1 ∨ ∃ r : Nat, Pl.strRes bs k = r ∧ k ≤ r ∧ r < bs.length ∧ bs.getD r 0 = 34 ∧ Pl.strRes (bs.take (r + 1)) k = r ∧ ∀ t, Pl.strRes (bs.take (r + 1) ++ t) k = r := by
  unfold Pl.strRes
  cases h : Pl.strAt bs k with
  | none => left; rfl
  | some r =>
    right
    obtain ⟨h1, h2, h3, h4⟩ := Pl.strAt_cut h
    refine ⟨r, rfl, h1, h2, h3, ?_, fun t => by rw [h4 t]; rfl⟩
    have := h4 []
    rw [List.append_nil] at this
    rw [this]; rfl

set_option maxHeartbeats 1000000 in
set_option maxRecDepth 100000 in
theorem strCut_big (a0 : Option Addr) (len0 cap0 : Nat) (a1 : Option Addr) (len1 cap1 : Nat) (a2 : Int) (w : World) (hmax0 : len0 ≤ 9223372036854775807) (hmax1 : len1 ≤ 9223372036854775807) (h : ¬ (len0 + len1 ≤ 1048576 ∧ 0 ≤ a2 ∧ a2 ≤ len0)) :
    Calls Trym.prog 7 #[.slice a0 len0 cap0, .slice a1 len1 cap1, .int .i64 a2] w fun e w' => e = .returned (.bool true) ∧ Below w.heap.size w w' := by
  by_cases h0 : len0 ≤ 1048576
  · by_cases h1 : len1 ≤ 1048576
    · by_cases h2 : len0 + len1 ≤ 1048576
      · by_cases h3 : a2 < 0
        · go_enter Trym.func7, Trym.ntmps7
          go_wp2
          go_ret
          exact ⟨rfl, Below.refl _ _⟩
        · have h4 : (len0 : Int) < a2 := by omega
          go_enter Trym.func7, Trym.ntmps7
          go_wp2
          go_ret
          exact ⟨rfl, Below.refl _ _⟩
      · go_enter Trym.func7, Trym.ntmps7
        go_wp2
        go_ret
        exact ⟨rfl, Below.refl _ _⟩
    · go_enter Trym.func7, Trym.ntmps7
      go_wp2
      go_ret
      exact ⟨rfl, Below.refl _ _⟩
  · go_enter Trym.func7, Trym.ntmps7
    go_wp2
    go_ret
    exact ⟨rfl, Below.refl _ _⟩

theorem sees_addr {w : World} {a : Option Addr} {bs : List Int} (h : Sees w a bs) (hn : 0 < bs.length) : ∃ b off, a = some ⟨b, off, none⟩ := by
  rcases h with rfl | ⟨b, off, rfl, _⟩
  · simp at hn
  · exact ⟨b, off, rfl⟩

set_option maxHeartbeats 1000000 in
set_option maxRecDepth 100000 in
theorem strCut_walk (a0 : Option Addr) (len0 cap0 : Nat) (a1 : Option Addr) (len1 cap1 : Nat) (bs q : List Int) (a2 : Int) (w : World) (hcm0 : Came w a0 len0 cap0 bs) (hcm1 : Came w a1 len1 cap1 q) (hmax0 : len0 ≤ maxLen) (hmax1 : len1 ≤ maxLen) :
    Calls Trym.prog 7 #[.slice a0 len0 cap0, .slice a1 len1 cap1, .int .i64 a2] w fun e w' => e = .returned (.bool true) ∧ Below w.heap.size w w' := by
  unfold maxLen at hmax0 hmax1
  by_cases hgood : len0 + len1 ≤ 1048576 ∧ 0 ≤ a2 ∧ a2 ≤ len0
  · obtain ⟨hb, hp, hq⟩ := hgood
    obtain ⟨n, rfl⟩ := Int.eq_ofNat_of_zero_le hp
    have hlen0 := hcm0.1
    have hlen1 := hcm1.1
    go_enter Trym.func7, Trym.ntmps7
    go_wp2_with (go_at_call 21; go_in)
    refine (clone_any a0 len0 cap0 bs _ (by omega) hcm0).mono ?_
    rintro e w2 ⟨a0', rfl, hs0, hb0⟩
    go_wp2_with fail
    refine (clone_any a1 len1 cap1 q _ (by omega) (came_below hcm1 hb0)).mono ?_
    rintro e w3 ⟨a1', rfl, hs1, hb1⟩
    have hs0' := sees_below hs0 hb1
    have hb2 : Below w.heap.size w w3 := hb0.trans (hb1.mono hb0.size)
    clear hcm0 hcm1 hs0
    go_wp2_with fail
    refine (zzString_any a0' len0 len0 bs n _ hlen0 (by omega) (by omega) hq hs0').mono ?_
    rintro e w4 ⟨rfl, rfl⟩
    rw [Int.toNat_natCast]
    rcases Pl.strRes_cut bs (n + 1) with h1 | ⟨r, h1, hr1, hr2, hr3, hr4, hr5⟩
    · rw [h1]; clear h1
      go_wp2_with fail
      go_ret
      exact ⟨rfl, hb2⟩
    · rw [h1]
      have HR4 : Hid (Pl.strRes (bs.take (r + 1)) (n + 1) = r) := hr4
      have HR5 : Hid (Pl.strRes (bs.take (r + 1) ++ q) (n + 1) = r) := hr5 q
      rw [hlen0] at hr2
      obtain ⟨b, off, rfl⟩ := sees_addr hs0' (by omega)
      obtain ⟨c, C, hcell⟩ := byte_at hs0' r len0 hlen0
      have hc34 : c = 34 := C.out.trans hr3
      have hcr := hcell hr2
      rw [hc34] at hcr
      clear h1 hr3 hr4 hr5 C hcell hc34
      have hst := sees_take hs0' (r + 1)
      have hlt : (bs.take (r + 1)).length = r + 1 := by simp; omega
      have hlj : (bs.take (r + 1) ++ q).length = r + 1 + len1 := by simp [hlen1]; omega
      go_wp2_with fail
      refine (zzString_any (some ⟨b, off, none⟩) (r + 1) len0 (bs.take (r + 1)) n _ hlt (by omega) (by omega) (by omega) hst).mono ?_
      rintro e w4 ⟨rfl, rfl⟩
      rw [Int.toNat_natCast, HR4.out]
      have hrr : ((r : Int) == (r : Int)) = true := by simp
      go_wp2_with fail
      refine (join_any (some ⟨b, off, none⟩) a1' (r + 1) len0 len1 len1 (bs.take (r + 1)) q _ hlt hlen1 (by omega) hst hs1).mono ?_
      rintro e w5 ⟨a', rfl, hs, hb5⟩
      have hb6 : Below w.heap.size w w5 := hb2.trans (hb5.mono hb2.size)
      go_wp2_with fail
      refine (zzString_any a' (r + 1 + len1) (r + 1 + len1) (bs.take (r + 1) ++ q) n _ hlj (by omega) (by omega) (by omega) hs).mono ?_
      rintro e w6 ⟨rfl, rfl⟩
      rw [Int.toNat_natCast, HR5.out]
      go_wp2_with fail
      go_ret
      exact ⟨ret_b (by simp), hb6⟩
  · exact strCut_big a0 len0 cap0 a1 len1 cap1 a2 w hmax0 hmax1 hgood
end Go.Proofs.Qxb6000901aMods
