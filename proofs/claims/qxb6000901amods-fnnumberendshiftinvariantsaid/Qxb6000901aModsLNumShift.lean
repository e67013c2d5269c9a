import Derived.Test.Qxb6000901aModsWNumEnd
import Derived.Test.Qxb6000901aModsWJoin
import Derived.Test.Qxb6000901aModsPlainNumShift
namespace Go.Proofs.Qxb6000901aMods
open Go.RowKit

set_option maxHeartbeats 1000000 in
set_option maxRecDepth 100000 in
theorem numShift_big (a0 : Option Addr) (len0 cap0 : Nat) (a1 : Option Addr) (len1 cap1 : Nat) (a2 : Int) (w : World) (hmax0 : len0 ≤ 9223372036854775807) (hmax1 : len1 ≤ 9223372036854775807) (h : ¬ (len0 + len1 ≤ 1048576 ∧ 0 ≤ a2 ∧ a2 ≤ len1)) :
    Calls Trym.prog 4 #[.slice a0 len0 cap0, .slice a1 len1 cap1, .int .i64 a2] w fun e w' => e = .returned (.bool true) ∧ Below w.heap.size w w' := by
  by_cases h0 : len0 ≤ 1048576
  · by_cases h1 : len1 ≤ 1048576
    · by_cases h2 : len0 + len1 ≤ 1048576
      · by_cases h3 : a2 < 0
        · go_enter Trym.func4, Trym.ntmps4
          go_wp2
          go_ret
          exact ⟨rfl, Below.refl _ _⟩
        · have h4 : (len1 : Int) < a2 := by omega
          go_enter Trym.func4, Trym.ntmps4
          go_wp2
          go_ret
          exact ⟨rfl, Below.refl _ _⟩
      · go_enter Trym.func4, Trym.ntmps4
        go_wp2
        go_ret
        exact ⟨rfl, Below.refl _ _⟩
    · go_enter Trym.func4, Trym.ntmps4
      go_wp2
      go_ret
      exact ⟨rfl, Below.refl _ _⟩
  · go_enter Trym.func4, Trym.ntmps4
    go_wp2
    go_ret
    exact ⟨rfl, Below.refl _ _⟩

theorem ret_bool' {a b : Bool} (h : a = b) : Ending.returned (.bool a) = .returned (.bool b) := by rw [h]

set_option maxHeartbeats 1000000 in
set_option maxRecDepth 100000 in
theorem numShift_walk (a0 : Option Addr) (len0 cap0 : Nat) (a1 : Option Addr) (len1 cap1 : Nat) (p bs : List Int) (a2 : Int) (w : World) (hcm0 : Came w a0 len0 cap0 p) (hcm1 : Came w a1 len1 cap1 bs) (hmax0 : len0 ≤ maxLen) (hmax1 : len1 ≤ maxLen) :
    Calls Trym.prog 4 #[.slice a0 len0 cap0, .slice a1 len1 cap1, .int .i64 a2] w fun e w' => e = .returned (.bool true) ∧ Below w.heap.size w w' := by
  unfold maxLen at hmax0 hmax1
  by_cases hgood : len0 + len1 ≤ 1048576 ∧ 0 ≤ a2 ∧ a2 ≤ len1
  · obtain ⟨hb, hp, hq⟩ := hgood
    obtain ⟨n, rfl⟩ := Int.eq_ofNat_of_zero_le hp
    have hlen0 := hcm0.1
    have hlen1 := hcm1.1
    go_enter Trym.func4, Trym.ntmps4
    go_wp2_with (go_at_call 15; go_in)
    refine (clone_any a0 len0 cap0 p _ (by omega) hcm0).mono ?_
    rintro e w2 ⟨a0', rfl, hs0, hb0⟩
    go_wp2_with fail
    refine (clone_any a1 len1 cap1 bs _ (by omega) (came_below hcm1 hb0)).mono ?_
    rintro e w3 ⟨a1', rfl, hs1, hb1⟩
    have hs0' := sees_below hs0 hb1
    have hb2 : Below w.heap.size w w3 := hb0.trans (hb1.mono hb0.size)
    clear hcm0 hcm1 hs0
    go_wp2_with fail
    refine (zzNumber_any a1' len1 len1 bs n _ hlen1 (by omega) (by omega) hs1).mono ?_
    rintro e w4 ⟨rfl, rfl⟩
    rw [Int.toNat_natCast]
    have hlj : (p ++ bs).length = len0 + len1 := by simp [hlen0, hlen1]
    rcases Pl.numRes_shift p bs n with ⟨h1, h2⟩ | ⟨r, h1, hr, h2⟩
    · rw [h1]
      rw [hlen0] at h2
      have H2 : Hid (Pl.numRes (p ++ bs) (len0 + n) = -1) := h2
      clear h1 h2
      go_wp2_with fail
      refine (join_any a0' a1' len0 len0 len1 len1 p bs _ hlen0 hlen1 (by omega) hs0' hs1).mono ?_
      rintro e w5 ⟨a', rfl, hs, hb5⟩
      have hb6 : Below w.heap.size w w5 := hb2.trans (hb5.mono hb2.size)
      go_wp2_with fail
      refine (zzNumber_any a' (len0 + len1) (len0 + len1) (p ++ bs) _ _ hlj (by omega) (by omega) hs).mono ?_
      rintro e w6 ⟨rfl, rfl⟩
      rw [show ((len0 : Int) + (n : Int)).toNat = len0 + n from by omega, H2.out]
      go_wp2_with fail
      go_ret
      exact ⟨ret_bool' (by simp), hb6⟩
    · rw [h1]
      rw [hlen0] at h2
      rw [hlen1] at hr
      have H2 : Hid (Pl.numRes (p ++ bs) (len0 + n) = ((r + len0 : Nat) : Int)) := h2
      clear h1 h2
      go_wp2_with fail
      refine (join_any a0' a1' len0 len0 len1 len1 p bs _ hlen0 hlen1 (by omega) hs0' hs1).mono ?_
      rintro e w5 ⟨a', rfl, hs, hb5⟩
      have hb6 : Below w.heap.size w w5 := hb2.trans (hb5.mono hb2.size)
      go_wp2_with fail
      refine (zzNumber_any a' (len0 + len1) (len0 + len1) (p ++ bs) _ _ hlj (by omega) (by omega) hs).mono ?_
      rintro e w6 ⟨rfl, rfl⟩
      rw [show ((len0 : Int) + (n : Int)).toNat = len0 + n from by omega, H2.out]
      go_wp2_with fail
      go_ret
      exact ⟨ret_bool' (by simp), hb6⟩
  · exact numShift_big a0 len0 cap0 a1 len1 cap1 a2 w hmax0 hmax1 hgood
end Go.Proofs.Qxb6000901aMods
