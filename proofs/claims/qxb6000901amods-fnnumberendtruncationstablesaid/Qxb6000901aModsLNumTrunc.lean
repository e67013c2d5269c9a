import Derived.Test.Qxb6000901aModsWNumEnd
import Derived.Test.Qxb6000901aModsWMem
import Derived.Test.Qxb6000901aModsPlainNumLaws
namespace Go.Proofs.Qxb6000901aMods
open Go.RowKit

theorem ret_bool {a b : Bool} (h : a = b) : Ending.returned (.bool a) = .returned (.bool b) := by rw [h]

set_option maxHeartbeats 1000000 in
set_option maxRecDepth 100000 in
theorem numTrunc_walk (a0 : Option Addr) (len0 cap0 : Nat) (bs : List Int) (a1 : Int) (w : World) (hcm : Came w a0 len0 cap0 bs) (hmax : len0 ≤ maxLen) :
    Calls Trym.prog 5 #[.slice a0 len0 cap0, .int .i64 a1] w fun e w' => e = .returned (.bool true) ∧ Below w.heap.size w w' := by
  unfold maxLen at hmax
  by_cases hbig : len0 ≤ 1048576
  · by_cases hneg : a1 < 0
    · clear hcm
      go_enter Trym.func5, Trym.ntmps5
      go_wp2
      go_ret
      exact ⟨rfl, Below.refl _ _⟩
    · obtain ⟨n, rfl⟩ := Int.eq_ofNat_of_zero_le (show 0 ≤ a1 by omega)
      have hlen := hcm.1
      go_enter Trym.func5, Trym.ntmps5
      go_wp2_with (first
        | (go_at_call 12; refine (clone_any a0 len0 cap0 bs _ (by omega) hcm).mono ?_; rintro e w2 ⟨a', rfl, hs, hb⟩)
        | (go_at_call 17; go_in))
      refine (zzNumber_any a' len0 len0 bs n _ hlen (by omega) (by omega) hs).mono ?_
      rintro e w3 ⟨rfl, rfl⟩
      rw [Int.toNat_natCast]
      rcases Pl.numRes_trunc bs n with ⟨_, h⟩ | ⟨r, h, h1, h2, h3⟩
      · rw [h]; clear h
        go_wp2_with fail
        go_ret
        exact ⟨rfl, hb⟩
      · rw [h]
        have H3 : Hid (Pl.numRes (bs.take r) n = r) := h3
        clear h h3
        have hs2 := sees_take hs r
        rw [hlen] at h2
        have hlr : (bs.take r).length = r := by simp; omega
        go_wp2_with fail
        refine (zzNumber_any a' r len0 (bs.take r) n _ hlr (by omega) (by omega) hs2).mono ?_
        rintro e w3 ⟨rfl, rfl⟩
        rw [Int.toNat_natCast, H3.out]
        go_wp2_with fail
        go_ret
        exact ⟨ret_bool (by simp), hb⟩
  · clear hcm
    go_enter Trym.func5, Trym.ntmps5
    go_wp2
    go_ret
    exact ⟨rfl, Below.refl _ _⟩
end Go.Proofs.Qxb6000901aMods
