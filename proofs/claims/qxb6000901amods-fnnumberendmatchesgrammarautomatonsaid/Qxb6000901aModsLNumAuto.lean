import Derived.Test.Qxb6000901aModsWNumEnd
import Derived.Test.Qxb6000901aModsWModel
namespace Go.Proofs.Qxb6000901aMods
open Go.RowKit

theorem beq_refl_int {a b : Int} (h : a = b) : Ending.returned (.bool (a == b)) = .returned (.bool true) := by rw [h]; simp

set_option maxHeartbeats 1000000 in
set_option maxRecDepth 100000 in
theorem numAuto_walk (a0 : Option Addr) (len0 cap0 : Nat) (bs : List Int) (a1 : Int) (w : World) (hcm : Came w a0 len0 cap0 bs) (hmax : len0 ≤ maxLen) :
    Calls Trym.prog 3 #[.slice a0 len0 cap0, .int .i64 a1] w fun e w' => e = .returned (.bool true) ∧ Below w.heap.size w w' := by
  unfold maxLen at hmax
  by_cases hbig : len0 ≤ 1048576
  · by_cases hneg : a1 < 0
    · clear hcm
      go_enter Trym.func3, Trym.ntmps3
      go_wp2
      go_ret
      exact ⟨rfl, Below.refl _ _⟩
    · obtain ⟨n, rfl⟩ := Int.eq_ofNat_of_zero_le (show 0 ≤ a1 by omega)
      have hlen := hcm.1
      have HE : Hid (Pl.numRes bs n = Pl.modRes bs n) := Pl.modRes_eq bs n
      go_enter Trym.func3, Trym.ntmps3
      go_wp2_with (go_at_call 11; go_in)
      refine (clone_any a0 len0 cap0 bs _ (by omega) hcm).mono ?_
      rintro e w2 ⟨a', rfl, hs, hb⟩
      go_wp2_with fail
      refine (zzNumber_any a' len0 len0 bs n _ hlen (by omega) (by omega) hs).mono ?_
      rintro e w3 ⟨rfl, rfl⟩
      rw [Int.toNat_natCast]
      go_wp2_with fail
      refine (model_any a' len0 len0 bs n _ hlen (by omega) (by omega) hs).mono ?_
      rintro e w4 ⟨rfl, rfl⟩
      rw [Int.toNat_natCast]
      go_wp2_with fail
      go_ret
      exact ⟨beq_refl_int HE.out, hb⟩
  · clear hcm
    go_enter Trym.func3, Trym.ntmps3
    go_wp2
    go_ret
    exact ⟨rfl, Below.refl _ _⟩
end Go.Proofs.Qxb6000901aMods
