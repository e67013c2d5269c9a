import Derived.Test.Qxb6000901aModsWValEnd
namespace Go.Proofs.Qxb6000901aMods
open Go.RowKit

set_option maxHeartbeats 1000000 in
set_option maxRecDepth 100000 in
theorem valTrunc_walk (a0 : Option Addr) (len0 cap0 : Nat) (bs : List Int) (a1 : Int) (w : World) (hcm : Came w a0 len0 cap0 bs) (hmax : len0 ≤ maxLen) :
    Calls Trym.prog 10 #[.slice a0 len0 cap0, .int .i64 a1] w fun e w' => e = .returned (.bool true) ∧ Below w.heap.size w w' := by
  unfold maxLen at hmax
  by_cases hbig : len0 ≤ 1048576
  · by_cases hneg : a1 < 0
    · clear hcm
      go_enter Trym.func10, Trym.ntmps10
      go_wp2
      go_ret
      exact ⟨rfl, Below.refl _ _⟩
    · obtain ⟨n, rfl⟩ := Int.eq_ofNat_of_zero_le (show 0 ≤ a1 by omega)
      have hlen := hcm.1
      have hrg := hcm.2.1
      go_enter Trym.func10, Trym.ntmps10
      go_wp2_with (first
        | (go_at_call 12; refine (clone_any a0 len0 cap0 bs _ (by omega) hcm).mono ?_; rintro e w2 ⟨a', rfl, hs, hb⟩)
        | (go_at_call 26; go_in))
      refine (zzValue_any a' len0 len0 bs n _ hlen (by omega) (Nat.le_refl _) (by omega) hrg hs).mono ?_
      rintro e w3 ⟨rfl, hb3⟩
      rw [Int.toNat_natCast]
      have hb4 : Below w.heap.size w w3 := hb.trans (hb3.mono hb.size)
      rcases Pl.valRes_trunc bs n with ⟨_, h⟩ | ⟨r, h, h1, h2, h3⟩
      · rw [h]; clear h
        go_wp2_with fail
        go_ret
        exact ⟨rfl, hb4⟩
      · rw [h]
        have H3 : Hid (Pl.valRes (bs.take r) n = r) := h3
        clear h h3
        have hs2 := sees_take (sees_below hs hb3) r
        have hrg2 : ∀ c ∈ bs.take r, 0 ≤ c ∧ c ≤ 255 := fun c hc => hrg c (List.mem_of_mem_take hc)
        rw [hlen] at h2
        have hlr : (bs.take r).length = r := by simp; omega
        go_wp2_with fail
        refine (zzValue_any a' r len0 (bs.take r) n _ hlr (by omega) (by omega) (by omega) hrg2 hs2).mono ?_
        rintro e w4 ⟨rfl, hb5⟩
        have hb6 : Below w.heap.size w w4 := hb4.trans (hb5.mono hb4.size)
        rw [Int.toNat_natCast, H3.out]
        go_wp2_with fail
        go_ret
        exact ⟨ret_b (by simp), hb6⟩
  · clear hcm
    go_enter Trym.func10, Trym.ntmps10
    go_wp2
    go_ret
    exact ⟨rfl, Below.refl _ _⟩
end Go.Proofs.Qxb6000901aMods
