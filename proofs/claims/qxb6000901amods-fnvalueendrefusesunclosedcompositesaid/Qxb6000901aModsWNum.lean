import Derived.Test.Qxb6000901aModsRows
import Derived.Test.Qxb6000901aModsPlainNum
import Derived.WalkKit
namespace Go.Proofs.Qxb6000901aMods
open Go.RowKit

/-- THE BYTES 'bs' LIE FROM THE ADDRESS 'a' ON. (Of no byte nothing is said.) -/
def Sees (w : World) (a : Option Addr) (bs : List Int) : Prop :=
  bs = [] ∨ ∃ b off, a = some ⟨b, off, none⟩ ∧ ∀ k, k < bs.length → w.cell? ⟨b, off + k, none⟩ = some (.int .u8 (bs.getD k 0))

theorem ret_i64 {a b : Int} (h : a = b) : Ending.returned (.int .i64 a) = .returned (.int .i64 b) := by rw [h]

/-- One byte, by a name of its own. -/
theorem byte_at {w : World} {b off : Nat} {bs : List Int} (hs : Sees w (some ⟨b, off, none⟩) bs) (k len : Nat) (hlen : bs.length = len) :
    ∃ c, Hid (c = bs.getD k 0) ∧ (k < len → w.cell? ⟨b, off + k, none⟩ = some (.int .u8 c)) := by
  refine ⟨_, rfl, fun h => ?_⟩
  rcases hs with rfl | ⟨b', off', e, hc⟩
  · simp at hlen; omega
  · simp only [Option.some.injEq, Addr.mk.injEq] at e
    obtain ⟨rfl, rfl, _⟩ := e
    exact hc k (by omega)

theorem has_in {bs : List Int} {k len : Nat} {c : Int} (C : Hid (c = bs.getD k 0)) (hlen : bs.length = len) (h : k < len) (x : Int) : (c == x) = Pl.has bs k x := by
  rw [Bool.eq_iff_iff, Pl.has_iff, ← C.out]; simp; omega
theorem has_out {bs : List Int} {k len : Nat} (hlen : bs.length = len) (h : ¬ k < len) (x : Int) : false = Pl.has bs k x := by
  rw [Bool.eq_iff_iff, Pl.has_iff]; simp; omega
theorem has_no {bs : List Int} {k : Nat} {x : Int} (h : ¬ (k < bs.length ∧ bs.getD k 0 = x)) : Pl.has bs k x = false := by
  rw [Bool.eq_false_iff, Ne, Pl.has_iff]; exact h

set_option maxHeartbeats 400000 in
theorem digits_some (b off cap len : Nat) (bs : List Int) (i : Nat) (w : World) (hlen : bs.length = len) (hm : len ≤ 1073741824)
    (hs : Sees w (some ⟨b, off, none⟩) bs) :
    Calls Trym.prog 31 #[.slice (some ⟨b, off, none⟩) len cap, .int .i64 i] w fun e w' => e = .returned (.int .i64 (Pl.dEnd bs i)) ∧ w' = w := by
  go_enter Trym.func31, Trym.ntmps31
  go_wp2
  go_loop [1] (fun t => ∃ k : Nat, t = .int .i64 k ∧ Hid (Pl.dEnd bs k = Pl.dEnd bs i)) (fun t => len - (intOf t).toNat)
  case atStart => exact ⟨i, rfl, rfl⟩
  case round =>
    obtain ⟨k, rfl, H⟩ := hrel
    obtain ⟨c, C, hcell⟩ := byte_at hs k len hlen
    go_wp2
    · have hk : k < len := by assumption
      have h1 : 48 ≤ c := by assumption
      have h2 : c ≤ 57 := by assumption
      go_round
      case rel => exact ⟨k + 1, by go_num, (Pl.dEnd_yes bs k (by omega) (C.out ▸ h1) (C.out ▸ h2)).trans H.out⟩
      case measure => simp [intOf]; omega
    · have hk : k < len := by assumption
      have h2 : 57 < c := by assumption
      go_ret
      exact ⟨ret_i64 (by rw [← H.out, Pl.dEnd_no bs k (by omega) (by rw [← C.out]; omega)]), rfl⟩
    · have hk : k < len := by assumption
      have h2 : c < 48 := by assumption
      go_ret
      exact ⟨ret_i64 (by rw [← H.out, Pl.dEnd_no bs k (by omega) (by rw [← C.out]; omega)]), rfl⟩
    · have hk : ¬ k < len := by assumption
      go_ret
      exact ⟨ret_i64 (by rw [← H.out, Pl.dEnd_out bs k (by omega)]), rfl⟩

theorem digits_none (a : Option Addr) (cap : Nat) (i : Nat) (w : World) :
    Calls Trym.prog 31 #[.slice a 0 cap, .int .i64 i] w fun e w' => e = .returned (.int .i64 i) ∧ w' = w := by
  go_enter Trym.func31, Trym.ntmps31
  go_wp2
  refine wp_loop_rounds 1 ?_
  rw [rounds_succ]
  go_wp2
  go_ret
  exact ⟨rfl, rfl⟩

/-- digitsEnd -/
theorem digits_any (a : Option Addr) (len cap : Nat) (bs : List Int) (i : Int) (w : World) (hlen : bs.length = len) (hm : len ≤ 1073741824) (h0 : 0 ≤ i) (hs : Sees w a bs) :
    Calls Trym.prog 31 #[.slice a len cap, .int .i64 i] w fun e w' => e = .returned (.int .i64 (Pl.dEnd bs i.toNat)) ∧ w' = w := by
  obtain ⟨n, rfl⟩ := Int.eq_ofNat_of_zero_le h0
  rw [Int.toNat_natCast]
  have hs0 := hs
  rcases hs with rfl | ⟨b, off, rfl, hc⟩
  · obtain rfl : len = 0 := by simpa using hlen.symm
    rw [Pl.dEnd_out [] n (by simp)]
    exact digits_none a cap n w
  · exact digits_some b off cap len bs n w hlen hm hs0

end Go.Proofs.Qxb6000901aMods
