import Derived.Test.Qxb6000901aModsWMem
import Derived.Test.Qxb6000901aModsPlainVal
import Derived.Laws.BytesArg
import Derived.Laws.IdiomStrings
import Derived.Lib.Bytes
namespace Go.Proofs.Qxb6000901aMods
open Go.RowKit

theorem cell_sees {w : World} {b off : Nat} {bs : List Int} (hs : Sees w (some ⟨b, off, none⟩) bs) (len : Nat) (hlen : bs.length = len) : ∀ i, i < len → w.cell? ⟨b, off + i, none⟩ = some (.int .u8 (bs.getD i 0)) := by
  intro k hk
  obtain ⟨c, C, hc⟩ := byte_at hs k len hlen
  rw [hc hk, C.out]

theorem byte_inj : ∀ (p q : List Int), (∀ c ∈ p, 0 ≤ c ∧ c ≤ 255) → (∀ c ∈ q, 0 ≤ c ∧ c ≤ 255) → Lib.bytesOf p = Lib.bytesOf q → p = q
  | [], [], _, _, _ => rfl
  | [], _ :: _, _, _, h => by simp [Lib.bytesOf] at h
  | _ :: _, [], _, _, h => by simp [Lib.bytesOf] at h
  | a :: p, b :: q, hp, hq, h => by
    simp only [Lib.bytesOf, List.map_cons, List.cons.injEq] at h
    obtain ⟨h1, h2⟩ := h
    have ha := hp a (by simp)
    have hb := hq b (by simp)
    have h3 := congrArg UInt8.toNat h1
    simp only [UInt8.toNat_ofNat'] at h3
    have e : a = b := by omega
    rw [e, byte_inj p q (fun c hc => hp c (by simp [hc])) (fun c hc => hq c (by simp [hc])) h2]

theorem same_bytes {p q : List Int} (hp : ∀ c ∈ p, 0 ≤ c ∧ c ≤ 255) (hq : ∀ c ∈ q, 0 ≤ c ∧ c ≤ 255) : ((strOfNums p).toList == (strOfNums q).toList) = decide (p = q) := by
  rw [Bool.eq_iff_iff, Lib.strOfNums_toList, Lib.strOfNums_toList]
  simp only [beq_iff_eq, decide_eq_true_eq]
  exact ⟨byte_inj p q hp hq, fun h => by rw [h]⟩

theorem ret_b2 {a b : Bool} (h : a = b) : Ending.returned (.bool a) = .returned (.bool b) := by rw [h]

set_option maxRecDepth 100000 in
/-- bytes.Equal -/
theorem equal_some (b1 o1 n1 c1 b2 o2 n2 c2 : Nat) (p q : List Int) (w : World) (h1 : p.length = n1) (h2 : q.length = n2) (hp : ∀ c ∈ p, 0 ≤ c ∧ c ≤ 255) (hq : ∀ c ∈ q, 0 ≤ c ∧ c ≤ 255) (s1 : Sees w (some ⟨b1, o1, none⟩) p) (s2 : Sees w (some ⟨b2, o2, none⟩) q) :
    Calls Trym.prog 36 #[.slice (some ⟨b1, o1, none⟩) n1 c1, .slice (some ⟨b2, o2, none⟩) n2 c2] w fun e w' => e = .returned (.bool (decide (p = q))) ∧ w' = w := by
  have g1 := run_convert_bytes_arg (P := Trym.prog) w 22 5 Trym.underlying22 Trym.underlying5 b1 o1 n1 c1 p h1 (cell_sees s1 n1 h1) 9 Trym.underlying9
  have g2 := run_convert_bytes_arg (P := Trym.prog) w 22 5 Trym.underlying22 Trym.underlying5 b2 o2 n2 c2 q h2 (cell_sees s2 n2 h2) 9 Trym.underlying9
  go_enter Trym.func36, Trym.ntmps36
  go_wp2
  go_ret
  exact ⟨ret_b2 (same_bytes hp hq), rfl⟩

set_option maxRecDepth 100000 in
/-- bytes.HasPrefix -/
theorem prefix_some (b1 o1 n1 c1 b2 o2 n2 c2 : Nat) (p q : List Int) (w : World) (h1 : p.length = n1) (h2 : q.length = n2) (hc : n1 ≤ c1) (_hm1 : n1 ≤ 1073741824) (hm2 : n2 ≤ 1073741824) (hpos : 0 < n2) (hp : ∀ c ∈ p, 0 ≤ c ∧ c ≤ 255) (hq : ∀ c ∈ q, 0 ≤ c ∧ c ≤ 255) (s1 : Sees w (some ⟨b1, o1, none⟩) p) (s2 : Sees w (some ⟨b2, o2, none⟩) q) :
    Calls Trym.prog 35 #[.slice (some ⟨b1, o1, none⟩) n1 c1, .slice (some ⟨b2, o2, none⟩) n2 c2] w fun e w' => e = .returned (.bool (decide (p.take n2 = q))) ∧ w' = w := by
  by_cases hle : n2 ≤ n1
  · have hl : (p.take n2).length = n2 := by simp; omega
    have hp' : ∀ c ∈ p.take n2, 0 ≤ c ∧ c ≤ 255 := fun c hcm => hp c (List.mem_of_mem_take hcm)
    have s1' := sees_take s1 n2
    go_enter Trym.func35, Trym.ntmps35
    go_wp2_with (go_at_call 36; refine (equal_some b1 o1 n2 c1 b2 o2 n2 c2 (p.take n2) q _ hl h2 hp' hq s1' s2).mono ?_; rintro e w' ⟨rfl, rfl⟩)
    go_ret
    exact ⟨rfl, rfl⟩
  · have hf : decide (p.take n2 = q) = false := by
      simp only [decide_eq_false_iff_not]
      intro h
      have := congrArg List.length h
      simp at this
      omega
    rw [hf]
    clear hf
    go_enter Trym.func35, Trym.ntmps35
    go_wp2
    go_ret
    exact ⟨rfl, rfl⟩

theorem Laws.heapNew (w : World) (o : Obj) : (w.drew.alloc o).heap[w.heap.size]? = some o := by
  show (w.heap.push o)[w.heap.size]? = some o
  simp

theorem cell_block {w : World} {g k : Nat} {cs : Array Value} {t : TypeId} {fr : Nat × Nat} (h : w.heap[g]? = some (.cells cs t fr)) : w.cell? ⟨g, k, none⟩ = cs[k]? := by
  simp [World.cell?, h]

/-- '[]byte(s)' -/
theorem bytes_run (w : World) (s : ByteArray) (L : List Int) (hL : L = s.data.toList.map (fun b => (b.toNat : Int))) :
    ∃ w1 cp, Sem.run Trym.prog (convert 9 22 (.string s)) w = .ok (.slice (some ⟨w.heap.size, 0, none⟩) L.length cp) w1 ∧ Sees w1 (some ⟨w.heap.size, 0, none⟩) L ∧ Below w.heap.size w w1 := by
  have hr := run_bytes_of_string (P := Trym.prog) w 9 22 5 s Trym.underlying9 Trym.underlying22 Trym.underlying5
  have hsz : L.length = s.size := by rw [hL]; simp
  rw [hsz]
  refine ⟨_, _, hr, ?_, ?_⟩
  · refine .inr ⟨w.heap.size, 0, rfl, fun k hk => ?_⟩
    have hk' : k < s.data.size := by rw [hsz] at hk; exact hk
    rw [cell_block (Laws.heapNew w _), Nat.zero_add, bytesRow, Array.getElem?_append_left (by simpa using hk')]
    subst hL
    have e : s.data[k]? = some s.data[k] := Array.getElem?_eq_getElem hk'
    simp [List.getD, e]
  · exact (Below.refl _ _).drew.alloc (Nat.le_refl _) _

theorem sees_drop {w : World} {b off : Nat} {bs : List Int} (hs : Sees w (some ⟨b, off, none⟩) bs) (i : Nat) : Sees w (some ⟨b, off + i, none⟩) (bs.drop i) := by
  refine .inr ⟨b, off + i, rfl, fun k hk => ?_⟩
  simp only [List.length_drop] at hk
  have := cell_sees hs _ rfl (i + k) (by omega)
  rw [Nat.add_assoc, this]
  simp [List.getD, List.getElem?_drop]

set_option maxHeartbeats 400000 in
set_option maxRecDepth 100000 in
/-- literalEnd -/
theorem literal_some (b off cap len : Nat) (bs : List Int) (i : Nat) (s : ByteArray) (L : List Int) (w : World) (hlen : bs.length = len) (hm : len ≤ 1073741824) (hc : len ≤ cap) (hi : i < len) (hp : ∀ c ∈ bs, 0 ≤ c ∧ c ≤ 255)
    (hL : L = s.data.toList.map (fun b => (b.toNat : Int))) (hpos : 0 < L.length) (hl2 : L.length ≤ 1073741824) (hs : Sees w (some ⟨b, off, none⟩) bs) :
    Calls Trym.prog 34 #[.slice (some ⟨b, off, none⟩) len cap, .int .i64 i, .string s] w fun e w' => e = .returned (.int .i64 (Pl.res (Pl.litEnd bs i L))) ∧ Below w.heap.size w w' := by
  obtain ⟨w1, cp, hcv, hsL, hb1⟩ := bytes_run w s L hL
  have hs1 := sees_drop (sees_below hs hb1) i
  have hq : ∀ c ∈ L, 0 ≤ c ∧ c ≤ 255 := by
    intro c hcm
    rw [hL] at hcm
    obtain ⟨u, _, rfl⟩ := List.mem_map.1 hcm
    have := u.toNat_lt
    omega
  have hp' : ∀ c ∈ bs.drop i, 0 ≤ c ∧ c ≤ 255 := fun c hcm => hp c (List.mem_of_mem_drop hcm)
  have hld : (bs.drop i).length = len - i := by simp; omega
  have hss : s.size = L.length := by rw [hL]; simp
  have HSS : Hid (s.size = L.length) := hss
  obtain ⟨m, hmL⟩ : ∃ m, L.length = m := ⟨_, rfl⟩
  rw [hmL] at hcv hpos hl2 HSS
  have hsb : s.size ≤ 1073741824 := by rw [HSS.out]; exact hl2
  by_cases hyes : (bs.drop i).take m = L
  · have HR : Hid (Pl.res (Pl.litEnd bs i L) = ((i + m : Nat) : Int)) := by
      show _ = _
      rw [Pl.litEnd, hmL, if_pos hyes]; rfl
    have HD : Hid (decide ((bs.drop i).take m = L) = true) := by simp [Hid, hyes]
    clear hyes hL hss
    go_enter Trym.func34, Trym.ntmps34
    go_wp2_with (go_at_call 35; refine (prefix_some b (off + i) (len - i) (cap - i) w.heap.size 0 m cp (bs.drop i) L _ hld hmL (by omega) (by omega) (by omega) hpos hp' hq hs1 hsL).mono ?_; rintro e w' ⟨rfl, rfl⟩; rw [HD.out])
    go_ret
    exact ⟨ret_i64 (by rw [HR.out, HSS.out]; omega), hb1⟩
  · have HR : Hid (Pl.res (Pl.litEnd bs i L) = -1) := by
      show _ = _
      rw [Pl.litEnd, hmL, if_neg hyes]; rfl
    have HD : Hid (decide ((bs.drop i).take m = L) = false) := by simp [Hid, hyes]
    clear hyes hL hss
    go_enter Trym.func34, Trym.ntmps34
    go_wp2_with (go_at_call 35; refine (prefix_some b (off + i) (len - i) (cap - i) w.heap.size 0 m cp (bs.drop i) L _ hld hmL (by omega) (by omega) (by omega) hpos hp' hq hs1 hsL).mono ?_; rintro e w' ⟨rfl, rfl⟩; rw [HD.out])
    go_ret
    exact ⟨ret_i64 HR.out.symm, hb1⟩
end Go.Proofs.Qxb6000901aMods
