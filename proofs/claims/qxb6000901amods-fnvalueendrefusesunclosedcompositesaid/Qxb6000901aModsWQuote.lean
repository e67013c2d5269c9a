import Derived.Test.Qxb6000901aModsWMem
import Derived.Test.Qxb6000901aModsPlainStr
import Derived.Deep.RegionLaw
import Derived.Deep.Light
namespace Go.Proofs.Qxb6000901aMods
open Go.RowKit

/-- append within the capacity, as one step of a region that draws. -/
theorem step_append_fits {P : Program} {ops : Array Oper} {o : Oper} {a : Act} {w : World} {K : Act → World → Prop} {Q : Exit → Act → World → Prop} {E : Prop}
    (hg : o.guard = none) (s x : Operand) (t : TypeId) (hop : o.op = Op.call { callee := Callee.builtin Builtin.append, args := #[s, x], argTypes := #[t, t] })
    (base : Nat) (e : TypeId) (i : TypeInfo) (size : Nat) (h1 : P.underlying t = some (.slice e)) (h2 : P.info? e = some i) (h4 : i.size = size)
    (g k cap : Nat) (xs : List Value) (hs : a.eval s = .slice (some ⟨g, 0, none⟩) k cap) (hown : w.ownsRow base e size (.slice (some ⟨g, 0, none⟩) k cap) k xs) (ad : Addr) (m c : Nat) (news : List Value) (hx : a.eval x = .slice (some ad) m c) (hn : news.length = m * size)
    (hc : ∀ j u, news[j]? = some u → w.cell? (ad.add j) = some u) (h1c : ∀ u ∈ news, u.oneCell' = true) (b1 : k + m ≤ cap)
    (hK : ∀ w', w'.ownsRow base e size (.slice (some ⟨g, 0, none⟩) (k + m) cap) (k + m) (xs ++ news) → w.grownBy w' (some g) → K (a.put o.dst (.slice (some ⟨g, 0, none⟩) (k + m) cap)) w') :
    if Region.wanted o (yielded ops a.tmps) = true then Oper.wp P o a w K Q else E := by
  have hw : Region.wanted o (yielded ops a.tmps) = true := by simp [Region.wanted, hg]
  rw [if_pos hw]
  obtain ⟨w', hrun, r1, r2⟩ := run_append_fits (P := P) w base t o.type e i size h1 h2 h4 g k cap xs hown ad m c news hn hc h1c b1
  unfold Oper.wp
  simp [execOp, hop, resolve, invoke, builtin, hs, hx, hrun, Result.andThen]
  exact hK w' r1 r2

/-- The cells of a block that has just been laid. -/
theorem cells_new (w : World) (L : List Value) (t : TypeId) : ∀ j u, L[j]? = some u → (w.alloc (.cells L.toArray t)).cell? ((⟨w.heap.size, 0, none⟩ : Addr).add j) = some u := by
  intro j u hu
  have e : (⟨w.heap.size, 0, none⟩ : Addr).add j = ⟨w.heap.size, j, none⟩ := by
    by_cases h0 : j = 0
    · subst h0; simp [Addr.add]
    · simp [Addr.add, h0]
  rw [e, World.cell?_alloc_at _ _ _ _ rfl]
  simpa using hu

/-- The bytes as cells. -/
def B8 (l : List Int) : List Value := l.map (Value.int .u8)
theorem B8_app (a b : List Int) : B8 a ++ B8 b = B8 (a ++ b) := by simp [B8]
theorem B8_one (l : List Int) : ∀ u ∈ B8 l, u.oneCell' = true := ints_oneCell _ _
theorem B8_len (l : List Int) : (B8 l).length = l.length * 1 := by simp [B8]

theorem and15n : ∀ m : Nat, m < 32 → bits BinOp.and IntKind.u8 (m : Int) 15 = (m : Int) % 16 := by decide
theorem and15 (c : Int) (h0 : 0 ≤ c) (h1 : c < 32) : bits BinOp.and IntKind.u8 c 15 = c % 16 := by
  obtain ⟨m, rfl⟩ := Int.eq_ofNat_of_zero_le h0
  exact and15n m (by omega)

theorem hexAtN (m : Nat) (hm : m < 16) : ∀ h, (((⟨#[48, 49, 50, 51, 52, 53, 54, 55, 56, 57, 97, 98, 99, 100, 101, 102]⟩ : ByteArray)[m]'h).toNat : Int) = Pl.hexd m :=
  match m, hm with
  | 0, _ => fun _ => rfl
  | 1, _ => fun _ => rfl
  | 2, _ => fun _ => rfl
  | 3, _ => fun _ => rfl
  | 4, _ => fun _ => rfl
  | 5, _ => fun _ => rfl
  | 6, _ => fun _ => rfl
  | 7, _ => fun _ => rfl
  | 8, _ => fun _ => rfl
  | 9, _ => fun _ => rfl
  | 10, _ => fun _ => rfl
  | 11, _ => fun _ => rfl
  | 12, _ => fun _ => rfl
  | 13, _ => fun _ => rfl
  | 14, _ => fun _ => rfl
  | 15, _ => fun _ => rfl
  | _ + 16, h => absurd h (by omega)
theorem hexAt (x : Int) (h0 : 0 ≤ x) (h1 : x < 16) : ∀ h, (((⟨#[48, 49, 50, 51, 52, 53, 54, 55, 56, 57, 97, 98, 99, 100, 101, 102]⟩ : ByteArray)[x.toNat]'h).toNat : Int) = Pl.hexd x := by
  obtain ⟨m, rfl⟩ := Int.eq_ofNat_of_zero_le h0
  exact hexAtN m (by omega)

theorem encAll_app : ∀ a b : List Int, Pl.encAll (a ++ b) = Pl.encAll a ++ Pl.encAll b
  | [], b => rfl
  | c :: r, b => by rw [List.cons_append, Pl.encAll, Pl.encAll, encAll_app r b, List.append_assoc]

theorem enc_step {X : List Value} {s e : List Int} {k : Nat} {c : Int} (HX : Hid (X = B8 (34 :: Pl.encAll (s.take k)))) (C : Hid (c = s.getD k 0)) (hk : k < s.length) (he : Pl.enc c = e) :
    Hid (X ++ B8 e = B8 (34 :: Pl.encAll (s.take (k + 1)))) := by
  show _ = _
  have h1 : s.take (k + 1) = s.take k ++ [s.getD k 0] := by
    rw [List.take_succ_eq_append_getElem hk]; simp [List.getD, hk]
  rw [HX.out, B8_app, h1, encAll_app, ← he, C.out]
  simp [Pl.encAll]

theorem sees_addr' {w : World} {a : Option Addr} {bs : List Int} (h : Sees w a bs) (hn : 0 < bs.length) : ∃ b off, a = some ⟨b, off, none⟩ := by
  rcases h with rfl | ⟨b, off, rfl, _⟩
  · simp at hn
  · exact ⟨b, off, rfl⟩

theorem own_grown {B g : Nat} {w wr w' : World} (hb : Below B w wr) (hB : B = w.heap.size) (ho : B ≤ g) (o : Obj) (hg : (wr.alloc o).grownBy w' (some g)) : Below B w w' := by
  have hsz := hb.size
  exact (hb.alloc (by omega) o).grown hg (by have := (World.grownBy_alloc wr o none).size; omega) (fun k hk => by cases hk; exact ho)

theorem drew_grown {w w' : World} {row : Option Nat} (h : w.drew.grownBy w' row) : w.grownBy w' row := ⟨h.os, h.tape, h.output, h.size, h.block⟩

set_option maxHeartbeats 1000000 in
set_option maxRecDepth 100000 in
theorem quote_some (a : Option Addr) (len cap : Nat) (s : List Int) (w : World) (hlen : s.length = len) (hm : len ≤ 1073741824) (hr : ∀ c ∈ s, 0 ≤ c ∧ c ≤ 255) (hs : Sees w a s) :
    Calls Trym.prog 19 #[.slice a len cap] w fun e w' => e = .returned (.slice (some ⟨w.heap.size, 0, none⟩) (Pl.quote s).length (2 + 6 * len)) ∧ w'.ownsRow w.heap.size 5 1 (.slice (some ⟨w.heap.size, 0, none⟩) (Pl.quote s).length (2 + 6 * len)) (Pl.quote s).length (B8 (Pl.quote s)) ∧ Below w.heap.size w w' := by
  obtain ⟨i0, hi, hz0, hz1, hz2⟩ := info_parts Trym.info5
  go_enter Trym.func19, Trym.ntmps19
  go_wp2_with (first
    | (at_make; refine wpList_make_own _ rfl _ _ 22 rfl w.heap.size 5 i0 (.int .u8 0) 1 Trym.underlying22 hi hz0 hz1 _ _ _ (2 + 6 * len) rfl rfl (by omega) (by rw [hz2]; omega) (by unfold maxLen; omega) (Nat.le_refl _) ?_; intro w1 hown1 hgrow1)
    | (at_builtin; refine wpList_append_fits _ rfl (.tmp 11) (.tmp 12) 22 rfl w.heap.size 5 i0 1 Trym.underlying22 hi hz1 w.heap.size 0 (2 + 6 * len) [] rfl (hown1.alloc _) ⟨w1.heap.size, 0, none⟩ 1 1 (B8 [34]) rfl (B8_len _) (cells_new w1 (B8 [34]) 5) (B8_one _) (by omega) ?_; intro w2 hown2 hgrow2; simp only [Nat.zero_add, List.nil_append] at hown2))
  have hB2 : Below w.heap.size w w2 := own_grown (below_grown hgrow1) rfl (Nat.le_refl _) _ hgrow2
  clear hown1 hgrow1 hgrow2
  go_loopw [3, 4, 5] (fun o t _ wr => ∃ (k n : Nat) (X : List Value), o = .slice (some ⟨w.heap.size, 0, none⟩) n (2 + 6 * len) ∧ t = .int .i64 k ∧ k ≤ len ∧ n ≤ 1 + 6 * k ∧ wr.ownsRow w.heap.size 5 1 (.slice (some ⟨w.heap.size, 0, none⟩) n (2 + 6 * len)) n X ∧ Hid (X = B8 (34 :: Pl.encAll (s.take k))) ∧ Below w.heap.size w wr) (fun _ t _ _ => len - (intOf t).toNat)
  case atStart => exact ⟨0, 1, B8 [34], rfl, rfl, by omega, by omega, hown2, rfl, hB2⟩
  case round =>
    obtain ⟨k, n, X, rfl, rfl, hkl, hn, hown, HX, hB⟩ := hrel
    clear hown2 hB2
    by_cases hk : k < len
    · obtain ⟨b, off, rfl⟩ := sees_addr' hs (by omega)
      obtain ⟨c, C, hcell0⟩ := byte_at (sees_below hs hB) k len hlen
      have hcell := hcell0 hk
      have hc0 : 0 ≤ c ∧ c ≤ 255 := hr c (by rw [C.out]; simp [List.getD, show k < s.length by omega])
      clear hcell0
      by_cases h1 : c = 34
      · have hE := enc_step (e := [92, 34]) HX C (by omega) (by rw [Pl.enc, if_pos h1])
        have hb1 : (c == 34) = true := by simp [h1]
        clear h1
        go_wp2_with (at_builtin; refine wpList_append_fits _ rfl (.tmp 31) (.tmp 32) 22 rfl w.heap.size 5 i0 1 Trym.underlying22 hi hz1 w.heap.size n (2 + 6 * len) X rfl (hown.alloc _) ⟨wr.heap.size, 0, none⟩ 2 2 (B8 [92, 34]) rfl (B8_len _) (cells_new wr (B8 [92, 34]) 5) (B8_one _) (by omega) ?_; intro w3 hown3 hgrow3)
        have hB3 : Below w.heap.size w w3 := own_grown hB rfl (Nat.le_refl _) _ hgrow3
        go_roundw
        case rel => exact ⟨k + 1, n + 2, _, rfl, by go_num, by omega, by omega, hown3, hE, hB3⟩
        case measure => simp [intOf]; omega
      · have hb1 : (c == 34) = false := by simp [h1]
        by_cases h2 : c = 92
        · have hE := enc_step (e := [92, 92]) HX C (by omega) (by rw [Pl.enc, if_neg h1, if_pos h2])
          have hb2 : (c == 92) = true := by simp [h2]
          clear h1 h2
          go_wp2_with (at_builtin; refine wpList_append_fits _ rfl (.tmp 37) (.tmp 38) 22 rfl w.heap.size 5 i0 1 Trym.underlying22 hi hz1 w.heap.size n (2 + 6 * len) X rfl (hown.alloc _) ⟨wr.heap.size, 0, none⟩ 2 2 (B8 [92, 92]) rfl (B8_len _) (cells_new wr (B8 [92, 92]) 5) (B8_one _) (by omega) ?_; intro w3 hown3 hgrow3)
          have hB3 : Below w.heap.size w w3 := own_grown hB rfl (Nat.le_refl _) _ hgrow3
          go_roundw
          case rel => exact ⟨k + 1, n + 2, _, rfl, by go_num, by omega, by omega, hown3, hE, hB3⟩
          case measure => simp [intOf]; omega
        · have hb2 : (c == 92) = false := by simp [h2]
          by_cases h3 : c < 32
          · have hE := enc_step (e := [92, 117, 48, 48, Pl.hexd (c / 16), Pl.hexd (c % 16)]) HX C (by omega) (by rw [Pl.enc, if_neg h1, if_neg h2, if_pos h3])
            clear h1 h2
            have hand : bits BinOp.and IntKind.u8 c 15 = c % 16 := and15 c hc0.1 h3
            have d1 : 0 ≤ c / 16 := by omega
            have d2 : c / 16 < 16 := by omega
            have d3 : 0 ≤ c % 16 := by omega
            have d4 : c % 16 < 16 := by omega
            have x1 := hexAt (c / 16) d1 d2
            have x2 := hexAt (c % 16) d3 d4
            have HC : Hid (∀ j u, (B8 [92, 117, 48, 48, Pl.hexd (c / 16), Pl.hexd (c % 16)])[j]? = some u → (wr.alloc (.cells (B8 [92, 117, 48, 48, Pl.hexd (c / 16), Pl.hexd (c % 16)]).toArray 5)).cell? ((⟨wr.heap.size, 0, none⟩ : Addr).add j) = some u) := cells_new wr _ 5
            go_wp2_with fail
            go_region_law (refine step_append_fits rfl (.tmp 43) (.tmp 50) 22 rfl w.heap.size 5 i0 1 Trym.underlying22 hi hz1 w.heap.size n (2 + 6 * len) X (by simp [Act.eval]) (hown.alloc _).drew ⟨wr.heap.size, 0, none⟩ 6 6 (B8 [92, 117, 48, 48, Pl.hexd (c / 16), Pl.hexd (c % 16)]) (by simp [Act.eval]) (B8_len _) HC.out (B8_one _) (by omega) ?_; intro w3 hown3 hgrow3)
            all_goals
              have hB3 : Below w.heap.size w w3 := own_grown hB rfl (Nat.le_refl _) _ (drew_grown hgrow3)
              clear x1 x2 hand
              go_wp2
              go_roundw
              case rel => exact ⟨k + 1, n + 6, _, rfl, by go_num, by omega, by omega, hown3, hE, hB3⟩
              case measure => simp [intOf]; omega
          · have hE := enc_step (e := [c]) HX C (by omega) (by rw [Pl.enc, if_neg h1, if_neg h2, if_neg h3])
            clear h1 h2
            go_wp2_with (at_builtin; refine wpList_append_fits _ rfl (.tmp 24) (.tmp 26) 22 rfl w.heap.size 5 i0 1 Trym.underlying22 hi hz1 w.heap.size n (2 + 6 * len) X rfl (hown.alloc _) ⟨wr.heap.size, 0, none⟩ 1 1 (B8 [c]) rfl (B8_len _) (cells_new wr (B8 [c]) 5) (B8_one _) (by omega) ?_; intro w3 hown3 hgrow3)
            have hB3 : Below w.heap.size w w3 := own_grown hB rfl (Nat.le_refl _) _ hgrow3
            go_roundw
            case rel => exact ⟨k + 1, n + 1, _, rfl, by go_num, by omega, by omega, hown3, hE, hB3⟩
            case measure => simp [intOf]; omega
    · obtain rfl : k = len := by omega
      have hfin : Hid (X ++ B8 [34] = B8 (Pl.quote s)) := by
        show _ = _
        rw [HX.out, B8_app, ← hlen, List.take_length]; rfl
      have hnl : n + 1 = (Pl.quote s).length := by
        have h1 := hown.1
        rw [HX.out] at h1
        simp [B8, ← hlen, Pl.quote] at h1 ⊢
        omega
      have HN : Hid (n + 1 = (Pl.quote s).length) := hnl
      clear hnl
      go_wp2_with (at_builtin; refine wpList_append_fits _ rfl (.tmp 52) (.tmp 53) 22 rfl w.heap.size 5 i0 1 Trym.underlying22 hi hz1 w.heap.size n (2 + 6 * k) X rfl (hown.alloc _) ⟨wr.heap.size, 0, none⟩ 1 1 (B8 [34]) rfl (B8_len _) (cells_new wr (B8 [34]) 5) (B8_one _) (by omega) ?_; intro w3 hown3 hgrow3)
      have hB3 : Below w.heap.size w w3 := own_grown hB rfl (Nat.le_refl _) _ hgrow3
      rw [hfin.out] at hown3
      go_ret
      rw [← HN.out]
      exact ⟨rfl, hown3, hB3⟩
end Go.Proofs.Qxb6000901aMods
