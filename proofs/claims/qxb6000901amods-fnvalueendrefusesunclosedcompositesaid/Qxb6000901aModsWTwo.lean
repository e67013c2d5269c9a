import Derived.Test.Qxb6000901aModsWQuote
import Derived.Test.Qxb6000901aModsPlainComp
import Derived.ArgAppend
import Derived.WalkSmall
/- TWO ROWS OF THE CALL's OWN, BOTH APPENDED TO: which block an append leaves is told, so that the two stay apart. -/
namespace Go.Proofs.Qxb6000901aMods
open Go.RowKit

theorem own_base {w : World} {B B' g n cap : Nat} {xs : List Value} (h : w.ownsRow B 5 1 (.slice (some ⟨g, 0, none⟩) n cap) n xs) (hB : B' ≤ B) : w.ownsRow B' 5 1 (.slice (some ⟨g, 0, none⟩) n cap) n xs := by
  obtain ⟨h1, h2 | ⟨g', cap', cur, hv, hb, hh, hr⟩⟩ := h
  · exact ⟨h1, .inl h2⟩
  · exact ⟨h1, .inr ⟨g', cap', cur, hv, by omega, hh, hr⟩⟩

theorem own_form {w : World} {B n : Nat} {v : Value} {xs : List Value} (h : w.ownsRow B 5 1 v n xs) (hn : 0 < n) : ∃ g cap, v = .slice (some ⟨g, 0, none⟩) n cap := by
  rcases h.2 with ⟨_, h0⟩ | ⟨g, cap, _, hv, _⟩
  · omega
  · exact ⟨g, cap, hv⟩

theorem append_run (w : World) (B g n cap : Nat) (xs : List Value) (hown : w.ownsRow B 5 1 (.slice (some ⟨g, 0, none⟩) n cap) n xs) (ty : TypeId) (ad : Addr) (m c : Nat) (news : List Value) (hn : news.length = m * 1)
    (hc : ∀ j u, news[j]? = some u → w.cell? (ad.add j) = some u) (h1 : ∀ u ∈ news, u.oneCell' = true) (hbig : n + m ≤ 1073741824) (hpos : 0 < n + m) (hB : B ≤ w.heap.size) :
    ∃ g' cap' w', Sem.run Trym.prog (Builtin.append_ #[22, 22] ty #[.slice (some ⟨g, 0, none⟩) n cap, .slice (some ad) m c]) w = .ok (.slice (some ⟨g', 0, none⟩) (n + m) cap') w' ∧
      w'.ownsRow B 5 1 (.slice (some ⟨g', 0, none⟩) (n + m) cap') (n + m) (xs ++ news) ∧ w.grownBy w' (some g) ∧ (g' = g ∨ w.heap.size ≤ g') := by
  obtain ⟨i0, hi, hz0, hz1, hz2⟩ := info_parts Trym.info5
  by_cases hroom : n + m ≤ cap
  · obtain ⟨w', hrun, r1, r2⟩ := run_append_fits (P := Trym.prog) w B 22 ty 5 i0 1 Trym.underlying22 hi hz1 g n cap xs hown ad m c news hn hc h1 hroom
    exact ⟨g, cap, w', hrun, r1, r2, .inl rfl⟩
  · obtain ⟨v', w', hrun, r1, r2⟩ := run_append_arg_grows (P := Trym.prog) w 22 ty 5 i0 (.int .u8 0) 1 1 Trym.underlying22 hi hz0 hz1 hz2 rfl (by decide) ⟨g, 0, none⟩ n cap xs hown.1 (fun j u hj => hown.cells rfl j u hj) ad m c news hn hc (by omega) (by unfold maxLen; omega) (by omega)
    obtain ⟨g', cap', rfl⟩ := own_form r1 hpos
    have hlt := r1.lt g' rfl
    exact ⟨g', cap', w', hrun, own_base r1 hB, ⟨r2.os, r2.tape, r2.output, r2.size, fun k hk _ => r2.block k hk (by simp)⟩, .inr hlt.1⟩

theorem wpList_append_two {w : World} {ops : Array Oper} {rest : List Oper} {o : Oper} {a : Act} {Q : Exit → Act → World → Prop} (hg : o.guard = none) (s x : Operand)
    (hop : o.op = Op.call { callee := Callee.builtin Builtin.append, args := #[s, x], argTypes := #[22, 22] }) (B g n cap : Nat) (xs : List Value) (hs : a.eval s = .slice (some ⟨g, 0, none⟩) n cap)
    (hown : w.ownsRow B 5 1 (.slice (some ⟨g, 0, none⟩) n cap) n xs) (ad : Addr) (m c : Nat) (news : List Value) (hx : a.eval x = .slice (some ad) m c) (hn : news.length = m * 1)
    (hc : ∀ j u, news[j]? = some u → w.cell? (ad.add j) = some u) (h1 : ∀ u ∈ news, u.oneCell' = true) (hbig : n + m ≤ 1073741824) (hpos : 0 < n + m) (hB : B ≤ w.heap.size)
    (hK : ∀ g' cap' w', w'.ownsRow B 5 1 (.slice (some ⟨g', 0, none⟩) (n + m) cap') (n + m) (xs ++ news) → w.grownBy w' (some g) → (g' = g ∨ w.heap.size ≤ g') → wpList Trym.prog ops Q rest (a.put o.dst (.slice (some ⟨g', 0, none⟩) (n + m) cap')) w') :
    wpList Trym.prog ops Q (o :: rest) a w := by
  refine wpList_plain hg fun K hK' => ?_
  obtain ⟨g', cap', w', hrun, r1, r2, r3⟩ := append_run w B g n cap xs hown o.type ad m c news hn hc h1 hbig hpos hB
  unfold Oper.wp
  simp [execOp, hop, resolve, invoke, builtin, hs, hx, hrun, Result.andThen]
  exact hK' _ _ (hK g' cap' w' r1 r2 r3)

/-- The two rows: what is laid ('O'), and the closers ('S', the innermost first; in memory it is the last). -/
structure Two (w wr : World) (gO nO cO : Nat) (O : List Int) (gS nS cS : Nat) (S : List Int) : Prop where
  out : wr.ownsRow w.heap.size 5 1 (.slice (some ⟨gO, 0, none⟩) nO cO) nO (B8 O)
  stk : wr.ownsRow w.heap.size 5 1 (.slice (some ⟨gS, 0, none⟩) nS cS) nS (B8 S.reverse)
  ne : gO ≠ gS
  below : Below w.heap.size w wr

theorem Two.alloc {w wr : World} {gO nO cO gS nS cS : Nat} {O S : List Int} (h : Two w wr gO nO cO O gS nS cS S) (o : Obj) : Two w (wr.alloc o) gO nO cO O gS nS cS S :=
  ⟨h.out.alloc o, h.stk.alloc o, h.ne, h.below.alloc h.below.size o⟩

theorem grown_of_below {w w' : World} (h : Below w.heap.size w w') : w.grownBy w' none := ⟨h.os, h.tape, h.output, h.size, fun k hk _ => h.block k hk⟩

theorem Two.past {w wr w' : World} {gO nO cO gS nS cS : Nat} {O S : List Int} (h : Two w wr gO nO cO O gS nS cS S) (hb : Below wr.heap.size wr w') : Two w w' gO nO cO O gS nS cS S :=
  ⟨h.out.kept (grown_of_below hb) (.inr (by simp [Value.ownBlock])), h.stk.kept (grown_of_below hb) (.inr (by simp [Value.ownBlock])), h.ne, h.below.trans (hb.mono h.below.size)⟩

theorem Two.laid {w wr w' : World} {gO nO cO gS nS cS : Nat} {O S : List Int} (h : Two w wr gO nO cO O gS nS cS S) {g' n' c' : Nat} {O' : List Int} (ho : w'.ownsRow w.heap.size 5 1 (.slice (some ⟨g', 0, none⟩) n' c') n' (B8 O'))
    (hg : wr.grownBy w' (some gO)) (hc : g' = gO ∨ wr.heap.size ≤ g') : Two w w' g' n' c' O' gS nS cS S := by
  have lo := h.out.lt gO rfl
  have ls := h.stk.lt gS rfl
  refine ⟨ho, h.stk.kept hg (.inr (by simp only [Value.ownBlock, ne_eq, Option.some.injEq]; exact fun e => h.ne e.symm)), ?_, h.below.grown hg h.below.size (fun k hk => by cases hk; exact lo.1)⟩
  have := h.ne
  omega

theorem Two.pushed {w wr w' : World} {gO nO cO gS nS cS : Nat} {O S : List Int} (h : Two w wr gO nO cO O gS nS cS S) {g' n' c' : Nat} {S' : List Int} (ho : w'.ownsRow w.heap.size 5 1 (.slice (some ⟨g', 0, none⟩) n' c') n' (B8 S'.reverse))
    (hg : wr.grownBy w' (some gS)) (hc : g' = gS ∨ wr.heap.size ≤ g') : Two w w' gO nO cO O g' n' c' S' := by
  have lo := h.out.lt gO rfl
  have ls := h.stk.lt gS rfl
  refine ⟨h.out.kept hg (.inr (by simp only [Value.ownBlock, ne_eq, Option.some.injEq]; exact h.ne)), ho, ?_, h.below.grown hg h.below.size (fun k hk => by cases hk; exact ls.1)⟩
  have := h.ne
  omega

theorem Two.popped {w wr : World} {gO nO cO gS nS cS : Nat} {O S : List Int} {t : Int} (h : Two w wr gO nO cO O gS (nS + 1) cS (t :: S)) : Two w wr gO nO cO O gS nS cS S := by
  refine ⟨h.out, ?_, h.ne, h.below⟩
  have hs := h.stk
  have hl := hs.1
  rw [List.reverse_cons, ← B8_app] at hs
  simp [B8] at hl
  exact ownsRow_pop (by simp [B8]; omega) hs

theorem Two.top {w wr : World} {gO nO cO gS nS cS : Nat} {O S : List Int} {t : Int} (h : Two w wr gO nO cO O gS (nS + 1) cS (t :: S)) : wr.cell? ⟨gS, nS, none⟩ = some (.int .u8 t) := by
  have hl := h.stk.1
  simp [B8] at hl
  rw [h.stk.cellAt nS (by omega)]
  simp [B8, ← hl]

theorem Two.count {w wr : World} {gO nO cO gS nS cS : Nat} {O S : List Int} (h : Two w wr gO nO cO O gS nS cS S) : nO = O.length ∧ nS = S.length := by
  have h1 := h.out.1
  have h2 := h.stk.1
  simp [B8] at h1 h2
  omega

theorem Two.size {w wr : World} {gO nO cO gS nS cS : Nat} {O S : List Int} (h : Two w wr gO nO cO O gS nS cS S) : w.heap.size ≤ wr.heap.size := h.below.size

theorem Two.room {w wr : World} {gO nO cO gS nS cS : Nat} {O S : List Int} (h : Two w wr gO nO cO O gS nS cS S) : nS ≤ cS := by
  rcases h.stk.2 with ⟨h0, _⟩ | ⟨g', cap', cur, hv, _, _, hr, _⟩
  · simp at h0
  · simp only [Value.slice.injEq] at hv
    omega

end Go.Proofs.Qxb6000901aMods
