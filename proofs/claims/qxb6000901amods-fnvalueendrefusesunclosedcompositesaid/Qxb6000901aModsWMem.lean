import Derived.Test.Qxb6000901aModsWNum
import Derived.Laws.CopyOwn
import Derived.Lib.SliceRun
import Derived.OpenShut
namespace Go.Proofs.Qxb6000901aMods
open Go.RowKit

theorem Trym.info5 : (Trym.prog.info? 5).map (fun i => (i.zero, i.size, i.bytes)) = some (some (.int .u8 0), 1, 1) := by kernel_rfl
theorem Trym.size5 : (Trym.prog.info? 5).map (·.size) = some 1 := by kernel_rfl

/-- A NEW BLOCK's CELLS ARE THE BYTES. -/
def Lies (w : World) (g : Nat) (bs : List Int) : Prop := w.heap[g]? = some (.cells (bs.map (Value.int .u8)).toArray 5 (0, 0))

theorem sees_below {w w' : World} {a : Option Addr} {bs : List Int} (h : Sees w a bs) (hb : Below w.heap.size w w') : Sees w' a bs := by
  rcases h with rfl | ⟨b, off, rfl, hc⟩
  · exact .inl rfl
  · refine .inr ⟨b, off, rfl, fun k hk => ?_⟩
    have := hc k hk
    have hlt := World.block_lt_of_cell? w _ this
    rw [hb.cell hlt]; exact this

theorem sees_take {w : World} {a : Option Addr} {bs : List Int} (h : Sees w a bs) (n : Nat) : Sees w a (bs.take n) := by
  rcases h with rfl | ⟨b, off, rfl, hc⟩
  · exact .inl (by simp)
  · refine .inr ⟨b, off, rfl, fun k hk => ?_⟩
    simp only [List.length_take] at hk
    rw [hc k (by omega)]
    simp [List.getD, show k < n by omega]

theorem sees_lies {w : World} {g : Nat} {bs : List Int} (h : Lies w g bs) : Sees w (some ⟨g, 0, none⟩) bs := by
  refine .inr ⟨g, 0, rfl, fun k hk => ?_⟩
  unfold Lies at h
  simp [World.cell?, h, List.getD, hk]

/-- A row that is full: its block. -/
theorem full_block {w : World} {base g n : Nat} {xs : List Value} (h : w.ownsRow base 5 1 (.slice (some ⟨g, 0, none⟩) n n) n xs) : w.heap[g]? = some (.cells xs.toArray 5 (0, 0)) := by
  obtain ⟨hl, h | ⟨g', cap, cur, hv, _, hh, _, _, hsz, ht⟩⟩ := h
  · simp at h
  · simp only [Value.slice.injEq, Option.some.injEq, Addr.mk.injEq] at hv
    obtain ⟨⟨rfl, _⟩, _, rfl⟩ := hv
    rw [hh]
    have : cur.toList.take (n * 1) = cur.toList := List.take_of_length_le (by simp; omega)
    rw [this] at ht
    rw [← ht]

theorem cells_map {w w1 : World} {x : Addr} {bs : List Int} (hc : ∀ k, k < bs.length → w.cell? (x.add k) = some (.int .u8 (bs.getD k 0))) (hg : w.grownBy w1 none) {X : List Value} (HX : Hid (X = bs.map (Value.int .u8))) :
    ∀ j v, X[j]? = some v → w1.cell? (x.add j) = some v := by
  intro j v hv
  rw [HX.out] at hv
  obtain ⟨hj, rfl⟩ := List.getElem?_eq_some_iff.1 hv
  simp only [List.length_map] at hj
  have h := hg.cell (hc j hj) (by simp)
  rw [h]; simp [List.getD, hj]

theorem below_grown {w w1 : World} (hg : w.grownBy w1 none) : Below w.heap.size w w1 := (Below.refl _ _).grown hg (Nat.le_refl _) (fun k h => by cases h)

theorem ones_map {bs : List Int} {X : List Value} (HX : Hid (X = bs.map (Value.int .u8))) : ∀ v ∈ X, v.oneCell' = true := by
  rw [HX.out]; exact ints_oneCell _ _

theorem splice_all {Z X : List Value} (h : X.length = Z.length) : splice Z 0 X = X := by
  simp [splice, h]

/-- 'copy' into a row that is known whole: what it comes to. -/
theorem copy_run (w1 w0 : World) (B g off dLen dCap sLen sCap : Nat) (dp sp : Option Addr) (cur X : List Value) (hg : w1.heap[g]? = some (.cells cur.toArray 5 (0, 0))) (hn : X.length = Nat.min sLen dLen)
    (hpos : 0 < X.length → dp = some ⟨g, off, none⟩ ∧ ∃ ad, sp = some ad ∧ ∀ j v, X[j]? = some v → w1.cell? (ad.add j) = some v)
    (hfit : off + X.length ≤ cur.length) (h1 : ∀ v ∈ X, v.oneCell' = true) (hb : Below B w0 w1) (hBg : B ≤ g) :
    ∃ w2, Sem.run Trym.prog (Builtin.copy_ #[22, 22] 3 #[.slice dp dLen dCap, .slice sp sLen sCap]) w1 = .ok (.int .i64 X.length) w2 ∧
      Hid (w2.heap[g]? = some (.cells (splice cur off X).toArray 5 (0, 0))) ∧ Below B w0 w2 := by
  by_cases h0 : X.length = 0
  · obtain rfl : X = [] := List.eq_nil_of_length_eq_zero h0
    have hrun := run_copy_none (P := Trym.prog) w1 22 22 3 5 dp sp dLen dCap sLen sCap Trym.underlying22 Trym.size5 (by simpa using hn.symm)
    exact ⟨w1, hrun, show _ = _ by simpa [splice] using hg, hb⟩
  · obtain ⟨rfl, ad, rfl, hsrc⟩ := hpos (by omega)
    have hrun := run_copy_row (P := Trym.prog) w1 22 22 3 5 g off dLen dCap ad sLen sCap cur.toArray 5 X Trym.underlying22 Trym.size5 hg hn hsrc (by simpa using hfit) h1
    exact ⟨_, hrun, show _ = _ by simpa [splice] using setRow_heap w1 g _ _ 5 _ hg, below_setRow hb hBg _⟩

set_option maxHeartbeats 400000 in
theorem clone_some (x : Addr) (len cap : Nat) (bs : List Int) (w : World) (hlen : bs.length = len) (hm : len ≤ 1073741824)
    (hc : ∀ k, k < bs.length → w.cell? (x.add k) = some (.int .u8 (bs.getD k 0))) :
    Calls Trym.prog 12 #[.slice (some x) len cap] w fun e w' => e = .returned (.slice (some ⟨w.heap.size, 0, none⟩) len len) ∧ Lies w' w.heap.size bs ∧ Below w.heap.size w w' := by
  obtain ⟨i0, hi, hz0, hz1, hz2⟩ := info_parts Trym.info5
  have q22 : ∀ (w : World) (a : Option Addr) (n c n' c' : Nat), (binOp .eql 22 (.slice a n c) (.slice none n' c')).run Trym.prog w = .ok (.bool a.isNone) w := fun w a n c n' c' => Lib.run_eql_slice_nil w _ _ a n c n' c' Trym.underlying22
  have HC : Hid (∀ k, k < bs.length → w.cell? (x.add k) = some (.int .u8 (bs.getD k 0))) := hc
  clear hc
  obtain ⟨X, HX⟩ : ∃ X : List Value, Hid (X = bs.map (Value.int .u8)) := ⟨_, rfl⟩
  have hXl : X.length = len := by rw [HX.out]; simpa using hlen
  obtain ⟨Z, HZ⟩ : ∃ Z : List Value, Hid (Z = (madeCells (Value.int IntKind.u8 0).cells (len * 1)).toList) := ⟨_, rfl⟩
  have hZl : Z.length = len := by rw [HZ.out]; simp [size_madeCells]
  go_enter Trym.func12, Trym.ntmps12
  go_wp2_with (at_make; refine wpList_make_full _ rfl _ _ 22 rfl w.heap.size 5 i0 (.int .u8 0) 1 Trym.underlying22 hi hz0 hz1 _ _ _ _ len rfl rfl rfl rfl (by rw [hz2]; omega) (by unfold maxLen; omega) (Nat.le_refl _) ?_; intro w1 hown hgrow; rw [← HZ.out] at hown; obtain ⟨w2, hcp, HG2, hB2⟩ := copy_run w1 w w.heap.size w.heap.size 0 len len len cap (some ⟨w.heap.size, 0, none⟩) (some x) Z X (full_block hown) (by rw [hXl]; simp) (fun _ => ⟨rfl, x, rfl, cells_map HC.out hgrow HX⟩) (by omega) (ones_map HX) (below_grown hgrow) (Nat.le_refl _))
  go_ret
  refine ⟨rfl, ?_, hB2⟩
  have := HG2.out
  rw [splice_all (by omega), HX.out] at this
  exact this

theorem clone_none (w : World) : Calls Trym.prog 12 #[.slice none 0 0] w fun e w' => e = .returned (.slice none 0 0) ∧ w' = w := by
  have q22 : ∀ (w : World) (a : Option Addr) (n c n' c' : Nat), (binOp .eql 22 (.slice a n c) (.slice none n' c')).run Trym.prog w = .ok (.bool a.isNone) w := fun w a n c n' c' => Lib.run_eql_slice_nil w _ _ a n c n' c' Trym.underlying22
  go_enter Trym.func12, Trym.ntmps12
  go_wp2
  go_ret
  exact ⟨rfl, rfl⟩

/-- A SLICE OF BYTES THAT CAME IN: nil, or the bytes 'bs' (its elements) lie at its address. -/
def Came (w : World) (a : Option Addr) (len cap : Nat) (bs : List Int) : Prop :=
  bs.length = len ∧ (∀ c ∈ bs, 0 ≤ c ∧ c ≤ 255) ∧ ((a = none ∧ len = 0 ∧ cap = 0) ∨ ∃ x, a = some x ∧ ∀ k, k < bs.length → w.cell? (x.add k) = some (.int .u8 (bs.getD k 0)))

theorem came_of_row {w : World} {a : Option Addr} {len cap : Nat} {zs : List Int}
    (h : (a = none ∧ len = 0 ∧ cap = 0 ∧ zs = []) ∨ ∃ x, a = some x ∧ len ≤ cap ∧ cap ≤ maxLen ∧ zs.length = cap ∧ (∀ i, i < zs.length → w.cell? (x.add i) = some (.int .u8 (zs.getD i 0))) ∧ ∀ n ∈ zs, (Lit.int .u8 n).wf = true) :
    Came w a len cap (zs.take len) := by
  rcases h with ⟨rfl, rfl, rfl, rfl⟩ | ⟨x, rfl, hl, hm, hz, hc, hw⟩
  · exact ⟨rfl, by simp, .inl ⟨rfl, rfl, rfl⟩⟩
  · refine ⟨by simp; omega, fun c hcm => ?_, .inr ⟨x, rfl, fun k hk => ?_⟩⟩
    · have := bounds_u8 (hw c (List.mem_of_mem_take hcm))
      omega
    · simp only [List.length_take] at hk
      rw [hc k (by omega)]
      simp [List.getD, show k < len by omega]

theorem came_max {w : World} {a : Option Addr} {len cap : Nat} {zs : List Int}
    (h : (a = none ∧ len = 0 ∧ cap = 0 ∧ zs = []) ∨ ∃ x, a = some x ∧ len ≤ cap ∧ cap ≤ maxLen ∧ zs.length = cap ∧ (∀ i, i < zs.length → w.cell? (x.add i) = some (.int .u8 (zs.getD i 0))) ∧ ∀ n ∈ zs, (Lit.int .u8 n).wf = true) :
    len ≤ maxLen := by
  rcases h with ⟨rfl, rfl, rfl, rfl⟩ | ⟨x, rfl, hl, hm, hz, hc, hw⟩
  · simp
  · omega

/-- clone_b1 -/
theorem clone_any (a : Option Addr) (len cap : Nat) (bs : List Int) (w : World) (hm : len ≤ 1073741824) (h : Came w a len cap bs) :
    Calls Trym.prog 12 #[.slice a len cap] w fun e w' => ∃ a', e = .returned (.slice a' len len) ∧ Sees w' a' bs ∧ Below w.heap.size w w' := by
  obtain ⟨hlen, _, ⟨rfl, rfl, rfl⟩ | ⟨x, rfl, hc⟩⟩ := h
  · refine (clone_none w).mono ?_
    rintro e w' ⟨rfl, rfl⟩
    exact ⟨none, rfl, .inl (List.eq_nil_of_length_eq_zero hlen), Below.refl _ _⟩
  · refine (clone_some x len cap bs w hlen hm hc).mono ?_
    rintro e w' ⟨rfl, hl, hb⟩
    exact ⟨_, rfl, sees_lies hl, hb⟩

theorem came_below {w w' : World} {a : Option Addr} {len cap : Nat} {bs : List Int} (h : Came w a len cap bs) (hb : Below w.heap.size w w') : Came w' a len cap bs := by
  obtain ⟨h1, h2, h3 | ⟨x, rfl, hc⟩⟩ := h
  · exact ⟨h1, h2, .inl h3⟩
  · refine ⟨h1, h2, .inr ⟨x, rfl, fun k hk => ?_⟩⟩
    have := hc k hk
    have hlt := World.block_lt_of_cell? w _ this
    rw [hb.cell hlt]; exact this

end Go.Proofs.Qxb6000901aMods
