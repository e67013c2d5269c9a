import Derived.Test.Qxb6000901aModsWTwo
namespace Go.Proofs.Qxb6000901aMods
open Go.RowKit

theorem step_arr {O S ops : List Int} {k : Nat} {c : Int} (H : Hid (O ++ Pl.build (ops.drop k) S = Pl.text ops)) (C : Hid (c = ops.getD k 0)) (hk : k < ops.length) (h : c = 91) : Hid ((O ++ [91]) ++ Pl.build (ops.drop (k + 1)) (93 :: S) = Pl.text ops) := by
  show _ = _
  rw [← H.out, Pl.drop_at ops k hk, ← C.out, h, Pl.b_arr]; simp
theorem step_obj {O S ops : List Int} {k : Nat} {c : Int} (H : Hid (O ++ Pl.build (ops.drop k) S = Pl.text ops)) (C : Hid (c = ops.getD k 0)) (hk : k < ops.length) (h : c = 123) : Hid ((O ++ [123]) ++ Pl.build (ops.drop (k + 1)) (125 :: S) = Pl.text ops) := by
  show _ = _
  rw [← H.out, Pl.drop_at ops k hk, ← C.out, h, Pl.b_obj]; simp
theorem step_close {O S ops : List Int} {k : Nat} {c t : Int} (H : Hid (O ++ Pl.build (ops.drop k) (t :: S) = Pl.text ops)) (C : Hid (c = ops.getD k 0)) (hk : k < ops.length) (h : c = 93 ∨ c = 125) (hS : S ≠ []) : Hid ((O ++ [t]) ++ Pl.build (ops.drop (k + 1)) S = Pl.text ops) := by
  show _ = _
  match S, hS with
  | u :: S', _ => rw [← H.out, Pl.drop_at ops k hk, ← C.out, Pl.b_close c _ _ _ _ h]; simp
theorem step_keep {O S ops : List Int} {k : Nat} {c : Int} (H : Hid (O ++ Pl.build (ops.drop k) S = Pl.text ops)) (C : Hid (c = ops.getD k 0)) (hk : k < ops.length) (h : c = 93 ∨ c = 125) (hS : ¬ 1 < S.length) : Hid (O ++ Pl.build (ops.drop (k + 1)) S = Pl.text ops) := by
  show _ = _
  rw [← H.out, Pl.drop_at ops k hk, ← C.out, Pl.b_keep c _ _ h hS]
theorem step_strEnd {O S ops : List Int} {k : Nat} {c : Int} (H : Hid (O ++ Pl.build (ops.drop k) S = Pl.text ops)) (C : Hid (c = ops.getD k 0)) (hk : k + 1 = ops.length) (h : c = 34) : Hid ((O ++ Pl.quote (Pl.decoy 97)) ++ Pl.build (ops.drop (k + 1)) S = Pl.text ops) := by
  show _ = _
  rw [← H.out, Pl.drop_at ops k (by omega), ← C.out, h, List.drop_eq_nil_of_le (by omega), Pl.b_strEnd, Pl.b_nil]; simp
theorem step_str {O S ops : List Int} {k : Nat} {c x : Int} (H : Hid (O ++ Pl.build (ops.drop k) S = Pl.text ops)) (C : Hid (c = ops.getD k 0)) (X : Hid (x = ops.getD (k + 1) 0)) (hk : k + 1 < ops.length) (h : c = 34) : Hid ((O ++ Pl.quote (Pl.decoy x)) ++ Pl.build (ops.drop (k + 2)) S = Pl.text ops) := by
  show _ = _
  rw [← H.out, Pl.drop_at ops k (by omega), ← C.out, h, Pl.drop_at ops (k + 1) hk, ← X.out, Pl.b_str]; simp
theorem step_other {O S ops : List Int} {k : Nat} {c : Int} (H : Hid (O ++ Pl.build (ops.drop k) S = Pl.text ops)) (C : Hid (c = ops.getD k 0)) (hk : k < ops.length) (h1 : ¬ c = 91) (h2 : ¬ c = 123) (h3 : ¬ (c = 93 ∨ c = 125)) (h4 : ¬ c = 34) : Hid ((O ++ [c]) ++ Pl.build (ops.drop (k + 1)) S = Pl.text ops) := by
  show _ = _
  rw [← H.out, Pl.drop_at ops k hk, ← C.out, Pl.b_other c _ _ h1 h2 h3 h4]; simp

theorem B8_push (S : List Int) (t : Int) : B8 S.reverse ++ B8 [t] = B8 (t :: S).reverse := by rw [B8_app, List.reverse_cons]

theorem two_start (w : World) : Two w ((w.alloc (.cells #[.int .u8 91] 5)).alloc (.cells #[.int .u8 93] 5)) w.heap.size 1 1 [91] (w.heap.size + 1) 1 1 [93] := by
  have hsz : (w.alloc (.cells #[Value.int .u8 91] 5)).heap.size = w.heap.size + 1 := by
    show (w.heap.push _).size = _
    simp
  refine ⟨(World.ownsRow_lit w _ 1 (Nat.le_refl _) (by unfold maxLen; omega) rfl).alloc _, ?_, by omega, ((Below.refl _ _).alloc (Nat.le_refl _) _).alloc (by omega) _⟩
  have h := World.ownsRow_lit (base := w.heap.size) (e := 5) (size := 1) (w.alloc (.cells #[Value.int .u8 91] 5)) #[.int .u8 93] 1 (by omega) (by unfold maxLen; omega) rfl
  rw [hsz] at h
  exact h

theorem sees_new (w : World) (l : List Int) : Sees (w.alloc (.cells (B8 l).toArray 5)) (some ⟨w.heap.size, 0, none⟩) l := by
  refine .inr ⟨w.heap.size, 0, rfl, fun k hk => ?_⟩
  rw [World.cell?_alloc_at _ _ _ _ rfl]
  simp [B8, List.getD, hk]

theorem alloc_size (w : World) (o : Obj) : (w.alloc o).heap.size = w.heap.size + 1 := by
  show (w.heap.push o).size = _
  simp

theorem decoy_range (x : Int) (h : 0 ≤ x ∧ x ≤ 255) : ∀ c ∈ Pl.decoy x, 0 ≤ c ∧ c ≤ 255 := by
  intro c hc
  simp [Pl.decoy] at hc
  omega

/-- A slice's length, for a measure. -/
def lenOf : Value → Nat
  | .slice _ n _ => n
  | _ => 0

set_option maxHeartbeats 2000000 in
set_option maxRecDepth 100000 in
theorem comp_some (a : Option Addr) (len cap : Nat) (ops : List Int) (w : World) (hlen : ops.length = len) (hm : len ≤ 1048576) (hr : ∀ c ∈ ops, 0 ≤ c ∧ c ≤ 255) (hs : Sees w a ops) :
    Calls Trym.prog 23 #[.slice a len cap] w fun e w' => ∃ g c, e = .returned (.slice (some ⟨g, 0, none⟩) (Pl.text ops).length c) ∧ w'.ownsRow w.heap.size 5 1 (.slice (some ⟨g, 0, none⟩) (Pl.text ops).length c) (Pl.text ops).length (B8 (Pl.text ops)) ∧ Below w.heap.size w w' := by
  have T0 := two_start w
  go_enter Trym.func23, Trym.ntmps23
  go_wp2
  go_loopw [3, 4, 5] (fun o s t wr => ∃ (k gO nO cO gS nS cS : Nat) (O S : List Int), o = .slice (some ⟨gO, 0, none⟩) nO cO ∧ s = .slice (some ⟨gS, 0, none⟩) nS cS ∧ t = .int .i64 k ∧ k ≤ len ∧ nO ≤ 1 + 16 * k ∧ nS ≤ 1 + k ∧ 1 ≤ nS ∧ Two w wr gO nO cO O gS nS cS S ∧ Hid (O ++ Pl.build (ops.drop k) S = Pl.text ops)) (fun _ _ t _ => len - (intOf t).toNat)
  case atStart => exact ⟨0, _, 1, 1, _, 1, 1, [91], [93], rfl, rfl, rfl, by omega, by omega, by omega, by omega, T0, rfl⟩
  case round =>
    obtain ⟨k, gO, nO, cO, gS, nS, cS, O, S, rfl, rfl, rfl, hkl, hnO, hnS, hnS1, T, H⟩ := hrel
    clear T0
    by_cases hk : k < len
    · obtain ⟨b, off, rfl⟩ := sees_addr' hs (by omega)
      obtain ⟨c, C, hcell0⟩ := byte_at (sees_below hs T.below) k len hlen
      have hcell := hcell0 hk
      clear hcell0
      by_cases h1 : c = 91
      · have G := step_arr H C (by omega) h1
        have hb1 : (c == 91) = true := by simp [h1]
        clear H h1
        go_wp2_with (first
          | (at_builtin; refine wpList_append_two rfl (.tmp 29) (.tmp 30) rfl w.heap.size gO nO cO (B8 O) rfl (T.alloc _).out ⟨wr.heap.size, 0, none⟩ 1 1 (B8 [91]) rfl (B8_len _) (cells_new wr (B8 [91]) 5) (B8_one _) (by omega) (by omega) (T.alloc _).size ?_; intro g3 c3 w3 r1 r2 r3; rw [B8_app] at r1; have T3 := (T.alloc _).laid r1 r2 r3)
          | (at_builtin; refine wpList_append_two rfl (.tmp 32) (.tmp 33) rfl w.heap.size gS nS cS (B8 S.reverse) rfl (T3.alloc _).stk ⟨w3.heap.size, 0, none⟩ 1 1 (B8 [93]) rfl (B8_len _) (cells_new w3 (B8 [93]) 5) (B8_one _) (by omega) (by omega) (T3.alloc _).size ?_; intro g4 c4 w4 q1 q2 q3; rw [B8_push] at q1; have T4 := (T3.alloc _).pushed q1 q2 q3))
        go_roundw
        case rel => exact ⟨k + 1, _, nO + 1, _, _, nS + 1, _, _, _, rfl, rfl, by go_num, by omega, by omega, by omega, by omega, T4, G⟩
        case measure => simp [intOf]; omega
      · have hb1 : (c == 91) = false := by simp [h1]
        by_cases h2 : c = 123
        · have G := step_obj H C (by omega) h2
          have hb2 : (c == 123) = true := by simp [h2]
          clear H h1 h2
          go_wp2_with (first
            | (at_builtin; refine wpList_append_two rfl (.tmp 37) (.tmp 38) rfl w.heap.size gO nO cO (B8 O) rfl (T.alloc _).out ⟨wr.heap.size, 0, none⟩ 1 1 (B8 [123]) rfl (B8_len _) (cells_new wr (B8 [123]) 5) (B8_one _) (by omega) (by omega) (T.alloc _).size ?_; intro g3 c3 w3 r1 r2 r3; rw [B8_app] at r1; have T3 := (T.alloc _).laid r1 r2 r3)
            | (at_builtin; refine wpList_append_two rfl (.tmp 40) (.tmp 41) rfl w.heap.size gS nS cS (B8 S.reverse) rfl (T3.alloc _).stk ⟨w3.heap.size, 0, none⟩ 1 1 (B8 [125]) rfl (B8_len _) (cells_new w3 (B8 [125]) 5) (B8_one _) (by omega) (by omega) (T3.alloc _).size ?_; intro g4 c4 w4 q1 q2 q3; rw [B8_push] at q1; have T4 := (T3.alloc _).pushed q1 q2 q3))
          go_roundw
          case rel => exact ⟨k + 1, _, nO + 1, _, _, nS + 1, _, _, _, rfl, rfl, by go_num, by omega, by omega, by omega, by omega, T4, G⟩
          case measure => simp [intOf]; omega
        · have hb2 : (c == 123) = false := by simp [h2]
          by_cases h3 : c = 93 ∨ c = 125
          · by_cases h4 : nS = 1
            · subst h4
              have G := step_keep H C (by omega) h3 (by have := T.count.2; omega)
              clear H h1 h2 C
              rcases h3 with rfl | rfl
              all_goals
                go_wp2
                go_roundw
                case rel => exact ⟨k + 1, _, nO, _, _, 1, _, _, _, rfl, rfl, by go_num, by omega, by omega, by omega, by omega, T, G⟩
                case measure => simp [intOf]; omega
            · obtain ⟨m, rfl⟩ : ∃ m, nS = m + 1 := ⟨nS - 1, by omega⟩
              have hcn := T.count.2
              obtain ⟨t, S', rfl⟩ : ∃ t S', S = t :: S' := by
                cases S with
                | nil => simp at hcn
                | cons t S' => exact ⟨t, S', rfl⟩
              have hS' : S' ≠ [] := by intro e; subst e; simp at hcn; omega
              have G := step_close H C (by omega) h3 hS'
              have htop := T.top
              have hroom := T.room
              have hm1 : 1 ≤ m := by omega
              clear H h1 h2 h4 C hcn hS'
              rcases h3 with rfl | rfl
              all_goals
                go_wp2_with (at_builtin; refine wpList_append_two rfl (.tmp 52) (.tmp 57) rfl w.heap.size gO nO cO (B8 O) rfl (T.alloc _).out ⟨wr.heap.size, 0, none⟩ 1 1 (B8 [t]) rfl (B8_len _) (cells_new wr (B8 [t]) 5) (B8_one _) (by omega) (by omega) (T.alloc _).size ?_; intro g3 c3 w3 r1 r2 r3; rw [B8_app] at r1; have T3 := ((T.alloc _).laid r1 r2 r3).popped)
                go_roundw
                case rel => exact ⟨k + 1, _, nO + 1, _, _, m, _, _, _, rfl, by go_num, by go_num, by omega, by omega, by omega, by omega, T3, G⟩
                case measure => simp [intOf]; omega
          · have h3a : (c == 93) = false := by simp; omega
            have h3b : (c == 125) = false := by simp; omega
            by_cases h4 : c = 34
            · have hb4 : (c == 34) = true := by simp [h4]
              by_cases h5 : k + 1 < len
              · obtain ⟨x, X, hcellx0⟩ := byte_at (sees_below hs T.below) (k + 1) len hlen
                have hcellx := hcellx0 h5
                have hx : 0 ≤ x ∧ x ≤ 255 := hr x (by rw [X.out]; simp [List.getD, show k + 1 < ops.length by omega])
                have G := step_str H C X (by omega) h4
                have hdr := decoy_range x hx
                have hql := Pl.quote_decoy_len x
                have hqp : 1 ≤ (Pl.quote (Pl.decoy x)).length := by simp [Pl.quote]
                obtain ⟨q, HQ⟩ : ∃ q, Hid (Pl.quote (Pl.decoy x) = q) := ⟨_, rfl⟩
                rw [HQ.out] at G hql hqp
                obtain ⟨m, hqm⟩ : ∃ m, q.length = m := ⟨_, rfl⟩
                rw [hqm] at hql hqp
                clear H h1 h2 h3 h4 C X hcellx0
                go_wp2_with fail
                refine (quote_some (some ⟨wr.heap.size, 0, none⟩) 7 7 (Pl.decoy x) _ rfl (by omega) hdr (sees_new wr (Pl.decoy x))).mono ?_
                rintro e w5 ⟨rfl, hown5, hb5⟩
                rw [HQ.out, hqm] at hown5 ⊢
                rw [alloc_size] at hown5
                have T5 := (T.alloc _).past hb5
                go_wp2_with (at_builtin; refine wpList_append_two rfl (.tmp 75) (.tmp 78) rfl w.heap.size gO nO cO (B8 O) rfl T5.out ⟨wr.heap.size + 1, 0, none⟩ m _ (B8 q) rfl (by rw [B8_len, hqm]) (fun j u hj => hown5.cells rfl j u hj) (B8_one _) (by omega) (by omega) T5.size ?_; intro g3 c3 w3 r1 r2 r3; rw [B8_app] at r1; have T3 := T5.laid r1 r2 r3)
                go_roundw
                case rel => exact ⟨k + 2, _, nO + m, _, _, nS, _, _, _, rfl, rfl, by go_num, by omega, by omega, by omega, by omega, T3, G⟩
                case measure => simp [intOf]; omega
              · have G := step_strEnd H C (by omega) h4
                have hdr := decoy_range 97 (by omega)
                have hql := Pl.quote_decoy_len 97
                have hqp : 1 ≤ (Pl.quote (Pl.decoy 97)).length := by simp [Pl.quote]
                obtain ⟨q, HQ⟩ : ∃ q, Hid (Pl.quote (Pl.decoy 97) = q) := ⟨_, rfl⟩
                rw [HQ.out] at G hql hqp
                obtain ⟨m, hqm⟩ : ∃ m, q.length = m := ⟨_, rfl⟩
                rw [hqm] at hql hqp
                clear H h1 h2 h3 h4 C
                go_wp2_with fail
                refine (quote_some (some ⟨wr.heap.size, 0, none⟩) 7 7 (Pl.decoy 97) _ rfl (by omega) hdr (sees_new wr (Pl.decoy 97))).mono ?_
                rintro e w5 ⟨rfl, hown5, hb5⟩
                rw [HQ.out, hqm] at hown5 ⊢
                rw [alloc_size] at hown5
                have T5 := (T.alloc _).past hb5
                go_wp2_with (at_builtin; refine wpList_append_two rfl (.tmp 75) (.tmp 78) rfl w.heap.size gO nO cO (B8 O) rfl T5.out ⟨wr.heap.size + 1, 0, none⟩ m _ (B8 q) rfl (by rw [B8_len, hqm]) (fun j u hj => hown5.cells rfl j u hj) (B8_one _) (by omega) (by omega) T5.size ?_; intro g3 c3 w3 r1 r2 r3; rw [B8_app] at r1; have T3 := T5.laid r1 r2 r3)
                go_roundw
                case rel => exact ⟨k + 1, _, nO + m, _, _, nS, _, _, _, rfl, rfl, by go_num, by omega, by omega, by omega, by omega, T3, G⟩
                case measure => simp [intOf]; omega
            · have hb4 : (c == 34) = false := by simp [h4]
              have G := step_other H C (by omega) h1 h2 h3 h4
              clear H h1 h2 h3 h4 C
              go_wp2_with (at_builtin; refine wpList_append_two rfl (.tmp 23) (.tmp 25) rfl w.heap.size gO nO cO (B8 O) rfl (T.alloc _).out ⟨wr.heap.size, 0, none⟩ 1 1 (B8 [c]) rfl (B8_len _) (cells_new wr (B8 [c]) 5) (B8_one _) (by omega) (by omega) (T.alloc _).size ?_; intro g3 c3 w3 r1 r2 r3; rw [B8_app] at r1; have T3 := (T.alloc _).laid r1 r2 r3)
              go_roundw
              case rel => exact ⟨k + 1, _, nO + 1, _, _, nS, _, _, _, rfl, rfl, by go_num, by omega, by omega, by omega, by omega, T3, G⟩
              case measure => simp [intOf]; omega
    · obtain rfl : k = len := by omega
      have H' : Hid (O ++ S = Pl.text ops) := by
        show _ = _
        rw [← H.out, List.drop_eq_nil_of_le (by omega), Pl.b_nil]
      have hnOS : nO + nS ≤ 2 + 17 * k := by omega
      clear H hnO hnS hnS1
      go_wp2
      go_loopw [3, 4] (fun o s wr => ∃ (gO nO cO gS nS cS : Nat) (O S : List Int), o = .slice (some ⟨gO, 0, none⟩) nO cO ∧ s = .slice (some ⟨gS, 0, none⟩) nS cS ∧ nO + nS ≤ 2 + 17 * k ∧ Two w wr gO nO cO O gS nS cS S ∧ Hid (O ++ S = Pl.text ops)) (fun _ s _ => lenOf s)
      case atStart => exact ⟨gO, nO, cO, gS, nS, cS, O, S, rfl, rfl, hnOS, T, H'⟩
      case round =>
        clear T hnOS H'
        obtain ⟨gO, nO, cO, gS, nS, cS, O, S, rfl, rfl, hnOS, T, H⟩ := hrel
        by_cases h0 : nS = 0
        · subst h0
          have hcn := T.count
          obtain rfl : S = [] := List.eq_nil_of_length_eq_zero hcn.2.symm
          have hO : O = Pl.text ops := by have := H.out; rw [List.append_nil] at this; exact this
          have hnO : nO = (Pl.text ops).length := by rw [← hO]; exact hcn.1
          have HO : Hid (O = Pl.text ops) := hO
          have HN : Hid (nO = (Pl.text ops).length) := hnO
          clear hO hnO hcn
          go_wp2
          go_ret
          rw [← HN.out, ← HO.out]
          exact ⟨gO, cO, rfl, T.out, T.below⟩
        · obtain ⟨m, rfl⟩ : ∃ m, nS = m + 1 := ⟨nS - 1, by omega⟩
          have hcn := T.count.2
          obtain ⟨t, S', rfl⟩ : ∃ t S', S = t :: S' := by
            cases S with
            | nil => simp at hcn
            | cons t S' => exact ⟨t, S', rfl⟩
          have G : Hid ((O ++ [t]) ++ S' = Pl.text ops) := by show _ = _; rw [← H.out]; simp
          have htop := T.top
          have hroom := T.room
          clear H h0 hcn
          go_wp2_with (at_builtin; refine wpList_append_two rfl (.tmp 86) (.tmp 91) rfl w.heap.size gO nO cO (B8 O) rfl (T.alloc _).out ⟨wr.heap.size, 0, none⟩ 1 1 (B8 [t]) rfl (B8_len _) (cells_new wr (B8 [t]) 5) (B8_one _) (by omega) (by omega) (T.alloc _).size ?_; intro g3 c3 w3 r1 r2 r3; rw [B8_app] at r1; have T3 := ((T.alloc _).laid r1 r2 r3).popped)
          go_roundw
          case rel => exact ⟨_, nO + 1, _, _, m, _, _, _, rfl, by go_num, by omega, T3, G⟩
          case measure => simp [lenOf]
end Go.Proofs.Qxb6000901aMods
