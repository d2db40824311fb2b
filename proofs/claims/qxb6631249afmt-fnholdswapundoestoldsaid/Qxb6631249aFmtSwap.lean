/-
  The walk of FnHoldSwapUndoes.
-/
import Derived.Test.Qxb6631249aFmtPlain
import Derived.Deep.WholeRow
namespace Go.Proofs.Qxb6631249aFmt
open Go.RowKit Go.Extern.Stop Go.Stop Go.Extern
set_option linter.unusedSimpArgs false

theorem wpList_load_row_w {P : Program} {ops : Array Oper} {rest : List Oper} {o : Oper} {a : Act} {w : World} {Q : Exit → Act → World → Prop} (hw : Region.wanted o (yielded ops a.tmps) = true) (ty : TypeId) (x : Operand) (ho : o.op = .load ty x)
    (g : Nat) (hx : a.eval x = .pointer (some ⟨g, 0, none⟩)) (t : TypeId) (cs : Array Value) (fr : Nat × Nat) (d : TypeDesc) (hg : w.heap[g]? = some (.cells cs t fr))
    (hu : P.underlying ty = some d) (hd : (match d with | .struct _ | .array _ _ => true | _ => false) = true) (hi : (P.info? ty).map (·.size) = some cs.size)
    (h : wpList P ops Q rest (a.put o.dst (.agg cs)) w) : wpList P ops Q (o :: rest) a w :=
  wpList_step fun _ hK => by rw [if_pos hw]; exact wp_load_row ty x ho g hx t cs fr d hg hu hd hi (hK _ _ h)
theorem Env.ne {bt : Nat} {W : World} (hb : W.heap.size ≤ bt) : ∀ {l : List (Nat × Array Value × TypeId)}, Env W l → ∀ p ∈ l, p.1 ≠ bt
  | [], _, _, h => by cases h
  | (b, c, t) :: l, ⟨h1, h2⟩, p, hp => by
    rcases List.mem_cons.1 hp with rfl | hp
    · have := (Array.getElem?_eq_some_iff.1 h1).1; simp only; omega
    · exact Env.ne hb h2 p hp
theorem limA_one (unit : ByteArray) (x : Wt) (b : Int) : (limA unit x b).all (·.oneCell') = true := by simp [limA, Value.oneCell']

set_option maxHeartbeats 2000000 in
set_option maxRecDepth 100000 in
theorem swap_walk (F : Interp) (st wt out lim : Wt) (built lb : Int) (unit : ByteArray) (w : World) (hF : F.answers w.tape) (hfull : Full F unit lim)
    (hu : InR st.u) (hs : InR st.s) (hp : InR st.p) :
    Calls Tryf.prog 4 #[.agg st.a, .int .i64 built, .agg wt.a, .agg out.a, .string unit, .agg lim.a, .int .i64 lb] w fun e w' => e = .returned (.bool true) ∧ Below w.heap.size w w' := by
  have hB : Below w.heap.size w ((((w.alloc (.cells st.a 23)).alloc (.cells wt.a 23)).alloc (.cells out.a 23)).alloc (.cells lim.a 23)) := (below3 _ _ _ _).alloc (by simp; omega) _
  have hE : Env ((((w.alloc (.cells st.a 23)).alloc (.cells wt.a 23)).alloc (.cells out.a 23)).alloc (.cells lim.a 23)) [(w.heap.size, st.a, 23), (w.heap.size + 1, wt.a, 23), (w.heap.size + 1 + 1, out.a, 23), (w.heap.size + 1 + 1 + 1, lim.a, 23)] :=
    ⟨by simp only [heapAt, World.size_alloc, if_true]; rw [if_neg (by omega), if_neg (by omega), if_neg (by omega)], by simp only [heapAt, World.size_alloc, if_true]; rw [if_neg (by omega), if_neg (by omega)], by simp only [heapAt, World.size_alloc, if_true]; rw [if_neg (by omega)], by simp only [heapAt, World.size_alloc, if_true], trivial⟩
  go_enter Tryf.func4, Tryf.ntmps4
  go_wp2_with (first
      | ((with_reducible refine at_op (.load 23 (.tmp 7)) ?_ ?_); (rfl); go_must (refine wpList_load_row_w (by rfl) 23 (.tmp 7) rfl (w.heap.size) rfl 23 st.a (0, 0) _ (hE.1) Tryf.underlying23 rfl Tryf.size23 ?_))
      | ((with_reducible refine at_op (.load 23 (.tmp 9)) ?_ ?_); (rfl); go_must (refine wpList_load_row_w (by rfl) 23 (.tmp 9) rfl (w.heap.size + 1) rfl 23 wt.a (0, 0) _ (hE.2.1) Tryf.underlying23 rfl Tryf.size23 ?_))
      | ((with_reducible refine at_op (.load 23 (.tmp 10)) ?_ ?_); (rfl); go_must (refine wpList_load_row_w (by rfl) 23 (.tmp 10) rfl (w.heap.size + 1 + 1) rfl 23 out.a (0, 0) _ (hE.2.2.1) Tryf.underlying23 rfl Tryf.size23 ?_))
      | ((with_reducible refine at_op (.load 23 (.tmp 12)) ?_ ?_); (rfl); go_must (refine wpList_load_row_w (by rfl) 23 (.tmp 12) rfl (w.heap.size + 1 + 1 + 1) rfl 23 lim.a (0, 0) _ (hE.2.2.2.1) Tryf.underlying23 rfl Tryf.size23 ?_)))
  refine (bytes15 st.a wt.a out.a lim.a built lb unit _).mono ?_
  rintro e W1 ⟨⟨r, rfl⟩, hb1⟩
  replace hE := hE.below hb1
  replace hB := hB.trans (hb1.mono hB.size)
  clear hb1
  cases r
  · go_wp2
    go_ret
    exact ⟨rfl, hB⟩
  by_cases hlen : (unit.size : Int) ≤ 65536
  case neg =>
    go_wp2
    go_ret
    exact ⟨rfl, hB⟩
  have c70 : W1.cell? ⟨w.heap.size, 0, none⟩ = some (.int .i64 st.u) := cell_of_row W1 _ 0 _ 23 (0, 0) hE.1
  have c72 : W1.cell? ⟨w.heap.size, 2, none⟩ = some (.int .i64 st.p) := cell_of_row W1 _ 2 _ 23 (0, 0) hE.1
  have c120 : W1.cell? ⟨w.heap.size + 1 + 1 + 1, 0, none⟩ = some (.int .i64 lim.u) := cell_of_row W1 _ 0 _ 23 (0, 0) hE.2.2.2.1
  have c122 : W1.cell? ⟨w.heap.size + 1 + 1 + 1, 2, none⟩ = some (.int .i64 lim.p) := cell_of_row W1 _ 2 _ 23 (0, 0) hE.2.2.2.1
  by_cases g1 : st.u ≤ lim.u
  case neg =>
    clear hE
    go_wp2
    go_ret
    exact ⟨rfl, hB⟩
  by_cases g2 : st.p ≤ lim.p
  case neg =>
    have g2' : decide (st.p ≤ lim.p) = false := decide_eq_false g2
    clear hE
    go_wp2
    go_ret
    exact ⟨rfl, hB⟩
  go_wp2_with (first
      | ((with_reducible refine at_op (.load 23 (.tmp 7)) ?_ ?_); (rfl); go_must (refine wpList_load_row_w (by rfl) 23 (.tmp 7) rfl (w.heap.size) rfl 23 st.a (0, 0) _ (hE.1) Tryf.underlying23 rfl Tryf.size23 ?_))
      | ((with_reducible refine at_op (.load 23 (.tmp 9)) ?_ ?_); (rfl); go_must (refine wpList_load_row_w (by rfl) 23 (.tmp 9) rfl (w.heap.size + 1) rfl 23 wt.a (0, 0) _ (hE.2.1) Tryf.underlying23 rfl Tryf.size23 ?_))
      | ((with_reducible refine at_op (.load 23 (.tmp 10)) ?_ ?_); (rfl); go_must (refine wpList_load_row_w (by rfl) 23 (.tmp 10) rfl (w.heap.size + 1 + 1) rfl 23 out.a (0, 0) _ (hE.2.2.1) Tryf.underlying23 rfl Tryf.size23 ?_))
      | ((with_reducible refine at_op (.load 23 (.tmp 12)) ?_ ?_); (rfl); go_must (refine wpList_load_row_w (by rfl) 23 (.tmp 12) rfl (w.heap.size + 1 + 1 + 1) rfl 23 lim.a (0, 0) _ (hE.2.2.2.1) Tryf.underlying23 rfl Tryf.size23 ?_)))
  clear c70 c72 c120 c122
  refine (toWeight lim _).mono ?_
  rintro e W2 ⟨rfl, hb⟩
  replace hE := hE.below hb
  replace hB := hB.trans (hb.mono hB.size)
  clear hb
  go_wp2_with fail
  refine (newLimit unit lim lb _).mono ?_
  rintro e W3 ⟨rfl, hb⟩
  replace hE := hE.below hb
  replace hB := hB.trans (hb.mono hB.size)
  clear hb
  go_wp2_with ((with_reducible refine at_op (.store 27 (.tmp 15) (.tmp 53)) ?_ ?_); (rfl); go_must (refine wpList_store_row rfl 27 (.tmp 15) (.tmp 53) rfl W3.heap.size (limA unit lim lb) rfl rfl 27 _ (heap_alloc_new W3 _) Tryf.size27 rfl (limA_one _ _ _) ?_; rw [World.setRow_alloc_new]))
  have hE4 : Env (W3.alloc (.cells (limA unit lim lb) 27)) [(w.heap.size, st.a, 23), (w.heap.size + 1, wt.a, 23), (w.heap.size + 1 + 1, out.a, 23), (w.heap.size + 1 + 1 + 1, lim.a, 23), (W3.heap.size, limA unit lim lb, 27)] := by
    have h := hE.below (below1 W3 (.cells (limA unit lim lb) 27))
    exact ⟨h.1, h.2.1, h.2.2.1, h.2.2.2.1, heap_alloc_new W3 _, trivial⟩
  have hB4 := hB.alloc hB.size (.cells (limA unit lim lb) 27)
  have hl3 : w.heap.size + 1 + 1 + 1 < W3.heap.size := (Array.getElem?_eq_some_iff.1 hE.2.2.2.1).1
  clear hE hB
  generalize W3.alloc (.cells (limA unit lim lb) 27) = W4 at *
  generalize W3.heap.size = b15 at *
  refine (fun (rest : ∀ (bk : Nat) (W2 : World), W4.heap.size ≤ bk → Below W4.heap.size W4 W2 → W2.heap[bk]? = some (.cells ((st.add wt).sub out).a 23) → (?Prest : Nat → World → Prop) bk W2) => ?main) ?rest
  case main =>
    have hE0 := hE4
    have hBx : Below W4.heap.size W4 W4.drew := (Below.refl _ _).drew
    refine wp_region_held_drew (S := fun w' => Env w' [(w.heap.size, st.a, 23), (w.heap.size + 1, wt.a, 23), (w.heap.size + 1 + 1, out.a, 23), (w.heap.size + 1 + 1 + 1, lim.a, 23), (b15, limA unit lim lb, 27)]) (by kernel_rfl) (hE4.below hBx) (fun hHeld => ?_)
    refine wpAnyH_take (i := 0) (oi := ⟨some 54, .load 23 (.tmp 7), _, _, _, Option.none⟩) (v := .agg st.a) rfl (by kernel_rfl) (by kernel_rfl) (by kernel_rfl) (fun _ _ _ h => h) ?_ hHeld ?_
    · exact yieldsIf_row (by rfl) 23 (.tmp 7) (by rfl) (w.heap.size) (by rfl) _ st.a (0, 0) _ (fun w' hS => hS.1) Tryf.underlying23 (by rfl) Tryf.size23
    simp only [Act.put, List.setIfInBounds_toArray, List.set_cons_zero, List.set_cons_succ]
    refine wpAnyH_take (i := 1) (oi := ⟨some 55, .load 23 (.tmp 9), _, _, _, Option.none⟩) (v := .agg wt.a) rfl (by kernel_rfl) (by kernel_rfl) (by kernel_rfl) (fun _ _ _ h => h) ?_ hHeld ?_
    · exact yieldsIf_row (by rfl) 23 (.tmp 9) (by rfl) (w.heap.size + 1) (by rfl) _ wt.a (0, 0) _ (fun w' hS => hS.2.1) Tryf.underlying23 (by rfl) Tryf.size23
    simp only [Act.put, List.setIfInBounds_toArray, List.set_cons_zero, List.set_cons_succ]
    refine wpAnyH_take (i := 3) (oi := ⟨some 57, .load 23 (.tmp 10), _, _, _, Option.none⟩) (v := .agg out.a) rfl (by kernel_rfl) (by kernel_rfl) (by kernel_rfl) (fun _ _ _ h => h) ?_ hHeld ?_
    · exact yieldsIf_row (by rfl) 23 (.tmp 10) (by rfl) (w.heap.size + 1 + 1) (by rfl) _ out.a (0, 0) _ (fun w' hS => hS.2.2.1) Tryf.underlying23 (by rfl) Tryf.size23
    simp only [Act.put, List.setIfInBounds_toArray, List.set_cons_zero, List.set_cons_succ]
    refine wpAnyH_ready (rs := [2, 5]) (by kernel_rfl) (by simp) (AllReadyH.cons (o := ⟨some 56, .call { callee := .value (.func 9), args := #[.tmp 54, .tmp 55], argTypes := #[23, 23] }, _, _, _, Option.none⟩) rfl (fun K hK => ?_) (AllReadyH.cons (o := ⟨some 16, .alloc 23, _, _, _, Option.none⟩) rfl (fun K hK => ?_) AllReadyH.nil))
    · rw [if_pos (by rfl)]
      go_wp2_with fail
      refine (addW st wt _).mono ?_
      rintro e x1 ⟨rfl, hb⟩
      have hBx := hBx.trans (hb.mono hBx.size)
      refine hK.out _ _ (hHeld.below hb) (fun hHeld => ?_)
      clear hK K hb
      refine wpAnyH_ready (rs := [4, 5]) (by kernel_rfl) (by simp) (AllReadyH.cons (o := ⟨some 58, .call { callee := .value (.func 8), args := #[.tmp 56, .tmp 57], argTypes := #[23, 23] }, _, _, _, Option.none⟩) rfl (fun K hK => ?_) (AllReadyH.cons (o := ⟨some 16, .alloc 23, _, _, _, Option.none⟩) rfl (fun K hK => ?_) AllReadyH.nil))
      · rw [if_pos (by rfl)]
        go_wp2_with fail
        refine (subW (st.add wt) out _).mono ?_
        rintro e x2 ⟨rfl, hb⟩
        have hBx := hBx.trans (hb.mono hBx.size)
        refine hK.out _ _ (hHeld.below hb) (fun hHeld => ?_)
        clear hK K hb
        refine wpAnyH_ready (rs := [5]) (by kernel_rfl) (by simp) (AllReadyH.cons (o := ⟨some 16, .alloc 23, _, _, _, Option.none⟩) rfl (fun K hK => ?_) AllReadyH.nil)
        rw [if_pos (by rfl)]
        go_wp2_with fail
        have hnew := heap_alloc_new x2 (.cells #[.int .i64 0, .int .i64 0, .int .i64 0] 23)
        have hlt : x2.heap.size < (x2.alloc (.cells #[.int .i64 0, .int .i64 0, .int .i64 0] 23)).heap.size := by simp
        have hbk : W4.heap.size ≤ x2.heap.size := hBx.size
        have hBx := hBx.alloc hBx.size (.cells #[.int .i64 0, .int .i64 0, .int .i64 0] 23)
        refine hK.out _ _ (hHeld.below (below1 x2 (.cells #[.int .i64 0, .int .i64 0, .int .i64 0] 23))) (fun hHeld => ?_)
        clear hK K
        refine wpAnyH_ready (rs := [6]) (by kernel_rfl) (by simp) (AllReadyH.cons (o := ⟨Option.none, .store 23 (.tmp 16) (.tmp 58), _, _, _, Option.none⟩) rfl (fun K hK => ?_) AllReadyH.nil)
        rw [if_pos (by rfl)]
        refine wp_store_row 23 (.tmp 16) (.tmp 58) (by rfl) (x2.heap.size) ((st.add wt).sub out).a (by rfl) (by rfl) 23 _ hnew Tryf.size23 rfl (Wt.one _) ?_
        have hrow := setRow_heap _ _ _ ((st.add wt).sub out).a _ _ hnew
        have hBx := below_setRow hBx (x2.heap.size) ((st.add wt).sub out).a hbk
        refine hK.out _ _ (hE0.below hBx) (fun _ => ?_)
        clear hK K
        refine wpAnyH_done (by kernel_rfl) ?_ _
        generalize World.setRow _ (x2.heap.size) _ = Wx at hrow hBx ⊢
        generalize x2.heap.size = bk at hrow hbk ⊢
        exact rest bk Wx hbk hBx hrow
      · rw [if_pos (by rfl)]
        go_wp2_with fail
        have hnew := heap_alloc_new x1 (.cells #[.int .i64 0, .int .i64 0, .int .i64 0] 23)
        have hlt : x1.heap.size < (x1.alloc (.cells #[.int .i64 0, .int .i64 0, .int .i64 0] 23)).heap.size := by simp
        have hbk : W4.heap.size ≤ x1.heap.size := hBx.size
        have hBx := hBx.alloc hBx.size (.cells #[.int .i64 0, .int .i64 0, .int .i64 0] 23)
        refine hK.out _ _ (hHeld.below (below1 x1 (.cells #[.int .i64 0, .int .i64 0, .int .i64 0] 23))) (fun hHeld => ?_)
        clear hK K
        refine wpAnyH_ready (rs := [4]) (by kernel_rfl) (by simp) (AllReadyH.cons (o := ⟨some 58, .call { callee := .value (.func 8), args := #[.tmp 56, .tmp 57], argTypes := #[23, 23] }, _, _, _, Option.none⟩) rfl (fun K hK => ?_) AllReadyH.nil)
        rw [if_pos (by rfl)]
        go_wp2_with fail
        refine (subW (st.add wt) out _).mono ?_
        rintro e x3 ⟨rfl, hb⟩
        have hnew := (hb.block _ hlt).trans hnew
        have hlt := Nat.lt_of_lt_of_le hlt hb.size
        have hBx := hBx.trans (hb.mono hBx.size)
        refine hK.out _ _ (hHeld.below hb) (fun hHeld => ?_)
        clear hK K hb
        refine wpAnyH_ready (rs := [6]) (by kernel_rfl) (by simp) (AllReadyH.cons (o := ⟨Option.none, .store 23 (.tmp 16) (.tmp 58), _, _, _, Option.none⟩) rfl (fun K hK => ?_) AllReadyH.nil)
        rw [if_pos (by rfl)]
        refine wp_store_row 23 (.tmp 16) (.tmp 58) (by rfl) (x1.heap.size) ((st.add wt).sub out).a (by rfl) (by rfl) 23 _ hnew Tryf.size23 rfl (Wt.one _) ?_
        have hrow := setRow_heap _ _ _ ((st.add wt).sub out).a _ _ hnew
        have hBx := below_setRow hBx (x1.heap.size) ((st.add wt).sub out).a hbk
        refine hK.out _ _ (hE0.below hBx) (fun _ => ?_)
        clear hK K
        refine wpAnyH_done (by kernel_rfl) ?_ _
        exact rest _ _ hbk hBx hrow
    · rw [if_pos (by rfl)]
      go_wp2_with fail
      have hnew := heap_alloc_new (W4.drew) (.cells #[.int .i64 0, .int .i64 0, .int .i64 0] 23)
      have hlt : W4.heap.size < (W4.drew.alloc (.cells #[.int .i64 0, .int .i64 0, .int .i64 0] 23)).heap.size := by simp
      have hbk : W4.heap.size ≤ W4.heap.size := hBx.size
      have hBx := hBx.alloc hBx.size (.cells #[.int .i64 0, .int .i64 0, .int .i64 0] 23)
      refine hK.out _ _ (hHeld.below (below1 (W4.drew) (.cells #[.int .i64 0, .int .i64 0, .int .i64 0] 23))) (fun hHeld => ?_)
      clear hK K
      refine wpAnyH_ready (rs := [2]) (by kernel_rfl) (by simp) (AllReadyH.cons (o := ⟨some 56, .call { callee := .value (.func 9), args := #[.tmp 54, .tmp 55], argTypes := #[23, 23] }, _, _, _, Option.none⟩) rfl (fun K hK => ?_) AllReadyH.nil)
      rw [if_pos (by rfl)]
      go_wp2_with fail
      refine (addW st wt _).mono ?_
      rintro e x4 ⟨rfl, hb⟩
      have hnew := (hb.block _ hlt).trans hnew
      have hlt := Nat.lt_of_lt_of_le hlt hb.size
      have hBx := hBx.trans (hb.mono hBx.size)
      refine hK.out _ _ (hHeld.below hb) (fun hHeld => ?_)
      clear hK K hb
      refine wpAnyH_ready (rs := [4]) (by kernel_rfl) (by simp) (AllReadyH.cons (o := ⟨some 58, .call { callee := .value (.func 8), args := #[.tmp 56, .tmp 57], argTypes := #[23, 23] }, _, _, _, Option.none⟩) rfl (fun K hK => ?_) AllReadyH.nil)
      rw [if_pos (by rfl)]
      go_wp2_with fail
      refine (subW (st.add wt) out _).mono ?_
      rintro e x5 ⟨rfl, hb⟩
      have hnew := (hb.block _ hlt).trans hnew
      have hlt := Nat.lt_of_lt_of_le hlt hb.size
      have hBx := hBx.trans (hb.mono hBx.size)
      refine hK.out _ _ (hHeld.below hb) (fun hHeld => ?_)
      clear hK K hb
      refine wpAnyH_ready (rs := [6]) (by kernel_rfl) (by simp) (AllReadyH.cons (o := ⟨Option.none, .store 23 (.tmp 16) (.tmp 58), _, _, _, Option.none⟩) rfl (fun K hK => ?_) AllReadyH.nil)
      rw [if_pos (by rfl)]
      refine wp_store_row 23 (.tmp 16) (.tmp 58) (by rfl) (W4.heap.size) ((st.add wt).sub out).a (by rfl) (by rfl) 23 _ hnew Tryf.size23 rfl (Wt.one _) ?_
      have hrow := setRow_heap _ _ _ ((st.add wt).sub out).a _ _ hnew
      have hBx := below_setRow hBx (W4.heap.size) ((st.add wt).sub out).a hbk
      refine hK.out _ _ (hE0.below hBx) (fun _ => ?_)
      clear hK K
      refine wpAnyH_done (by kernel_rfl) ?_ _
      exact rest _ _ hbk hBx hrow
  case rest =>
    intro b16 W5 hb16 hb5 r16
    have hE : Env W5 [(w.heap.size, st.a, 23), (w.heap.size + 1, wt.a, 23), (w.heap.size + 1 + 1, out.a, 23), (w.heap.size + 1 + 1 + 1, lim.a, 23), (b15, limA unit lim lb, 27), (b16, ((st.add wt).sub out).a, 23)] := by
      have h := hE4.below hb5
      exact ⟨h.1, h.2.1, h.2.2.1, h.2.2.2.1, h.2.2.2.2.1, r16, trivial⟩
    have hB : Below w.heap.size w W5 := hB4.trans (hb5.mono hB4.size)
    have l15 : b15 < W5.heap.size := (Array.getElem?_eq_some_iff.1 hE.2.2.2.2.1).1
    have l16 : b16 < W5.heap.size := (Array.getElem?_eq_some_iff.1 r16).1
    clear hE4 hB4 hb5 r16
    simp only [Act.put]
    go_wp2_with (first
      | ((with_reducible refine at_op (.load 23 (.tmp 7)) ?_ ?_); (rfl); go_must (refine wpList_load_row_w (by rfl) 23 (.tmp 7) rfl (w.heap.size) rfl 23 st.a (0, 0) _ (hE.1) Tryf.underlying23 rfl Tryf.size23 ?_))
      | ((with_reducible refine at_op (.load 23 (.tmp 9)) ?_ ?_); (rfl); go_must (refine wpList_load_row_w (by rfl) 23 (.tmp 9) rfl (w.heap.size + 1) rfl 23 wt.a (0, 0) _ (hE.2.1) Tryf.underlying23 rfl Tryf.size23 ?_))
      | ((with_reducible refine at_op (.load 23 (.tmp 10)) ?_ ?_); (rfl); go_must (refine wpList_load_row_w (by rfl) 23 (.tmp 10) rfl (w.heap.size + 1 + 1) rfl 23 out.a (0, 0) _ (hE.2.2.1) Tryf.underlying23 rfl Tryf.size23 ?_))
      | ((with_reducible refine at_op (.load 23 (.tmp 12)) ?_ ?_); (rfl); go_must (refine wpList_load_row_w (by rfl) 23 (.tmp 12) rfl (w.heap.size + 1 + 1 + 1) rfl 23 lim.a (0, 0) _ (hE.2.2.2.1) Tryf.underlying23 rfl Tryf.size23 ?_))
      | ((with_reducible refine at_op (.load 27 (.tmp 15)) ?_ ?_); (rfl); go_must (refine wpList_load_row_w (by rfl) 27 (.tmp 15) rfl (b15) rfl 27 (limA unit lim lb) (0, 0) _ (hE.2.2.2.2.1) Tryf.underlying27 rfl Tryf.size27 ?_))
      | ((with_reducible refine at_op (.load 23 (.tmp 16)) ?_ ?_); (rfl); go_must (refine wpList_load_row_w (by rfl) 23 (.tmp 16) rfl (b16) rfl 23 ((st.add wt).sub out).a (0, 0) _ (hE.2.2.2.2.2.1) Tryf.underlying23 rfl Tryf.size23 ?_)))
    refine (within ((st.add wt).sub out) lim _).mono ?_
    rintro e W6 ⟨rfl, hb⟩
    replace hE := hE.below hb
    replace hB := hB.trans (hb.mono hB.size)
    clear hb
    go_wp2_with (first
      | ((with_reducible refine at_op (.load 23 (.tmp 7)) ?_ ?_); (rfl); go_must (refine wpList_load_row_w (by rfl) 23 (.tmp 7) rfl (w.heap.size) rfl 23 st.a (0, 0) _ (hE.1) Tryf.underlying23 rfl Tryf.size23 ?_))
      | ((with_reducible refine at_op (.load 23 (.tmp 9)) ?_ ?_); (rfl); go_must (refine wpList_load_row_w (by rfl) 23 (.tmp 9) rfl (w.heap.size + 1) rfl 23 wt.a (0, 0) _ (hE.2.1) Tryf.underlying23 rfl Tryf.size23 ?_))
      | ((with_reducible refine at_op (.load 23 (.tmp 10)) ?_ ?_); (rfl); go_must (refine wpList_load_row_w (by rfl) 23 (.tmp 10) rfl (w.heap.size + 1 + 1) rfl 23 out.a (0, 0) _ (hE.2.2.1) Tryf.underlying23 rfl Tryf.size23 ?_))
      | ((with_reducible refine at_op (.load 23 (.tmp 12)) ?_ ?_); (rfl); go_must (refine wpList_load_row_w (by rfl) 23 (.tmp 12) rfl (w.heap.size + 1 + 1 + 1) rfl 23 lim.a (0, 0) _ (hE.2.2.2.1) Tryf.underlying23 rfl Tryf.size23 ?_))
      | ((with_reducible refine at_op (.load 27 (.tmp 15)) ?_ ?_); (rfl); go_must (refine wpList_load_row_w (by rfl) 27 (.tmp 15) rfl (b15) rfl 27 (limA unit lim lb) (0, 0) _ (hE.2.2.2.2.1) Tryf.underlying27 rfl Tryf.size27 ?_))
      | ((with_reducible refine at_op (.load 23 (.tmp 16)) ?_ ?_); (rfl); go_must (refine wpList_load_row_w (by rfl) 23 (.tmp 16) rfl (b16) rfl 23 ((st.add wt).sub out).a (0, 0) _ (hE.2.2.2.2.2.1) Tryf.underlying23 rfl Tryf.size23 ?_)))
    refine (toWeight st _).mono ?_
    rintro e W7 ⟨rfl, hb⟩
    replace hE := hE.below hb
    replace hB := hB.trans (hb.mono hB.size)
    clear hb
    go_wp2_with fail
    refine (newTally st built _).mono ?_
    rintro e W8 ⟨bt, rfl, hb, hbt8, hrow⟩
    have hbL := Env.ne hbt8 hE
    have hbt : w.heap.size ≤ bt := Nat.le_trans hB.size hbt8
    replace hE := hE.below hb
    replace hB := hB.trans (hb.mono hB.size)
    have hT : Env W8 [(bt, talA st built, 39)] := ⟨hrow, trivial⟩
    clear hb hrow hbt8
    go_wp2_with fail
    replace hB := hB.drew
    replace hT : Env W8.drew [(bt, talA st built, 39)] := hT.below ((Below.refl _ _).drew)
    replace hE : Env W8.drew [(w.heap.size, st.a, 23), (w.heap.size + 1, wt.a, 23), (w.heap.size + 1 + 1, out.a, 23), (w.heap.size + 1 + 1 + 1, lim.a, 23), (b15, limA unit lim lb, 27), (b16, ((st.add wt).sub out).a, 23)] := hE.below ((Below.refl _ _).drew)
    cases hw : wi ((st.add wt).sub out) lim
    case true =>
      have HW : Hid (wi ((st.add wt).sub out) lim = true) := hw
      clear hw
      refine wp_region_held_drew (S := fun w' => Env w' [(w.heap.size, st.a, 23), (w.heap.size + 1, wt.a, 23), (w.heap.size + 1 + 1, out.a, 23), (w.heap.size + 1 + 1 + 1, lim.a, 23), (b15, limA unit lim lb, 27), (b16, ((st.add wt).sub out).a, 23)]) (by kernel_rfl) hE (fun hHeld => ?_)
      refine wpAnyH_take (i := 0) (oi := ⟨some 66, .move (.tmp 18), _, _, _, Option.none⟩) (v := .pointer (some ⟨bt, 0, none⟩)) rfl (by kernel_rfl) (by kernel_rfl) (by kernel_rfl) (fun _ _ _ h => h) (Or.inl ⟨by rfl, fun w' hS => ?_⟩) hHeld ?_
      · go_simp
      simp only [Act.put, List.setIfInBounds_toArray, List.set_cons_zero, List.set_cons_succ]
      refine wpAnyH_take (i := 1) (oi := ⟨some 67, .load 23 (.tmp 9), _, _, _, Option.none⟩) (v := .agg wt.a) rfl (by kernel_rfl) (by kernel_rfl) (by kernel_rfl) (fun _ _ _ h => h) ?_ hHeld ?_
      · exact yieldsIf_row (by rfl) 23 (.tmp 9) (by rfl) (w.heap.size + 1) (by rfl) _ wt.a (0, 0) _ (fun w' hS => hS.2.1) Tryf.underlying23 (by rfl) Tryf.size23
      simp only [Act.put, List.setIfInBounds_toArray, List.set_cons_zero, List.set_cons_succ]
      refine wpAnyH_take (i := 3) (oi := ⟨some 69, .load 23 (.tmp 10), _, _, _, Option.none⟩) (v := .agg out.a) rfl (by kernel_rfl) (by kernel_rfl) (by kernel_rfl) (fun _ _ _ h => h) ?_ hHeld ?_
      · exact yieldsIf_row (by rfl) 23 (.tmp 10) (by rfl) (w.heap.size + 1 + 1) (by rfl) _ out.a (0, 0) _ (fun w' hS => hS.2.2.1) Tryf.underlying23 (by rfl) Tryf.size23
      simp only [Act.put, List.setIfInBounds_toArray, List.set_cons_zero, List.set_cons_succ]
      refine wpAnyH_take (i := 5) (oi := ⟨some 71, .load 27 (.tmp 15), _, _, _, Option.none⟩) (v := .agg (limA unit lim lb)) rfl (by kernel_rfl) (by kernel_rfl) (by kernel_rfl) (fun _ _ _ h => h) ?_ hHeld ?_
      · exact yieldsIf_row (by rfl) 27 (.tmp 15) (by rfl) (b15) (by rfl) _ (limA unit lim lb) (0, 0) _ (fun w' hS => hS.2.2.2.2.1) Tryf.underlying27 (by rfl) Tryf.size27
      simp only [Act.put, List.setIfInBounds_toArray, List.set_cons_zero, List.set_cons_succ]
      refine wpAnyH_ready (rs := [2]) (by kernel_rfl) (by simp) (AllReadyH.cons (o := ⟨some 68, .call { callee := .value (.func 7), args := #[.tmp 67], argTypes := #[23] }, _, _, _, Option.none⟩) rfl (fun K hK => ?_) AllReadyH.nil)
      rw [if_pos (by rfl)]
      go_wp2_with fail
      refine (toWeight wt _).mono ?_
      rintro e y1 ⟨rfl, hb⟩
      replace hB := hB.trans (hb.mono hB.size)
      replace hT := hT.below hb
      refine hK.out _ _ (hHeld.below hb) (fun hHeld => ?_)
      clear hK K hb
      refine wpAnyH_ready (rs := [4]) (by kernel_rfl) (by simp) (AllReadyH.cons (o := ⟨some 70, .call { callee := .value (.func 7), args := #[.tmp 69], argTypes := #[23] }, _, _, _, Option.none⟩) rfl (fun K hK => ?_) AllReadyH.nil)
      rw [if_pos (by rfl)]
      go_wp2_with fail
      refine (toWeight out _).mono ?_
      rintro e y2 ⟨rfl, hb⟩
      replace hB := hB.trans (hb.mono hB.size)
      replace hT := hT.below hb
      refine hK.out _ _ (hHeld.below hb) (fun hHeld => ?_)
      clear hK K hb
      refine wpAnyH_ready (rs := [6]) (by kernel_rfl) (by simp) (AllReadyH.cons (o := ⟨some 72, .call { callee := .value (.func 12), args := #[.tmp 66, .tmp 68, .tmp 70, .tmp 71], argTypes := #[32, 25, 25, 27] }, _, _, _, Option.none⟩) rfl (fun K hK => ?_) AllReadyH.nil)
      rw [if_pos (by rfl)]
      go_wp2_with fail
      refine (hold_yes F bt st wt out lim built lb unit _ (by rw [hB.tape]; exact hF) hT.1 (passed_yes HW.out)).mono ?_
      rintro e y3 ⟨rfl, hO, hT'⟩
      replace hB := below_other hB hO hbt hB.size
      replace hT : Env y3 [(bt, _, 39)] := ⟨hT', trivial⟩
      refine hK.out _ _ (hHeld.other hO hbL) (fun hHeld => ?_)
      clear hK K hO hT'
      refine wpAnyH_take (i := 7) (oi := ⟨some 19, .assign (.tmp 72), _, _, _, Option.none⟩) (v := .string ByteArray.empty) rfl (by kernel_rfl) (by kernel_rfl) (by kernel_rfl) (fun _ _ _ h => h) (Or.inl ⟨by rfl, fun w' hS => ?_⟩) hHeld ?_
      · go_simp
      simp only [Act.put, List.setIfInBounds_toArray, List.set_cons_zero, List.set_cons_succ]
      refine wpAnyH_done (by kernel_rfl) ?_ _
      clear hE
      have hE := hHeld
      clear hHeld
      have c90 : y3.cell? ⟨w.heap.size + 1, 0, none⟩ = some (.int .i64 wt.u) := cell_of_row y3 _ 0 _ 23 (0, 0) hE.2.1
      have c100 : y3.cell? ⟨w.heap.size + 1 + 1, 0, none⟩ = some (.int .i64 out.u) := cell_of_row y3 _ 0 _ 23 (0, 0) hE.2.2.1
      go_wp2_with (first
      | ((with_reducible refine at_op (.load 23 (.tmp 7)) ?_ ?_); (rfl); go_must (refine wpList_load_row_w (by rfl) 23 (.tmp 7) rfl (w.heap.size) rfl 23 st.a (0, 0) _ (hE.1) Tryf.underlying23 rfl Tryf.size23 ?_))
      | ((with_reducible refine at_op (.load 23 (.tmp 9)) ?_ ?_); (rfl); go_must (refine wpList_load_row_w (by rfl) 23 (.tmp 9) rfl (w.heap.size + 1) rfl 23 wt.a (0, 0) _ (hE.2.1) Tryf.underlying23 rfl Tryf.size23 ?_))
      | ((with_reducible refine at_op (.load 23 (.tmp 10)) ?_ ?_); (rfl); go_must (refine wpList_load_row_w (by rfl) 23 (.tmp 10) rfl (w.heap.size + 1 + 1) rfl 23 out.a (0, 0) _ (hE.2.2.1) Tryf.underlying23 rfl Tryf.size23 ?_))
      | ((with_reducible refine at_op (.load 23 (.tmp 12)) ?_ ?_); (rfl); go_must (refine wpList_load_row_w (by rfl) 23 (.tmp 12) rfl (w.heap.size + 1 + 1 + 1) rfl 23 lim.a (0, 0) _ (hE.2.2.2.1) Tryf.underlying23 rfl Tryf.size23 ?_))
      | ((with_reducible refine at_op (.load 27 (.tmp 15)) ?_ ?_); (rfl); go_must (refine wpList_load_row_w (by rfl) 27 (.tmp 15) rfl (b15) rfl 27 (limA unit lim lb) (0, 0) _ (hE.2.2.2.2.1) Tryf.underlying27 rfl Tryf.size27 ?_))
      | ((with_reducible refine at_op (.load 23 (.tmp 16)) ?_ ?_); (rfl); go_must (refine wpList_load_row_w (by rfl) 23 (.tmp 16) rfl (b16) rfl 23 ((st.add wt).sub out).a (0, 0) _ (hE.2.2.2.2.2.1) Tryf.underlying23 rfl Tryf.size23 ?_)))
      clear c90 c100
      refine (tallyIs bt _ _ _ hT.1).mono ?_
      rintro e y4 ⟨rfl, hb⟩
      replace hE := hE.below hb
      replace hB := hB.trans (hb.mono hB.size)
      replace hT := hT.below hb
      clear hb
      go_wp2_with fail
      replace hB := hB.drew
      replace hT := hT.below ((Below.refl _ _).drew)
      replace hE := hE.below ((Below.refl _ _).drew)
      have hsw := Wt.swap_back st wt out hu hs hp
      have hwi : wi st lim = true := by simp [wi, g1, g2]
      have HS : Hid ((((st.add wt).sub out).add out).sub wt = st) := hsw
      have HWI : Hid (wi st lim = true) := hwi
      clear hsw hwi
      refine wp_region_held_drew (S := fun w' => Env w' [(w.heap.size, st.a, 23), (w.heap.size + 1, wt.a, 23), (w.heap.size + 1 + 1, out.a, 23), (w.heap.size + 1 + 1 + 1, lim.a, 23), (b15, limA unit lim lb, 27), (b16, ((st.add wt).sub out).a, 23)]) (by kernel_rfl) hE (fun hHeld => ?_)
      refine wpAnyH_take (i := 0) (oi := ⟨some 89, .move (.tmp 18), _, _, _, Option.none⟩) (v := .pointer (some ⟨bt, 0, none⟩)) rfl (by kernel_rfl) (by kernel_rfl) (by kernel_rfl) (fun _ _ _ h => h) (Or.inl ⟨by rfl, fun w' hS => ?_⟩) hHeld ?_
      · go_simp
      simp only [Act.put, List.setIfInBounds_toArray, List.set_cons_zero, List.set_cons_succ]
      refine wpAnyH_take (i := 1) (oi := ⟨some 90, .load 23 (.tmp 10), _, _, _, Option.none⟩) (v := .agg out.a) rfl (by kernel_rfl) (by kernel_rfl) (by kernel_rfl) (fun _ _ _ h => h) ?_ hHeld ?_
      · exact yieldsIf_row (by rfl) 23 (.tmp 10) (by rfl) (w.heap.size + 1 + 1) (by rfl) _ out.a (0, 0) _ (fun w' hS => hS.2.2.1) Tryf.underlying23 (by rfl) Tryf.size23
      simp only [Act.put, List.setIfInBounds_toArray, List.set_cons_zero, List.set_cons_succ]
      refine wpAnyH_take (i := 3) (oi := ⟨some 92, .load 23 (.tmp 9), _, _, _, Option.none⟩) (v := .agg wt.a) rfl (by kernel_rfl) (by kernel_rfl) (by kernel_rfl) (fun _ _ _ h => h) ?_ hHeld ?_
      · exact yieldsIf_row (by rfl) 23 (.tmp 9) (by rfl) (w.heap.size + 1) (by rfl) _ wt.a (0, 0) _ (fun w' hS => hS.2.1) Tryf.underlying23 (by rfl) Tryf.size23
      simp only [Act.put, List.setIfInBounds_toArray, List.set_cons_zero, List.set_cons_succ]
      refine wpAnyH_take (i := 5) (oi := ⟨some 94, .load 27 (.tmp 15), _, _, _, Option.none⟩) (v := .agg (limA unit lim lb)) rfl (by kernel_rfl) (by kernel_rfl) (by kernel_rfl) (fun _ _ _ h => h) ?_ hHeld ?_
      · exact yieldsIf_row (by rfl) 27 (.tmp 15) (by rfl) (b15) (by rfl) _ (limA unit lim lb) (0, 0) _ (fun w' hS => hS.2.2.2.2.1) Tryf.underlying27 (by rfl) Tryf.size27
      simp only [Act.put, List.setIfInBounds_toArray, List.set_cons_zero, List.set_cons_succ]
      refine wpAnyH_ready (rs := [2]) (by kernel_rfl) (by simp) (AllReadyH.cons (o := ⟨some 91, .call { callee := .value (.func 7), args := #[.tmp 90], argTypes := #[23] }, _, _, _, Option.none⟩) rfl (fun K hK => ?_) AllReadyH.nil)
      rw [if_pos (by rfl)]
      go_wp2_with fail
      refine (toWeight out _).mono ?_
      rintro e z1 ⟨rfl, hb⟩
      replace hB := hB.trans (hb.mono hB.size)
      replace hT := hT.below hb
      refine hK.out _ _ (hHeld.below hb) (fun hHeld => ?_)
      clear hK K hb
      refine wpAnyH_ready (rs := [4]) (by kernel_rfl) (by simp) (AllReadyH.cons (o := ⟨some 93, .call { callee := .value (.func 7), args := #[.tmp 92], argTypes := #[23] }, _, _, _, Option.none⟩) rfl (fun K hK => ?_) AllReadyH.nil)
      rw [if_pos (by rfl)]
      go_wp2_with fail
      refine (toWeight wt _).mono ?_
      rintro e z2 ⟨rfl, hb⟩
      replace hB := hB.trans (hb.mono hB.size)
      replace hT := hT.below hb
      refine hK.out _ _ (hHeld.below hb) (fun hHeld => ?_)
      clear hK K hb
      refine wpAnyH_ready (rs := [6]) (by kernel_rfl) (by simp) (AllReadyH.cons (o := ⟨some 95, .call { callee := .value (.func 12), args := #[.tmp 89, .tmp 91, .tmp 93, .tmp 94], argTypes := #[32, 25, 25, 27] }, _, _, _, Option.none⟩) rfl (fun K hK => ?_) AllReadyH.nil)
      rw [if_pos (by rfl)]
      go_wp2_with fail
      refine (hold_yes F bt ((st.add wt).sub out) out wt lim _ lb unit _ (by rw [hB.tape]; exact hF) hT.1 (passed_yes (by rw [HS.out]; exact HWI.out))).mono ?_
      rintro e z3 ⟨rfl, hO, hT'⟩
      replace hB := below_other hB hO hbt hB.size
      replace hT : Env z3 [(bt, _, 39)] := ⟨hT', trivial⟩
      refine hK.out _ _ (hHeld.other hO hbL) (fun hHeld => ?_)
      clear hK K hO hT'
      refine wpAnyH_take (i := 7) (oi := ⟨some 20, .assign (.tmp 95), _, _, _, Option.none⟩) (v := .string ByteArray.empty) rfl (by kernel_rfl) (by kernel_rfl) (by kernel_rfl) (fun _ _ _ h => h) (Or.inl ⟨by rfl, fun w' hS => ?_⟩) hHeld ?_
      · go_simp
      simp only [Act.put, List.setIfInBounds_toArray, List.set_cons_zero, List.set_cons_succ]
      rw [HS.out] at hT
      refine wpAnyH_done (by kernel_rfl) ?_ _
      clear hE
      have hE := hHeld
      clear hHeld
      have c90 : z3.cell? ⟨w.heap.size + 1, 0, none⟩ = some (.int .i64 wt.u) := cell_of_row z3 _ 0 _ 23 (0, 0) hE.2.1
      have c100 : z3.cell? ⟨w.heap.size + 1 + 1, 0, none⟩ = some (.int .i64 out.u) := cell_of_row z3 _ 0 _ 23 (0, 0) hE.2.2.1
      go_wp2_with (first
      | ((with_reducible refine at_op (.load 23 (.tmp 7)) ?_ ?_); (rfl); go_must (refine wpList_load_row_w (by rfl) 23 (.tmp 7) rfl (w.heap.size) rfl 23 st.a (0, 0) _ (hE.1) Tryf.underlying23 rfl Tryf.size23 ?_))
      | ((with_reducible refine at_op (.load 23 (.tmp 9)) ?_ ?_); (rfl); go_must (refine wpList_load_row_w (by rfl) 23 (.tmp 9) rfl (w.heap.size + 1) rfl 23 wt.a (0, 0) _ (hE.2.1) Tryf.underlying23 rfl Tryf.size23 ?_))
      | ((with_reducible refine at_op (.load 23 (.tmp 10)) ?_ ?_); (rfl); go_must (refine wpList_load_row_w (by rfl) 23 (.tmp 10) rfl (w.heap.size + 1 + 1) rfl 23 out.a (0, 0) _ (hE.2.2.1) Tryf.underlying23 rfl Tryf.size23 ?_))
      | ((with_reducible refine at_op (.load 23 (.tmp 12)) ?_ ?_); (rfl); go_must (refine wpList_load_row_w (by rfl) 23 (.tmp 12) rfl (w.heap.size + 1 + 1 + 1) rfl 23 lim.a (0, 0) _ (hE.2.2.2.1) Tryf.underlying23 rfl Tryf.size23 ?_))
      | ((with_reducible refine at_op (.load 27 (.tmp 15)) ?_ ?_); (rfl); go_must (refine wpList_load_row_w (by rfl) 27 (.tmp 15) rfl (b15) rfl 27 (limA unit lim lb) (0, 0) _ (hE.2.2.2.2.1) Tryf.underlying27 rfl Tryf.size27 ?_))
      | ((with_reducible refine at_op (.load 23 (.tmp 16)) ?_ ?_); (rfl); go_must (refine wpList_load_row_w (by rfl) 23 (.tmp 16) rfl (b16) rfl 23 ((st.add wt).sub out).a (0, 0) _ (hE.2.2.2.2.2.1) Tryf.underlying23 rfl Tryf.size23 ?_)))
      clear c90 c100
      refine (tallyIs bt _ _ _ hT.1).mono ?_
      rintro e z4 ⟨rfl, hb⟩
      replace hB := hB.trans (hb.mono hB.size)
      clear hE hT hb
      go_wp2
      go_ret
      exact ⟨rfl, hB⟩
    case false =>
      have HW : Hid (wi ((st.add wt).sub out) lim = false) := hw
      clear hw
      refine wp_region_held_drew (S := fun w' => Env w' [(w.heap.size, st.a, 23), (w.heap.size + 1, wt.a, 23), (w.heap.size + 1 + 1, out.a, 23), (w.heap.size + 1 + 1 + 1, lim.a, 23), (b15, limA unit lim lb, 27), (b16, ((st.add wt).sub out).a, 23)]) (by kernel_rfl) hE (fun hHeld => ?_)
      refine wpAnyH_take (i := 0) (oi := ⟨some 66, .move (.tmp 18), _, _, _, Option.none⟩) (v := .pointer (some ⟨bt, 0, none⟩)) rfl (by kernel_rfl) (by kernel_rfl) (by kernel_rfl) (fun _ _ _ h => h) (Or.inl ⟨by rfl, fun w' hS => ?_⟩) hHeld ?_
      · go_simp
      simp only [Act.put, List.setIfInBounds_toArray, List.set_cons_zero, List.set_cons_succ]
      refine wpAnyH_take (i := 1) (oi := ⟨some 67, .load 23 (.tmp 9), _, _, _, Option.none⟩) (v := .agg wt.a) rfl (by kernel_rfl) (by kernel_rfl) (by kernel_rfl) (fun _ _ _ h => h) ?_ hHeld ?_
      · exact yieldsIf_row (by rfl) 23 (.tmp 9) (by rfl) (w.heap.size + 1) (by rfl) _ wt.a (0, 0) _ (fun w' hS => hS.2.1) Tryf.underlying23 (by rfl) Tryf.size23
      simp only [Act.put, List.setIfInBounds_toArray, List.set_cons_zero, List.set_cons_succ]
      refine wpAnyH_take (i := 3) (oi := ⟨some 69, .load 23 (.tmp 10), _, _, _, Option.none⟩) (v := .agg out.a) rfl (by kernel_rfl) (by kernel_rfl) (by kernel_rfl) (fun _ _ _ h => h) ?_ hHeld ?_
      · exact yieldsIf_row (by rfl) 23 (.tmp 10) (by rfl) (w.heap.size + 1 + 1) (by rfl) _ out.a (0, 0) _ (fun w' hS => hS.2.2.1) Tryf.underlying23 (by rfl) Tryf.size23
      simp only [Act.put, List.setIfInBounds_toArray, List.set_cons_zero, List.set_cons_succ]
      refine wpAnyH_take (i := 5) (oi := ⟨some 71, .load 27 (.tmp 15), _, _, _, Option.none⟩) (v := .agg (limA unit lim lb)) rfl (by kernel_rfl) (by kernel_rfl) (by kernel_rfl) (fun _ _ _ h => h) ?_ hHeld ?_
      · exact yieldsIf_row (by rfl) 27 (.tmp 15) (by rfl) (b15) (by rfl) _ (limA unit lim lb) (0, 0) _ (fun w' hS => hS.2.2.2.2.1) Tryf.underlying27 (by rfl) Tryf.size27
      simp only [Act.put, List.setIfInBounds_toArray, List.set_cons_zero, List.set_cons_succ]
      refine wpAnyH_ready (rs := [2]) (by kernel_rfl) (by simp) (AllReadyH.cons (o := ⟨some 68, .call { callee := .value (.func 7), args := #[.tmp 67], argTypes := #[23] }, _, _, _, Option.none⟩) rfl (fun K hK => ?_) AllReadyH.nil)
      rw [if_pos (by rfl)]
      go_wp2_with fail
      refine (toWeight wt _).mono ?_
      rintro e y1 ⟨rfl, hb⟩
      replace hB := hB.trans (hb.mono hB.size)
      replace hT := hT.below hb
      refine hK.out _ _ (hHeld.below hb) (fun hHeld => ?_)
      clear hK K hb
      refine wpAnyH_ready (rs := [4]) (by kernel_rfl) (by simp) (AllReadyH.cons (o := ⟨some 70, .call { callee := .value (.func 7), args := #[.tmp 69], argTypes := #[23] }, _, _, _, Option.none⟩) rfl (fun K hK => ?_) AllReadyH.nil)
      rw [if_pos (by rfl)]
      go_wp2_with fail
      refine (toWeight out _).mono ?_
      rintro e y2 ⟨rfl, hb⟩
      replace hB := hB.trans (hb.mono hB.size)
      replace hT := hT.below hb
      refine hK.out _ _ (hHeld.below hb) (fun hHeld => ?_)
      clear hK K hb
      refine wpAnyH_ready (rs := [6]) (by kernel_rfl) (by simp) (AllReadyH.cons (o := ⟨some 72, .call { callee := .value (.func 12), args := #[.tmp 66, .tmp 68, .tmp 70, .tmp 71], argTypes := #[32, 25, 25, 27] }, _, _, _, Option.none⟩) rfl (fun K hK => ?_) AllReadyH.nil)
      rw [if_pos (by rfl)]
      go_wp2_with fail
      refine (hold_no F bt st wt out lim built lb unit _ (by rw [hB.tape]; exact hF) hT.1 (passed_no hfull HW.out)).mono ?_
      rintro e y3 ⟨rfl, hO, hT'⟩
      replace hB := below_other hB hO hbt hB.size
      replace hT : Env y3 [(bt, _, 39)] := ⟨hT', trivial⟩
      refine hK.out _ _ (hHeld.other hO hbL) (fun hHeld => ?_)
      clear hK K hO hT'
      refine wpAnyH_take (i := 7) (oi := ⟨some 19, .assign (.tmp 72), _, _, _, Option.none⟩) (v := .string (passed F unit lim ((st.add wt).sub out))) rfl (by kernel_rfl) (by kernel_rfl) (by kernel_rfl) (fun _ _ _ h => h) (Or.inl ⟨by rfl, fun w' hS => ?_⟩) hHeld ?_
      · go_simp
      simp only [Act.put, List.setIfInBounds_toArray, List.set_cons_zero, List.set_cons_succ]
      refine wpAnyH_done (by kernel_rfl) ?_ _
      clear hE
      have hE := hHeld
      clear hHeld
      go_wp2_with (first
      | ((with_reducible refine at_op (.load 23 (.tmp 7)) ?_ ?_); (rfl); go_must (refine wpList_load_row_w (by rfl) 23 (.tmp 7) rfl (w.heap.size) rfl 23 st.a (0, 0) _ (hE.1) Tryf.underlying23 rfl Tryf.size23 ?_))
      | ((with_reducible refine at_op (.load 23 (.tmp 9)) ?_ ?_); (rfl); go_must (refine wpList_load_row_w (by rfl) 23 (.tmp 9) rfl (w.heap.size + 1) rfl 23 wt.a (0, 0) _ (hE.2.1) Tryf.underlying23 rfl Tryf.size23 ?_))
      | ((with_reducible refine at_op (.load 23 (.tmp 10)) ?_ ?_); (rfl); go_must (refine wpList_load_row_w (by rfl) 23 (.tmp 10) rfl (w.heap.size + 1 + 1) rfl 23 out.a (0, 0) _ (hE.2.2.1) Tryf.underlying23 rfl Tryf.size23 ?_))
      | ((with_reducible refine at_op (.load 23 (.tmp 12)) ?_ ?_); (rfl); go_must (refine wpList_load_row_w (by rfl) 23 (.tmp 12) rfl (w.heap.size + 1 + 1 + 1) rfl 23 lim.a (0, 0) _ (hE.2.2.2.1) Tryf.underlying23 rfl Tryf.size23 ?_))
      | ((with_reducible refine at_op (.load 27 (.tmp 15)) ?_ ?_); (rfl); go_must (refine wpList_load_row_w (by rfl) 27 (.tmp 15) rfl (b15) rfl 27 (limA unit lim lb) (0, 0) _ (hE.2.2.2.2.1) Tryf.underlying27 rfl Tryf.size27 ?_))
      | ((with_reducible refine at_op (.load 23 (.tmp 16)) ?_ ?_); (rfl); go_must (refine wpList_load_row_w (by rfl) 23 (.tmp 16) rfl (b16) rfl 23 ((st.add wt).sub out).a (0, 0) _ (hE.2.2.2.2.2.1) Tryf.underlying23 rfl Tryf.size23 ?_)))
      refine (answer_no F unit lim ((st.add wt).sub out) lb _ (by rw [hB.tape]; exact hF)).mono ?_
      rintro e y4 ⟨rfl, hb⟩
      replace hE := hE.below hb
      replace hB := hB.trans (hb.mono hB.size)
      replace hT := hT.below hb
      clear hb
      have c90 : y4.cell? ⟨w.heap.size + 1, 0, none⟩ = some (.int .i64 wt.u) := cell_of_row y4 _ 0 _ 23 (0, 0) hE.2.1
      have c100 : y4.cell? ⟨w.heap.size + 1 + 1, 0, none⟩ = some (.int .i64 out.u) := cell_of_row y4 _ 0 _ 23 (0, 0) hE.2.2.1
      go_wp2_with (first
      | ((with_reducible refine at_op (.load 23 (.tmp 7)) ?_ ?_); (rfl); go_must (refine wpList_load_row_w (by rfl) 23 (.tmp 7) rfl (w.heap.size) rfl 23 st.a (0, 0) _ (hE.1) Tryf.underlying23 rfl Tryf.size23 ?_))
      | ((with_reducible refine at_op (.load 23 (.tmp 9)) ?_ ?_); (rfl); go_must (refine wpList_load_row_w (by rfl) 23 (.tmp 9) rfl (w.heap.size + 1) rfl 23 wt.a (0, 0) _ (hE.2.1) Tryf.underlying23 rfl Tryf.size23 ?_))
      | ((with_reducible refine at_op (.load 23 (.tmp 10)) ?_ ?_); (rfl); go_must (refine wpList_load_row_w (by rfl) 23 (.tmp 10) rfl (w.heap.size + 1 + 1) rfl 23 out.a (0, 0) _ (hE.2.2.1) Tryf.underlying23 rfl Tryf.size23 ?_))
      | ((with_reducible refine at_op (.load 23 (.tmp 12)) ?_ ?_); (rfl); go_must (refine wpList_load_row_w (by rfl) 23 (.tmp 12) rfl (w.heap.size + 1 + 1 + 1) rfl 23 lim.a (0, 0) _ (hE.2.2.2.1) Tryf.underlying23 rfl Tryf.size23 ?_))
      | ((with_reducible refine at_op (.load 27 (.tmp 15)) ?_ ?_); (rfl); go_must (refine wpList_load_row_w (by rfl) 27 (.tmp 15) rfl (b15) rfl 27 (limA unit lim lb) (0, 0) _ (hE.2.2.2.2.1) Tryf.underlying27 rfl Tryf.size27 ?_))
      | ((with_reducible refine at_op (.load 23 (.tmp 16)) ?_ ?_); (rfl); go_must (refine wpList_load_row_w (by rfl) 23 (.tmp 16) rfl (b16) rfl 23 ((st.add wt).sub out).a (0, 0) _ (hE.2.2.2.2.2.1) Tryf.underlying23 rfl Tryf.size23 ?_)))
      clear c90 c100
      refine (tallyIs bt _ _ _ hT.1).mono ?_
      rintro e y5 ⟨rfl, hb⟩
      replace hE := hE.below hb
      replace hB := hB.trans (hb.mono hB.size)
      replace hT := hT.below hb
      clear hb
      have hT0 := hT
      go_wp2_with fail
      refine (fun (rest : ∀ (bk : Nat) (W2 : World), y5.heap.size ≤ bk → Below y5.heap.size y5 W2 → W2.heap[bk]? = some (.cells ((st.add out).sub wt).a 23) → (?Prest2 : Nat → World → Prop) bk W2) => ?main2) ?rest2
      case main2 =>
        have hE0 := hE
        have hBx : Below y5.heap.size y5 y5.drew := (Below.refl _ _).drew
        refine wp_region_held_drew (S := fun w' => Env w' [(w.heap.size, st.a, 23), (w.heap.size + 1, wt.a, 23), (w.heap.size + 1 + 1, out.a, 23), (w.heap.size + 1 + 1 + 1, lim.a, 23), (b15, limA unit lim lb, 27), (b16, ((st.add wt).sub out).a, 23)]) (by kernel_rfl) (hE.below hBx) (fun hHeld => ?_)
        refine wpAnyH_take (i := 0) (oi := ⟨some 131, .load 23 (.tmp 7), _, _, _, Option.none⟩) (v := .agg st.a) rfl (by kernel_rfl) (by kernel_rfl) (by kernel_rfl) (fun _ _ _ h => h) ?_ hHeld ?_
        · exact yieldsIf_row (by rfl) 23 (.tmp 7) (by rfl) (w.heap.size) (by rfl) _ st.a (0, 0) _ (fun w' hS => hS.1) Tryf.underlying23 (by rfl) Tryf.size23
        simp only [Act.put, List.setIfInBounds_toArray, List.set_cons_zero, List.set_cons_succ]
        refine wpAnyH_take (i := 1) (oi := ⟨some 132, .load 23 (.tmp 10), _, _, _, Option.none⟩) (v := .agg out.a) rfl (by kernel_rfl) (by kernel_rfl) (by kernel_rfl) (fun _ _ _ h => h) ?_ hHeld ?_
        · exact yieldsIf_row (by rfl) 23 (.tmp 10) (by rfl) (w.heap.size + 1 + 1) (by rfl) _ out.a (0, 0) _ (fun w' hS => hS.2.2.1) Tryf.underlying23 (by rfl) Tryf.size23
        simp only [Act.put, List.setIfInBounds_toArray, List.set_cons_zero, List.set_cons_succ]
        refine wpAnyH_take (i := 3) (oi := ⟨some 134, .load 23 (.tmp 9), _, _, _, Option.none⟩) (v := .agg wt.a) rfl (by kernel_rfl) (by kernel_rfl) (by kernel_rfl) (fun _ _ _ h => h) ?_ hHeld ?_
        · exact yieldsIf_row (by rfl) 23 (.tmp 9) (by rfl) (w.heap.size + 1) (by rfl) _ wt.a (0, 0) _ (fun w' hS => hS.2.1) Tryf.underlying23 (by rfl) Tryf.size23
        simp only [Act.put, List.setIfInBounds_toArray, List.set_cons_zero, List.set_cons_succ]
        refine wpAnyH_ready (rs := [2, 5]) (by kernel_rfl) (by simp) (AllReadyH.cons (o := ⟨some 133, .call { callee := .value (.func 9), args := #[.tmp 131, .tmp 132], argTypes := #[23, 23] }, _, _, _, Option.none⟩) rfl (fun K hK => ?_) (AllReadyH.cons (o := ⟨some 21, .alloc 23, _, _, _, Option.none⟩) rfl (fun K hK => ?_) AllReadyH.nil))
        · rw [if_pos (by rfl)]
          go_wp2_with fail
          refine (addW st out _).mono ?_
          rintro e x1 ⟨rfl, hb⟩
          have hBx := hBx.trans (hb.mono hBx.size)
          refine hK.out _ _ (hHeld.below hb) (fun hHeld => ?_)
          clear hK K hb
          refine wpAnyH_ready (rs := [4, 5]) (by kernel_rfl) (by simp) (AllReadyH.cons (o := ⟨some 135, .call { callee := .value (.func 8), args := #[.tmp 133, .tmp 134], argTypes := #[23, 23] }, _, _, _, Option.none⟩) rfl (fun K hK => ?_) (AllReadyH.cons (o := ⟨some 21, .alloc 23, _, _, _, Option.none⟩) rfl (fun K hK => ?_) AllReadyH.nil))
          · rw [if_pos (by rfl)]
            go_wp2_with fail
            refine (subW (st.add out) wt _).mono ?_
            rintro e x2 ⟨rfl, hb⟩
            have hBx := hBx.trans (hb.mono hBx.size)
            refine hK.out _ _ (hHeld.below hb) (fun hHeld => ?_)
            clear hK K hb
            refine wpAnyH_ready (rs := [5]) (by kernel_rfl) (by simp) (AllReadyH.cons (o := ⟨some 21, .alloc 23, _, _, _, Option.none⟩) rfl (fun K hK => ?_) AllReadyH.nil)
            rw [if_pos (by rfl)]
            go_wp2_with fail
            have hnew := heap_alloc_new x2 (.cells #[.int .i64 0, .int .i64 0, .int .i64 0] 23)
            have hlt : x2.heap.size < (x2.alloc (.cells #[.int .i64 0, .int .i64 0, .int .i64 0] 23)).heap.size := by simp
            have hbk : y5.heap.size ≤ x2.heap.size := hBx.size
            have hBx := hBx.alloc hBx.size (.cells #[.int .i64 0, .int .i64 0, .int .i64 0] 23)
            refine hK.out _ _ (hHeld.below (below1 x2 (.cells #[.int .i64 0, .int .i64 0, .int .i64 0] 23))) (fun hHeld => ?_)
            clear hK K
            refine wpAnyH_ready (rs := [6]) (by kernel_rfl) (by simp) (AllReadyH.cons (o := ⟨Option.none, .store 23 (.tmp 21) (.tmp 135), _, _, _, Option.none⟩) rfl (fun K hK => ?_) AllReadyH.nil)
            rw [if_pos (by rfl)]
            refine wp_store_row 23 (.tmp 21) (.tmp 135) (by rfl) (x2.heap.size) ((st.add out).sub wt).a (by rfl) (by rfl) 23 _ hnew Tryf.size23 rfl (Wt.one _) ?_
            have hrow := setRow_heap _ _ _ ((st.add out).sub wt).a _ _ hnew
            have hBx := below_setRow hBx (x2.heap.size) ((st.add out).sub wt).a hbk
            refine hK.out _ _ (hE0.below hBx) (fun _ => ?_)
            clear hK K
            refine wpAnyH_done (by kernel_rfl) ?_ _
            generalize World.setRow _ (x2.heap.size) _ = Wx at hrow hBx ⊢
            generalize x2.heap.size = bk at hrow hbk ⊢
            exact rest bk Wx hbk hBx hrow
          · rw [if_pos (by rfl)]
            go_wp2_with fail
            have hnew := heap_alloc_new x1 (.cells #[.int .i64 0, .int .i64 0, .int .i64 0] 23)
            have hlt : x1.heap.size < (x1.alloc (.cells #[.int .i64 0, .int .i64 0, .int .i64 0] 23)).heap.size := by simp
            have hbk : y5.heap.size ≤ x1.heap.size := hBx.size
            have hBx := hBx.alloc hBx.size (.cells #[.int .i64 0, .int .i64 0, .int .i64 0] 23)
            refine hK.out _ _ (hHeld.below (below1 x1 (.cells #[.int .i64 0, .int .i64 0, .int .i64 0] 23))) (fun hHeld => ?_)
            clear hK K
            refine wpAnyH_ready (rs := [4]) (by kernel_rfl) (by simp) (AllReadyH.cons (o := ⟨some 135, .call { callee := .value (.func 8), args := #[.tmp 133, .tmp 134], argTypes := #[23, 23] }, _, _, _, Option.none⟩) rfl (fun K hK => ?_) AllReadyH.nil)
            rw [if_pos (by rfl)]
            go_wp2_with fail
            refine (subW (st.add out) wt _).mono ?_
            rintro e x3 ⟨rfl, hb⟩
            have hnew := (hb.block _ hlt).trans hnew
            have hlt := Nat.lt_of_lt_of_le hlt hb.size
            have hBx := hBx.trans (hb.mono hBx.size)
            refine hK.out _ _ (hHeld.below hb) (fun hHeld => ?_)
            clear hK K hb
            refine wpAnyH_ready (rs := [6]) (by kernel_rfl) (by simp) (AllReadyH.cons (o := ⟨Option.none, .store 23 (.tmp 21) (.tmp 135), _, _, _, Option.none⟩) rfl (fun K hK => ?_) AllReadyH.nil)
            rw [if_pos (by rfl)]
            refine wp_store_row 23 (.tmp 21) (.tmp 135) (by rfl) (x1.heap.size) ((st.add out).sub wt).a (by rfl) (by rfl) 23 _ hnew Tryf.size23 rfl (Wt.one _) ?_
            have hrow := setRow_heap _ _ _ ((st.add out).sub wt).a _ _ hnew
            have hBx := below_setRow hBx (x1.heap.size) ((st.add out).sub wt).a hbk
            refine hK.out _ _ (hE0.below hBx) (fun _ => ?_)
            clear hK K
            refine wpAnyH_done (by kernel_rfl) ?_ _
            exact rest _ _ hbk hBx hrow
        · rw [if_pos (by rfl)]
          go_wp2_with fail
          have hnew := heap_alloc_new (y5.drew) (.cells #[.int .i64 0, .int .i64 0, .int .i64 0] 23)
          have hlt : y5.heap.size < (y5.drew.alloc (.cells #[.int .i64 0, .int .i64 0, .int .i64 0] 23)).heap.size := by simp
          have hbk : y5.heap.size ≤ y5.heap.size := hBx.size
          have hBx := hBx.alloc hBx.size (.cells #[.int .i64 0, .int .i64 0, .int .i64 0] 23)
          refine hK.out _ _ (hHeld.below (below1 (y5.drew) (.cells #[.int .i64 0, .int .i64 0, .int .i64 0] 23))) (fun hHeld => ?_)
          clear hK K
          refine wpAnyH_ready (rs := [2]) (by kernel_rfl) (by simp) (AllReadyH.cons (o := ⟨some 133, .call { callee := .value (.func 9), args := #[.tmp 131, .tmp 132], argTypes := #[23, 23] }, _, _, _, Option.none⟩) rfl (fun K hK => ?_) AllReadyH.nil)
          rw [if_pos (by rfl)]
          go_wp2_with fail
          refine (addW st out _).mono ?_
          rintro e x4 ⟨rfl, hb⟩
          have hnew := (hb.block _ hlt).trans hnew
          have hlt := Nat.lt_of_lt_of_le hlt hb.size
          have hBx := hBx.trans (hb.mono hBx.size)
          refine hK.out _ _ (hHeld.below hb) (fun hHeld => ?_)
          clear hK K hb
          refine wpAnyH_ready (rs := [4]) (by kernel_rfl) (by simp) (AllReadyH.cons (o := ⟨some 135, .call { callee := .value (.func 8), args := #[.tmp 133, .tmp 134], argTypes := #[23, 23] }, _, _, _, Option.none⟩) rfl (fun K hK => ?_) AllReadyH.nil)
          rw [if_pos (by rfl)]
          go_wp2_with fail
          refine (subW (st.add out) wt _).mono ?_
          rintro e x5 ⟨rfl, hb⟩
          have hnew := (hb.block _ hlt).trans hnew
          have hlt := Nat.lt_of_lt_of_le hlt hb.size
          have hBx := hBx.trans (hb.mono hBx.size)
          refine hK.out _ _ (hHeld.below hb) (fun hHeld => ?_)
          clear hK K hb
          refine wpAnyH_ready (rs := [6]) (by kernel_rfl) (by simp) (AllReadyH.cons (o := ⟨Option.none, .store 23 (.tmp 21) (.tmp 135), _, _, _, Option.none⟩) rfl (fun K hK => ?_) AllReadyH.nil)
          rw [if_pos (by rfl)]
          refine wp_store_row 23 (.tmp 21) (.tmp 135) (by rfl) (y5.heap.size) ((st.add out).sub wt).a (by rfl) (by rfl) 23 _ hnew Tryf.size23 rfl (Wt.one _) ?_
          have hrow := setRow_heap _ _ _ ((st.add out).sub wt).a _ _ hnew
          have hBx := below_setRow hBx (y5.heap.size) ((st.add out).sub wt).a hbk
          refine hK.out _ _ (hE0.below hBx) (fun _ => ?_)
          clear hK K
          refine wpAnyH_done (by kernel_rfl) ?_ _
          exact rest _ _ hbk hBx hrow
      case rest2 =>
        intro b21 y6 hb21 hb6 r21
        have h6 := hE.below hb6
        clear hE
        have hE : Env y6 [(w.heap.size, st.a, 23), (w.heap.size + 1, wt.a, 23), (w.heap.size + 1 + 1, out.a, 23), (w.heap.size + 1 + 1 + 1, lim.a, 23), (b15, limA unit lim lb, 27), (b16, ((st.add wt).sub out).a, 23), (b21, ((st.add out).sub wt).a, 23)] := ⟨h6.1, h6.2.1, h6.2.2.1, h6.2.2.2.1, h6.2.2.2.2.1, h6.2.2.2.2.2.1, r21, trivial⟩
        replace hB := hB.trans (hb6.mono hB.size)
        replace hT := hT.below hb6
        have hbL7 : ∀ p ∈ [(w.heap.size, st.a, 23), (w.heap.size + 1, wt.a, 23), (w.heap.size + 1 + 1, out.a, 23), (w.heap.size + 1 + 1 + 1, lim.a, 23), (b15, limA unit lim lb, 27), (b16, ((st.add wt).sub out).a, 23), (b21, ((st.add out).sub wt).a, 23)], p.1 ≠ bt := by
          have e1 : b21 ≠ bt := by have := (Array.getElem?_eq_some_iff.1 hT0.1).1; omega
          intro p hp
          have h1 := hbL
          simp only [List.mem_cons, List.not_mem_nil, or_false] at hp h1
          rcases hp with h | h | h | h | h | h | h
          · exact h1 p (Or.inl h)
          · exact h1 p (Or.inr (Or.inl h))
          · exact h1 p (Or.inr (Or.inr (Or.inl h)))
          · exact h1 p (Or.inr (Or.inr (Or.inr (Or.inl h))))
          · exact h1 p (Or.inr (Or.inr (Or.inr (Or.inr (Or.inl h)))))
          · exact h1 p (Or.inr (Or.inr (Or.inr (Or.inr (Or.inr h)))))
          · rw [h]; exact e1
        clear hbL h6 r21 hb6 hT0
        have hbL := hbL7
        clear hbL7
        simp only [Act.put]
        go_wp2_with (first
      | ((with_reducible refine at_op (.load 23 (.tmp 7)) ?_ ?_); (rfl); go_must (refine wpList_load_row_w (by rfl) 23 (.tmp 7) rfl (w.heap.size) rfl 23 st.a (0, 0) _ (hE.1) Tryf.underlying23 rfl Tryf.size23 ?_))
      | ((with_reducible refine at_op (.load 23 (.tmp 9)) ?_ ?_); (rfl); go_must (refine wpList_load_row_w (by rfl) 23 (.tmp 9) rfl (w.heap.size + 1) rfl 23 wt.a (0, 0) _ (hE.2.1) Tryf.underlying23 rfl Tryf.size23 ?_))
      | ((with_reducible refine at_op (.load 23 (.tmp 10)) ?_ ?_); (rfl); go_must (refine wpList_load_row_w (by rfl) 23 (.tmp 10) rfl (w.heap.size + 1 + 1) rfl 23 out.a (0, 0) _ (hE.2.2.1) Tryf.underlying23 rfl Tryf.size23 ?_))
      | ((with_reducible refine at_op (.load 23 (.tmp 12)) ?_ ?_); (rfl); go_must (refine wpList_load_row_w (by rfl) 23 (.tmp 12) rfl (w.heap.size + 1 + 1 + 1) rfl 23 lim.a (0, 0) _ (hE.2.2.2.1) Tryf.underlying23 rfl Tryf.size23 ?_))
      | ((with_reducible refine at_op (.load 27 (.tmp 15)) ?_ ?_); (rfl); go_must (refine wpList_load_row_w (by rfl) 27 (.tmp 15) rfl (b15) rfl 27 (limA unit lim lb) (0, 0) _ (hE.2.2.2.2.1) Tryf.underlying27 rfl Tryf.size27 ?_))
      | ((with_reducible refine at_op (.load 23 (.tmp 16)) ?_ ?_); (rfl); go_must (refine wpList_load_row_w (by rfl) 23 (.tmp 16) rfl (b16) rfl 23 ((st.add wt).sub out).a (0, 0) _ (hE.2.2.2.2.2.1) Tryf.underlying23 rfl Tryf.size23 ?_))
      | ((with_reducible refine at_op (.load 23 (.tmp 21)) ?_ ?_); (rfl); go_must (refine wpList_load_row_w (by rfl) 23 (.tmp 21) rfl (b21) rfl 23 ((st.add out).sub wt).a (0, 0) _ (hE.2.2.2.2.2.2.1) Tryf.underlying23 rfl Tryf.size23 ?_)))
        refine (within ((st.add out).sub wt) lim _).mono ?_
        rintro e y7 ⟨rfl, hb⟩
        replace hE := hE.below hb
        replace hB := hB.trans (hb.mono hB.size)
        replace hT := hT.below hb
        clear hb
        go_wp2_with fail
        replace hB := hB.drew
        replace hT := hT.below ((Below.refl _ _).drew)
        replace hE := hE.below ((Below.refl _ _).drew)
        cases hw2 : wi ((st.add out).sub wt) lim
        case true =>
          have HW2 : Hid (wi ((st.add out).sub wt) lim = true) := hw2
          clear hw2
          refine wp_region_held_drew (S := fun w' => Env w' [(w.heap.size, st.a, 23), (w.heap.size + 1, wt.a, 23), (w.heap.size + 1 + 1, out.a, 23), (w.heap.size + 1 + 1 + 1, lim.a, 23), (b15, limA unit lim lb, 27), (b16, ((st.add wt).sub out).a, 23), (b21, ((st.add out).sub wt).a, 23)]) (by kernel_rfl) hE (fun hHeld => ?_)
          refine wpAnyH_take (i := 0) (oi := ⟨some 139, .move (.tmp 18), _, _, _, Option.none⟩) (v := .pointer (some ⟨bt, 0, none⟩)) rfl (by kernel_rfl) (by kernel_rfl) (by kernel_rfl) (fun _ _ _ h => h) (Or.inl ⟨by rfl, fun w' hS => ?_⟩) hHeld ?_
          · go_simp
          simp only [Act.put, List.setIfInBounds_toArray, List.set_cons_zero, List.set_cons_succ]
          refine wpAnyH_take (i := 1) (oi := ⟨some 140, .load 23 (.tmp 10), _, _, _, Option.none⟩) (v := .agg out.a) rfl (by kernel_rfl) (by kernel_rfl) (by kernel_rfl) (fun _ _ _ h => h) ?_ hHeld ?_
          · exact yieldsIf_row (by rfl) 23 (.tmp 10) (by rfl) (w.heap.size + 1 + 1) (by rfl) _ out.a (0, 0) _ (fun w' hS => hS.2.2.1) Tryf.underlying23 (by rfl) Tryf.size23
          simp only [Act.put, List.setIfInBounds_toArray, List.set_cons_zero, List.set_cons_succ]
          refine wpAnyH_take (i := 3) (oi := ⟨some 142, .load 23 (.tmp 9), _, _, _, Option.none⟩) (v := .agg wt.a) rfl (by kernel_rfl) (by kernel_rfl) (by kernel_rfl) (fun _ _ _ h => h) ?_ hHeld ?_
          · exact yieldsIf_row (by rfl) 23 (.tmp 9) (by rfl) (w.heap.size + 1) (by rfl) _ wt.a (0, 0) _ (fun w' hS => hS.2.1) Tryf.underlying23 (by rfl) Tryf.size23
          simp only [Act.put, List.setIfInBounds_toArray, List.set_cons_zero, List.set_cons_succ]
          refine wpAnyH_take (i := 5) (oi := ⟨some 144, .load 27 (.tmp 15), _, _, _, Option.none⟩) (v := .agg (limA unit lim lb)) rfl (by kernel_rfl) (by kernel_rfl) (by kernel_rfl) (fun _ _ _ h => h) ?_ hHeld ?_
          · exact yieldsIf_row (by rfl) 27 (.tmp 15) (by rfl) (b15) (by rfl) _ (limA unit lim lb) (0, 0) _ (fun w' hS => hS.2.2.2.2.1) Tryf.underlying27 (by rfl) Tryf.size27
          simp only [Act.put, List.setIfInBounds_toArray, List.set_cons_zero, List.set_cons_succ]
          refine wpAnyH_ready (rs := [2]) (by kernel_rfl) (by simp) (AllReadyH.cons (o := ⟨some 141, .call { callee := .value (.func 7), args := #[.tmp 140], argTypes := #[23] }, _, _, _, Option.none⟩) rfl (fun K hK => ?_) AllReadyH.nil)
          rw [if_pos (by rfl)]
          go_wp2_with fail
          refine (toWeight out _).mono ?_
          rintro e z1 ⟨rfl, hb⟩
          replace hB := hB.trans (hb.mono hB.size)
          replace hT := hT.below hb
          refine hK.out _ _ (hHeld.below hb) (fun hHeld => ?_)
          clear hK K hb
          refine wpAnyH_ready (rs := [4]) (by kernel_rfl) (by simp) (AllReadyH.cons (o := ⟨some 143, .call { callee := .value (.func 7), args := #[.tmp 142], argTypes := #[23] }, _, _, _, Option.none⟩) rfl (fun K hK => ?_) AllReadyH.nil)
          rw [if_pos (by rfl)]
          go_wp2_with fail
          refine (toWeight wt _).mono ?_
          rintro e z2 ⟨rfl, hb⟩
          replace hB := hB.trans (hb.mono hB.size)
          replace hT := hT.below hb
          refine hK.out _ _ (hHeld.below hb) (fun hHeld => ?_)
          clear hK K hb
          refine wpAnyH_ready (rs := [6]) (by kernel_rfl) (by simp) (AllReadyH.cons (o := ⟨some 145, .call { callee := .value (.func 12), args := #[.tmp 139, .tmp 141, .tmp 143, .tmp 144], argTypes := #[32, 25, 25, 27] }, _, _, _, Option.none⟩) rfl (fun K hK => ?_) AllReadyH.nil)
          rw [if_pos (by rfl)]
          go_wp2_with fail
          refine (hold_yes F bt st out wt lim _ lb unit _ (by rw [hB.tape]; exact hF) hT.1 (passed_yes HW2.out)).mono ?_
          rintro e z3 ⟨rfl, hO, hT'⟩
          replace hB := below_other hB hO hbt hB.size
          replace hT : Env z3 [(bt, _, 39)] := ⟨hT', trivial⟩
          refine hK.out _ _ (hHeld.other hO hbL) (fun hHeld => ?_)
          clear hK K hO hT'
          refine wpAnyH_take (i := 7) (oi := ⟨some 23, .assign (.tmp 145), _, _, _, Option.none⟩) (v := .string ByteArray.empty) rfl (by kernel_rfl) (by kernel_rfl) (by kernel_rfl) (fun _ _ _ h => h) (Or.inl ⟨by rfl, fun w' hS => ?_⟩) hHeld ?_
          · go_simp
          simp only [Act.put, List.setIfInBounds_toArray, List.set_cons_zero, List.set_cons_succ]
          refine wpAnyH_done (by kernel_rfl) ?_ _
          clear hE
          have hE := hHeld
          clear hHeld
          have c90 : z3.cell? ⟨w.heap.size + 1, 0, none⟩ = some (.int .i64 wt.u) := cell_of_row z3 _ 0 _ 23 (0, 0) hE.2.1
          have c100 : z3.cell? ⟨w.heap.size + 1 + 1, 0, none⟩ = some (.int .i64 out.u) := cell_of_row z3 _ 0 _ 23 (0, 0) hE.2.2.1
          go_wp2_with (first
      | ((with_reducible refine at_op (.load 23 (.tmp 7)) ?_ ?_); (rfl); go_must (refine wpList_load_row_w (by rfl) 23 (.tmp 7) rfl (w.heap.size) rfl 23 st.a (0, 0) _ (hE.1) Tryf.underlying23 rfl Tryf.size23 ?_))
      | ((with_reducible refine at_op (.load 23 (.tmp 9)) ?_ ?_); (rfl); go_must (refine wpList_load_row_w (by rfl) 23 (.tmp 9) rfl (w.heap.size + 1) rfl 23 wt.a (0, 0) _ (hE.2.1) Tryf.underlying23 rfl Tryf.size23 ?_))
      | ((with_reducible refine at_op (.load 23 (.tmp 10)) ?_ ?_); (rfl); go_must (refine wpList_load_row_w (by rfl) 23 (.tmp 10) rfl (w.heap.size + 1 + 1) rfl 23 out.a (0, 0) _ (hE.2.2.1) Tryf.underlying23 rfl Tryf.size23 ?_))
      | ((with_reducible refine at_op (.load 23 (.tmp 12)) ?_ ?_); (rfl); go_must (refine wpList_load_row_w (by rfl) 23 (.tmp 12) rfl (w.heap.size + 1 + 1 + 1) rfl 23 lim.a (0, 0) _ (hE.2.2.2.1) Tryf.underlying23 rfl Tryf.size23 ?_))
      | ((with_reducible refine at_op (.load 27 (.tmp 15)) ?_ ?_); (rfl); go_must (refine wpList_load_row_w (by rfl) 27 (.tmp 15) rfl (b15) rfl 27 (limA unit lim lb) (0, 0) _ (hE.2.2.2.2.1) Tryf.underlying27 rfl Tryf.size27 ?_))
      | ((with_reducible refine at_op (.load 23 (.tmp 16)) ?_ ?_); (rfl); go_must (refine wpList_load_row_w (by rfl) 23 (.tmp 16) rfl (b16) rfl 23 ((st.add wt).sub out).a (0, 0) _ (hE.2.2.2.2.2.1) Tryf.underlying23 rfl Tryf.size23 ?_))
      | ((with_reducible refine at_op (.load 23 (.tmp 21)) ?_ ?_); (rfl); go_must (refine wpList_load_row_w (by rfl) 23 (.tmp 21) rfl (b21) rfl 23 ((st.add out).sub wt).a (0, 0) _ (hE.2.2.2.2.2.2.1) Tryf.underlying23 rfl Tryf.size23 ?_)))
          clear c90 c100
          refine (tallyIs bt _ _ _ hT.1).mono ?_
          rintro e z4 ⟨rfl, hb⟩
          replace hB := hB.trans (hb.mono hB.size)
          clear hE hT hb
          go_wp2
          go_ret
          exact ⟨rfl, hB⟩
        case false =>
          have HW2 : Hid (wi ((st.add out).sub wt) lim = false) := hw2
          clear hw2
          refine wp_region_held_drew (S := fun w' => Env w' [(w.heap.size, st.a, 23), (w.heap.size + 1, wt.a, 23), (w.heap.size + 1 + 1, out.a, 23), (w.heap.size + 1 + 1 + 1, lim.a, 23), (b15, limA unit lim lb, 27), (b16, ((st.add wt).sub out).a, 23), (b21, ((st.add out).sub wt).a, 23)]) (by kernel_rfl) hE (fun hHeld => ?_)
          refine wpAnyH_take (i := 0) (oi := ⟨some 139, .move (.tmp 18), _, _, _, Option.none⟩) (v := .pointer (some ⟨bt, 0, none⟩)) rfl (by kernel_rfl) (by kernel_rfl) (by kernel_rfl) (fun _ _ _ h => h) (Or.inl ⟨by rfl, fun w' hS => ?_⟩) hHeld ?_
          · go_simp
          simp only [Act.put, List.setIfInBounds_toArray, List.set_cons_zero, List.set_cons_succ]
          refine wpAnyH_take (i := 1) (oi := ⟨some 140, .load 23 (.tmp 10), _, _, _, Option.none⟩) (v := .agg out.a) rfl (by kernel_rfl) (by kernel_rfl) (by kernel_rfl) (fun _ _ _ h => h) ?_ hHeld ?_
          · exact yieldsIf_row (by rfl) 23 (.tmp 10) (by rfl) (w.heap.size + 1 + 1) (by rfl) _ out.a (0, 0) _ (fun w' hS => hS.2.2.1) Tryf.underlying23 (by rfl) Tryf.size23
          simp only [Act.put, List.setIfInBounds_toArray, List.set_cons_zero, List.set_cons_succ]
          refine wpAnyH_take (i := 3) (oi := ⟨some 142, .load 23 (.tmp 9), _, _, _, Option.none⟩) (v := .agg wt.a) rfl (by kernel_rfl) (by kernel_rfl) (by kernel_rfl) (fun _ _ _ h => h) ?_ hHeld ?_
          · exact yieldsIf_row (by rfl) 23 (.tmp 9) (by rfl) (w.heap.size + 1) (by rfl) _ wt.a (0, 0) _ (fun w' hS => hS.2.1) Tryf.underlying23 (by rfl) Tryf.size23
          simp only [Act.put, List.setIfInBounds_toArray, List.set_cons_zero, List.set_cons_succ]
          refine wpAnyH_take (i := 5) (oi := ⟨some 144, .load 27 (.tmp 15), _, _, _, Option.none⟩) (v := .agg (limA unit lim lb)) rfl (by kernel_rfl) (by kernel_rfl) (by kernel_rfl) (fun _ _ _ h => h) ?_ hHeld ?_
          · exact yieldsIf_row (by rfl) 27 (.tmp 15) (by rfl) (b15) (by rfl) _ (limA unit lim lb) (0, 0) _ (fun w' hS => hS.2.2.2.2.1) Tryf.underlying27 (by rfl) Tryf.size27
          simp only [Act.put, List.setIfInBounds_toArray, List.set_cons_zero, List.set_cons_succ]
          refine wpAnyH_ready (rs := [2]) (by kernel_rfl) (by simp) (AllReadyH.cons (o := ⟨some 141, .call { callee := .value (.func 7), args := #[.tmp 140], argTypes := #[23] }, _, _, _, Option.none⟩) rfl (fun K hK => ?_) AllReadyH.nil)
          rw [if_pos (by rfl)]
          go_wp2_with fail
          refine (toWeight out _).mono ?_
          rintro e z1 ⟨rfl, hb⟩
          replace hB := hB.trans (hb.mono hB.size)
          replace hT := hT.below hb
          refine hK.out _ _ (hHeld.below hb) (fun hHeld => ?_)
          clear hK K hb
          refine wpAnyH_ready (rs := [4]) (by kernel_rfl) (by simp) (AllReadyH.cons (o := ⟨some 143, .call { callee := .value (.func 7), args := #[.tmp 142], argTypes := #[23] }, _, _, _, Option.none⟩) rfl (fun K hK => ?_) AllReadyH.nil)
          rw [if_pos (by rfl)]
          go_wp2_with fail
          refine (toWeight wt _).mono ?_
          rintro e z2 ⟨rfl, hb⟩
          replace hB := hB.trans (hb.mono hB.size)
          replace hT := hT.below hb
          refine hK.out _ _ (hHeld.below hb) (fun hHeld => ?_)
          clear hK K hb
          refine wpAnyH_ready (rs := [6]) (by kernel_rfl) (by simp) (AllReadyH.cons (o := ⟨some 145, .call { callee := .value (.func 12), args := #[.tmp 139, .tmp 141, .tmp 143, .tmp 144], argTypes := #[32, 25, 25, 27] }, _, _, _, Option.none⟩) rfl (fun K hK => ?_) AllReadyH.nil)
          rw [if_pos (by rfl)]
          go_wp2_with fail
          refine (hold_no F bt st out wt lim _ lb unit _ (by rw [hB.tape]; exact hF) hT.1 (passed_no hfull HW2.out)).mono ?_
          rintro e z3 ⟨rfl, hO, hT'⟩
          replace hB := below_other hB hO hbt hB.size
          replace hT : Env z3 [(bt, _, 39)] := ⟨hT', trivial⟩
          refine hK.out _ _ (hHeld.other hO hbL) (fun hHeld => ?_)
          clear hK K hO hT'
          refine wpAnyH_take (i := 7) (oi := ⟨some 23, .assign (.tmp 145), _, _, _, Option.none⟩) (v := .string (passed F unit lim ((st.add out).sub wt))) rfl (by kernel_rfl) (by kernel_rfl) (by kernel_rfl) (fun _ _ _ h => h) (Or.inl ⟨by rfl, fun w' hS => ?_⟩) hHeld ?_
          · go_simp
          simp only [Act.put, List.setIfInBounds_toArray, List.set_cons_zero, List.set_cons_succ]
          refine wpAnyH_done (by kernel_rfl) ?_ _
          clear hE
          have hE := hHeld
          clear hHeld
          go_wp2_with (first
      | ((with_reducible refine at_op (.load 23 (.tmp 7)) ?_ ?_); (rfl); go_must (refine wpList_load_row_w (by rfl) 23 (.tmp 7) rfl (w.heap.size) rfl 23 st.a (0, 0) _ (hE.1) Tryf.underlying23 rfl Tryf.size23 ?_))
      | ((with_reducible refine at_op (.load 23 (.tmp 9)) ?_ ?_); (rfl); go_must (refine wpList_load_row_w (by rfl) 23 (.tmp 9) rfl (w.heap.size + 1) rfl 23 wt.a (0, 0) _ (hE.2.1) Tryf.underlying23 rfl Tryf.size23 ?_))
      | ((with_reducible refine at_op (.load 23 (.tmp 10)) ?_ ?_); (rfl); go_must (refine wpList_load_row_w (by rfl) 23 (.tmp 10) rfl (w.heap.size + 1 + 1) rfl 23 out.a (0, 0) _ (hE.2.2.1) Tryf.underlying23 rfl Tryf.size23 ?_))
      | ((with_reducible refine at_op (.load 23 (.tmp 12)) ?_ ?_); (rfl); go_must (refine wpList_load_row_w (by rfl) 23 (.tmp 12) rfl (w.heap.size + 1 + 1 + 1) rfl 23 lim.a (0, 0) _ (hE.2.2.2.1) Tryf.underlying23 rfl Tryf.size23 ?_))
      | ((with_reducible refine at_op (.load 27 (.tmp 15)) ?_ ?_); (rfl); go_must (refine wpList_load_row_w (by rfl) 27 (.tmp 15) rfl (b15) rfl 27 (limA unit lim lb) (0, 0) _ (hE.2.2.2.2.1) Tryf.underlying27 rfl Tryf.size27 ?_))
      | ((with_reducible refine at_op (.load 23 (.tmp 16)) ?_ ?_); (rfl); go_must (refine wpList_load_row_w (by rfl) 23 (.tmp 16) rfl (b16) rfl 23 ((st.add wt).sub out).a (0, 0) _ (hE.2.2.2.2.2.1) Tryf.underlying23 rfl Tryf.size23 ?_))
      | ((with_reducible refine at_op (.load 23 (.tmp 21)) ?_ ?_); (rfl); go_must (refine wpList_load_row_w (by rfl) 23 (.tmp 21) rfl (b21) rfl 23 ((st.add out).sub wt).a (0, 0) _ (hE.2.2.2.2.2.2.1) Tryf.underlying23 rfl Tryf.size23 ?_)))
          refine (answer_no F unit lim ((st.add out).sub wt) lb _ (by rw [hB.tape]; exact hF)).mono ?_
          rintro e z4 ⟨rfl, hb⟩
          replace hE := hE.below hb
          replace hB := hB.trans (hb.mono hB.size)
          replace hT := hT.below hb
          clear hb
          have c90 : z4.cell? ⟨w.heap.size + 1, 0, none⟩ = some (.int .i64 wt.u) := cell_of_row z4 _ 0 _ 23 (0, 0) hE.2.1
          have c100 : z4.cell? ⟨w.heap.size + 1 + 1, 0, none⟩ = some (.int .i64 out.u) := cell_of_row z4 _ 0 _ 23 (0, 0) hE.2.2.1
          go_wp2_with (first
      | ((with_reducible refine at_op (.load 23 (.tmp 7)) ?_ ?_); (rfl); go_must (refine wpList_load_row_w (by rfl) 23 (.tmp 7) rfl (w.heap.size) rfl 23 st.a (0, 0) _ (hE.1) Tryf.underlying23 rfl Tryf.size23 ?_))
      | ((with_reducible refine at_op (.load 23 (.tmp 9)) ?_ ?_); (rfl); go_must (refine wpList_load_row_w (by rfl) 23 (.tmp 9) rfl (w.heap.size + 1) rfl 23 wt.a (0, 0) _ (hE.2.1) Tryf.underlying23 rfl Tryf.size23 ?_))
      | ((with_reducible refine at_op (.load 23 (.tmp 10)) ?_ ?_); (rfl); go_must (refine wpList_load_row_w (by rfl) 23 (.tmp 10) rfl (w.heap.size + 1 + 1) rfl 23 out.a (0, 0) _ (hE.2.2.1) Tryf.underlying23 rfl Tryf.size23 ?_))
      | ((with_reducible refine at_op (.load 23 (.tmp 12)) ?_ ?_); (rfl); go_must (refine wpList_load_row_w (by rfl) 23 (.tmp 12) rfl (w.heap.size + 1 + 1 + 1) rfl 23 lim.a (0, 0) _ (hE.2.2.2.1) Tryf.underlying23 rfl Tryf.size23 ?_))
      | ((with_reducible refine at_op (.load 27 (.tmp 15)) ?_ ?_); (rfl); go_must (refine wpList_load_row_w (by rfl) 27 (.tmp 15) rfl (b15) rfl 27 (limA unit lim lb) (0, 0) _ (hE.2.2.2.2.1) Tryf.underlying27 rfl Tryf.size27 ?_))
      | ((with_reducible refine at_op (.load 23 (.tmp 16)) ?_ ?_); (rfl); go_must (refine wpList_load_row_w (by rfl) 23 (.tmp 16) rfl (b16) rfl 23 ((st.add wt).sub out).a (0, 0) _ (hE.2.2.2.2.2.1) Tryf.underlying23 rfl Tryf.size23 ?_))
      | ((with_reducible refine at_op (.load 23 (.tmp 21)) ?_ ?_); (rfl); go_must (refine wpList_load_row_w (by rfl) 23 (.tmp 21) rfl (b21) rfl 23 ((st.add out).sub wt).a (0, 0) _ (hE.2.2.2.2.2.2.1) Tryf.underlying23 rfl Tryf.size23 ?_)))
          clear c90 c100
          refine (tallyIs bt _ _ _ hT.1).mono ?_
          rintro e z5 ⟨rfl, hb⟩
          replace hB := hB.trans (hb.mono hB.size)
          clear hE hT hb
          go_wp2
          go_ret
          exact ⟨rfl, hB⟩
end Go.Proofs.Qxb6631249aFmt
