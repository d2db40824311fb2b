/-
  The walk of FnHoldScriptMatchesModel.
-/
import Derived.Test.Qxb6631249aFmtSwap
import Derived.Deep.CutRange
namespace Go.Proofs.Qxb6631249aFmt
open Go.RowKit Go.Extern.Stop Go.Stop Go.Extern
set_option linter.unusedSimpArgs false

def sel (b : Bool) (x y : Wt) : Wt := if b then x else y
def selI (b : Bool) (x y : Int) : Int := if b then x else y
theorem hold_any (F : Interp) (bt : Nat) (held wt out l : Wt) (built lb : Int) (unit : ByteArray) (W : World) (hF : F.answers W.tape) (hr : W.heap[bt]? = some (.cells (talA held built) 39)) (hf : Full F unit l) :
    Calls Tryf.prog 12 #[.pointer (some ⟨bt, 0, none⟩), .agg wt.a, .agg out.a, .agg (limA unit l lb)] W fun e W' => e = .returned (.string (passed F unit l ((held.add wt).sub out))) ∧ Other bt W W' ∧
      W'.heap[bt]? = some (.cells (talA (sel (wi ((held.add wt).sub out) l) ((held.add wt).sub out) held) (selI (wi ((held.add wt).sub out) l) (wrap64 (wrap64 (built + out.u) + wt.u)) (wrap64 (built + out.u)))) 39) := by
  cases hw : wi ((held.add wt).sub out) l
  · exact hold_no F bt held wt out l built lb unit W hF hr (passed_no hf hw)
  · rw [passed_yes hw]
    exact hold_yes F bt held wt out l built lb unit W hF hr (passed_yes hw)
theorem answer_any (F : Interp) (unit : ByteArray) (l h : Wt) (lb : Int) (W : World) (hF : F.answers W.tape) :
    Calls Tryf.prog 13 #[.string (passed F unit l h), .bool (wi h l), .agg (limA unit l lb), .agg h.a] W fun e W' => e = .returned (.bool true) ∧ Below W.heap.size W W' := by
  cases hw : wi h l
  · exact answer_no F unit l h lb W hF
  · rw [passed_yes hw]
    exact answer_ok unit l h lb W
theorem other_row (b : Nat) (W : World) (c : Array Value) : Other b W (W.setRow b c) :=
  ⟨rfl, rfl, rfl, by simp, fun k _ hne => setRow_other W b k c hne⟩

theorem script_fin (st w1 o1 w2 o2 lim : Wt) (built : Int) (hk1 : (wi ((st.add w1).sub o1) lim) = true) (hk2 : (wi (((sel (wi ((st.add w1).sub o1) lim) ((st.add w1).sub o1) st).add w2).sub o2) lim) = true) :
    (sel (wi (((sel (wi ((st.add w1).sub o1) lim) ((st.add w1).sub o1) st).add w2).sub o2) lim) (((sel (wi ((st.add w1).sub o1) lim) ((st.add w1).sub o1) st).add w2).sub o2) (sel (wi ((st.add w1).sub o1) lim) ((st.add w1).sub o1) st)) = ((st.add (w1.add w2)).sub (o1.add o2)) ∧ (selI (wi (((sel (wi ((st.add w1).sub o1) lim) ((st.add w1).sub o1) st).add w2).sub o2) lim) (wrap64 (wrap64 ((selI (wi ((st.add w1).sub o1) lim) (wrap64 (wrap64 (built + o1.u) + w1.u)) (wrap64 (built + o1.u))) + o2.u) + w2.u)) (wrap64 ((selI (wi ((st.add w1).sub o1) lim) (wrap64 (wrap64 (built + o1.u) + w1.u)) (wrap64 (built + o1.u))) + o2.u))) = (wrap64 (wrap64 (built + (o1.add o2).u) + (w1.add w2).u)) ∧ wi ((st.add (w1.add w2)).sub (o1.add o2)) lim = true := by
  have d1 : (sel (wi ((st.add w1).sub o1) lim) ((st.add w1).sub o1) st) = ((st.add w1).sub o1) := by rw [hk1]; rfl
  have b1 : (selI (wi ((st.add w1).sub o1) lim) (wrap64 (wrap64 (built + o1.u) + w1.u)) (wrap64 (built + o1.u))) = wrap64 (wrap64 (built + o1.u) + w1.u) := by rw [hk1]; rfl
  have e2 : (((sel (wi ((st.add w1).sub o1) lim) ((st.add w1).sub o1) st).add w2).sub o2) = ((st.add (w1.add w2)).sub (o1.add o2)) := by rw [d1, Wt.script]
  refine ⟨?_, ?_, ?_⟩
  · have d2 : (sel (wi (((sel (wi ((st.add w1).sub o1) lim) ((st.add w1).sub o1) st).add w2).sub o2) lim) (((sel (wi ((st.add w1).sub o1) lim) ((st.add w1).sub o1) st).add w2).sub o2) (sel (wi ((st.add w1).sub o1) lim) ((st.add w1).sub o1) st)) = (((sel (wi ((st.add w1).sub o1) lim) ((st.add w1).sub o1) st).add w2).sub o2) := by rw [hk2]; rfl
    rw [d2, e2]
  · have b2 : (selI (wi (((sel (wi ((st.add w1).sub o1) lim) ((st.add w1).sub o1) st).add w2).sub o2) lim) (wrap64 (wrap64 ((selI (wi ((st.add w1).sub o1) lim) (wrap64 (wrap64 (built + o1.u) + w1.u)) (wrap64 (built + o1.u))) + o2.u) + w2.u)) (wrap64 ((selI (wi ((st.add w1).sub o1) lim) (wrap64 (wrap64 (built + o1.u) + w1.u)) (wrap64 (built + o1.u))) + o2.u))) = wrap64 (wrap64 ((selI (wi ((st.add w1).sub o1) lim) (wrap64 (wrap64 (built + o1.u) + w1.u)) (wrap64 (built + o1.u))) + o2.u) + w2.u) := by rw [hk2]; rfl
    rw [b2, b1]
    exact (wrap_built built w1.u o1.u w2.u o2.u).symm
  · rw [← e2]; exact hk2

set_option maxHeartbeats 4000000 in
set_option maxRecDepth 100000 in
theorem script_walk (F : Interp) (st w1 o1 w2 o2 lim : Wt) (built lb : Int) (unit : ByteArray) (w : World) (hF : F.answers w.tape) (hfull : Full F unit lim) :
    Calls Tryf.prog 3 #[.agg st.a, .int .i64 built, .agg w1.a, .agg o1.a, .agg w2.a, .agg o2.a, .string unit, .agg lim.a, .int .i64 lb] w fun e w' => e = .returned (.bool true) ∧ Below w.heap.size w w' := by
  have hB : Below w.heap.size w ((((((w.alloc (.cells st.a 23)).alloc (.cells w1.a 23)).alloc (.cells o1.a 23)).alloc (.cells w2.a 23)).alloc (.cells o2.a 23)).alloc (.cells lim.a 23)) := by repeat (first | exact Below.refl _ _ | refine Below.alloc ?_ (by first | omega | (simp only [World.size_alloc]; omega)) _)
  have hE : Env ((((((w.alloc (.cells st.a 23)).alloc (.cells w1.a 23)).alloc (.cells o1.a 23)).alloc (.cells w2.a 23)).alloc (.cells o2.a 23)).alloc (.cells lim.a 23)) [(w.heap.size, st.a, 23), (w.heap.size + 1, w1.a, 23), (w.heap.size + 1 + 1, o1.a, 23), (w.heap.size + 1 + 1 + 1, w2.a, 23), (w.heap.size + 1 + 1 + 1 + 1, o2.a, 23), (w.heap.size + 1 + 1 + 1 + 1 + 1, lim.a, 23)] :=
    ⟨by simp only [heapAt, World.size_alloc, if_true]; rw [if_neg (by omega), if_neg (by omega), if_neg (by omega), if_neg (by omega), if_neg (by omega)], by simp only [heapAt, World.size_alloc, if_true]; rw [if_neg (by omega), if_neg (by omega), if_neg (by omega), if_neg (by omega)], by simp only [heapAt, World.size_alloc, if_true]; rw [if_neg (by omega), if_neg (by omega), if_neg (by omega)], by simp only [heapAt, World.size_alloc, if_true]; rw [if_neg (by omega), if_neg (by omega)], by simp only [heapAt, World.size_alloc, if_true]; rw [if_neg (by omega)], by simp only [heapAt, World.size_alloc, if_true], trivial⟩
  go_enter Tryf.func3, Tryf.ntmps3
  go_wp2_with (first
    | ((with_reducible refine at_op (.load 23 (.tmp 9)) ?_ ?_); (rfl); go_must (refine wpList_load_row_w (by rfl) 23 (.tmp 9) rfl (w.heap.size) rfl 23 st.a (0, 0) _ (hE.1) Tryf.underlying23 rfl Tryf.size23 ?_))
    | ((with_reducible refine at_op (.load 23 (.tmp 11)) ?_ ?_); (rfl); go_must (refine wpList_load_row_w (by rfl) 23 (.tmp 11) rfl (w.heap.size + 1) rfl 23 w1.a (0, 0) _ (hE.2.1) Tryf.underlying23 rfl Tryf.size23 ?_))
    | ((with_reducible refine at_op (.load 23 (.tmp 12)) ?_ ?_); (rfl); go_must (refine wpList_load_row_w (by rfl) 23 (.tmp 12) rfl (w.heap.size + 1 + 1) rfl 23 o1.a (0, 0) _ (hE.2.2.1) Tryf.underlying23 rfl Tryf.size23 ?_))
    | ((with_reducible refine at_op (.load 23 (.tmp 13)) ?_ ?_); (rfl); go_must (refine wpList_load_row_w (by rfl) 23 (.tmp 13) rfl (w.heap.size + 1 + 1 + 1) rfl 23 w2.a (0, 0) _ (hE.2.2.2.1) Tryf.underlying23 rfl Tryf.size23 ?_))
    | ((with_reducible refine at_op (.load 23 (.tmp 14)) ?_ ?_); (rfl); go_must (refine wpList_load_row_w (by rfl) 23 (.tmp 14) rfl (w.heap.size + 1 + 1 + 1 + 1) rfl 23 o2.a (0, 0) _ (hE.2.2.2.2.1) Tryf.underlying23 rfl Tryf.size23 ?_))
    | ((with_reducible refine at_op (.load 23 (.tmp 16)) ?_ ?_); (rfl); go_must (refine wpList_load_row_w (by rfl) 23 (.tmp 16) rfl (w.heap.size + 1 + 1 + 1 + 1 + 1) rfl 23 lim.a (0, 0) _ (hE.2.2.2.2.2.1) Tryf.underlying23 rfl Tryf.size23 ?_)))
  refine (bytes5 st.a w1.a o1.a w2.a o2.a lim.a built lb unit _).mono ?_
  rintro e W1 ⟨⟨r, rfl⟩, hb⟩
  replace hE := hE.below hb
  replace hB := hB.trans (hb.mono hB.size)
  clear hb
  cases r
  · go_wp2
    go_ret
    exact ⟨rfl, hB⟩
  by_cases hlen : (unit.size : Int) ≤ 65536
  case neg =>
    go_wp2
    go_ret
    exact ⟨rfl, hB⟩
  go_wp2_with (first
    | ((with_reducible refine at_op (.load 23 (.tmp 9)) ?_ ?_); (rfl); go_must (refine wpList_load_row_w (by rfl) 23 (.tmp 9) rfl (w.heap.size) rfl 23 st.a (0, 0) _ (hE.1) Tryf.underlying23 rfl Tryf.size23 ?_))
    | ((with_reducible refine at_op (.load 23 (.tmp 11)) ?_ ?_); (rfl); go_must (refine wpList_load_row_w (by rfl) 23 (.tmp 11) rfl (w.heap.size + 1) rfl 23 w1.a (0, 0) _ (hE.2.1) Tryf.underlying23 rfl Tryf.size23 ?_))
    | ((with_reducible refine at_op (.load 23 (.tmp 12)) ?_ ?_); (rfl); go_must (refine wpList_load_row_w (by rfl) 23 (.tmp 12) rfl (w.heap.size + 1 + 1) rfl 23 o1.a (0, 0) _ (hE.2.2.1) Tryf.underlying23 rfl Tryf.size23 ?_))
    | ((with_reducible refine at_op (.load 23 (.tmp 13)) ?_ ?_); (rfl); go_must (refine wpList_load_row_w (by rfl) 23 (.tmp 13) rfl (w.heap.size + 1 + 1 + 1) rfl 23 w2.a (0, 0) _ (hE.2.2.2.1) Tryf.underlying23 rfl Tryf.size23 ?_))
    | ((with_reducible refine at_op (.load 23 (.tmp 14)) ?_ ?_); (rfl); go_must (refine wpList_load_row_w (by rfl) 23 (.tmp 14) rfl (w.heap.size + 1 + 1 + 1 + 1) rfl 23 o2.a (0, 0) _ (hE.2.2.2.2.1) Tryf.underlying23 rfl Tryf.size23 ?_))
    | ((with_reducible refine at_op (.load 23 (.tmp 16)) ?_ ?_); (rfl); go_must (refine wpList_load_row_w (by rfl) 23 (.tmp 16) rfl (w.heap.size + 1 + 1 + 1 + 1 + 1) rfl 23 lim.a (0, 0) _ (hE.2.2.2.2.2.1) Tryf.underlying23 rfl Tryf.size23 ?_)))
  refine (toWeight lim _).mono ?_
  rintro e W2 ⟨rfl, hb⟩
  replace hE := hE.below hb
  replace hB := hB.trans (hb.mono hB.size)
  clear hb
  go_wp2_with fail
  refine (newLimit unit lim lb _).mono ?_
  rintro e W3 ⟨rfl, hb⟩
  replace hE := hE.below hb
  replace hB := hB.trans (hb.mono hB.size)
  clear hb
  go_wp2_with (first
    | ((with_reducible refine at_op (.store 27 (.tmp 19) (.tmp 51)) ?_ ?_); (rfl); go_must (refine wpList_store_row rfl 27 (.tmp 19) (.tmp 51) rfl (W3.heap.size) (limA unit lim lb) rfl rfl 27 _ (heap_alloc_new W3 _) Tryf.size27 rfl (limA_one _ _ _) ?_; rw [World.setRow_alloc_new])))
  have hE4 : Env (W3.alloc (.cells (limA unit lim lb) 27)) [(w.heap.size, st.a, 23), (w.heap.size + 1, w1.a, 23), (w.heap.size + 1 + 1, o1.a, 23), (w.heap.size + 1 + 1 + 1, w2.a, 23), (w.heap.size + 1 + 1 + 1 + 1, o2.a, 23), (w.heap.size + 1 + 1 + 1 + 1 + 1, lim.a, 23), (W3.heap.size, limA unit lim lb, 27)] := by
    have h := hE.below (below1 W3 (.cells (limA unit lim lb) 27))
    exact ⟨h.1, h.2.1, h.2.2.1, h.2.2.2.1, h.2.2.2.2.1, h.2.2.2.2.2.1, heap_alloc_new W3 _, trivial⟩
  replace hB := hB.alloc hB.size (.cells (limA unit lim lb) 27)
  clear hE
  generalize W3.alloc (.cells (limA unit lim lb) 27) = W4 at *
  generalize W3.heap.size = b19 at *
  have hE := hE4
  clear hE4
  refine (fun (rest : ∀ (bk : Nat) (W2 : World), W4.heap.size ≤ bk → Below W4.heap.size W4 W2 → W2.heap[bk]? = some (.cells ((st.add w1).sub o1).a 23) → (?Prest : Nat → World → Prop) bk W2) => ?main) ?rest
  case main =>
    have hE0 := hE
    have hBx : Below W4.heap.size W4 W4.drew := (Below.refl _ _).drew
    refine wp_region_held_drew (S := fun w' => Env w' [(w.heap.size, st.a, 23), (w.heap.size + 1, w1.a, 23), (w.heap.size + 1 + 1, o1.a, 23), (w.heap.size + 1 + 1 + 1, w2.a, 23), (w.heap.size + 1 + 1 + 1 + 1, o2.a, 23), (w.heap.size + 1 + 1 + 1 + 1 + 1, lim.a, 23), (b19, limA unit lim lb, 27)]) (by kernel_rfl) (hE.below hBx) (fun hHeld => ?_)
    refine wpAnyH_take (i := 0) (oi := ⟨some 52, .load 23 (.tmp 9), _, _, _, Option.none⟩) (v := .agg st.a) rfl (by kernel_rfl) (by kernel_rfl) (by kernel_rfl) (fun _ _ _ h => h) ?_ hHeld ?_
    · exact yieldsIf_row (by rfl) 23 (.tmp 9) (by rfl) (w.heap.size) (by rfl) _ st.a (0, 0) _ (fun w' hS => hS.1) Tryf.underlying23 (by rfl) Tryf.size23
    simp only [Act.put, List.setIfInBounds_toArray, List.set_cons_zero, List.set_cons_succ]
    refine wpAnyH_take (i := 1) (oi := ⟨some 53, .load 23 (.tmp 11), _, _, _, Option.none⟩) (v := .agg w1.a) rfl (by kernel_rfl) (by kernel_rfl) (by kernel_rfl) (fun _ _ _ h => h) ?_ hHeld ?_
    · exact yieldsIf_row (by rfl) 23 (.tmp 11) (by rfl) (w.heap.size + 1) (by rfl) _ w1.a (0, 0) _ (fun w' hS => hS.2.1) Tryf.underlying23 (by rfl) Tryf.size23
    simp only [Act.put, List.setIfInBounds_toArray, List.set_cons_zero, List.set_cons_succ]
    refine wpAnyH_take (i := 3) (oi := ⟨some 55, .load 23 (.tmp 12), _, _, _, Option.none⟩) (v := .agg o1.a) rfl (by kernel_rfl) (by kernel_rfl) (by kernel_rfl) (fun _ _ _ h => h) ?_ hHeld ?_
    · exact yieldsIf_row (by rfl) 23 (.tmp 12) (by rfl) (w.heap.size + 1 + 1) (by rfl) _ o1.a (0, 0) _ (fun w' hS => hS.2.2.1) Tryf.underlying23 (by rfl) Tryf.size23
    simp only [Act.put, List.setIfInBounds_toArray, List.set_cons_zero, List.set_cons_succ]
    refine wpAnyH_ready (rs := [2, 5]) (by kernel_rfl) (by simp) (AllReadyH.cons (o := ⟨some 54, .call { callee := .value (.func 9), args := #[.tmp 52, .tmp 53], argTypes := #[23, 23] }, _, _, _, Option.none⟩) rfl (fun K hK => ?_) (AllReadyH.cons (o := ⟨some 20, .alloc 23, _, _, _, Option.none⟩) rfl (fun K hK => ?_) AllReadyH.nil))
    · rw [if_pos (by rfl)]
      go_wp2_with fail
      refine (addW st w1 _).mono ?_
      rintro e x1 ⟨rfl, hb⟩
      have hBx := hBx.trans (hb.mono hBx.size)
      refine hK.out _ _ (hHeld.below hb) (fun hHeld => ?_)
      clear hK K hb
      refine wpAnyH_ready (rs := [4, 5]) (by kernel_rfl) (by simp) (AllReadyH.cons (o := ⟨some 56, .call { callee := .value (.func 8), args := #[.tmp 54, .tmp 55], argTypes := #[23, 23] }, _, _, _, Option.none⟩) rfl (fun K hK => ?_) (AllReadyH.cons (o := ⟨some 20, .alloc 23, _, _, _, Option.none⟩) rfl (fun K hK => ?_) AllReadyH.nil))
      · rw [if_pos (by rfl)]
        go_wp2_with fail
        refine (subW (st.add w1) o1 _).mono ?_
        rintro e x2 ⟨rfl, hb⟩
        have hBx := hBx.trans (hb.mono hBx.size)
        refine hK.out _ _ (hHeld.below hb) (fun hHeld => ?_)
        clear hK K hb
        refine wpAnyH_ready (rs := [5]) (by kernel_rfl) (by simp) (AllReadyH.cons (o := ⟨some 20, .alloc 23, _, _, _, Option.none⟩) rfl (fun K hK => ?_) AllReadyH.nil)
        rw [if_pos (by rfl)]
        go_wp2_with fail
        have hnew := heap_alloc_new x2 (.cells #[.int .i64 0, .int .i64 0, .int .i64 0] 23)
        have hlt : x2.heap.size < (x2.alloc (.cells #[.int .i64 0, .int .i64 0, .int .i64 0] 23)).heap.size := by simp
        have hbk : W4.heap.size ≤ x2.heap.size := hBx.size
        have hBx := hBx.alloc hBx.size (.cells #[.int .i64 0, .int .i64 0, .int .i64 0] 23)
        refine hK.out _ _ (hHeld.below (below1 x2 (.cells #[.int .i64 0, .int .i64 0, .int .i64 0] 23))) (fun hHeld => ?_)
        clear hK K
        refine wpAnyH_ready (rs := [6]) (by kernel_rfl) (by simp) (AllReadyH.cons (o := ⟨Option.none, .store 23 (.tmp 20) (.tmp 56), _, _, _, Option.none⟩) rfl (fun K hK => ?_) AllReadyH.nil)
        rw [if_pos (by rfl)]
        refine wp_store_row 23 (.tmp 20) (.tmp 56) (by rfl) (x2.heap.size) ((st.add w1).sub o1).a (by rfl) (by rfl) 23 _ hnew Tryf.size23 rfl (Wt.one _) ?_
        have hrow := setRow_heap _ _ _ ((st.add w1).sub o1).a _ _ hnew
        have hBx := below_setRow hBx (x2.heap.size) ((st.add w1).sub o1).a hbk
        refine hK.out _ _ (hE0.below hBx) (fun _ => ?_)
        clear hK K
        refine wpAnyH_done (by kernel_rfl) ?_ _
        generalize World.setRow _ (x2.heap.size) _ = Wx at hrow hBx ⊢
        generalize x2.heap.size = bk at hrow hbk ⊢
        exact rest bk Wx hbk hBx hrow
      · rw [if_pos (by rfl)]
        go_wp2_with fail
        have hnew := heap_alloc_new x1 (.cells #[.int .i64 0, .int .i64 0, .int .i64 0] 23)
        have hlt : x1.heap.size < (x1.alloc (.cells #[.int .i64 0, .int .i64 0, .int .i64 0] 23)).heap.size := by simp
        have hbk : W4.heap.size ≤ x1.heap.size := hBx.size
        have hBx := hBx.alloc hBx.size (.cells #[.int .i64 0, .int .i64 0, .int .i64 0] 23)
        refine hK.out _ _ (hHeld.below (below1 x1 (.cells #[.int .i64 0, .int .i64 0, .int .i64 0] 23))) (fun hHeld => ?_)
        clear hK K
        refine wpAnyH_ready (rs := [4]) (by kernel_rfl) (by simp) (AllReadyH.cons (o := ⟨some 56, .call { callee := .value (.func 8), args := #[.tmp 54, .tmp 55], argTypes := #[23, 23] }, _, _, _, Option.none⟩) rfl (fun K hK => ?_) AllReadyH.nil)
        rw [if_pos (by rfl)]
        go_wp2_with fail
        refine (subW (st.add w1) o1 _).mono ?_
        rintro e x3 ⟨rfl, hb⟩
        have hnew := (hb.block _ hlt).trans hnew
        have hlt := Nat.lt_of_lt_of_le hlt hb.size
        have hBx := hBx.trans (hb.mono hBx.size)
        refine hK.out _ _ (hHeld.below hb) (fun hHeld => ?_)
        clear hK K hb
        refine wpAnyH_ready (rs := [6]) (by kernel_rfl) (by simp) (AllReadyH.cons (o := ⟨Option.none, .store 23 (.tmp 20) (.tmp 56), _, _, _, Option.none⟩) rfl (fun K hK => ?_) AllReadyH.nil)
        rw [if_pos (by rfl)]
        refine wp_store_row 23 (.tmp 20) (.tmp 56) (by rfl) (x1.heap.size) ((st.add w1).sub o1).a (by rfl) (by rfl) 23 _ hnew Tryf.size23 rfl (Wt.one _) ?_
        have hrow := setRow_heap _ _ _ ((st.add w1).sub o1).a _ _ hnew
        have hBx := below_setRow hBx (x1.heap.size) ((st.add w1).sub o1).a hbk
        refine hK.out _ _ (hE0.below hBx) (fun _ => ?_)
        clear hK K
        refine wpAnyH_done (by kernel_rfl) ?_ _
        exact rest _ _ hbk hBx hrow
    · rw [if_pos (by rfl)]
      go_wp2_with fail
      have hnew := heap_alloc_new (W4.drew) (.cells #[.int .i64 0, .int .i64 0, .int .i64 0] 23)
      have hlt : W4.heap.size < (W4.drew.alloc (.cells #[.int .i64 0, .int .i64 0, .int .i64 0] 23)).heap.size := by simp
      have hbk : W4.heap.size ≤ W4.heap.size := hBx.size
      have hBx := hBx.alloc hBx.size (.cells #[.int .i64 0, .int .i64 0, .int .i64 0] 23)
      refine hK.out _ _ (hHeld.below (below1 (W4.drew) (.cells #[.int .i64 0, .int .i64 0, .int .i64 0] 23))) (fun hHeld => ?_)
      clear hK K
      refine wpAnyH_ready (rs := [2]) (by kernel_rfl) (by simp) (AllReadyH.cons (o := ⟨some 54, .call { callee := .value (.func 9), args := #[.tmp 52, .tmp 53], argTypes := #[23, 23] }, _, _, _, Option.none⟩) rfl (fun K hK => ?_) AllReadyH.nil)
      rw [if_pos (by rfl)]
      go_wp2_with fail
      refine (addW st w1 _).mono ?_
      rintro e x4 ⟨rfl, hb⟩
      have hnew := (hb.block _ hlt).trans hnew
      have hlt := Nat.lt_of_lt_of_le hlt hb.size
      have hBx := hBx.trans (hb.mono hBx.size)
      refine hK.out _ _ (hHeld.below hb) (fun hHeld => ?_)
      clear hK K hb
      refine wpAnyH_ready (rs := [4]) (by kernel_rfl) (by simp) (AllReadyH.cons (o := ⟨some 56, .call { callee := .value (.func 8), args := #[.tmp 54, .tmp 55], argTypes := #[23, 23] }, _, _, _, Option.none⟩) rfl (fun K hK => ?_) AllReadyH.nil)
      rw [if_pos (by rfl)]
      go_wp2_with fail
      refine (subW (st.add w1) o1 _).mono ?_
      rintro e x5 ⟨rfl, hb⟩
      have hnew := (hb.block _ hlt).trans hnew
      have hlt := Nat.lt_of_lt_of_le hlt hb.size
      have hBx := hBx.trans (hb.mono hBx.size)
      refine hK.out _ _ (hHeld.below hb) (fun hHeld => ?_)
      clear hK K hb
      refine wpAnyH_ready (rs := [6]) (by kernel_rfl) (by simp) (AllReadyH.cons (o := ⟨Option.none, .store 23 (.tmp 20) (.tmp 56), _, _, _, Option.none⟩) rfl (fun K hK => ?_) AllReadyH.nil)
      rw [if_pos (by rfl)]
      refine wp_store_row 23 (.tmp 20) (.tmp 56) (by rfl) (W4.heap.size) ((st.add w1).sub o1).a (by rfl) (by rfl) 23 _ hnew Tryf.size23 rfl (Wt.one _) ?_
      have hrow := setRow_heap _ _ _ ((st.add w1).sub o1).a _ _ hnew
      have hBx := below_setRow hBx (W4.heap.size) ((st.add w1).sub o1).a hbk
      refine hK.out _ _ (hE0.below hBx) (fun _ => ?_)
      clear hK K
      refine wpAnyH_done (by kernel_rfl) ?_ _
      exact rest _ _ hbk hBx hrow
  case rest =>
    intro b20 W5 hb20 hb r20
    replace hB := hB.trans (hb.mono hB.size)
    have h5 := hE.below hb
    clear hE hb
    have hE : Env W5 [(w.heap.size, st.a, 23), (w.heap.size + 1, w1.a, 23), (w.heap.size + 1 + 1, o1.a, 23), (w.heap.size + 1 + 1 + 1, w2.a, 23), (w.heap.size + 1 + 1 + 1 + 1, o2.a, 23), (w.heap.size + 1 + 1 + 1 + 1 + 1, lim.a, 23), (b19, limA unit lim lb, 27), (b20, ((st.add w1).sub o1).a, 23)] := ⟨h5.1, h5.2.1, h5.2.2.1, h5.2.2.2.1, h5.2.2.2.2.1, h5.2.2.2.2.2.1, h5.2.2.2.2.2.2.1, r20, trivial⟩
    clear h5 r20
    simp only [Act.put]
    go_wp2_with (first
      | ((with_reducible refine at_op (.load 23 (.tmp 9)) ?_ ?_); (rfl); go_must (refine wpList_load_row_w (by rfl) 23 (.tmp 9) rfl (w.heap.size) rfl 23 st.a (0, 0) _ (hE.1) Tryf.underlying23 rfl Tryf.size23 ?_))
      | ((with_reducible refine at_op (.load 23 (.tmp 11)) ?_ ?_); (rfl); go_must (refine wpList_load_row_w (by rfl) 23 (.tmp 11) rfl (w.heap.size + 1) rfl 23 w1.a (0, 0) _ (hE.2.1) Tryf.underlying23 rfl Tryf.size23 ?_))
      | ((with_reducible refine at_op (.load 23 (.tmp 12)) ?_ ?_); (rfl); go_must (refine wpList_load_row_w (by rfl) 23 (.tmp 12) rfl (w.heap.size + 1 + 1) rfl 23 o1.a (0, 0) _ (hE.2.2.1) Tryf.underlying23 rfl Tryf.size23 ?_))
      | ((with_reducible refine at_op (.load 23 (.tmp 13)) ?_ ?_); (rfl); go_must (refine wpList_load_row_w (by rfl) 23 (.tmp 13) rfl (w.heap.size + 1 + 1 + 1) rfl 23 w2.a (0, 0) _ (hE.2.2.2.1) Tryf.underlying23 rfl Tryf.size23 ?_))
      | ((with_reducible refine at_op (.load 23 (.tmp 14)) ?_ ?_); (rfl); go_must (refine wpList_load_row_w (by rfl) 23 (.tmp 14) rfl (w.heap.size + 1 + 1 + 1 + 1) rfl 23 o2.a (0, 0) _ (hE.2.2.2.2.1) Tryf.underlying23 rfl Tryf.size23 ?_))
      | ((with_reducible refine at_op (.load 23 (.tmp 16)) ?_ ?_); (rfl); go_must (refine wpList_load_row_w (by rfl) 23 (.tmp 16) rfl (w.heap.size + 1 + 1 + 1 + 1 + 1) rfl 23 lim.a (0, 0) _ (hE.2.2.2.2.2.1) Tryf.underlying23 rfl Tryf.size23 ?_))
      | ((with_reducible refine at_op (.load 27 (.tmp 19)) ?_ ?_); (rfl); go_must (refine wpList_load_row_w (by rfl) 27 (.tmp 19) rfl (b19) rfl 27 (limA unit lim lb) (0, 0) _ (hE.2.2.2.2.2.2.1) Tryf.underlying27 rfl Tryf.size27 ?_))
      | ((with_reducible refine at_op (.load 23 (.tmp 20)) ?_ ?_); (rfl); go_must (refine wpList_load_row_w (by rfl) 23 (.tmp 20) rfl (b20) rfl 23 ((st.add w1).sub o1).a (0, 0) _ (hE.2.2.2.2.2.2.2.1) Tryf.underlying23 rfl Tryf.size23 ?_)))
    refine (within ((st.add w1).sub o1) lim _).mono ?_
    rintro e W6 ⟨rfl, hb⟩
    replace hE := hE.below hb
    replace hB := hB.trans (hb.mono hB.size)
    clear hb
    have c120 : (W6.alloc (.cells st.a 23)).cell? ⟨w.heap.size + 1 + 1, 0, none⟩ = some (.int .i64 o1.u) := cell_of_row _ _ 0 _ 23 (0, 0) (hE.below (below1 _ _)).2.2.1
    have hl20 := (Array.getElem?_eq_some_iff.1 hE.2.2.1).1
    go_upto_if 65 with (first
      | ((with_reducible refine at_op (.store 23 (.tmp 22) (.tmp 60)) ?_ ?_); (rfl); go_must (refine wpList_store_row rfl 23 (.tmp 22) (.tmp 60) rfl (W6.heap.size) st.a rfl rfl 23 _ (heap_alloc_new W6 _) Tryf.size23 rfl (Wt.one _) ?_; rw [World.setRow_alloc_new]))
      | ((with_reducible refine at_op (.load 23 (.tmp 9)) ?_ ?_); (rfl); go_must (refine wpList_load_row_w (by rfl) 23 (.tmp 9) rfl (w.heap.size) rfl 23 st.a (0, 0) _ (hE.1) Tryf.underlying23 rfl Tryf.size23 ?_))
          | ((with_reducible refine at_op (.load 23 (.tmp 11)) ?_ ?_); (rfl); go_must (refine wpList_load_row_w (by rfl) 23 (.tmp 11) rfl (w.heap.size + 1) rfl 23 w1.a (0, 0) _ (hE.2.1) Tryf.underlying23 rfl Tryf.size23 ?_))
          | ((with_reducible refine at_op (.load 23 (.tmp 12)) ?_ ?_); (rfl); go_must (refine wpList_load_row_w (by rfl) 23 (.tmp 12) rfl (w.heap.size + 1 + 1) rfl 23 o1.a (0, 0) _ (hE.2.2.1) Tryf.underlying23 rfl Tryf.size23 ?_))
          | ((with_reducible refine at_op (.load 23 (.tmp 13)) ?_ ?_); (rfl); go_must (refine wpList_load_row_w (by rfl) 23 (.tmp 13) rfl (w.heap.size + 1 + 1 + 1) rfl 23 w2.a (0, 0) _ (hE.2.2.2.1) Tryf.underlying23 rfl Tryf.size23 ?_))
          | ((with_reducible refine at_op (.load 23 (.tmp 14)) ?_ ?_); (rfl); go_must (refine wpList_load_row_w (by rfl) 23 (.tmp 14) rfl (w.heap.size + 1 + 1 + 1 + 1) rfl 23 o2.a (0, 0) _ (hE.2.2.2.2.1) Tryf.underlying23 rfl Tryf.size23 ?_))
          | ((with_reducible refine at_op (.load 23 (.tmp 16)) ?_ ?_); (rfl); go_must (refine wpList_load_row_w (by rfl) 23 (.tmp 16) rfl (w.heap.size + 1 + 1 + 1 + 1 + 1) rfl 23 lim.a (0, 0) _ (hE.2.2.2.2.2.1) Tryf.underlying23 rfl Tryf.size23 ?_))
          | ((with_reducible refine at_op (.load 27 (.tmp 19)) ?_ ?_); (rfl); go_must (refine wpList_load_row_w (by rfl) 27 (.tmp 19) rfl (b19) rfl 27 (limA unit lim lb) (0, 0) _ (hE.2.2.2.2.2.2.1) Tryf.underlying27 rfl Tryf.size27 ?_))
          | ((with_reducible refine at_op (.load 23 (.tmp 20)) ?_ ?_); (rfl); go_must (refine wpList_load_row_w (by rfl) 23 (.tmp 20) rfl (b20) rfl 23 ((st.add w1).sub o1).a (0, 0) _ (hE.2.2.2.2.2.2.2.1) Tryf.underlying23 rfl Tryf.size23 ?_)))
    have hn22 := Env.ne (Nat.le_refl _) hE
    have hw22 : w.heap.size ≤ W6.heap.size := hB.size
    have hD : Env (W6.alloc (.cells st.a 23)) [(W6.heap.size, st.a, 23)] := ⟨heap_alloc_new W6 _, trivial⟩
    replace hE := hE.below (below1 W6 (.cells st.a 23))
    replace hB := hB.alloc hB.size (.cells st.a 23)
    clear c120 hl20
    generalize W6.alloc (.cells st.a 23) = W7 at *
    generalize W6.heap.size = b22 at *
    have c110 : W7.cell? ⟨w.heap.size + 1, 0, none⟩ = some (.int .i64 w1.u) := cell_of_row _ _ 0 _ 23 (0, 0) hE.2.1
    go_cut [21, 23] from 57 to 70 (fun v0 v w' => v0 = .bool (wi ((st.add w1).sub o1) lim) ∧ v = .int .i64 (selI (wi ((st.add w1).sub o1) lim) (wrap64 (wrap64 (built + o1.u) + w1.u)) (wrap64 (built + o1.u))) ∧ Env w' [(w.heap.size, st.a, 23), (w.heap.size + 1, w1.a, 23), (w.heap.size + 1 + 1, o1.a, 23), (w.heap.size + 1 + 1 + 1, w2.a, 23), (w.heap.size + 1 + 1 + 1 + 1, o2.a, 23), (w.heap.size + 1 + 1 + 1 + 1 + 1, lim.a, 23), (b19, limA unit lim lb, 27), (b20, ((st.add w1).sub o1).a, 23)] ∧ Env w' [(b22, (sel (wi ((st.add w1).sub o1) lim) ((st.add w1).sub o1) st).a, 23)] ∧ Below w.heap.size w w')
    case first =>
      cases hw : (wi ((st.add w1).sub o1) lim)
      · go_wp2
        go_meet
        case rel => rw [hw]; exact ⟨rfl, rfl, hE, hD, hB⟩
      · have c110' : (W7.setRow b22 ((st.add w1).sub o1).a).cell? ⟨w.heap.size + 1, 0, none⟩ = some (.int .i64 w1.u) := cell_of_row _ _ 0 _ 23 (0, 0) (hE.other (other_row b22 W7 ((st.add w1).sub o1).a) hn22).2.1
        go_wp2_with (first
          | ((with_reducible refine at_op (.store 23 (.tmp 22) (.tmp 66)) ?_ ?_); (rfl); go_must (refine wpList_store_row rfl 23 (.tmp 22) (.tmp 66) rfl (b22) ((st.add w1).sub o1).a rfl rfl 23 _ (hD.1) Tryf.size23 rfl (Wt.one _) ?_))
          | ((with_reducible refine at_op (.load 23 (.tmp 9)) ?_ ?_); (rfl); go_must (refine wpList_load_row_w (by rfl) 23 (.tmp 9) rfl (w.heap.size) rfl 23 st.a (0, 0) _ (hE.1) Tryf.underlying23 rfl Tryf.size23 ?_))
            | ((with_reducible refine at_op (.load 23 (.tmp 11)) ?_ ?_); (rfl); go_must (refine wpList_load_row_w (by rfl) 23 (.tmp 11) rfl (w.heap.size + 1) rfl 23 w1.a (0, 0) _ (hE.2.1) Tryf.underlying23 rfl Tryf.size23 ?_))
            | ((with_reducible refine at_op (.load 23 (.tmp 12)) ?_ ?_); (rfl); go_must (refine wpList_load_row_w (by rfl) 23 (.tmp 12) rfl (w.heap.size + 1 + 1) rfl 23 o1.a (0, 0) _ (hE.2.2.1) Tryf.underlying23 rfl Tryf.size23 ?_))
            | ((with_reducible refine at_op (.load 23 (.tmp 13)) ?_ ?_); (rfl); go_must (refine wpList_load_row_w (by rfl) 23 (.tmp 13) rfl (w.heap.size + 1 + 1 + 1) rfl 23 w2.a (0, 0) _ (hE.2.2.2.1) Tryf.underlying23 rfl Tryf.size23 ?_))
            | ((with_reducible refine at_op (.load 23 (.tmp 14)) ?_ ?_); (rfl); go_must (refine wpList_load_row_w (by rfl) 23 (.tmp 14) rfl (w.heap.size + 1 + 1 + 1 + 1) rfl 23 o2.a (0, 0) _ (hE.2.2.2.2.1) Tryf.underlying23 rfl Tryf.size23 ?_))
            | ((with_reducible refine at_op (.load 23 (.tmp 16)) ?_ ?_); (rfl); go_must (refine wpList_load_row_w (by rfl) 23 (.tmp 16) rfl (w.heap.size + 1 + 1 + 1 + 1 + 1) rfl 23 lim.a (0, 0) _ (hE.2.2.2.2.2.1) Tryf.underlying23 rfl Tryf.size23 ?_))
            | ((with_reducible refine at_op (.load 27 (.tmp 19)) ?_ ?_); (rfl); go_must (refine wpList_load_row_w (by rfl) 27 (.tmp 19) rfl (b19) rfl 27 (limA unit lim lb) (0, 0) _ (hE.2.2.2.2.2.2.1) Tryf.underlying27 rfl Tryf.size27 ?_))
            | ((with_reducible refine at_op (.load 23 (.tmp 20)) ?_ ?_); (rfl); go_must (refine wpList_load_row_w (by rfl) 23 (.tmp 20) rfl (b20) rfl 23 ((st.add w1).sub o1).a (0, 0) _ (hE.2.2.2.2.2.2.2.1) Tryf.underlying23 rfl Tryf.size23 ?_)))
        go_meet
        case rel => rw [hw]; exact ⟨rfl, rfl, hE.other (other_row b22 W7 ((st.add w1).sub o1).a) hn22, ⟨setRow_heap _ _ _ _ _ _ hD.1, trivial⟩, below_setRow hB b22 ((st.add w1).sub o1).a hw22⟩
    case rest =>
      clear hE hD hB c110
      obtain ⟨rfl, rfl, hE, hD, hB⟩ := hcut
      replace hE : Env wc [(w.heap.size, st.a, 23), (w.heap.size + 1, w1.a, 23), (w.heap.size + 1 + 1, o1.a, 23), (w.heap.size + 1 + 1 + 1, w2.a, 23), (w.heap.size + 1 + 1 + 1 + 1, o2.a, 23), (w.heap.size + 1 + 1 + 1 + 1 + 1, lim.a, 23), (b19, limA unit lim lb, 27), (b20, ((st.add w1).sub o1).a, 23), (b22, (sel (wi ((st.add w1).sub o1) lim) ((st.add w1).sub o1) st).a, 23)] := ⟨hE.1, hE.2.1, hE.2.2.1, hE.2.2.2.1, hE.2.2.2.2.1, hE.2.2.2.2.2.1, hE.2.2.2.2.2.2.1, hE.2.2.2.2.2.2.2.1, hD.1, trivial⟩
      clear hD
      go_wp2_with fail
      refine (fun (rest : ∀ (bk : Nat) (W2 : World), wc.heap.size ≤ bk → Below wc.heap.size wc W2 → W2.heap[bk]? = some (.cells (((sel (wi ((st.add w1).sub o1) lim) ((st.add w1).sub o1) st).add w2).sub o2).a 23) → (?Prest2 : Nat → World → Prop) bk W2) => ?main2) ?rest2
      case main2 =>
        have hE0 := hE
        have hBx : Below wc.heap.size wc wc.drew := (Below.refl _ _).drew
        refine wp_region_held_drew (S := fun w' => Env w' [(w.heap.size, st.a, 23), (w.heap.size + 1, w1.a, 23), (w.heap.size + 1 + 1, o1.a, 23), (w.heap.size + 1 + 1 + 1, w2.a, 23), (w.heap.size + 1 + 1 + 1 + 1, o2.a, 23), (w.heap.size + 1 + 1 + 1 + 1 + 1, lim.a, 23), (b19, limA unit lim lb, 27), (b20, ((st.add w1).sub o1).a, 23), (b22, (sel (wi ((st.add w1).sub o1) lim) ((st.add w1).sub o1) st).a, 23)]) (by kernel_rfl) (hE.below hBx) (fun hHeld => ?_)
        refine wpAnyH_take (i := 0) (oi := ⟨some 71, .load 23 (.tmp 22), _, _, _, Option.none⟩) (v := .agg (sel (wi ((st.add w1).sub o1) lim) ((st.add w1).sub o1) st).a) rfl (by kernel_rfl) (by kernel_rfl) (by kernel_rfl) (fun _ _ _ h => h) ?_ hHeld ?_
        · exact yieldsIf_row (by rfl) 23 (.tmp 22) (by rfl) (b22) (by rfl) _ (sel (wi ((st.add w1).sub o1) lim) ((st.add w1).sub o1) st).a (0, 0) _ (fun w' hS => hS.2.2.2.2.2.2.2.2.1) Tryf.underlying23 (by rfl) Tryf.size23
        simp only [Act.put, List.setIfInBounds_toArray, List.set_cons_zero, List.set_cons_succ]
        refine wpAnyH_take (i := 1) (oi := ⟨some 72, .load 23 (.tmp 13), _, _, _, Option.none⟩) (v := .agg w2.a) rfl (by kernel_rfl) (by kernel_rfl) (by kernel_rfl) (fun _ _ _ h => h) ?_ hHeld ?_
        · exact yieldsIf_row (by rfl) 23 (.tmp 13) (by rfl) (w.heap.size + 1 + 1 + 1) (by rfl) _ w2.a (0, 0) _ (fun w' hS => hS.2.2.2.1) Tryf.underlying23 (by rfl) Tryf.size23
        simp only [Act.put, List.setIfInBounds_toArray, List.set_cons_zero, List.set_cons_succ]
        refine wpAnyH_take (i := 3) (oi := ⟨some 74, .load 23 (.tmp 14), _, _, _, Option.none⟩) (v := .agg o2.a) rfl (by kernel_rfl) (by kernel_rfl) (by kernel_rfl) (fun _ _ _ h => h) ?_ hHeld ?_
        · exact yieldsIf_row (by rfl) 23 (.tmp 14) (by rfl) (w.heap.size + 1 + 1 + 1 + 1) (by rfl) _ o2.a (0, 0) _ (fun w' hS => hS.2.2.2.2.1) Tryf.underlying23 (by rfl) Tryf.size23
        simp only [Act.put, List.setIfInBounds_toArray, List.set_cons_zero, List.set_cons_succ]
        refine wpAnyH_ready (rs := [2, 5]) (by kernel_rfl) (by simp) (AllReadyH.cons (o := ⟨some 73, .call { callee := .value (.func 9), args := #[.tmp 71, .tmp 72], argTypes := #[23, 23] }, _, _, _, Option.none⟩) rfl (fun K hK => ?_) (AllReadyH.cons (o := ⟨some 24, .alloc 23, _, _, _, Option.none⟩) rfl (fun K hK => ?_) AllReadyH.nil))
        · rw [if_pos (by rfl)]
          go_wp2_with fail
          refine (addW (sel (wi ((st.add w1).sub o1) lim) ((st.add w1).sub o1) st) w2 _).mono ?_
          rintro e x1 ⟨rfl, hb⟩
          have hBx := hBx.trans (hb.mono hBx.size)
          refine hK.out _ _ (hHeld.below hb) (fun hHeld => ?_)
          clear hK K hb
          refine wpAnyH_ready (rs := [4, 5]) (by kernel_rfl) (by simp) (AllReadyH.cons (o := ⟨some 75, .call { callee := .value (.func 8), args := #[.tmp 73, .tmp 74], argTypes := #[23, 23] }, _, _, _, Option.none⟩) rfl (fun K hK => ?_) (AllReadyH.cons (o := ⟨some 24, .alloc 23, _, _, _, Option.none⟩) rfl (fun K hK => ?_) AllReadyH.nil))
          · rw [if_pos (by rfl)]
            go_wp2_with fail
            refine (subW ((sel (wi ((st.add w1).sub o1) lim) ((st.add w1).sub o1) st).add w2) o2 _).mono ?_
            rintro e x2 ⟨rfl, hb⟩
            have hBx := hBx.trans (hb.mono hBx.size)
            refine hK.out _ _ (hHeld.below hb) (fun hHeld => ?_)
            clear hK K hb
            refine wpAnyH_ready (rs := [5]) (by kernel_rfl) (by simp) (AllReadyH.cons (o := ⟨some 24, .alloc 23, _, _, _, Option.none⟩) rfl (fun K hK => ?_) AllReadyH.nil)
            rw [if_pos (by rfl)]
            go_wp2_with fail
            have hnew := heap_alloc_new x2 (.cells #[.int .i64 0, .int .i64 0, .int .i64 0] 23)
            have hlt : x2.heap.size < (x2.alloc (.cells #[.int .i64 0, .int .i64 0, .int .i64 0] 23)).heap.size := by simp
            have hbk : wc.heap.size ≤ x2.heap.size := hBx.size
            have hBx := hBx.alloc hBx.size (.cells #[.int .i64 0, .int .i64 0, .int .i64 0] 23)
            refine hK.out _ _ (hHeld.below (below1 x2 (.cells #[.int .i64 0, .int .i64 0, .int .i64 0] 23))) (fun hHeld => ?_)
            clear hK K
            refine wpAnyH_ready (rs := [6]) (by kernel_rfl) (by simp) (AllReadyH.cons (o := ⟨Option.none, .store 23 (.tmp 24) (.tmp 75), _, _, _, Option.none⟩) rfl (fun K hK => ?_) AllReadyH.nil)
            rw [if_pos (by rfl)]
            refine wp_store_row 23 (.tmp 24) (.tmp 75) (by rfl) (x2.heap.size) (((sel (wi ((st.add w1).sub o1) lim) ((st.add w1).sub o1) st).add w2).sub o2).a (by rfl) (by rfl) 23 _ hnew Tryf.size23 rfl (Wt.one _) ?_
            have hrow := setRow_heap _ _ _ (((sel (wi ((st.add w1).sub o1) lim) ((st.add w1).sub o1) st).add w2).sub o2).a _ _ hnew
            have hBx := below_setRow hBx (x2.heap.size) (((sel (wi ((st.add w1).sub o1) lim) ((st.add w1).sub o1) st).add w2).sub o2).a hbk
            refine hK.out _ _ (hE0.below hBx) (fun _ => ?_)
            clear hK K
            refine wpAnyH_done (by kernel_rfl) ?_ _
            generalize World.setRow _ (x2.heap.size) _ = Wx at hrow hBx ⊢
            generalize x2.heap.size = bk at hrow hbk ⊢
            exact rest bk Wx hbk hBx hrow
          · rw [if_pos (by rfl)]
            go_wp2_with fail
            have hnew := heap_alloc_new x1 (.cells #[.int .i64 0, .int .i64 0, .int .i64 0] 23)
            have hlt : x1.heap.size < (x1.alloc (.cells #[.int .i64 0, .int .i64 0, .int .i64 0] 23)).heap.size := by simp
            have hbk : wc.heap.size ≤ x1.heap.size := hBx.size
            have hBx := hBx.alloc hBx.size (.cells #[.int .i64 0, .int .i64 0, .int .i64 0] 23)
            refine hK.out _ _ (hHeld.below (below1 x1 (.cells #[.int .i64 0, .int .i64 0, .int .i64 0] 23))) (fun hHeld => ?_)
            clear hK K
            refine wpAnyH_ready (rs := [4]) (by kernel_rfl) (by simp) (AllReadyH.cons (o := ⟨some 75, .call { callee := .value (.func 8), args := #[.tmp 73, .tmp 74], argTypes := #[23, 23] }, _, _, _, Option.none⟩) rfl (fun K hK => ?_) AllReadyH.nil)
            rw [if_pos (by rfl)]
            go_wp2_with fail
            refine (subW ((sel (wi ((st.add w1).sub o1) lim) ((st.add w1).sub o1) st).add w2) o2 _).mono ?_
            rintro e x3 ⟨rfl, hb⟩
            have hnew := (hb.block _ hlt).trans hnew
            have hlt := Nat.lt_of_lt_of_le hlt hb.size
            have hBx := hBx.trans (hb.mono hBx.size)
            refine hK.out _ _ (hHeld.below hb) (fun hHeld => ?_)
            clear hK K hb
            refine wpAnyH_ready (rs := [6]) (by kernel_rfl) (by simp) (AllReadyH.cons (o := ⟨Option.none, .store 23 (.tmp 24) (.tmp 75), _, _, _, Option.none⟩) rfl (fun K hK => ?_) AllReadyH.nil)
            rw [if_pos (by rfl)]
            refine wp_store_row 23 (.tmp 24) (.tmp 75) (by rfl) (x1.heap.size) (((sel (wi ((st.add w1).sub o1) lim) ((st.add w1).sub o1) st).add w2).sub o2).a (by rfl) (by rfl) 23 _ hnew Tryf.size23 rfl (Wt.one _) ?_
            have hrow := setRow_heap _ _ _ (((sel (wi ((st.add w1).sub o1) lim) ((st.add w1).sub o1) st).add w2).sub o2).a _ _ hnew
            have hBx := below_setRow hBx (x1.heap.size) (((sel (wi ((st.add w1).sub o1) lim) ((st.add w1).sub o1) st).add w2).sub o2).a hbk
            refine hK.out _ _ (hE0.below hBx) (fun _ => ?_)
            clear hK K
            refine wpAnyH_done (by kernel_rfl) ?_ _
            exact rest _ _ hbk hBx hrow
        · rw [if_pos (by rfl)]
          go_wp2_with fail
          have hnew := heap_alloc_new (wc.drew) (.cells #[.int .i64 0, .int .i64 0, .int .i64 0] 23)
          have hlt : wc.heap.size < (wc.drew.alloc (.cells #[.int .i64 0, .int .i64 0, .int .i64 0] 23)).heap.size := by simp
          have hbk : wc.heap.size ≤ wc.heap.size := hBx.size
          have hBx := hBx.alloc hBx.size (.cells #[.int .i64 0, .int .i64 0, .int .i64 0] 23)
          refine hK.out _ _ (hHeld.below (below1 (wc.drew) (.cells #[.int .i64 0, .int .i64 0, .int .i64 0] 23))) (fun hHeld => ?_)
          clear hK K
          refine wpAnyH_ready (rs := [2]) (by kernel_rfl) (by simp) (AllReadyH.cons (o := ⟨some 73, .call { callee := .value (.func 9), args := #[.tmp 71, .tmp 72], argTypes := #[23, 23] }, _, _, _, Option.none⟩) rfl (fun K hK => ?_) AllReadyH.nil)
          rw [if_pos (by rfl)]
          go_wp2_with fail
          refine (addW (sel (wi ((st.add w1).sub o1) lim) ((st.add w1).sub o1) st) w2 _).mono ?_
          rintro e x4 ⟨rfl, hb⟩
          have hnew := (hb.block _ hlt).trans hnew
          have hlt := Nat.lt_of_lt_of_le hlt hb.size
          have hBx := hBx.trans (hb.mono hBx.size)
          refine hK.out _ _ (hHeld.below hb) (fun hHeld => ?_)
          clear hK K hb
          refine wpAnyH_ready (rs := [4]) (by kernel_rfl) (by simp) (AllReadyH.cons (o := ⟨some 75, .call { callee := .value (.func 8), args := #[.tmp 73, .tmp 74], argTypes := #[23, 23] }, _, _, _, Option.none⟩) rfl (fun K hK => ?_) AllReadyH.nil)
          rw [if_pos (by rfl)]
          go_wp2_with fail
          refine (subW ((sel (wi ((st.add w1).sub o1) lim) ((st.add w1).sub o1) st).add w2) o2 _).mono ?_
          rintro e x5 ⟨rfl, hb⟩
          have hnew := (hb.block _ hlt).trans hnew
          have hlt := Nat.lt_of_lt_of_le hlt hb.size
          have hBx := hBx.trans (hb.mono hBx.size)
          refine hK.out _ _ (hHeld.below hb) (fun hHeld => ?_)
          clear hK K hb
          refine wpAnyH_ready (rs := [6]) (by kernel_rfl) (by simp) (AllReadyH.cons (o := ⟨Option.none, .store 23 (.tmp 24) (.tmp 75), _, _, _, Option.none⟩) rfl (fun K hK => ?_) AllReadyH.nil)
          rw [if_pos (by rfl)]
          refine wp_store_row 23 (.tmp 24) (.tmp 75) (by rfl) (wc.heap.size) (((sel (wi ((st.add w1).sub o1) lim) ((st.add w1).sub o1) st).add w2).sub o2).a (by rfl) (by rfl) 23 _ hnew Tryf.size23 rfl (Wt.one _) ?_
          have hrow := setRow_heap _ _ _ (((sel (wi ((st.add w1).sub o1) lim) ((st.add w1).sub o1) st).add w2).sub o2).a _ _ hnew
          have hBx := below_setRow hBx (wc.heap.size) (((sel (wi ((st.add w1).sub o1) lim) ((st.add w1).sub o1) st).add w2).sub o2).a hbk
          refine hK.out _ _ (hE0.below hBx) (fun _ => ?_)
          clear hK K
          refine wpAnyH_done (by kernel_rfl) ?_ _
          exact rest _ _ hbk hBx hrow
      case rest2 =>
        intro b24 W8 hb24 hb r24
        replace hB := hB.trans (hb.mono hB.size)
        have h5 := hE.below hb
        clear hE hb
        have hE : Env W8 [(w.heap.size, st.a, 23), (w.heap.size + 1, w1.a, 23), (w.heap.size + 1 + 1, o1.a, 23), (w.heap.size + 1 + 1 + 1, w2.a, 23), (w.heap.size + 1 + 1 + 1 + 1, o2.a, 23), (w.heap.size + 1 + 1 + 1 + 1 + 1, lim.a, 23), (b19, limA unit lim lb, 27), (b20, ((st.add w1).sub o1).a, 23), (b24, (((sel (wi ((st.add w1).sub o1) lim) ((st.add w1).sub o1) st).add w2).sub o2).a, 23), (b22, (sel (wi ((st.add w1).sub o1) lim) ((st.add w1).sub o1) st).a, 23)] := ⟨h5.1, h5.2.1, h5.2.2.1, h5.2.2.2.1, h5.2.2.2.2.1, h5.2.2.2.2.2.1, h5.2.2.2.2.2.2.1, h5.2.2.2.2.2.2.2.1, r24, h5.2.2.2.2.2.2.2.2.1, trivial⟩
        clear h5 r24
        simp only [Act.put]
        go_wp2_with (first
          | ((with_reducible refine at_op (.load 23 (.tmp 9)) ?_ ?_); (rfl); go_must (refine wpList_load_row_w (by rfl) 23 (.tmp 9) rfl (w.heap.size) rfl 23 st.a (0, 0) _ (hE.1) Tryf.underlying23 rfl Tryf.size23 ?_))
          | ((with_reducible refine at_op (.load 23 (.tmp 11)) ?_ ?_); (rfl); go_must (refine wpList_load_row_w (by rfl) 23 (.tmp 11) rfl (w.heap.size + 1) rfl 23 w1.a (0, 0) _ (hE.2.1) Tryf.underlying23 rfl Tryf.size23 ?_))
          | ((with_reducible refine at_op (.load 23 (.tmp 12)) ?_ ?_); (rfl); go_must (refine wpList_load_row_w (by rfl) 23 (.tmp 12) rfl (w.heap.size + 1 + 1) rfl 23 o1.a (0, 0) _ (hE.2.2.1) Tryf.underlying23 rfl Tryf.size23 ?_))
          | ((with_reducible refine at_op (.load 23 (.tmp 13)) ?_ ?_); (rfl); go_must (refine wpList_load_row_w (by rfl) 23 (.tmp 13) rfl (w.heap.size + 1 + 1 + 1) rfl 23 w2.a (0, 0) _ (hE.2.2.2.1) Tryf.underlying23 rfl Tryf.size23 ?_))
          | ((with_reducible refine at_op (.load 23 (.tmp 14)) ?_ ?_); (rfl); go_must (refine wpList_load_row_w (by rfl) 23 (.tmp 14) rfl (w.heap.size + 1 + 1 + 1 + 1) rfl 23 o2.a (0, 0) _ (hE.2.2.2.2.1) Tryf.underlying23 rfl Tryf.size23 ?_))
          | ((with_reducible refine at_op (.load 23 (.tmp 16)) ?_ ?_); (rfl); go_must (refine wpList_load_row_w (by rfl) 23 (.tmp 16) rfl (w.heap.size + 1 + 1 + 1 + 1 + 1) rfl 23 lim.a (0, 0) _ (hE.2.2.2.2.2.1) Tryf.underlying23 rfl Tryf.size23 ?_))
          | ((with_reducible refine at_op (.load 27 (.tmp 19)) ?_ ?_); (rfl); go_must (refine wpList_load_row_w (by rfl) 27 (.tmp 19) rfl (b19) rfl 27 (limA unit lim lb) (0, 0) _ (hE.2.2.2.2.2.2.1) Tryf.underlying27 rfl Tryf.size27 ?_))
          | ((with_reducible refine at_op (.load 23 (.tmp 20)) ?_ ?_); (rfl); go_must (refine wpList_load_row_w (by rfl) 23 (.tmp 20) rfl (b20) rfl 23 ((st.add w1).sub o1).a (0, 0) _ (hE.2.2.2.2.2.2.2.1) Tryf.underlying23 rfl Tryf.size23 ?_))
          | ((with_reducible refine at_op (.load 23 (.tmp 24)) ?_ ?_); (rfl); go_must (refine wpList_load_row_w (by rfl) 23 (.tmp 24) rfl (b24) rfl 23 (((sel (wi ((st.add w1).sub o1) lim) ((st.add w1).sub o1) st).add w2).sub o2).a (0, 0) _ (hE.2.2.2.2.2.2.2.2.1) Tryf.underlying23 rfl Tryf.size23 ?_))
          | ((with_reducible refine at_op (.load 23 (.tmp 22)) ?_ ?_); (rfl); go_must (refine wpList_load_row_w (by rfl) 23 (.tmp 22) rfl (b22) rfl 23 (sel (wi ((st.add w1).sub o1) lim) ((st.add w1).sub o1) st).a (0, 0) _ (hE.2.2.2.2.2.2.2.2.2.1) Tryf.underlying23 rfl Tryf.size23 ?_)))
        refine (within (((sel (wi ((st.add w1).sub o1) lim) ((st.add w1).sub o1) st).add w2).sub o2) lim _).mono ?_
        rintro e W9 ⟨rfl, hb⟩
        replace hE := hE.below hb
        replace hB := hB.trans (hb.mono hB.size)
        clear hb
        have c140 : (W9.alloc (.cells (sel (wi ((st.add w1).sub o1) lim) ((st.add w1).sub o1) st).a 23)).cell? ⟨w.heap.size + 1 + 1 + 1 + 1, 0, none⟩ = some (.int .i64 o2.u) := cell_of_row _ _ 0 _ 23 (0, 0) (hE.below (below1 _ _)).2.2.2.2.1
        go_upto_if 84 with (first
          | ((with_reducible refine at_op (.store 23 (.tmp 26) (.tmp 79)) ?_ ?_); (rfl); go_must (refine wpList_store_row rfl 23 (.tmp 26) (.tmp 79) rfl (W9.heap.size) (sel (wi ((st.add w1).sub o1) lim) ((st.add w1).sub o1) st).a rfl rfl 23 _ (heap_alloc_new W9 _) Tryf.size23 rfl (Wt.one _) ?_; rw [World.setRow_alloc_new]))
          | ((with_reducible refine at_op (.load 23 (.tmp 9)) ?_ ?_); (rfl); go_must (refine wpList_load_row_w (by rfl) 23 (.tmp 9) rfl (w.heap.size) rfl 23 st.a (0, 0) _ (hE.1) Tryf.underlying23 rfl Tryf.size23 ?_))
            | ((with_reducible refine at_op (.load 23 (.tmp 11)) ?_ ?_); (rfl); go_must (refine wpList_load_row_w (by rfl) 23 (.tmp 11) rfl (w.heap.size + 1) rfl 23 w1.a (0, 0) _ (hE.2.1) Tryf.underlying23 rfl Tryf.size23 ?_))
            | ((with_reducible refine at_op (.load 23 (.tmp 12)) ?_ ?_); (rfl); go_must (refine wpList_load_row_w (by rfl) 23 (.tmp 12) rfl (w.heap.size + 1 + 1) rfl 23 o1.a (0, 0) _ (hE.2.2.1) Tryf.underlying23 rfl Tryf.size23 ?_))
            | ((with_reducible refine at_op (.load 23 (.tmp 13)) ?_ ?_); (rfl); go_must (refine wpList_load_row_w (by rfl) 23 (.tmp 13) rfl (w.heap.size + 1 + 1 + 1) rfl 23 w2.a (0, 0) _ (hE.2.2.2.1) Tryf.underlying23 rfl Tryf.size23 ?_))
            | ((with_reducible refine at_op (.load 23 (.tmp 14)) ?_ ?_); (rfl); go_must (refine wpList_load_row_w (by rfl) 23 (.tmp 14) rfl (w.heap.size + 1 + 1 + 1 + 1) rfl 23 o2.a (0, 0) _ (hE.2.2.2.2.1) Tryf.underlying23 rfl Tryf.size23 ?_))
            | ((with_reducible refine at_op (.load 23 (.tmp 16)) ?_ ?_); (rfl); go_must (refine wpList_load_row_w (by rfl) 23 (.tmp 16) rfl (w.heap.size + 1 + 1 + 1 + 1 + 1) rfl 23 lim.a (0, 0) _ (hE.2.2.2.2.2.1) Tryf.underlying23 rfl Tryf.size23 ?_))
            | ((with_reducible refine at_op (.load 27 (.tmp 19)) ?_ ?_); (rfl); go_must (refine wpList_load_row_w (by rfl) 27 (.tmp 19) rfl (b19) rfl 27 (limA unit lim lb) (0, 0) _ (hE.2.2.2.2.2.2.1) Tryf.underlying27 rfl Tryf.size27 ?_))
            | ((with_reducible refine at_op (.load 23 (.tmp 20)) ?_ ?_); (rfl); go_must (refine wpList_load_row_w (by rfl) 23 (.tmp 20) rfl (b20) rfl 23 ((st.add w1).sub o1).a (0, 0) _ (hE.2.2.2.2.2.2.2.1) Tryf.underlying23 rfl Tryf.size23 ?_))
            | ((with_reducible refine at_op (.load 23 (.tmp 24)) ?_ ?_); (rfl); go_must (refine wpList_load_row_w (by rfl) 23 (.tmp 24) rfl (b24) rfl 23 (((sel (wi ((st.add w1).sub o1) lim) ((st.add w1).sub o1) st).add w2).sub o2).a (0, 0) _ (hE.2.2.2.2.2.2.2.2.1) Tryf.underlying23 rfl Tryf.size23 ?_))
            | ((with_reducible refine at_op (.load 23 (.tmp 22)) ?_ ?_); (rfl); go_must (refine wpList_load_row_w (by rfl) 23 (.tmp 22) rfl (b22) rfl 23 (sel (wi ((st.add w1).sub o1) lim) ((st.add w1).sub o1) st).a (0, 0) _ (hE.2.2.2.2.2.2.2.2.2.1) Tryf.underlying23 rfl Tryf.size23 ?_)))
        have hn26 := Env.ne (Nat.le_refl _) hE
        have hw26 : w.heap.size ≤ W9.heap.size := hB.size
        have hG : Env (W9.alloc (.cells (sel (wi ((st.add w1).sub o1) lim) ((st.add w1).sub o1) st).a 23)) [(W9.heap.size, (sel (wi ((st.add w1).sub o1) lim) ((st.add w1).sub o1) st).a, 23)] := ⟨heap_alloc_new W9 _, trivial⟩
        replace hE := hE.below (below1 W9 (.cells (sel (wi ((st.add w1).sub o1) lim) ((st.add w1).sub o1) st).a 23))
        replace hB := hB.alloc hB.size (.cells (sel (wi ((st.add w1).sub o1) lim) ((st.add w1).sub o1) st).a 23)
        clear c140
        generalize W9.alloc (.cells (sel (wi ((st.add w1).sub o1) lim) ((st.add w1).sub o1) st).a 23) = W10 at *
        generalize W9.heap.size = b26 at *
        have c130 : W10.cell? ⟨w.heap.size + 1 + 1 + 1, 0, none⟩ = some (.int .i64 w2.u) := cell_of_row _ _ 0 _ 23 (0, 0) hE.2.2.2.1
        go_cut [25, 27] from 71 to 89 (fun v0 v w' => v0 = .bool (wi (((sel (wi ((st.add w1).sub o1) lim) ((st.add w1).sub o1) st).add w2).sub o2) lim) ∧ v = .int .i64 (selI (wi (((sel (wi ((st.add w1).sub o1) lim) ((st.add w1).sub o1) st).add w2).sub o2) lim) (wrap64 (wrap64 ((selI (wi ((st.add w1).sub o1) lim) (wrap64 (wrap64 (built + o1.u) + w1.u)) (wrap64 (built + o1.u))) + o2.u) + w2.u)) (wrap64 ((selI (wi ((st.add w1).sub o1) lim) (wrap64 (wrap64 (built + o1.u) + w1.u)) (wrap64 (built + o1.u))) + o2.u))) ∧ Env w' [(w.heap.size, st.a, 23), (w.heap.size + 1, w1.a, 23), (w.heap.size + 1 + 1, o1.a, 23), (w.heap.size + 1 + 1 + 1, w2.a, 23), (w.heap.size + 1 + 1 + 1 + 1, o2.a, 23), (w.heap.size + 1 + 1 + 1 + 1 + 1, lim.a, 23), (b19, limA unit lim lb, 27), (b20, ((st.add w1).sub o1).a, 23), (b24, (((sel (wi ((st.add w1).sub o1) lim) ((st.add w1).sub o1) st).add w2).sub o2).a, 23), (b22, (sel (wi ((st.add w1).sub o1) lim) ((st.add w1).sub o1) st).a, 23)] ∧ Env w' [(b26, (sel (wi (((sel (wi ((st.add w1).sub o1) lim) ((st.add w1).sub o1) st).add w2).sub o2) lim) (((sel (wi ((st.add w1).sub o1) lim) ((st.add w1).sub o1) st).add w2).sub o2) (sel (wi ((st.add w1).sub o1) lim) ((st.add w1).sub o1) st)).a, 23)] ∧ Below w.heap.size w w')
        case first =>
          cases hw : (wi (((sel (wi ((st.add w1).sub o1) lim) ((st.add w1).sub o1) st).add w2).sub o2) lim)
          · go_wp2
            go_meet
            case rel => rw [hw]; exact ⟨rfl, rfl, hE, hG, hB⟩
          · have c130' : (W10.setRow b26 (((sel (wi ((st.add w1).sub o1) lim) ((st.add w1).sub o1) st).add w2).sub o2).a).cell? ⟨w.heap.size + 1 + 1 + 1, 0, none⟩ = some (.int .i64 w2.u) := cell_of_row _ _ 0 _ 23 (0, 0) (hE.other (other_row b26 W10 (((sel (wi ((st.add w1).sub o1) lim) ((st.add w1).sub o1) st).add w2).sub o2).a) hn26).2.2.2.1
            go_wp2_with (first
              | ((with_reducible refine at_op (.store 23 (.tmp 26) (.tmp 85)) ?_ ?_); (rfl); go_must (refine wpList_store_row rfl 23 (.tmp 26) (.tmp 85) rfl (b26) (((sel (wi ((st.add w1).sub o1) lim) ((st.add w1).sub o1) st).add w2).sub o2).a rfl rfl 23 _ (hG.1) Tryf.size23 rfl (Wt.one _) ?_))
              | ((with_reducible refine at_op (.load 23 (.tmp 9)) ?_ ?_); (rfl); go_must (refine wpList_load_row_w (by rfl) 23 (.tmp 9) rfl (w.heap.size) rfl 23 st.a (0, 0) _ (hE.1) Tryf.underlying23 rfl Tryf.size23 ?_))
                | ((with_reducible refine at_op (.load 23 (.tmp 11)) ?_ ?_); (rfl); go_must (refine wpList_load_row_w (by rfl) 23 (.tmp 11) rfl (w.heap.size + 1) rfl 23 w1.a (0, 0) _ (hE.2.1) Tryf.underlying23 rfl Tryf.size23 ?_))
                | ((with_reducible refine at_op (.load 23 (.tmp 12)) ?_ ?_); (rfl); go_must (refine wpList_load_row_w (by rfl) 23 (.tmp 12) rfl (w.heap.size + 1 + 1) rfl 23 o1.a (0, 0) _ (hE.2.2.1) Tryf.underlying23 rfl Tryf.size23 ?_))
                | ((with_reducible refine at_op (.load 23 (.tmp 13)) ?_ ?_); (rfl); go_must (refine wpList_load_row_w (by rfl) 23 (.tmp 13) rfl (w.heap.size + 1 + 1 + 1) rfl 23 w2.a (0, 0) _ (hE.2.2.2.1) Tryf.underlying23 rfl Tryf.size23 ?_))
                | ((with_reducible refine at_op (.load 23 (.tmp 14)) ?_ ?_); (rfl); go_must (refine wpList_load_row_w (by rfl) 23 (.tmp 14) rfl (w.heap.size + 1 + 1 + 1 + 1) rfl 23 o2.a (0, 0) _ (hE.2.2.2.2.1) Tryf.underlying23 rfl Tryf.size23 ?_))
                | ((with_reducible refine at_op (.load 23 (.tmp 16)) ?_ ?_); (rfl); go_must (refine wpList_load_row_w (by rfl) 23 (.tmp 16) rfl (w.heap.size + 1 + 1 + 1 + 1 + 1) rfl 23 lim.a (0, 0) _ (hE.2.2.2.2.2.1) Tryf.underlying23 rfl Tryf.size23 ?_))
                | ((with_reducible refine at_op (.load 27 (.tmp 19)) ?_ ?_); (rfl); go_must (refine wpList_load_row_w (by rfl) 27 (.tmp 19) rfl (b19) rfl 27 (limA unit lim lb) (0, 0) _ (hE.2.2.2.2.2.2.1) Tryf.underlying27 rfl Tryf.size27 ?_))
                | ((with_reducible refine at_op (.load 23 (.tmp 20)) ?_ ?_); (rfl); go_must (refine wpList_load_row_w (by rfl) 23 (.tmp 20) rfl (b20) rfl 23 ((st.add w1).sub o1).a (0, 0) _ (hE.2.2.2.2.2.2.2.1) Tryf.underlying23 rfl Tryf.size23 ?_))
                | ((with_reducible refine at_op (.load 23 (.tmp 24)) ?_ ?_); (rfl); go_must (refine wpList_load_row_w (by rfl) 23 (.tmp 24) rfl (b24) rfl 23 (((sel (wi ((st.add w1).sub o1) lim) ((st.add w1).sub o1) st).add w2).sub o2).a (0, 0) _ (hE.2.2.2.2.2.2.2.2.1) Tryf.underlying23 rfl Tryf.size23 ?_))
                | ((with_reducible refine at_op (.load 23 (.tmp 22)) ?_ ?_); (rfl); go_must (refine wpList_load_row_w (by rfl) 23 (.tmp 22) rfl (b22) rfl 23 (sel (wi ((st.add w1).sub o1) lim) ((st.add w1).sub o1) st).a (0, 0) _ (hE.2.2.2.2.2.2.2.2.2.1) Tryf.underlying23 rfl Tryf.size23 ?_)))
            go_meet
            case rel => rw [hw]; exact ⟨rfl, rfl, hE.other (other_row b26 W10 (((sel (wi ((st.add w1).sub o1) lim) ((st.add w1).sub o1) st).add w2).sub o2).a) hn26, ⟨setRow_heap _ _ _ _ _ _ hG.1, trivial⟩, below_setRow hB b26 (((sel (wi ((st.add w1).sub o1) lim) ((st.add w1).sub o1) st).add w2).sub o2).a hw26⟩
        case rest =>
          clear hE hG hB c130
          obtain ⟨rfl, rfl, hE, hG, hB⟩ := hcut
          replace hE : Env wc [(w.heap.size, st.a, 23), (w.heap.size + 1, w1.a, 23), (w.heap.size + 1 + 1, o1.a, 23), (w.heap.size + 1 + 1 + 1, w2.a, 23), (w.heap.size + 1 + 1 + 1 + 1, o2.a, 23), (w.heap.size + 1 + 1 + 1 + 1 + 1, lim.a, 23), (b19, limA unit lim lb, 27), (b20, ((st.add w1).sub o1).a, 23), (b24, (((sel (wi ((st.add w1).sub o1) lim) ((st.add w1).sub o1) st).add w2).sub o2).a, 23), (b22, (sel (wi ((st.add w1).sub o1) lim) ((st.add w1).sub o1) st).a, 23), (b26, (sel (wi (((sel (wi ((st.add w1).sub o1) lim) ((st.add w1).sub o1) st).add w2).sub o2) lim) (((sel (wi ((st.add w1).sub o1) lim) ((st.add w1).sub o1) st).add w2).sub o2) (sel (wi ((st.add w1).sub o1) lim) ((st.add w1).sub o1) st)).a, 23)] := ⟨hE.1, hE.2.1, hE.2.2.1, hE.2.2.2.1, hE.2.2.2.2.1, hE.2.2.2.2.2.1, hE.2.2.2.2.2.2.1, hE.2.2.2.2.2.2.2.1, hE.2.2.2.2.2.2.2.2.1, hE.2.2.2.2.2.2.2.2.2.1, hG.1, trivial⟩
          clear hG
          go_wp2_with (first
            | ((with_reducible refine at_op (.load 23 (.tmp 9)) ?_ ?_); (rfl); go_must (refine wpList_load_row_w (by rfl) 23 (.tmp 9) rfl (w.heap.size) rfl 23 st.a (0, 0) _ (hE.1) Tryf.underlying23 rfl Tryf.size23 ?_))
            | ((with_reducible refine at_op (.load 23 (.tmp 11)) ?_ ?_); (rfl); go_must (refine wpList_load_row_w (by rfl) 23 (.tmp 11) rfl (w.heap.size + 1) rfl 23 w1.a (0, 0) _ (hE.2.1) Tryf.underlying23 rfl Tryf.size23 ?_))
            | ((with_reducible refine at_op (.load 23 (.tmp 12)) ?_ ?_); (rfl); go_must (refine wpList_load_row_w (by rfl) 23 (.tmp 12) rfl (w.heap.size + 1 + 1) rfl 23 o1.a (0, 0) _ (hE.2.2.1) Tryf.underlying23 rfl Tryf.size23 ?_))
            | ((with_reducible refine at_op (.load 23 (.tmp 13)) ?_ ?_); (rfl); go_must (refine wpList_load_row_w (by rfl) 23 (.tmp 13) rfl (w.heap.size + 1 + 1 + 1) rfl 23 w2.a (0, 0) _ (hE.2.2.2.1) Tryf.underlying23 rfl Tryf.size23 ?_))
            | ((with_reducible refine at_op (.load 23 (.tmp 14)) ?_ ?_); (rfl); go_must (refine wpList_load_row_w (by rfl) 23 (.tmp 14) rfl (w.heap.size + 1 + 1 + 1 + 1) rfl 23 o2.a (0, 0) _ (hE.2.2.2.2.1) Tryf.underlying23 rfl Tryf.size23 ?_))
            | ((with_reducible refine at_op (.load 23 (.tmp 16)) ?_ ?_); (rfl); go_must (refine wpList_load_row_w (by rfl) 23 (.tmp 16) rfl (w.heap.size + 1 + 1 + 1 + 1 + 1) rfl 23 lim.a (0, 0) _ (hE.2.2.2.2.2.1) Tryf.underlying23 rfl Tryf.size23 ?_))
            | ((with_reducible refine at_op (.load 27 (.tmp 19)) ?_ ?_); (rfl); go_must (refine wpList_load_row_w (by rfl) 27 (.tmp 19) rfl (b19) rfl 27 (limA unit lim lb) (0, 0) _ (hE.2.2.2.2.2.2.1) Tryf.underlying27 rfl Tryf.size27 ?_))
            | ((with_reducible refine at_op (.load 23 (.tmp 20)) ?_ ?_); (rfl); go_must (refine wpList_load_row_w (by rfl) 23 (.tmp 20) rfl (b20) rfl 23 ((st.add w1).sub o1).a (0, 0) _ (hE.2.2.2.2.2.2.2.1) Tryf.underlying23 rfl Tryf.size23 ?_))
            | ((with_reducible refine at_op (.load 23 (.tmp 24)) ?_ ?_); (rfl); go_must (refine wpList_load_row_w (by rfl) 23 (.tmp 24) rfl (b24) rfl 23 (((sel (wi ((st.add w1).sub o1) lim) ((st.add w1).sub o1) st).add w2).sub o2).a (0, 0) _ (hE.2.2.2.2.2.2.2.2.1) Tryf.underlying23 rfl Tryf.size23 ?_))
            | ((with_reducible refine at_op (.load 23 (.tmp 22)) ?_ ?_); (rfl); go_must (refine wpList_load_row_w (by rfl) 23 (.tmp 22) rfl (b22) rfl 23 (sel (wi ((st.add w1).sub o1) lim) ((st.add w1).sub o1) st).a (0, 0) _ (hE.2.2.2.2.2.2.2.2.2.1) Tryf.underlying23 rfl Tryf.size23 ?_))
            | ((with_reducible refine at_op (.load 23 (.tmp 26)) ?_ ?_); (rfl); go_must (refine wpList_load_row_w (by rfl) 23 (.tmp 26) rfl (b26) rfl 23 (sel (wi (((sel (wi ((st.add w1).sub o1) lim) ((st.add w1).sub o1) st).add w2).sub o2) lim) (((sel (wi ((st.add w1).sub o1) lim) ((st.add w1).sub o1) st).add w2).sub o2) (sel (wi ((st.add w1).sub o1) lim) ((st.add w1).sub o1) st)).a (0, 0) _ (hE.2.2.2.2.2.2.2.2.2.2.1) Tryf.underlying23 rfl Tryf.size23 ?_)))
          refine (toWeight st _).mono ?_
          rintro e y1 ⟨rfl, hb⟩
          replace hE := hE.below hb
          replace hB := hB.trans (hb.mono hB.size)
          clear hb
          go_wp2_with fail
          refine (newTally st built _).mono ?_
          rintro e y2 ⟨bt, rfl, hb, hbt8, hrow⟩
          have hbL := Env.ne hbt8 hE
          have hbt : w.heap.size ≤ bt := Nat.le_trans hB.size hbt8
          replace hE := hE.below hb
          replace hB := hB.trans (hb.mono hB.size)
          have hT : Env y2 [(bt, talA st built, 39)] := ⟨hrow, trivial⟩
          clear hb hrow hbt8
          go_wp2_with fail
          replace hB := hB.drew
          replace hT := hT.below ((Below.refl _ _).drew)
          replace hE := hE.below ((Below.refl _ _).drew)
          refine wp_region_held_drew (S := fun w' => Env w' [(w.heap.size, st.a, 23), (w.heap.size + 1, w1.a, 23), (w.heap.size + 1 + 1, o1.a, 23), (w.heap.size + 1 + 1 + 1, w2.a, 23), (w.heap.size + 1 + 1 + 1 + 1, o2.a, 23), (w.heap.size + 1 + 1 + 1 + 1 + 1, lim.a, 23), (b19, limA unit lim lb, 27), (b20, ((st.add w1).sub o1).a, 23), (b24, (((sel (wi ((st.add w1).sub o1) lim) ((st.add w1).sub o1) st).add w2).sub o2).a, 23), (b22, (sel (wi ((st.add w1).sub o1) lim) ((st.add w1).sub o1) st).a, 23), (b26, (sel (wi (((sel (wi ((st.add w1).sub o1) lim) ((st.add w1).sub o1) st).add w2).sub o2) lim) (((sel (wi ((st.add w1).sub o1) lim) ((st.add w1).sub o1) st).add w2).sub o2) (sel (wi ((st.add w1).sub o1) lim) ((st.add w1).sub o1) st)).a, 23)]) (by kernel_rfl) hE (fun hHeld => ?_)
          refine wpAnyH_take (i := 0) (oi := ⟨some 94, .move (.tmp 28), _, _, _, Option.none⟩) (v := .pointer (some ⟨bt, 0, none⟩)) rfl (by kernel_rfl) (by kernel_rfl) (by kernel_rfl) (fun _ _ _ h => h) (Or.inl ⟨by rfl, fun w' hS => ?_⟩) hHeld ?_
          · go_simp
          simp only [Act.put, List.setIfInBounds_toArray, List.set_cons_zero, List.set_cons_succ]
          refine wpAnyH_take (i := 1) (oi := ⟨some 95, .load 23 (.tmp 11), _, _, _, Option.none⟩) (v := .agg w1.a) rfl (by kernel_rfl) (by kernel_rfl) (by kernel_rfl) (fun _ _ _ h => h) ?_ hHeld ?_
          · exact yieldsIf_row (by rfl) 23 (.tmp 11) (by rfl) (w.heap.size + 1) (by rfl) _ w1.a (0, 0) _ (fun w' hS => hS.2.1) Tryf.underlying23 (by rfl) Tryf.size23
          simp only [Act.put, List.setIfInBounds_toArray, List.set_cons_zero, List.set_cons_succ]
          refine wpAnyH_take (i := 3) (oi := ⟨some 97, .load 23 (.tmp 12), _, _, _, Option.none⟩) (v := .agg o1.a) rfl (by kernel_rfl) (by kernel_rfl) (by kernel_rfl) (fun _ _ _ h => h) ?_ hHeld ?_
          · exact yieldsIf_row (by rfl) 23 (.tmp 12) (by rfl) (w.heap.size + 1 + 1) (by rfl) _ o1.a (0, 0) _ (fun w' hS => hS.2.2.1) Tryf.underlying23 (by rfl) Tryf.size23
          simp only [Act.put, List.setIfInBounds_toArray, List.set_cons_zero, List.set_cons_succ]
          refine wpAnyH_take (i := 5) (oi := ⟨some 99, .load 27 (.tmp 19), _, _, _, Option.none⟩) (v := .agg (limA unit lim lb)) rfl (by kernel_rfl) (by kernel_rfl) (by kernel_rfl) (fun _ _ _ h => h) ?_ hHeld ?_
          · exact yieldsIf_row (by rfl) 27 (.tmp 19) (by rfl) (b19) (by rfl) _ (limA unit lim lb) (0, 0) _ (fun w' hS => hS.2.2.2.2.2.2.1) Tryf.underlying27 (by rfl) Tryf.size27
          simp only [Act.put, List.setIfInBounds_toArray, List.set_cons_zero, List.set_cons_succ]
          refine wpAnyH_ready (rs := [2]) (by kernel_rfl) (by simp) (AllReadyH.cons (o := ⟨some 96, .call { callee := .value (.func 7), args := #[.tmp 95], argTypes := #[23] }, _, _, _, Option.none⟩) rfl (fun K hK => ?_) AllReadyH.nil)
          rw [if_pos (by rfl)]
          go_wp2_with fail
          refine (toWeight w1 _).mono ?_
          rintro e p1 ⟨rfl, hb⟩
          replace hB := hB.trans (hb.mono hB.size)
          replace hT := hT.below hb
          refine hK.out _ _ (hHeld.below hb) (fun hHeld => ?_)
          clear hK K hb
          refine wpAnyH_ready (rs := [4]) (by kernel_rfl) (by simp) (AllReadyH.cons (o := ⟨some 98, .call { callee := .value (.func 7), args := #[.tmp 97], argTypes := #[23] }, _, _, _, Option.none⟩) rfl (fun K hK => ?_) AllReadyH.nil)
          rw [if_pos (by rfl)]
          go_wp2_with fail
          refine (toWeight o1 _).mono ?_
          rintro e p2 ⟨rfl, hb⟩
          replace hB := hB.trans (hb.mono hB.size)
          replace hT := hT.below hb
          refine hK.out _ _ (hHeld.below hb) (fun hHeld => ?_)
          clear hK K hb
          refine wpAnyH_ready (rs := [6]) (by kernel_rfl) (by simp) (AllReadyH.cons (o := ⟨some 100, .call { callee := .value (.func 12), args := #[.tmp 94, .tmp 96, .tmp 98, .tmp 99], argTypes := #[32, 25, 25, 27] }, _, _, _, Option.none⟩) rfl (fun K hK => ?_) AllReadyH.nil)
          rw [if_pos (by rfl)]
          go_wp2_with fail
          refine (hold_any F bt st w1 o1 lim built lb unit _ (by rw [hB.tape]; exact hF) hT.1 hfull).mono ?_
          rintro e p3 ⟨rfl, hO, hT'⟩
          replace hB := below_other hB hO hbt hB.size
          replace hT : Env p3 [(bt, _, 39)] := ⟨hT', trivial⟩
          refine hK.out _ _ (hHeld.other hO hbL) (fun hHeld => ?_)
          clear hK K hO hT'
          refine wpAnyH_take (i := 7) (oi := ⟨some 29, .assign (.tmp 100), _, _, _, Option.none⟩) (v := .string (passed F unit lim ((st.add w1).sub o1))) rfl (by kernel_rfl) (by kernel_rfl) (by kernel_rfl) (fun _ _ _ h => h) (Or.inl ⟨by rfl, fun w' hS => ?_⟩) hHeld ?_
          · go_simp
          simp only [Act.put, List.setIfInBounds_toArray, List.set_cons_zero, List.set_cons_succ]
          refine wpAnyH_done (by kernel_rfl) ?_ _
          clear hE
          have hE := hHeld
          clear hHeld
          go_wp2_with (first
            | ((with_reducible refine at_op (.load 23 (.tmp 9)) ?_ ?_); (rfl); go_must (refine wpList_load_row_w (by rfl) 23 (.tmp 9) rfl (w.heap.size) rfl 23 st.a (0, 0) _ (hE.1) Tryf.underlying23 rfl Tryf.size23 ?_))
            | ((with_reducible refine at_op (.load 23 (.tmp 11)) ?_ ?_); (rfl); go_must (refine wpList_load_row_w (by rfl) 23 (.tmp 11) rfl (w.heap.size + 1) rfl 23 w1.a (0, 0) _ (hE.2.1) Tryf.underlying23 rfl Tryf.size23 ?_))
            | ((with_reducible refine at_op (.load 23 (.tmp 12)) ?_ ?_); (rfl); go_must (refine wpList_load_row_w (by rfl) 23 (.tmp 12) rfl (w.heap.size + 1 + 1) rfl 23 o1.a (0, 0) _ (hE.2.2.1) Tryf.underlying23 rfl Tryf.size23 ?_))
            | ((with_reducible refine at_op (.load 23 (.tmp 13)) ?_ ?_); (rfl); go_must (refine wpList_load_row_w (by rfl) 23 (.tmp 13) rfl (w.heap.size + 1 + 1 + 1) rfl 23 w2.a (0, 0) _ (hE.2.2.2.1) Tryf.underlying23 rfl Tryf.size23 ?_))
            | ((with_reducible refine at_op (.load 23 (.tmp 14)) ?_ ?_); (rfl); go_must (refine wpList_load_row_w (by rfl) 23 (.tmp 14) rfl (w.heap.size + 1 + 1 + 1 + 1) rfl 23 o2.a (0, 0) _ (hE.2.2.2.2.1) Tryf.underlying23 rfl Tryf.size23 ?_))
            | ((with_reducible refine at_op (.load 23 (.tmp 16)) ?_ ?_); (rfl); go_must (refine wpList_load_row_w (by rfl) 23 (.tmp 16) rfl (w.heap.size + 1 + 1 + 1 + 1 + 1) rfl 23 lim.a (0, 0) _ (hE.2.2.2.2.2.1) Tryf.underlying23 rfl Tryf.size23 ?_))
            | ((with_reducible refine at_op (.load 27 (.tmp 19)) ?_ ?_); (rfl); go_must (refine wpList_load_row_w (by rfl) 27 (.tmp 19) rfl (b19) rfl 27 (limA unit lim lb) (0, 0) _ (hE.2.2.2.2.2.2.1) Tryf.underlying27 rfl Tryf.size27 ?_))
            | ((with_reducible refine at_op (.load 23 (.tmp 20)) ?_ ?_); (rfl); go_must (refine wpList_load_row_w (by rfl) 23 (.tmp 20) rfl (b20) rfl 23 ((st.add w1).sub o1).a (0, 0) _ (hE.2.2.2.2.2.2.2.1) Tryf.underlying23 rfl Tryf.size23 ?_))
            | ((with_reducible refine at_op (.load 23 (.tmp 24)) ?_ ?_); (rfl); go_must (refine wpList_load_row_w (by rfl) 23 (.tmp 24) rfl (b24) rfl 23 (((sel (wi ((st.add w1).sub o1) lim) ((st.add w1).sub o1) st).add w2).sub o2).a (0, 0) _ (hE.2.2.2.2.2.2.2.2.1) Tryf.underlying23 rfl Tryf.size23 ?_))
            | ((with_reducible refine at_op (.load 23 (.tmp 22)) ?_ ?_); (rfl); go_must (refine wpList_load_row_w (by rfl) 23 (.tmp 22) rfl (b22) rfl 23 (sel (wi ((st.add w1).sub o1) lim) ((st.add w1).sub o1) st).a (0, 0) _ (hE.2.2.2.2.2.2.2.2.2.1) Tryf.underlying23 rfl Tryf.size23 ?_))
            | ((with_reducible refine at_op (.load 23 (.tmp 26)) ?_ ?_); (rfl); go_must (refine wpList_load_row_w (by rfl) 23 (.tmp 26) rfl (b26) rfl 23 (sel (wi (((sel (wi ((st.add w1).sub o1) lim) ((st.add w1).sub o1) st).add w2).sub o2) lim) (((sel (wi ((st.add w1).sub o1) lim) ((st.add w1).sub o1) st).add w2).sub o2) (sel (wi ((st.add w1).sub o1) lim) ((st.add w1).sub o1) st)).a (0, 0) _ (hE.2.2.2.2.2.2.2.2.2.2.1) Tryf.underlying23 rfl Tryf.size23 ?_)))
          refine (answer_any F unit lim ((st.add w1).sub o1) lb _ (by rw [hB.tape]; exact hF)).mono ?_
          rintro e y4 ⟨rfl, hb⟩
          replace hE := hE.below hb
          replace hB := hB.trans (hb.mono hB.size)
          replace hT := hT.below hb
          clear hb
          go_wp2_with (first
            | ((with_reducible refine at_op (.load 23 (.tmp 9)) ?_ ?_); (rfl); go_must (refine wpList_load_row_w (by rfl) 23 (.tmp 9) rfl (w.heap.size) rfl 23 st.a (0, 0) _ (hE.1) Tryf.underlying23 rfl Tryf.size23 ?_))
            | ((with_reducible refine at_op (.load 23 (.tmp 11)) ?_ ?_); (rfl); go_must (refine wpList_load_row_w (by rfl) 23 (.tmp 11) rfl (w.heap.size + 1) rfl 23 w1.a (0, 0) _ (hE.2.1) Tryf.underlying23 rfl Tryf.size23 ?_))
            | ((with_reducible refine at_op (.load 23 (.tmp 12)) ?_ ?_); (rfl); go_must (refine wpList_load_row_w (by rfl) 23 (.tmp 12) rfl (w.heap.size + 1 + 1) rfl 23 o1.a (0, 0) _ (hE.2.2.1) Tryf.underlying23 rfl Tryf.size23 ?_))
            | ((with_reducible refine at_op (.load 23 (.tmp 13)) ?_ ?_); (rfl); go_must (refine wpList_load_row_w (by rfl) 23 (.tmp 13) rfl (w.heap.size + 1 + 1 + 1) rfl 23 w2.a (0, 0) _ (hE.2.2.2.1) Tryf.underlying23 rfl Tryf.size23 ?_))
            | ((with_reducible refine at_op (.load 23 (.tmp 14)) ?_ ?_); (rfl); go_must (refine wpList_load_row_w (by rfl) 23 (.tmp 14) rfl (w.heap.size + 1 + 1 + 1 + 1) rfl 23 o2.a (0, 0) _ (hE.2.2.2.2.1) Tryf.underlying23 rfl Tryf.size23 ?_))
            | ((with_reducible refine at_op (.load 23 (.tmp 16)) ?_ ?_); (rfl); go_must (refine wpList_load_row_w (by rfl) 23 (.tmp 16) rfl (w.heap.size + 1 + 1 + 1 + 1 + 1) rfl 23 lim.a (0, 0) _ (hE.2.2.2.2.2.1) Tryf.underlying23 rfl Tryf.size23 ?_))
            | ((with_reducible refine at_op (.load 27 (.tmp 19)) ?_ ?_); (rfl); go_must (refine wpList_load_row_w (by rfl) 27 (.tmp 19) rfl (b19) rfl 27 (limA unit lim lb) (0, 0) _ (hE.2.2.2.2.2.2.1) Tryf.underlying27 rfl Tryf.size27 ?_))
            | ((with_reducible refine at_op (.load 23 (.tmp 20)) ?_ ?_); (rfl); go_must (refine wpList_load_row_w (by rfl) 23 (.tmp 20) rfl (b20) rfl 23 ((st.add w1).sub o1).a (0, 0) _ (hE.2.2.2.2.2.2.2.1) Tryf.underlying23 rfl Tryf.size23 ?_))
            | ((with_reducible refine at_op (.load 23 (.tmp 24)) ?_ ?_); (rfl); go_must (refine wpList_load_row_w (by rfl) 23 (.tmp 24) rfl (b24) rfl 23 (((sel (wi ((st.add w1).sub o1) lim) ((st.add w1).sub o1) st).add w2).sub o2).a (0, 0) _ (hE.2.2.2.2.2.2.2.2.1) Tryf.underlying23 rfl Tryf.size23 ?_))
            | ((with_reducible refine at_op (.load 23 (.tmp 22)) ?_ ?_); (rfl); go_must (refine wpList_load_row_w (by rfl) 23 (.tmp 22) rfl (b22) rfl 23 (sel (wi ((st.add w1).sub o1) lim) ((st.add w1).sub o1) st).a (0, 0) _ (hE.2.2.2.2.2.2.2.2.2.1) Tryf.underlying23 rfl Tryf.size23 ?_))
            | ((with_reducible refine at_op (.load 23 (.tmp 26)) ?_ ?_); (rfl); go_must (refine wpList_load_row_w (by rfl) 23 (.tmp 26) rfl (b26) rfl 23 (sel (wi (((sel (wi ((st.add w1).sub o1) lim) ((st.add w1).sub o1) st).add w2).sub o2) lim) (((sel (wi ((st.add w1).sub o1) lim) ((st.add w1).sub o1) st).add w2).sub o2) (sel (wi ((st.add w1).sub o1) lim) ((st.add w1).sub o1) st)).a (0, 0) _ (hE.2.2.2.2.2.2.2.2.2.2.1) Tryf.underlying23 rfl Tryf.size23 ?_)))
          refine (tallyIs bt _ _ _ hT.1).mono ?_
          rintro e y5 ⟨rfl, hb⟩
          replace hE := hE.below hb
          replace hB := hB.trans (hb.mono hB.size)
          replace hT := hT.below hb
          clear hb
          go_wp2_with fail
          replace hB := hB.drew
          replace hT := hT.below ((Below.refl _ _).drew)
          replace hE := hE.below ((Below.refl _ _).drew)
          refine wp_region_held_drew (S := fun w' => Env w' [(w.heap.size, st.a, 23), (w.heap.size + 1, w1.a, 23), (w.heap.size + 1 + 1, o1.a, 23), (w.heap.size + 1 + 1 + 1, w2.a, 23), (w.heap.size + 1 + 1 + 1 + 1, o2.a, 23), (w.heap.size + 1 + 1 + 1 + 1 + 1, lim.a, 23), (b19, limA unit lim lb, 27), (b20, ((st.add w1).sub o1).a, 23), (b24, (((sel (wi ((st.add w1).sub o1) lim) ((st.add w1).sub o1) st).add w2).sub o2).a, 23), (b22, (sel (wi ((st.add w1).sub o1) lim) ((st.add w1).sub o1) st).a, 23), (b26, (sel (wi (((sel (wi ((st.add w1).sub o1) lim) ((st.add w1).sub o1) st).add w2).sub o2) lim) (((sel (wi ((st.add w1).sub o1) lim) ((st.add w1).sub o1) st).add w2).sub o2) (sel (wi ((st.add w1).sub o1) lim) ((st.add w1).sub o1) st)).a, 23)]) (by kernel_rfl) hE (fun hHeld => ?_)
          refine wpAnyH_take (i := 0) (oi := ⟨some 114, .move (.tmp 28), _, _, _, Option.none⟩) (v := .pointer (some ⟨bt, 0, none⟩)) rfl (by kernel_rfl) (by kernel_rfl) (by kernel_rfl) (fun _ _ _ h => h) (Or.inl ⟨by rfl, fun w' hS => ?_⟩) hHeld ?_
          · go_simp
          simp only [Act.put, List.setIfInBounds_toArray, List.set_cons_zero, List.set_cons_succ]
          refine wpAnyH_take (i := 1) (oi := ⟨some 115, .load 23 (.tmp 13), _, _, _, Option.none⟩) (v := .agg w2.a) rfl (by kernel_rfl) (by kernel_rfl) (by kernel_rfl) (fun _ _ _ h => h) ?_ hHeld ?_
          · exact yieldsIf_row (by rfl) 23 (.tmp 13) (by rfl) (w.heap.size + 1 + 1 + 1) (by rfl) _ w2.a (0, 0) _ (fun w' hS => hS.2.2.2.1) Tryf.underlying23 (by rfl) Tryf.size23
          simp only [Act.put, List.setIfInBounds_toArray, List.set_cons_zero, List.set_cons_succ]
          refine wpAnyH_take (i := 3) (oi := ⟨some 117, .load 23 (.tmp 14), _, _, _, Option.none⟩) (v := .agg o2.a) rfl (by kernel_rfl) (by kernel_rfl) (by kernel_rfl) (fun _ _ _ h => h) ?_ hHeld ?_
          · exact yieldsIf_row (by rfl) 23 (.tmp 14) (by rfl) (w.heap.size + 1 + 1 + 1 + 1) (by rfl) _ o2.a (0, 0) _ (fun w' hS => hS.2.2.2.2.1) Tryf.underlying23 (by rfl) Tryf.size23
          simp only [Act.put, List.setIfInBounds_toArray, List.set_cons_zero, List.set_cons_succ]
          refine wpAnyH_take (i := 5) (oi := ⟨some 119, .load 27 (.tmp 19), _, _, _, Option.none⟩) (v := .agg (limA unit lim lb)) rfl (by kernel_rfl) (by kernel_rfl) (by kernel_rfl) (fun _ _ _ h => h) ?_ hHeld ?_
          · exact yieldsIf_row (by rfl) 27 (.tmp 19) (by rfl) (b19) (by rfl) _ (limA unit lim lb) (0, 0) _ (fun w' hS => hS.2.2.2.2.2.2.1) Tryf.underlying27 (by rfl) Tryf.size27
          simp only [Act.put, List.setIfInBounds_toArray, List.set_cons_zero, List.set_cons_succ]
          refine wpAnyH_ready (rs := [2]) (by kernel_rfl) (by simp) (AllReadyH.cons (o := ⟨some 116, .call { callee := .value (.func 7), args := #[.tmp 115], argTypes := #[23] }, _, _, _, Option.none⟩) rfl (fun K hK => ?_) AllReadyH.nil)
          rw [if_pos (by rfl)]
          go_wp2_with fail
          refine (toWeight w2 _).mono ?_
          rintro e q1 ⟨rfl, hb⟩
          replace hB := hB.trans (hb.mono hB.size)
          replace hT := hT.below hb
          refine hK.out _ _ (hHeld.below hb) (fun hHeld => ?_)
          clear hK K hb
          refine wpAnyH_ready (rs := [4]) (by kernel_rfl) (by simp) (AllReadyH.cons (o := ⟨some 118, .call { callee := .value (.func 7), args := #[.tmp 117], argTypes := #[23] }, _, _, _, Option.none⟩) rfl (fun K hK => ?_) AllReadyH.nil)
          rw [if_pos (by rfl)]
          go_wp2_with fail
          refine (toWeight o2 _).mono ?_
          rintro e q2 ⟨rfl, hb⟩
          replace hB := hB.trans (hb.mono hB.size)
          replace hT := hT.below hb
          refine hK.out _ _ (hHeld.below hb) (fun hHeld => ?_)
          clear hK K hb
          refine wpAnyH_ready (rs := [6]) (by kernel_rfl) (by simp) (AllReadyH.cons (o := ⟨some 120, .call { callee := .value (.func 12), args := #[.tmp 114, .tmp 116, .tmp 118, .tmp 119], argTypes := #[32, 25, 25, 27] }, _, _, _, Option.none⟩) rfl (fun K hK => ?_) AllReadyH.nil)
          rw [if_pos (by rfl)]
          go_wp2_with fail
          refine (hold_any F bt (sel (wi ((st.add w1).sub o1) lim) ((st.add w1).sub o1) st) w2 o2 lim (selI (wi ((st.add w1).sub o1) lim) (wrap64 (wrap64 (built + o1.u) + w1.u)) (wrap64 (built + o1.u))) lb unit _ (by rw [hB.tape]; exact hF) hT.1 hfull).mono ?_
          rintro e q3 ⟨rfl, hO, hT'⟩
          replace hB := below_other hB hO hbt hB.size
          replace hT : Env q3 [(bt, _, 39)] := ⟨hT', trivial⟩
          refine hK.out _ _ (hHeld.other hO hbL) (fun hHeld => ?_)
          clear hK K hO hT'
          refine wpAnyH_take (i := 7) (oi := ⟨some 30, .assign (.tmp 120), _, _, _, Option.none⟩) (v := .string (passed F unit lim (((sel (wi ((st.add w1).sub o1) lim) ((st.add w1).sub o1) st).add w2).sub o2))) rfl (by kernel_rfl) (by kernel_rfl) (by kernel_rfl) (fun _ _ _ h => h) (Or.inl ⟨by rfl, fun w' hS => ?_⟩) hHeld ?_
          · go_simp
          simp only [Act.put, List.setIfInBounds_toArray, List.set_cons_zero, List.set_cons_succ]
          refine wpAnyH_done (by kernel_rfl) ?_ _
          clear hE
          have hE := hHeld
          clear hHeld
          go_wp2_with (first
            | ((with_reducible refine at_op (.load 23 (.tmp 9)) ?_ ?_); (rfl); go_must (refine wpList_load_row_w (by rfl) 23 (.tmp 9) rfl (w.heap.size) rfl 23 st.a (0, 0) _ (hE.1) Tryf.underlying23 rfl Tryf.size23 ?_))
            | ((with_reducible refine at_op (.load 23 (.tmp 11)) ?_ ?_); (rfl); go_must (refine wpList_load_row_w (by rfl) 23 (.tmp 11) rfl (w.heap.size + 1) rfl 23 w1.a (0, 0) _ (hE.2.1) Tryf.underlying23 rfl Tryf.size23 ?_))
            | ((with_reducible refine at_op (.load 23 (.tmp 12)) ?_ ?_); (rfl); go_must (refine wpList_load_row_w (by rfl) 23 (.tmp 12) rfl (w.heap.size + 1 + 1) rfl 23 o1.a (0, 0) _ (hE.2.2.1) Tryf.underlying23 rfl Tryf.size23 ?_))
            | ((with_reducible refine at_op (.load 23 (.tmp 13)) ?_ ?_); (rfl); go_must (refine wpList_load_row_w (by rfl) 23 (.tmp 13) rfl (w.heap.size + 1 + 1 + 1) rfl 23 w2.a (0, 0) _ (hE.2.2.2.1) Tryf.underlying23 rfl Tryf.size23 ?_))
            | ((with_reducible refine at_op (.load 23 (.tmp 14)) ?_ ?_); (rfl); go_must (refine wpList_load_row_w (by rfl) 23 (.tmp 14) rfl (w.heap.size + 1 + 1 + 1 + 1) rfl 23 o2.a (0, 0) _ (hE.2.2.2.2.1) Tryf.underlying23 rfl Tryf.size23 ?_))
            | ((with_reducible refine at_op (.load 23 (.tmp 16)) ?_ ?_); (rfl); go_must (refine wpList_load_row_w (by rfl) 23 (.tmp 16) rfl (w.heap.size + 1 + 1 + 1 + 1 + 1) rfl 23 lim.a (0, 0) _ (hE.2.2.2.2.2.1) Tryf.underlying23 rfl Tryf.size23 ?_))
            | ((with_reducible refine at_op (.load 27 (.tmp 19)) ?_ ?_); (rfl); go_must (refine wpList_load_row_w (by rfl) 27 (.tmp 19) rfl (b19) rfl 27 (limA unit lim lb) (0, 0) _ (hE.2.2.2.2.2.2.1) Tryf.underlying27 rfl Tryf.size27 ?_))
            | ((with_reducible refine at_op (.load 23 (.tmp 20)) ?_ ?_); (rfl); go_must (refine wpList_load_row_w (by rfl) 23 (.tmp 20) rfl (b20) rfl 23 ((st.add w1).sub o1).a (0, 0) _ (hE.2.2.2.2.2.2.2.1) Tryf.underlying23 rfl Tryf.size23 ?_))
            | ((with_reducible refine at_op (.load 23 (.tmp 24)) ?_ ?_); (rfl); go_must (refine wpList_load_row_w (by rfl) 23 (.tmp 24) rfl (b24) rfl 23 (((sel (wi ((st.add w1).sub o1) lim) ((st.add w1).sub o1) st).add w2).sub o2).a (0, 0) _ (hE.2.2.2.2.2.2.2.2.1) Tryf.underlying23 rfl Tryf.size23 ?_))
            | ((with_reducible refine at_op (.load 23 (.tmp 22)) ?_ ?_); (rfl); go_must (refine wpList_load_row_w (by rfl) 23 (.tmp 22) rfl (b22) rfl 23 (sel (wi ((st.add w1).sub o1) lim) ((st.add w1).sub o1) st).a (0, 0) _ (hE.2.2.2.2.2.2.2.2.2.1) Tryf.underlying23 rfl Tryf.size23 ?_))
            | ((with_reducible refine at_op (.load 23 (.tmp 26)) ?_ ?_); (rfl); go_must (refine wpList_load_row_w (by rfl) 23 (.tmp 26) rfl (b26) rfl 23 (sel (wi (((sel (wi ((st.add w1).sub o1) lim) ((st.add w1).sub o1) st).add w2).sub o2) lim) (((sel (wi ((st.add w1).sub o1) lim) ((st.add w1).sub o1) st).add w2).sub o2) (sel (wi ((st.add w1).sub o1) lim) ((st.add w1).sub o1) st)).a (0, 0) _ (hE.2.2.2.2.2.2.2.2.2.2.1) Tryf.underlying23 rfl Tryf.size23 ?_)))
          refine (answer_any F unit lim (((sel (wi ((st.add w1).sub o1) lim) ((st.add w1).sub o1) st).add w2).sub o2) lb _ (by rw [hB.tape]; exact hF)).mono ?_
          rintro e y7 ⟨rfl, hb⟩
          replace hE := hE.below hb
          replace hB := hB.trans (hb.mono hB.size)
          replace hT := hT.below hb
          clear hb
          go_wp2_with (first
            | ((with_reducible refine at_op (.load 23 (.tmp 9)) ?_ ?_); (rfl); go_must (refine wpList_load_row_w (by rfl) 23 (.tmp 9) rfl (w.heap.size) rfl 23 st.a (0, 0) _ (hE.1) Tryf.underlying23 rfl Tryf.size23 ?_))
            | ((with_reducible refine at_op (.load 23 (.tmp 11)) ?_ ?_); (rfl); go_must (refine wpList_load_row_w (by rfl) 23 (.tmp 11) rfl (w.heap.size + 1) rfl 23 w1.a (0, 0) _ (hE.2.1) Tryf.underlying23 rfl Tryf.size23 ?_))
            | ((with_reducible refine at_op (.load 23 (.tmp 12)) ?_ ?_); (rfl); go_must (refine wpList_load_row_w (by rfl) 23 (.tmp 12) rfl (w.heap.size + 1 + 1) rfl 23 o1.a (0, 0) _ (hE.2.2.1) Tryf.underlying23 rfl Tryf.size23 ?_))
            | ((with_reducible refine at_op (.load 23 (.tmp 13)) ?_ ?_); (rfl); go_must (refine wpList_load_row_w (by rfl) 23 (.tmp 13) rfl (w.heap.size + 1 + 1 + 1) rfl 23 w2.a (0, 0) _ (hE.2.2.2.1) Tryf.underlying23 rfl Tryf.size23 ?_))
            | ((with_reducible refine at_op (.load 23 (.tmp 14)) ?_ ?_); (rfl); go_must (refine wpList_load_row_w (by rfl) 23 (.tmp 14) rfl (w.heap.size + 1 + 1 + 1 + 1) rfl 23 o2.a (0, 0) _ (hE.2.2.2.2.1) Tryf.underlying23 rfl Tryf.size23 ?_))
            | ((with_reducible refine at_op (.load 23 (.tmp 16)) ?_ ?_); (rfl); go_must (refine wpList_load_row_w (by rfl) 23 (.tmp 16) rfl (w.heap.size + 1 + 1 + 1 + 1 + 1) rfl 23 lim.a (0, 0) _ (hE.2.2.2.2.2.1) Tryf.underlying23 rfl Tryf.size23 ?_))
            | ((with_reducible refine at_op (.load 27 (.tmp 19)) ?_ ?_); (rfl); go_must (refine wpList_load_row_w (by rfl) 27 (.tmp 19) rfl (b19) rfl 27 (limA unit lim lb) (0, 0) _ (hE.2.2.2.2.2.2.1) Tryf.underlying27 rfl Tryf.size27 ?_))
            | ((with_reducible refine at_op (.load 23 (.tmp 20)) ?_ ?_); (rfl); go_must (refine wpList_load_row_w (by rfl) 23 (.tmp 20) rfl (b20) rfl 23 ((st.add w1).sub o1).a (0, 0) _ (hE.2.2.2.2.2.2.2.1) Tryf.underlying23 rfl Tryf.size23 ?_))
            | ((with_reducible refine at_op (.load 23 (.tmp 24)) ?_ ?_); (rfl); go_must (refine wpList_load_row_w (by rfl) 23 (.tmp 24) rfl (b24) rfl 23 (((sel (wi ((st.add w1).sub o1) lim) ((st.add w1).sub o1) st).add w2).sub o2).a (0, 0) _ (hE.2.2.2.2.2.2.2.2.1) Tryf.underlying23 rfl Tryf.size23 ?_))
            | ((with_reducible refine at_op (.load 23 (.tmp 22)) ?_ ?_); (rfl); go_must (refine wpList_load_row_w (by rfl) 23 (.tmp 22) rfl (b22) rfl 23 (sel (wi ((st.add w1).sub o1) lim) ((st.add w1).sub o1) st).a (0, 0) _ (hE.2.2.2.2.2.2.2.2.2.1) Tryf.underlying23 rfl Tryf.size23 ?_))
            | ((with_reducible refine at_op (.load 23 (.tmp 26)) ?_ ?_); (rfl); go_must (refine wpList_load_row_w (by rfl) 23 (.tmp 26) rfl (b26) rfl 23 (sel (wi (((sel (wi ((st.add w1).sub o1) lim) ((st.add w1).sub o1) st).add w2).sub o2) lim) (((sel (wi ((st.add w1).sub o1) lim) ((st.add w1).sub o1) st).add w2).sub o2) (sel (wi ((st.add w1).sub o1) lim) ((st.add w1).sub o1) st)).a (0, 0) _ (hE.2.2.2.2.2.2.2.2.2.2.1) Tryf.underlying23 rfl Tryf.size23 ?_)))
          refine (tallyIs bt _ _ _ hT.1).mono ?_
          rintro e y8 ⟨rfl, hb⟩
          replace hE := hE.below hb
          replace hB := hB.trans (hb.mono hB.size)
          clear hb hT hbL hbt
          have h8 := hE
          clear hE
          obtain ⟨X2, eX⟩ : ∃ x, x = (sel (wi (((sel (wi ((st.add w1).sub o1) lim) ((st.add w1).sub o1) st).add w2).sub o2) lim) (((sel (wi ((st.add w1).sub o1) lim) ((st.add w1).sub o1) st).add w2).sub o2) (sel (wi ((st.add w1).sub o1) lim) ((st.add w1).sub o1) st)) := ⟨_, rfl⟩
          obtain ⟨Y2, eY⟩ : ∃ x, x = (selI (wi (((sel (wi ((st.add w1).sub o1) lim) ((st.add w1).sub o1) st).add w2).sub o2) lim) (wrap64 (wrap64 ((selI (wi ((st.add w1).sub o1) lim) (wrap64 (wrap64 (built + o1.u) + w1.u)) (wrap64 (built + o1.u))) + o2.u) + w2.u)) (wrap64 ((selI (wi ((st.add w1).sub o1) lim) (wrap64 (wrap64 (built + o1.u) + w1.u)) (wrap64 (built + o1.u))) + o2.u))) := ⟨_, rfl⟩
          have hE : Env y8 [(w.heap.size, st.a, 23), (w.heap.size + 1, w1.a, 23), (w.heap.size + 1 + 1, o1.a, 23), (w.heap.size + 1 + 1 + 1, w2.a, 23), (w.heap.size + 1 + 1 + 1 + 1, o2.a, 23), (w.heap.size + 1 + 1 + 1 + 1 + 1, lim.a, 23), (b19, limA unit lim lb, 27), (b26, X2.a, 23)] := ⟨h8.1, h8.2.1, h8.2.2.1, h8.2.2.2.1, h8.2.2.2.2.1, h8.2.2.2.2.2.1, h8.2.2.2.2.2.2.1, by rw [eX]; exact h8.2.2.2.2.2.2.2.2.2.2.1, trivial⟩
          rw [← eX, ← eY]
          have EX : Hid (X2 = (sel (wi (((sel (wi ((st.add w1).sub o1) lim) ((st.add w1).sub o1) st).add w2).sub o2) lim) (((sel (wi ((st.add w1).sub o1) lim) ((st.add w1).sub o1) st).add w2).sub o2) (sel (wi ((st.add w1).sub o1) lim) ((st.add w1).sub o1) st))) := eX
          have EY : Hid (Y2 = (selI (wi (((sel (wi ((st.add w1).sub o1) lim) ((st.add w1).sub o1) st).add w2).sub o2) lim) (wrap64 (wrap64 ((selI (wi ((st.add w1).sub o1) lim) (wrap64 (wrap64 (built + o1.u) + w1.u)) (wrap64 (built + o1.u))) + o2.u) + w2.u)) (wrap64 ((selI (wi ((st.add w1).sub o1) lim) (wrap64 (wrap64 (built + o1.u) + w1.u)) (wrap64 (built + o1.u))) + o2.u)))) := eY
          clear eX eY h8
          cases hk1 : (wi ((st.add w1).sub o1) lim)
          case false =>
            clear hE
            go_wp2
            go_ret
            exact ⟨rfl, hB⟩
          cases hk2 : (wi (((sel (wi ((st.add w1).sub o1) lim) ((st.add w1).sub o1) st).add w2).sub o2) lim)
          case false =>
            clear hE
            rw [hk1] at hk2
            go_wp2
            go_ret
            exact ⟨rfl, hB⟩
          obtain ⟨f1, f2, f3⟩ := script_fin st w1 o1 w2 o2 lim built hk1 hk2
          rw [hk1] at hk2
          have HX : Hid (((st.add (w1.add w2)).sub (o1.add o2)) = X2) := (EX.out.trans f1).symm
          have HY : Hid ((wrap64 (wrap64 (built + (o1.add o2).u) + (w1.add w2).u)) = Y2) := (EY.out.trans f2).symm
          have HWI : Hid (wi ((st.add (w1.add w2)).sub (o1.add o2)) lim = true) := f3
          clear f1 f2 f3 EX EY
          go_wp2_with (first
            | ((with_reducible refine at_op (.load 23 (.tmp 9)) ?_ ?_); (rfl); go_must (refine wpList_load_row_w (by rfl) 23 (.tmp 9) rfl (w.heap.size) rfl 23 st.a (0, 0) _ (hE.1) Tryf.underlying23 rfl Tryf.size23 ?_))
            | ((with_reducible refine at_op (.load 23 (.tmp 11)) ?_ ?_); (rfl); go_must (refine wpList_load_row_w (by rfl) 23 (.tmp 11) rfl (w.heap.size + 1) rfl 23 w1.a (0, 0) _ (hE.2.1) Tryf.underlying23 rfl Tryf.size23 ?_))
            | ((with_reducible refine at_op (.load 23 (.tmp 12)) ?_ ?_); (rfl); go_must (refine wpList_load_row_w (by rfl) 23 (.tmp 12) rfl (w.heap.size + 1 + 1) rfl 23 o1.a (0, 0) _ (hE.2.2.1) Tryf.underlying23 rfl Tryf.size23 ?_))
            | ((with_reducible refine at_op (.load 23 (.tmp 13)) ?_ ?_); (rfl); go_must (refine wpList_load_row_w (by rfl) 23 (.tmp 13) rfl (w.heap.size + 1 + 1 + 1) rfl 23 w2.a (0, 0) _ (hE.2.2.2.1) Tryf.underlying23 rfl Tryf.size23 ?_))
            | ((with_reducible refine at_op (.load 23 (.tmp 14)) ?_ ?_); (rfl); go_must (refine wpList_load_row_w (by rfl) 23 (.tmp 14) rfl (w.heap.size + 1 + 1 + 1 + 1) rfl 23 o2.a (0, 0) _ (hE.2.2.2.2.1) Tryf.underlying23 rfl Tryf.size23 ?_))
            | ((with_reducible refine at_op (.load 23 (.tmp 16)) ?_ ?_); (rfl); go_must (refine wpList_load_row_w (by rfl) 23 (.tmp 16) rfl (w.heap.size + 1 + 1 + 1 + 1 + 1) rfl 23 lim.a (0, 0) _ (hE.2.2.2.2.2.1) Tryf.underlying23 rfl Tryf.size23 ?_))
            | ((with_reducible refine at_op (.load 27 (.tmp 19)) ?_ ?_); (rfl); go_must (refine wpList_load_row_w (by rfl) 27 (.tmp 19) rfl (b19) rfl 27 (limA unit lim lb) (0, 0) _ (hE.2.2.2.2.2.2.1) Tryf.underlying27 rfl Tryf.size27 ?_))
            | ((with_reducible refine at_op (.load 23 (.tmp 26)) ?_ ?_); (rfl); go_must (refine wpList_load_row_w (by rfl) 23 (.tmp 26) rfl (b26) rfl 23 X2.a (0, 0) _ (hE.2.2.2.2.2.2.2.1) Tryf.underlying23 rfl Tryf.size23 ?_)))
          refine (toWeight st _).mono ?_
          rintro e z1 ⟨rfl, hb⟩
          replace hE := hE.below hb
          replace hB := hB.trans (hb.mono hB.size)
          clear hb
          go_wp2_with fail
          refine (newTally st built _).mono ?_
          rintro e z2 ⟨bt, rfl, hb, hbt8, hrow⟩
          have hbL := Env.ne hbt8 hE
          have hbt : w.heap.size ≤ bt := Nat.le_trans hB.size hbt8
          replace hE := hE.below hb
          replace hB := hB.trans (hb.mono hB.size)
          have hT : Env z2 [(bt, talA st built, 39)] := ⟨hrow, trivial⟩
          clear hb hrow hbt8
          go_wp2_with fail
          replace hB := hB.drew
          replace hT := hT.below ((Below.refl _ _).drew)
          replace hE := hE.below ((Below.refl _ _).drew)
          refine wp_region_held_drew (S := fun w' => Env w' [(w.heap.size, st.a, 23), (w.heap.size + 1, w1.a, 23), (w.heap.size + 1 + 1, o1.a, 23), (w.heap.size + 1 + 1 + 1, w2.a, 23), (w.heap.size + 1 + 1 + 1 + 1, o2.a, 23), (w.heap.size + 1 + 1 + 1 + 1 + 1, lim.a, 23), (b19, limA unit lim lb, 27), (b26, X2.a, 23)]) (by kernel_rfl) hE (fun hHeld => ?_)
          refine wpAnyH_take (i := 0) (oi := ⟨some 142, .move (.tmp 31), _, _, _, Option.none⟩) (v := .pointer (some ⟨bt, 0, none⟩)) rfl (by kernel_rfl) (by kernel_rfl) (by kernel_rfl) (fun _ _ _ h => h) (Or.inl ⟨by rfl, fun w' hS => ?_⟩) hHeld ?_
          · go_simp
          simp only [Act.put, List.setIfInBounds_toArray, List.set_cons_zero, List.set_cons_succ]
          refine wpAnyH_take (i := 1) (oi := ⟨some 143, .load 23 (.tmp 11), _, _, _, Option.none⟩) (v := .agg w1.a) rfl (by kernel_rfl) (by kernel_rfl) (by kernel_rfl) (fun _ _ _ h => h) ?_ hHeld ?_
          · exact yieldsIf_row (by rfl) 23 (.tmp 11) (by rfl) (w.heap.size + 1) (by rfl) _ w1.a (0, 0) _ (fun w' hS => hS.2.1) Tryf.underlying23 (by rfl) Tryf.size23
          simp only [Act.put, List.setIfInBounds_toArray, List.set_cons_zero, List.set_cons_succ]
          refine wpAnyH_take (i := 2) (oi := ⟨some 144, .load 23 (.tmp 13), _, _, _, Option.none⟩) (v := .agg w2.a) rfl (by kernel_rfl) (by kernel_rfl) (by kernel_rfl) (fun _ _ _ h => h) ?_ hHeld ?_
          · exact yieldsIf_row (by rfl) 23 (.tmp 13) (by rfl) (w.heap.size + 1 + 1 + 1) (by rfl) _ w2.a (0, 0) _ (fun w' hS => hS.2.2.2.1) Tryf.underlying23 (by rfl) Tryf.size23
          simp only [Act.put, List.setIfInBounds_toArray, List.set_cons_zero, List.set_cons_succ]
          refine wpAnyH_take (i := 5) (oi := ⟨some 147, .load 23 (.tmp 12), _, _, _, Option.none⟩) (v := .agg o1.a) rfl (by kernel_rfl) (by kernel_rfl) (by kernel_rfl) (fun _ _ _ h => h) ?_ hHeld ?_
          · exact yieldsIf_row (by rfl) 23 (.tmp 12) (by rfl) (w.heap.size + 1 + 1) (by rfl) _ o1.a (0, 0) _ (fun w' hS => hS.2.2.1) Tryf.underlying23 (by rfl) Tryf.size23
          simp only [Act.put, List.setIfInBounds_toArray, List.set_cons_zero, List.set_cons_succ]
          refine wpAnyH_take (i := 6) (oi := ⟨some 148, .load 23 (.tmp 14), _, _, _, Option.none⟩) (v := .agg o2.a) rfl (by kernel_rfl) (by kernel_rfl) (by kernel_rfl) (fun _ _ _ h => h) ?_ hHeld ?_
          · exact yieldsIf_row (by rfl) 23 (.tmp 14) (by rfl) (w.heap.size + 1 + 1 + 1 + 1) (by rfl) _ o2.a (0, 0) _ (fun w' hS => hS.2.2.2.2.1) Tryf.underlying23 (by rfl) Tryf.size23
          simp only [Act.put, List.setIfInBounds_toArray, List.set_cons_zero, List.set_cons_succ]
          refine wpAnyH_take (i := 9) (oi := ⟨some 151, .load 27 (.tmp 19), _, _, _, Option.none⟩) (v := .agg (limA unit lim lb)) rfl (by kernel_rfl) (by kernel_rfl) (by kernel_rfl) (fun _ _ _ h => h) ?_ hHeld ?_
          · exact yieldsIf_row (by rfl) 27 (.tmp 19) (by rfl) (b19) (by rfl) _ (limA unit lim lb) (0, 0) _ (fun w' hS => hS.2.2.2.2.2.2.1) Tryf.underlying27 (by rfl) Tryf.size27
          simp only [Act.put, List.setIfInBounds_toArray, List.set_cons_zero, List.set_cons_succ]
          refine wpAnyH_ready (rs := [3]) (by kernel_rfl) (by simp) (AllReadyH.cons (o := ⟨some 145, .call { callee := .value (.func 9), args := #[.tmp 143, .tmp 144], argTypes := #[23, 23] }, _, _, _, Option.none⟩) rfl (fun K hK => ?_) AllReadyH.nil)
          rw [if_pos (by rfl)]
          go_wp2_with fail
          refine (addW w1 w2 _).mono ?_
          rintro e r1 ⟨rfl, hb⟩
          replace hB := hB.trans (hb.mono hB.size)
          replace hT := hT.below hb
          refine hK.out _ _ (hHeld.below hb) (fun hHeld => ?_)
          clear hK K hb
          refine wpAnyH_ready (rs := [4]) (by kernel_rfl) (by simp) (AllReadyH.cons (o := ⟨some 146, .call { callee := .value (.func 7), args := #[.tmp 145], argTypes := #[23] }, _, _, _, Option.none⟩) rfl (fun K hK => ?_) AllReadyH.nil)
          rw [if_pos (by rfl)]
          go_wp2_with fail
          refine (toWeight (w1.add w2) _).mono ?_
          rintro e r2 ⟨rfl, hb⟩
          replace hB := hB.trans (hb.mono hB.size)
          replace hT := hT.below hb
          refine hK.out _ _ (hHeld.below hb) (fun hHeld => ?_)
          clear hK K hb
          refine wpAnyH_ready (rs := [7]) (by kernel_rfl) (by simp) (AllReadyH.cons (o := ⟨some 149, .call { callee := .value (.func 9), args := #[.tmp 147, .tmp 148], argTypes := #[23, 23] }, _, _, _, Option.none⟩) rfl (fun K hK => ?_) AllReadyH.nil)
          rw [if_pos (by rfl)]
          go_wp2_with fail
          refine (addW o1 o2 _).mono ?_
          rintro e r3 ⟨rfl, hb⟩
          replace hB := hB.trans (hb.mono hB.size)
          replace hT := hT.below hb
          refine hK.out _ _ (hHeld.below hb) (fun hHeld => ?_)
          clear hK K hb
          refine wpAnyH_ready (rs := [8]) (by kernel_rfl) (by simp) (AllReadyH.cons (o := ⟨some 150, .call { callee := .value (.func 7), args := #[.tmp 149], argTypes := #[23] }, _, _, _, Option.none⟩) rfl (fun K hK => ?_) AllReadyH.nil)
          rw [if_pos (by rfl)]
          go_wp2_with fail
          refine (toWeight (o1.add o2) _).mono ?_
          rintro e r4 ⟨rfl, hb⟩
          replace hB := hB.trans (hb.mono hB.size)
          replace hT := hT.below hb
          refine hK.out _ _ (hHeld.below hb) (fun hHeld => ?_)
          clear hK K hb
          refine wpAnyH_ready (rs := [10]) (by kernel_rfl) (by simp) (AllReadyH.cons (o := ⟨some 152, .call { callee := .value (.func 12), args := #[.tmp 142, .tmp 146, .tmp 150, .tmp 151], argTypes := #[32, 25, 25, 27] }, _, _, _, Option.none⟩) rfl (fun K hK => ?_) AllReadyH.nil)
          rw [if_pos (by rfl)]
          go_wp2_with fail
          refine (hold_yes F bt st (w1.add w2) (o1.add o2) lim built lb unit _ (by rw [hB.tape]; exact hF) hT.1 (passed_yes HWI.out)).mono ?_
          rintro e r5 ⟨rfl, hO, hT'⟩
          replace hB := below_other hB hO hbt hB.size
          replace hT : Env r5 [(bt, _, 39)] := ⟨hT', trivial⟩
          refine hK.out _ _ (hHeld.other hO hbL) (fun hHeld => ?_)
          clear hK K hO hT'
          refine wpAnyH_take (i := 11) (oi := ⟨some 32, .assign (.tmp 152), _, _, _, Option.none⟩) (v := .string ByteArray.empty) rfl (by kernel_rfl) (by kernel_rfl) (by kernel_rfl) (fun _ _ _ h => h) (Or.inl ⟨by rfl, fun w' hS => ?_⟩) hHeld ?_
          · go_simp
          simp only [Act.put, List.setIfInBounds_toArray, List.set_cons_zero, List.set_cons_succ]
          rw [HX.out, HY.out] at hT
          refine wpAnyH_done (by kernel_rfl) ?_ _
          clear hE
          have hE := hHeld
          clear hHeld
          go_wp2_with (first
            | ((with_reducible refine at_op (.load 23 (.tmp 9)) ?_ ?_); (rfl); go_must (refine wpList_load_row_w (by rfl) 23 (.tmp 9) rfl (w.heap.size) rfl 23 st.a (0, 0) _ (hE.1) Tryf.underlying23 rfl Tryf.size23 ?_))
            | ((with_reducible refine at_op (.load 23 (.tmp 11)) ?_ ?_); (rfl); go_must (refine wpList_load_row_w (by rfl) 23 (.tmp 11) rfl (w.heap.size + 1) rfl 23 w1.a (0, 0) _ (hE.2.1) Tryf.underlying23 rfl Tryf.size23 ?_))
            | ((with_reducible refine at_op (.load 23 (.tmp 12)) ?_ ?_); (rfl); go_must (refine wpList_load_row_w (by rfl) 23 (.tmp 12) rfl (w.heap.size + 1 + 1) rfl 23 o1.a (0, 0) _ (hE.2.2.1) Tryf.underlying23 rfl Tryf.size23 ?_))
            | ((with_reducible refine at_op (.load 23 (.tmp 13)) ?_ ?_); (rfl); go_must (refine wpList_load_row_w (by rfl) 23 (.tmp 13) rfl (w.heap.size + 1 + 1 + 1) rfl 23 w2.a (0, 0) _ (hE.2.2.2.1) Tryf.underlying23 rfl Tryf.size23 ?_))
            | ((with_reducible refine at_op (.load 23 (.tmp 14)) ?_ ?_); (rfl); go_must (refine wpList_load_row_w (by rfl) 23 (.tmp 14) rfl (w.heap.size + 1 + 1 + 1 + 1) rfl 23 o2.a (0, 0) _ (hE.2.2.2.2.1) Tryf.underlying23 rfl Tryf.size23 ?_))
            | ((with_reducible refine at_op (.load 23 (.tmp 16)) ?_ ?_); (rfl); go_must (refine wpList_load_row_w (by rfl) 23 (.tmp 16) rfl (w.heap.size + 1 + 1 + 1 + 1 + 1) rfl 23 lim.a (0, 0) _ (hE.2.2.2.2.2.1) Tryf.underlying23 rfl Tryf.size23 ?_))
            | ((with_reducible refine at_op (.load 27 (.tmp 19)) ?_ ?_); (rfl); go_must (refine wpList_load_row_w (by rfl) 27 (.tmp 19) rfl (b19) rfl 27 (limA unit lim lb) (0, 0) _ (hE.2.2.2.2.2.2.1) Tryf.underlying27 rfl Tryf.size27 ?_))
            | ((with_reducible refine at_op (.load 23 (.tmp 26)) ?_ ?_); (rfl); go_must (refine wpList_load_row_w (by rfl) 23 (.tmp 26) rfl (b26) rfl 23 X2.a (0, 0) _ (hE.2.2.2.2.2.2.2.1) Tryf.underlying23 rfl Tryf.size23 ?_)))
          refine (tallyIs bt _ _ _ hT.1).mono ?_
          rintro e z5 ⟨rfl, hb⟩
          replace hB := hB.trans (hb.mono hB.size)
          clear hE hT hb
          go_wp2
          go_ret
          exact ⟨rfl, hB⟩
end Go.Proofs.Qxb6631249aFmt
