/-
  tallyIs, where the tally is as told: true; answerIs, where the answer is as told: true.
-/
import Derived.Test.Qxb6631249aFmtHold
namespace Go.Proofs.Qxb6631249aFmt
open Go.RowKit Go.Extern.Stop Go.Stop Go.Extern
set_option linter.unusedSimpArgs false

set_option maxHeartbeats 1000000 in
theorem tallyIs (bt : Nat) (held : Wt) (built : Int) (W : World) (hr : W.heap[bt]? = some (.cells (talA held built) 39)) :
    Calls Tryf.prog 14 #[.pointer (some ⟨bt, 0, none⟩), .agg held.a, .int .i64 built] W fun e W' => e = .returned (.bool true) ∧ Below W.heap.size W W' := by
  have hb : bt < W.heap.size := (Array.getElem?_eq_some_iff.1 hr).1
  have hB0 : Below W.heap.size W (W.alloc (.cells held.a 23)) := below1 _ _
  have r4 : (W.alloc (.cells held.a 23)).heap[W.heap.size]? = some (.cells held.a 23) := heap_alloc_new _ _
  have rt : (W.alloc (.cells held.a 23)).heap[bt]? = some (.cells (talA held built) 39) := (hB0.block bt hb).trans hr
  have hs0 : (W.alloc (.cells held.a 23)).heap.size = W.heap.size + 1 := by simp
  have R4 : Hid ((W.alloc (.cells held.a 23)).heap[W.heap.size]? = some (.cells held.a 23)) := r4
  have RT : Hid ((W.alloc (.cells held.a 23)).heap[bt]? = some (.cells (talA held built) 39)) := rt
  have l4 : W.heap.size < (W.alloc (.cells held.a 23)).heap.size := by omega
  have lt : bt < (W.alloc (.cells held.a 23)).heap.size := by omega
  clear r4 rt hs0 hr
  go_enter Tryf.func14, Tryf.ntmps14
  go_wp2_with fail
  generalize W.alloc (.cells held.a 23) = W1 at *
  refine wp_region_held_drew (S := fun w' => Below W1.heap.size W1 w') (by kernel_rfl) ((Below.refl _ _).drew) (fun hHeld => ?_)
  refine wpAnyH_take (i := 0) (oi := ⟨some 7, .move (.tmp 0), _, _, _, Option.none⟩) (v := .pointer (some ⟨bt, 0, none⟩)) rfl (by kernel_rfl) (by kernel_rfl) (by kernel_rfl) (fun _ _ _ h => h) (Or.inl ⟨by rfl, fun w' hS => ?_⟩) hHeld ?_
  · go_simp
  simp only [Act.put, List.setIfInBounds_toArray, List.set_cons_zero, List.set_cons_succ]
  refine wpAnyH_take (i := 2) (oi := ⟨some 9, .load 23 (.tmp 4), _, _, _, Option.none⟩) (v := .agg held.a) rfl (by kernel_rfl) (by kernel_rfl) (by kernel_rfl) (fun _ _ _ h => h) ?_ hHeld ?_
  · exact yieldsIf_row (by rfl) 23 (.tmp 4) (by rfl) (W.heap.size) (by rfl) _ held.a (0, 0) _ (fun w' hS => (hS.block _ l4).trans R4.out) Tryf.underlying23 (by rfl) Tryf.size23
  simp only [Act.put, List.setIfInBounds_toArray, List.set_cons_zero, List.set_cons_succ]
  refine wpAnyH_ready (rs := [1]) (by kernel_rfl) (by simp) (AllReadyH.cons (o := ⟨some 8, .call { callee := .value (.func 20), args := #[.tmp 7], argTypes := #[32] }, _, _, _, Option.none⟩) rfl (fun K hK => ?_) AllReadyH.nil)
  rw [if_pos (by rfl)]
  go_wp2_with fail
  refine (tallyHeld bt held built _ ((hHeld.block bt lt).trans RT.out)).mono ?_
  rintro e x1 ⟨rfl, hb⟩
  have hH : Below W1.heap.size W1 x1 := hHeld.trans (hb.mono hHeld.size)
  refine hK.out _ _ hH (fun hHeld => ?_)
  clear hK K hb hH
  refine wpAnyH_ready (rs := [3]) (by kernel_rfl) (by simp) (AllReadyH.cons (o := ⟨some 10, .call { callee := .value (.func 19), args := #[.tmp 8, .tmp 9], argTypes := #[25, 23] }, _, _, _, Option.none⟩) rfl (fun K hK => ?_) AllReadyH.nil)
  rw [if_pos (by rfl)]
  go_wp2_with fail
  refine (sameW held _).mono ?_
  rintro e x2 ⟨rfl, hb⟩
  have hH : Below W1.heap.size W1 x2 := hHeld.trans (hb.mono hHeld.size)
  refine hK.out _ _ hH (fun hHeld => ?_)
  clear hK K hb hH
  refine wpAnyH_take (i := 4) (oi := ⟨some 11, .move (.tmp 10), _, _, _, Option.none⟩) (v := .bool true) rfl (by kernel_rfl) (by kernel_rfl) (by kernel_rfl) (fun _ _ _ h => h) (Or.inl ⟨by rfl, fun w' hS => ?_⟩) hHeld ?_
  · go_simp
  simp only [Act.put, List.setIfInBounds_toArray, List.set_cons_zero, List.set_cons_succ]
  refine wpAnyH_take (i := 5) (oi := ⟨some 12, .move (.tmp 0), _, _, _, some (4, true)⟩) (v := .pointer (some ⟨bt, 0, none⟩)) rfl (by kernel_rfl) (by kernel_rfl) (by kernel_rfl) (fun _ _ _ h => h) (Or.inl ⟨by rfl, fun w' hS => ?_⟩) hHeld ?_
  · go_simp
  simp only [Act.put, List.setIfInBounds_toArray, List.set_cons_zero, List.set_cons_succ]
  refine wpAnyH_take (i := 7) (oi := ⟨some 14, .move (.tmp 2), _, _, _, some (4, true)⟩) (v := .int .i64 built) rfl (by kernel_rfl) (by kernel_rfl) (by kernel_rfl) (fun _ _ _ h => h) (Or.inl ⟨by rfl, fun w' hS => ?_⟩) hHeld ?_
  · go_simp
  simp only [Act.put, List.setIfInBounds_toArray, List.set_cons_zero, List.set_cons_succ]
  refine wpAnyH_ready (rs := [6]) (by kernel_rfl) (by simp) (AllReadyH.cons (o := ⟨some 13, .call { callee := .value (.func 21), args := #[.tmp 12], argTypes := #[32] }, _, _, _, some (4, true)⟩) rfl (fun K hK => ?_) AllReadyH.nil)
  rw [if_pos (by rfl)]
  go_wp2_with fail
  refine (tallyBuilt bt held built _ ((hHeld.block bt lt).trans RT.out)).mono ?_
  rintro e x3 ⟨rfl, hb⟩
  have hH : Below W1.heap.size W1 x3 := hHeld.trans (hb.mono hHeld.size)
  refine hK.out _ _ hH (fun hHeld => ?_)
  clear hK K hb hH
  refine wpAnyH_take (i := 8) (oi := ⟨some 15, .binOp .eql 3 (.tmp 13) (.tmp 14) 3, _, _, _, some (4, true)⟩) (v := .bool true) rfl (by kernel_rfl) (by kernel_rfl) (by kernel_rfl) (fun _ _ _ h => h) (Or.inl ⟨by rfl, fun w' hS => ?_⟩) hHeld ?_
  · go_simp
  simp only [Act.put, List.setIfInBounds_toArray, List.set_cons_zero, List.set_cons_succ]
  refine wpAnyH_take (i := 9) (oi := ⟨some 16, .pick (.tmp 11) (.tmp 15) (.const (.bool false)), _, _, _, Option.none⟩) (v := .bool true) rfl (by kernel_rfl) (by kernel_rfl) (by kernel_rfl) (fun _ _ _ h => h) (Or.inl ⟨by rfl, fun w' hS => ?_⟩) hHeld ?_
  · go_simp
  simp only [Act.put, List.setIfInBounds_toArray, List.set_cons_zero, List.set_cons_succ]
  refine wpAnyH_take (i := 10) (oi := ⟨some 6, .assign (.tmp 16), _, _, _, Option.none⟩) (v := .bool true) rfl (by kernel_rfl) (by kernel_rfl) (by kernel_rfl) (fun _ _ _ h => h) (Or.inl ⟨by rfl, fun w' hS => ?_⟩) hHeld ?_
  · go_simp
  simp only [Act.put, List.setIfInBounds_toArray, List.set_cons_zero, List.set_cons_succ]
  refine wpAnyH_done (by kernel_rfl) ?_ _
  have hB : Below W.heap.size W x3 := hB0.trans (hHeld.mono hB0.size)
  clear hHeld
  go_wp2
  go_ret
  exact ⟨rfl, hB⟩

set_option maxHeartbeats 1000000 in
theorem answer_ok (unit : ByteArray) (l h : Wt) (lb : Int) (W : World) :
    Calls Tryf.prog 13 #[.string ByteArray.empty, .bool true, .agg (limA unit l lb), .agg h.a] W fun e W' => e = .returned (.bool true) ∧ Below W.heap.size W W' := by
  go_enter Tryf.func13, Tryf.ntmps13
  go_wp2
  go_ret
  exact ⟨rfl, below2 _ _ _⟩

set_option maxHeartbeats 1000000 in
theorem answer_no (F : Interp) (unit : ByteArray) (l h : Wt) (lb : Int) (W : World) (hF : F.answers W.tape) :
    Calls Tryf.prog 13 #[.string (passed F unit l h), .bool false, .agg (limA unit l lb), .agg h.a] W fun e W' => e = .returned (.bool true) ∧ Below W.heap.size W W' := by
  have hB0 : Below W.heap.size W ((W.alloc (.cells (limA unit l lb) 27)).alloc (.cells h.a 23)) := below2 _ _ _
  have R6 : Hid (((W.alloc (.cells (limA unit l lb) 27)).alloc (.cells h.a 23)).heap[W.heap.size]? = some (.cells (limA unit l lb) 27)) := heap_alloc2_old _ _ _
  have R7 : Hid (((W.alloc (.cells (limA unit l lb) 27)).alloc (.cells h.a 23)).heap[W.heap.size + 1]? = some (.cells h.a 23)) := heap_alloc2_new _ _ _
  have l6 : W.heap.size < ((W.alloc (.cells (limA unit l lb) 27)).alloc (.cells h.a 23)).heap.size := by simp; omega
  have l7 : W.heap.size + 1 < ((W.alloc (.cells (limA unit l lb) 27)).alloc (.cells h.a 23)).heap.size := by simp
  go_enter Tryf.func13, Tryf.ntmps13
  go_wp2_with fail
  generalize (W.alloc (.cells (limA unit l lb) 27)).alloc (.cells h.a 23) = W1 at *
  have hF1 : F.answers W1.tape := by rw [hB0.tape]; exact hF
  refine wp_region_held_drew (S := fun w' => Below W1.heap.size W1 w') (by kernel_rfl) ((Below.refl _ _).drew) (fun hHeld => ?_)
  refine wpAnyH_take (i := 0) (oi := ⟨some 12, .move (.tmp 0), _, _, _, Option.none⟩) (v := .string (passed F unit l h)) rfl (by kernel_rfl) (by kernel_rfl) (by kernel_rfl) (fun _ _ _ h => h) (Or.inl ⟨by rfl, fun w' hS => ?_⟩) hHeld ?_
  · go_simp
  simp only [Act.put, List.setIfInBounds_toArray, List.set_cons_zero, List.set_cons_succ]
  refine wpAnyH_take (i := 1) (oi := ⟨some 13, .load 27 (.tmp 6), _, _, _, Option.none⟩) (v := .agg (limA unit l lb)) rfl (by kernel_rfl) (by kernel_rfl) (by kernel_rfl) (fun _ _ _ h => h) ?_ hHeld ?_
  · exact yieldsIf_row (by rfl) 27 (.tmp 6) (by rfl) (W.heap.size) (by rfl) _ (limA unit l lb) (0, 0) _ (fun w' hS => (hS.block _ l6).trans R6.out) Tryf.underlying27 (by rfl) Tryf.size27
  simp only [Act.put, List.setIfInBounds_toArray, List.set_cons_zero, List.set_cons_succ]
  refine wpAnyH_take (i := 2) (oi := ⟨some 14, .load 23 (.tmp 7), _, _, _, Option.none⟩) (v := .agg h.a) rfl (by kernel_rfl) (by kernel_rfl) (by kernel_rfl) (fun _ _ _ h => h) ?_ hHeld ?_
  · exact yieldsIf_row (by rfl) 23 (.tmp 7) (by rfl) (W.heap.size + 1) (by rfl) _ h.a (0, 0) _ (fun w' hS => (hS.block _ l7).trans R7.out) Tryf.underlying23 (by rfl) Tryf.size23
  simp only [Act.put, List.setIfInBounds_toArray, List.set_cons_zero, List.set_cons_succ]
  refine wpAnyH_ready (rs := [3]) (by kernel_rfl) (by simp) (AllReadyH.cons (o := ⟨some 15, .call { callee := .value (.func 7), args := #[.tmp 14], argTypes := #[23] }, _, _, _, Option.none⟩) rfl (fun K hK => ?_) AllReadyH.nil)
  rw [if_pos (by rfl)]
  go_wp2_with fail
  refine (toWeight h _).mono ?_
  rintro e x1 ⟨rfl, hb⟩
  have hH : Below W1.heap.size W1 x1 := hHeld.trans (hb.mono hHeld.size)
  refine hK.out _ _ hH (fun hHeld => ?_)
  clear hK K hb hH
  refine wpAnyH_ready (rs := [4]) (by kernel_rfl) (by simp) (AllReadyH.cons (o := ⟨some 16, .call { callee := .value (.func 18), args := #[.tmp 13, .tmp 15], argTypes := #[27, 25] }, _, _, _, Option.none⟩) rfl (fun K hK => ?_) AllReadyH.nil)
  rw [if_pos (by rfl)]
  go_wp2_with fail
  refine (passedC F unit l lb h _ (by rw [hHeld.tape]; exact hF1)).mono ?_
  rintro e x2 ⟨rfl, hb⟩
  have hH : Below W1.heap.size W1 x2 := hHeld.trans (hb.mono hHeld.size)
  refine hK.out _ _ hH (fun hHeld => ?_)
  clear hK K hb hH
  refine wpAnyH_take (i := 5) (oi := ⟨some 17, .binOp .eql 9 (.tmp 12) (.tmp 16) 9, _, _, _, Option.none⟩) (v := .bool true) rfl (by kernel_rfl) (by kernel_rfl) (by kernel_rfl) (fun _ _ _ h => h) (Or.inl ⟨by rfl, fun w' hS => ?_⟩) hHeld ?_
  · go_simp
  simp only [Act.put, List.setIfInBounds_toArray, List.set_cons_zero, List.set_cons_succ]
  refine wpAnyH_take (i := 6) (oi := ⟨some 8, .assign (.tmp 17), _, _, _, Option.none⟩) (v := .bool true) rfl (by kernel_rfl) (by kernel_rfl) (by kernel_rfl) (fun _ _ _ h => h) (Or.inl ⟨by rfl, fun w' hS => ?_⟩) hHeld ?_
  · go_simp
  simp only [Act.put, List.setIfInBounds_toArray, List.set_cons_zero, List.set_cons_succ]
  refine wpAnyH_done (by kernel_rfl) ?_ _
  have hB : Below W.heap.size W x2 := hB0.trans (hHeld.mono hB0.size)
  clear hHeld
  go_wp2
  go_ret
  exact ⟨rfl, hB⟩

end Go.Proofs.Qxb6631249aFmt
