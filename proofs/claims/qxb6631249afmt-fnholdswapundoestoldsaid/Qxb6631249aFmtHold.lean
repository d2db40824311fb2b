/-
  (*Tally).Hold: refused or accepted, by a contract each; the regions that draw their order are walked by hand.
-/
import Derived.Test.Qxb6631249aFmtPassed
import Derived.RegionTactic
import Derived.ChangeAlike
import Derived.BigRegion
import Derived.Deep.DeepMust
namespace Go.Proofs.Qxb6631249aFmt
open Go.RowKit Go.Extern.Stop Go.Stop Go.Extern
set_option linter.unusedSimpArgs false

theorem heapAt (w : World) (o : Obj) (i : Nat) : (w.alloc o).heap[i]? = if i = w.heap.size then some o else w.heap[i]? := by
  show (w.heap.push o)[i]? = _
  rw [Array.getElem?_push]

/-- All but block bt is as it was. -/
structure Other (bt : Nat) (W W' : World) : Prop where
  os : W'.os = W.os
  tape : W'.tape = W.tape
  output : W'.output = W.output
  size : W.heap.size ≤ W'.heap.size
  block : ∀ k, k < W.heap.size → k ≠ bt → W'.heap[k]? = W.heap[k]?

theorem Tryf.size25 : (Tryf.prog.info? 25).map (·.size) = some 3 := by kernel_rfl
theorem Tryf.size23 : (Tryf.prog.info? 23).map (·.size) = some 3 := by kernel_rfl
theorem Tryf.size27 : (Tryf.prog.info? 27).map (·.size) = some 5 := by kernel_rfl
theorem Wt.one (x : Wt) : x.a.all (·.oneCell') = true := by simp [Wt.a, Value.oneCell']
theorem yieldsIf_row {P : Program} {ops : Array Oper} {S : World → Prop} {op : Oper} {a : Act} (hw : Region.wanted op (yielded ops a.tmps) = true) (ty : TypeId) (x : Operand) (ho : op.op = .load ty x)
    (g : Nat) (hx : a.eval x = .pointer (some ⟨g, 0, none⟩)) (t : TypeId) (cs : Array Value) (fr : Nat × Nat) (d : TypeDesc) (hS : ∀ w, S w → w.heap[g]? = some (.cells cs t fr))
    (hu : P.underlying ty = some d) (hd : (match d with | .struct _ | .array _ _ => true | _ => false) = true) (hi : (P.info? ty).map (·.size) = some cs.size) : YieldsIf P ops S op (.agg cs) a :=
  .inl ⟨hw, fun w hw' => by
    unfold execOp
    simp only [ho, hx, Instr.loadAt, Instr.sureAddr, Sem.run_bind, Sem.run_pure, Result.andThen_ok, run_loadVar_row w g t ty cs fr d (hS w hw') hu hd hi]⟩
theorem below_setRow {B : Nat} {w W : World} (h : Below B w W) (g : Nat) (cs : Array Value) (hg : B ≤ g) : Below B w (W.setRow g cs) :=
  h.trans ⟨rfl, rfl, rfl, by simp, fun k hk => setRow_other W g k cs (by omega)⟩
theorem other_set {bt i : Nat} {W W0 : World} (h : Below W.heap.size W W0) (v : Value) : Other bt W (W0.setCell ⟨bt, i, none⟩ v).drew :=
  ⟨h.os, h.tape, h.output, by have := h.size; simp [World.setCell, World.drew]; exact this, fun k hk hne => (heap_setCell_other W0 ⟨bt, i, none⟩ k v hne).trans (h.block k hk)⟩

theorem iw64 (n : Int) : IntKind.i64.wrap n = wrap64 n := by rw [IntKind.wrap_i64, wrap64]
theorem Other.below {bt : Nat} {W W1 W2 : World} (h : Other bt W W1) (k : Below W1.heap.size W1 W2) : Other bt W W2 :=
  ⟨k.os.trans h.os, k.tape.trans h.tape, k.output.trans h.output, Nat.le_trans h.size k.size, fun i hi hne => (k.block i (Nat.lt_of_lt_of_le hi h.size)).trans (h.block i hi hne)⟩
theorem Other.setCell {bt : Nat} {W W1 : World} (h : Other bt W W1) (i : Nat) (v : Value) : Other bt W (W1.setCell ⟨bt, i, none⟩ v).drew :=
  ⟨h.os, h.tape, h.output, by have := h.size; simp [World.setCell, World.drew]; exact this, fun k hk hne => (heap_setCell_other W1 ⟨bt, i, none⟩ k v hne).trans (h.block k hk hne)⟩
theorem heap_setCells_other (b : Nat) : ∀ (vs : List Value) (o : Nat) (w : World) (k : Nat), k ≠ b → (w.setCells b o vs).heap[k]? = w.heap[k]?
  | [], _, _, _, _ => rfl
  | v :: r, o, w, k, h => by rw [World.setCells, heap_setCells_other b r _ _ k h, heap_setCell_other _ _ _ _ h]
theorem size_setCells (b : Nat) : ∀ (vs : List Value) (o : Nat) (w : World), (w.setCells b o vs).heap.size = w.heap.size
  | [], _, _ => rfl
  | v :: r, o, w => by rw [World.setCells, size_setCells b r]; simp [World.setCell]
theorem os_setCells (b : Nat) : ∀ (vs : List Value) (o : Nat) (w : World), (w.setCells b o vs).os = w.os ∧ (w.setCells b o vs).tape = w.tape ∧ (w.setCells b o vs).output = w.output
  | [], _, _ => ⟨rfl, rfl, rfl⟩
  | v :: r, o, w => by rw [World.setCells]; exact os_setCells b r (o + 1) _
theorem Other.setCells {bt : Nat} {W W1 : World} (h : Other bt W W1) (o : Nat) (vs : List Value) : Other bt W (W1.setCells bt o vs) := by
  obtain ⟨e1, e2, e3⟩ := os_setCells bt vs o W1
  exact ⟨e1.trans h.os, e2.trans h.tape, e3.trans h.output, by rw [size_setCells]; exact h.size, fun k hk hne => (heap_setCells_other bt vs o W1 k hne).trans (h.block k hk hne)⟩
theorem row_set3 {W : World} {bt : Nat} {x y : Wt} {b : Int} (h : W.heap[bt]? = some (.cells (talA x b) 39)) : (W.setCells bt 0 y.a.toList).heap[bt]? = some (.cells (talA y b) 39) := by
  show (((W.setCell ⟨bt, 0, none⟩ (.int .i64 y.u)).setCell ⟨bt, 1, none⟩ (.int .i64 y.s)).setCell ⟨bt, 2, none⟩ (.int .i64 y.p)).heap[bt]? = _
  rw [heap_setCell_same _ bt 2 _ 39 _ (heap_setCell_same _ bt 1 _ 39 _ (heap_setCell_same _ bt 0 _ 39 _ h))]
  rfl
section
variable {P : Program} {ops : Array Oper} {rest : List Oper} {op : Oper} {a : Act} {w : World} {Q : Exit → Act → World → Prop}
/-- A guard: the next operation is o. -/
theorem at_op (o : Op) (_ : op.op = o) (h : wpList P ops Q (op :: rest) a w) : wpList P ops Q (op :: rest) a w := h
end

set_option maxHeartbeats 1000000 in
theorem hold_no (F : Interp) (bt : Nat) (held wt out l : Wt) (built lb : Int) (unit : ByteArray) (W : World) (hF : F.answers W.tape) (hr : W.heap[bt]? = some (.cells (talA held built) 39))
    (hp : (passed F unit l ((held.add wt).sub out)).toList.isEmpty = false) :
    Calls Tryf.prog 12 #[.pointer (some ⟨bt, 0, none⟩), .agg wt.a, .agg out.a, .agg (limA unit l lb)] W fun e W' => e = .returned (.string (passed F unit l ((held.add wt).sub out))) ∧ Other bt W W' ∧ W'.heap[bt]? = some (.cells (talA held (wrap64 (built + out.u))) 39) := by
  have hb : bt < W.heap.size := (Array.getElem?_eq_some_iff.1 hr).1
  have hB0 : Below W.heap.size W (((W.alloc (.cells wt.a 25)).alloc (.cells out.a 25)).alloc (.cells (limA unit l lb) 27)) := below3 _ _ _ _
  have r5 : (((W.alloc (.cells wt.a 25)).alloc (.cells out.a 25)).alloc (.cells (limA unit l lb) 27)).heap[W.heap.size]? = some (.cells wt.a 25) := by rw [heapAt, heapAt, heapAt]; simp; omega
  have r6 : (((W.alloc (.cells wt.a 25)).alloc (.cells out.a 25)).alloc (.cells (limA unit l lb) 27)).heap[W.heap.size + 1]? = some (.cells out.a 25) := by rw [heapAt, heapAt]; simp
  have r7 : (((W.alloc (.cells wt.a 25)).alloc (.cells out.a 25)).alloc (.cells (limA unit l lb) 27)).heap[W.heap.size + 1 + 1]? = some (.cells (limA unit l lb) 27) := by rw [heapAt]; simp
  have hs0 : (((W.alloc (.cells wt.a 25)).alloc (.cells out.a 25)).alloc (.cells (limA unit l lb) 27)).heap.size = W.heap.size + 1 + 1 + 1 := by simp
  have HS0 : Hid ((((W.alloc (.cells wt.a 25)).alloc (.cells out.a 25)).alloc (.cells (limA unit l lb) 27)).heap.size = W.heap.size + 1 + 1 + 1) := hs0
  clear hs0
  go_enter Tryf.func12, Tryf.ntmps12
  go_wp2_with fail
  generalize ((W.alloc (.cells wt.a 25)).alloc (.cells out.a 25)).alloc (.cells (limA unit l lb) 27) = W0 at *
  have rt : W0.heap[bt]? = some (.cells (talA held built) 39) := (hB0.block bt hb).trans hr
  have c3 : W0.cell? ⟨bt, 3, none⟩ = some (.int .i64 built) := cell_of_row W0 bt 3 _ 39 (0, 0) rt
  have z3 : W0.frozen? ⟨bt, 3, none⟩ = false := frozen_of_row W0 bt 3 _ 39 rt
  have c6 : W0.cell? ⟨W.heap.size + 1, 0, none⟩ = some (.int .i64 out.u) := cell_of_row W0 _ 0 _ 25 (0, 0) r6
  have HR : Hid (W0.heap[bt]? = some (.cells (talA held built) 39)) := rt
  have R5 : Hid (W0.heap[W.heap.size]? = some (.cells wt.a 25)) := r5
  have R6 : Hid (W0.heap[W.heap.size + 1]? = some (.cells out.a 25)) := r6
  have R7 : Hid (W0.heap[W.heap.size + 1 + 1]? = some (.cells (limA unit l lb) 27)) := r7
  clear hr rt r5 r6 r7
  go_region
  have hO1 : Other bt W (W0.setCell ⟨bt, 3, none⟩ (.int .i64 (wrap64 (built + out.u)))).drew := other_set hB0 _
  have hb0 : bt ≠ W.heap.size := by omega
  have hb1 : bt ≠ W.heap.size + 1 := by omega
  have hb2 : bt ≠ W.heap.size + 1 + 1 := by omega
  have rt : (W0.setCell ⟨bt, 3, none⟩ (.int .i64 (wrap64 (built + out.u)))).drew.heap[bt]? = some (.cells (talA held (wrap64 (built + out.u))) 39) := heap_setCell_same W0 bt 3 _ 39 _ HR.out
  have r5 : (W0.setCell ⟨bt, 3, none⟩ (.int .i64 (wrap64 (built + out.u)))).drew.heap[W.heap.size]? = some (.cells wt.a 25) := (heap_setCell_other _ _ _ _ (Ne.symm hb0)).trans R5.out
  have r6 : (W0.setCell ⟨bt, 3, none⟩ (.int .i64 (wrap64 (built + out.u)))).drew.heap[W.heap.size + 1]? = some (.cells out.a 25) := (heap_setCell_other _ _ _ _ (Ne.symm hb1)).trans R6.out
  have r7 : (W0.setCell ⟨bt, 3, none⟩ (.int .i64 (wrap64 (built + out.u)))).drew.heap[W.heap.size + 1 + 1]? = some (.cells (limA unit l lb) 27) := (heap_setCell_other _ _ _ _ (Ne.symm hb2)).trans R7.out
  generalize (W0.setCell ⟨bt, 3, none⟩ (.int .i64 (wrap64 (built + out.u)))).drew = W1 at *
  clear c3 z3 c6 HR R5 R6 R7 HS0 hB0
  have hF1 : F.answers W1.tape := by rw [hO1.tape]; exact hF
  have l5 : W.heap.size < W1.heap.size := (Array.getElem?_eq_some_iff.1 r5).1
  have l6 : W.heap.size + 1 < W1.heap.size := (Array.getElem?_eq_some_iff.1 r6).1
  have l7 : W.heap.size + 1 + 1 < W1.heap.size := (Array.getElem?_eq_some_iff.1 r7).1
  have lt : bt < W1.heap.size := (Array.getElem?_eq_some_iff.1 rt).1
  have HT : Hid (W1.heap[bt]? = some (.cells (talA held (wrap64 (built + out.u))) 39)) := rt
  have R5 : Hid (W1.heap[W.heap.size]? = some (.cells wt.a 25)) := r5
  have R6 : Hid (W1.heap[W.heap.size + 1]? = some (.cells out.a 25)) := r6
  have R7 : Hid (W1.heap[W.heap.size + 1 + 1]? = some (.cells (limA unit l lb) 27)) := r7
  have rh : ∀ W', Below W1.heap.size W1 W' → W'.rangeAt bt 0 [.int .i64 held.u, .int .i64 held.s, .int .i64 held.p] := fun W' hW j v hj => by
    rw [cell_of_row W' bt _ _ 39 (0, 0) ((hW.block bt lt).trans HT.out)]
    match j, hj with
    | 0, h => simpa [talA] using h
    | 1, h => simpa [talA] using h
    | 2, h => simpa [talA] using h
  clear rt r5 r6 r7
  go_wp2_with fail
  refine (fun (rest : ∀ (bk : Nat) (W2 : World), W1.heap.size ≤ bk → Below W1.heap.size W1 W2 → W2.heap[bk]? = some (.cells ((held.add wt).sub out).a 25) → (?Prest : Nat → World → Prop) bk W2) => ?main) ?rest
  case main =>
    refine wp_region_held_drew (S := fun w' => Below W1.heap.size W1 w') (by kernel_rfl) ((Below.refl _ _).drew) (fun hHeld => ?_)
    refine wpAnyH_take (i := 0) (oi := ⟨some 20, .move (.tmp 0), _, _, _, Option.none⟩) (v := .pointer (some ⟨bt, 0, none⟩)) rfl (by kernel_rfl) (by kernel_rfl) (by kernel_rfl) (fun _ _ _ h => h) (Or.inl ⟨by rfl, fun w' hS => ?_⟩) hHeld ?_
    · go_simp
    simp only [Act.put, List.setIfInBounds_toArray, List.set_cons_zero, List.set_cons_succ]
    refine wpAnyH_take (i := 1) (oi := ⟨some 21, .nilCheck (.tmp 20), _, _, _, Option.none⟩) (v := .pointer (some ⟨bt, 0, none⟩)) rfl (by kernel_rfl) (by kernel_rfl) (by kernel_rfl) (fun _ _ _ h => h) (Or.inl ⟨by rfl, fun w' hS => ?_⟩) hHeld ?_
    · go_simp
    simp only [Act.put, List.setIfInBounds_toArray, List.set_cons_zero, List.set_cons_succ]
    refine wpAnyH_take (i := 2) (oi := ⟨some 22, .fieldAddr 39 (.tmp 21) 0, _, _, _, Option.none⟩) (v := .pointer (some ⟨bt, 0, none⟩)) rfl (by kernel_rfl) (by kernel_rfl) (by kernel_rfl) (fun _ _ _ h => h) (Or.inl ⟨by rfl, fun w' hS => ?_⟩) hHeld ?_
    · go_simp
    simp only [Act.put, List.setIfInBounds_toArray, List.set_cons_zero, List.set_cons_succ]
    refine wpAnyH_take (i := 3) (oi := ⟨some 23, .load 25 (.tmp 22), _, _, _, Option.none⟩) (v := .agg held.a) rfl (by kernel_rfl) (by kernel_rfl) (by kernel_rfl) (fun _ _ _ h => h) ?_ hHeld ?_
    · exact yieldsIf_load_mid (by rfl) 25 (.tmp 22) (by rfl) bt 0 (by rfl) [.int .i64 held.u, .int .i64 held.s, .int .i64 held.p] _ (fun w' hS => rh w' hS) Tryf.underlying25 (by rfl) Tryf.size25
    simp only [Act.put, List.setIfInBounds_toArray, List.set_cons_zero, List.set_cons_succ]
    refine wpAnyH_take (i := 4) (oi := ⟨some 24, .load 25 (.tmp 5), _, _, _, Option.none⟩) (v := .agg wt.a) rfl (by kernel_rfl) (by kernel_rfl) (by kernel_rfl) (fun _ _ _ h => h) ?_ hHeld ?_
    · exact yieldsIf_row (by rfl) 25 (.tmp 5) (by rfl) (W.heap.size) (by rfl) _ wt.a (0, 0) _ (fun w' hS => (hS.block _ l5).trans R5.out) Tryf.underlying25 (by rfl) Tryf.size25
    simp only [Act.put, List.setIfInBounds_toArray, List.set_cons_zero, List.set_cons_succ]
    refine wpAnyH_take (i := 6) (oi := ⟨some 26, .load 25 (.tmp 6), _, _, _, Option.none⟩) (v := .agg out.a) rfl (by kernel_rfl) (by kernel_rfl) (by kernel_rfl) (fun _ _ _ h => h) ?_ hHeld ?_
    · exact yieldsIf_row (by rfl) 25 (.tmp 6) (by rfl) (W.heap.size + 1) (by rfl) _ out.a (0, 0) _ (fun w' hS => (hS.block _ l6).trans R6.out) Tryf.underlying25 (by rfl) Tryf.size25
    simp only [Act.put, List.setIfInBounds_toArray, List.set_cons_zero, List.set_cons_succ]
    refine wpAnyH_ready (rs := [5, 8]) (by kernel_rfl) (by simp) (AllReadyH.cons (o := ⟨some 25, .call { callee := .value (.func 16), args := #[.tmp 23, .tmp 24], argTypes := #[25, 25] }, _, _, _, Option.none⟩) rfl (fun K hK => ?_) (AllReadyH.cons (o := ⟨some 9, .alloc 25, _, _, _, Option.none⟩) rfl (fun K hK => ?_) AllReadyH.nil))
    · rw [if_pos (by rfl)]
      go_wp2_with fail
      refine (plus held wt _).mono ?_
      rintro e x1 ⟨rfl, hb1⟩
      have hHeld1 : Below W1.heap.size W1 x1 := hHeld.trans (hb1.mono hHeld.size)
      refine hK.out _ _ hHeld1 (fun hHeld => ?_)
      clear hK K
      refine wpAnyH_ready (rs := [7, 8]) (by kernel_rfl) (by simp) (AllReadyH.cons (o := ⟨some 27, .call { callee := .value (.func 17), args := #[.tmp 25, .tmp 26], argTypes := #[25, 25] }, _, _, _, Option.none⟩) rfl (fun K hK => ?_) (AllReadyH.cons (o := ⟨some 9, .alloc 25, _, _, _, Option.none⟩) rfl (fun K hK => ?_) AllReadyH.nil))
      · rw [if_pos (by rfl)]
        go_wp2_with fail
        refine (minus (held.add wt) out _).mono ?_
        rintro e x2 ⟨rfl, hb2⟩
        have hHeld2 : Below W1.heap.size W1 x2 := hHeld.trans (hb2.mono hHeld.size)
        refine hK.out _ _ hHeld2 (fun hHeld => ?_)
        clear hK K
        refine wpAnyH_ready (rs := [8]) (by kernel_rfl) (by simp) (AllReadyH.cons (o := ⟨some 9, .alloc 25, _, _, _, Option.none⟩) rfl (fun K hK => ?_) AllReadyH.nil)
        rw [if_pos (by rfl)]
        go_wp2_with fail
        have hnew := heap_alloc_new x2 (.cells #[.int .i64 0, .int .i64 0, .int .i64 0] 25)
        have hlt : x2.heap.size < (x2.alloc (.cells #[.int .i64 0, .int .i64 0, .int .i64 0] 25)).heap.size := by simp
        have hbk : W1.heap.size ≤ x2.heap.size := hHeld.size
        refine hK.out _ _ (hHeld.alloc hHeld.size _) (fun hHeld => ?_)
        clear hK K
        refine wpAnyH_ready (rs := [9]) (by kernel_rfl) (by simp) (AllReadyH.cons (o := ⟨Option.none, .store 25 (.tmp 9) (.tmp 27), _, _, _, Option.none⟩) rfl (fun K hK => ?_) AllReadyH.nil)
        rw [if_pos (by rfl)]
        refine wp_store_row 25 (.tmp 9) (.tmp 27) (by rfl) (x2.heap.size) ((held.add wt).sub out).a (by rfl) (by rfl) 25 _ hnew Tryf.size25 rfl (Wt.one _) ?_
        have hrow := setRow_heap _ _ _ ((held.add wt).sub out).a _ _ hnew
        have hB5 := below_setRow hHeld (x2.heap.size) ((held.add wt).sub out).a hbk
        refine hK.out _ _ hB5 (fun _ => ?_)
        clear hK K
        refine wpAnyH_done (by kernel_rfl) ?_ _
        generalize World.setRow _ (x2.heap.size) _ = W5 at hrow hB5 ⊢
        generalize x2.heap.size = bk at hrow hbk ⊢
        exact rest bk W5 hbk hB5 hrow
      · rw [if_pos (by rfl)]
        go_wp2_with fail
        have hnew := heap_alloc_new x1 (.cells #[.int .i64 0, .int .i64 0, .int .i64 0] 25)
        have hlt : x1.heap.size < (x1.alloc (.cells #[.int .i64 0, .int .i64 0, .int .i64 0] 25)).heap.size := by simp
        have hbk : W1.heap.size ≤ x1.heap.size := hHeld.size
        refine hK.out _ _ (hHeld.alloc hHeld.size _) (fun hHeld => ?_)
        clear hK K
        refine wpAnyH_ready (rs := [7]) (by kernel_rfl) (by simp) (AllReadyH.cons (o := ⟨some 27, .call { callee := .value (.func 17), args := #[.tmp 25, .tmp 26], argTypes := #[25, 25] }, _, _, _, Option.none⟩) rfl (fun K hK => ?_) AllReadyH.nil)
        rw [if_pos (by rfl)]
        go_wp2_with fail
        refine (minus (held.add wt) out _).mono ?_
        rintro e x3 ⟨rfl, hb3⟩
        have hHeld3 : Below W1.heap.size W1 x3 := hHeld.trans (hb3.mono hHeld.size)
        have hnew := (hb3.block _ hlt).trans hnew
        have hlt := Nat.lt_of_lt_of_le hlt hb3.size
        refine hK.out _ _ hHeld3 (fun hHeld => ?_)
        clear hK K
        refine wpAnyH_ready (rs := [9]) (by kernel_rfl) (by simp) (AllReadyH.cons (o := ⟨Option.none, .store 25 (.tmp 9) (.tmp 27), _, _, _, Option.none⟩) rfl (fun K hK => ?_) AllReadyH.nil)
        rw [if_pos (by rfl)]
        refine wp_store_row 25 (.tmp 9) (.tmp 27) (by rfl) (x1.heap.size) ((held.add wt).sub out).a (by rfl) (by rfl) 25 _ hnew Tryf.size25 rfl (Wt.one _) ?_
        have hrow := setRow_heap _ _ _ ((held.add wt).sub out).a _ _ hnew
        have hB5 := below_setRow hHeld (x1.heap.size) ((held.add wt).sub out).a hbk
        refine hK.out _ _ hB5 (fun _ => ?_)
        clear hK K
        refine wpAnyH_done (by kernel_rfl) ?_ _
        exact rest _ _ hbk hB5 hrow
    · rw [if_pos (by rfl)]
      go_wp2_with fail
      have hnew := heap_alloc_new (W1.drew) (.cells #[.int .i64 0, .int .i64 0, .int .i64 0] 25)
      have hlt : W1.heap.size < (W1.drew.alloc (.cells #[.int .i64 0, .int .i64 0, .int .i64 0] 25)).heap.size := by simp
      have hbk : W1.heap.size ≤ W1.heap.size := hHeld.size
      refine hK.out _ _ (hHeld.alloc hHeld.size _) (fun hHeld => ?_)
      clear hK K
      refine wpAnyH_ready (rs := [5]) (by kernel_rfl) (by simp) (AllReadyH.cons (o := ⟨some 25, .call { callee := .value (.func 16), args := #[.tmp 23, .tmp 24], argTypes := #[25, 25] }, _, _, _, Option.none⟩) rfl (fun K hK => ?_) AllReadyH.nil)
      rw [if_pos (by rfl)]
      go_wp2_with fail
      refine (plus held wt _).mono ?_
      rintro e x4 ⟨rfl, hb4⟩
      have hHeld4 : Below W1.heap.size W1 x4 := hHeld.trans (hb4.mono hHeld.size)
      have hnew := (hb4.block _ hlt).trans hnew
      have hlt := Nat.lt_of_lt_of_le hlt hb4.size
      refine hK.out _ _ hHeld4 (fun hHeld => ?_)
      clear hK K
      refine wpAnyH_ready (rs := [7]) (by kernel_rfl) (by simp) (AllReadyH.cons (o := ⟨some 27, .call { callee := .value (.func 17), args := #[.tmp 25, .tmp 26], argTypes := #[25, 25] }, _, _, _, Option.none⟩) rfl (fun K hK => ?_) AllReadyH.nil)
      rw [if_pos (by rfl)]
      go_wp2_with fail
      refine (minus (held.add wt) out _).mono ?_
      rintro e x5 ⟨rfl, hb5⟩
      have hHeld5 : Below W1.heap.size W1 x5 := hHeld.trans (hb5.mono hHeld.size)
      have hnew := (hb5.block _ hlt).trans hnew
      have hlt := Nat.lt_of_lt_of_le hlt hb5.size
      refine hK.out _ _ hHeld5 (fun hHeld => ?_)
      clear hK K
      refine wpAnyH_ready (rs := [9]) (by kernel_rfl) (by simp) (AllReadyH.cons (o := ⟨Option.none, .store 25 (.tmp 9) (.tmp 27), _, _, _, Option.none⟩) rfl (fun K hK => ?_) AllReadyH.nil)
      rw [if_pos (by rfl)]
      refine wp_store_row 25 (.tmp 9) (.tmp 27) (by rfl) (W1.heap.size) ((held.add wt).sub out).a (by rfl) (by rfl) 25 _ hnew Tryf.size25 rfl (Wt.one _) ?_
      have hrow := setRow_heap _ _ _ ((held.add wt).sub out).a _ _ hnew
      have hB5 := below_setRow hHeld (W1.heap.size) ((held.add wt).sub out).a hbk
      refine hK.out _ _ hB5 (fun _ => ?_)
      clear hK K
      refine wpAnyH_done (by kernel_rfl) ?_ _
      exact rest _ _ hbk hB5 hrow
  case rest =>
    intro b9 W2 hb9 hB2 r9
    have R7' : W2.heap[W.heap.size + 1 + 1]? = some (.cells (limA unit l lb) 27) := (hB2.block _ l7).trans R7.out
    have hF2 : F.answers W2.tape := by rw [hB2.tape]; exact hF1
    simp only [Act.put]
    go_wp2_with (first
      | ((with_reducible refine at_op (.load 27 (.tmp 7)) ?_ ?_); (rfl); go_must (refine wpList_load_row rfl 27 (.tmp 7) rfl (W.heap.size + 1 + 1) rfl 27 (limA unit l lb) (0, 0) _ R7' Tryf.underlying27 rfl Tryf.size27 ?_))
      | ((with_reducible refine at_op (.load 25 (.tmp 9)) ?_ ?_); (rfl); go_must (refine wpList_load_row rfl 25 (.tmp 9) rfl b9 rfl 25 ((held.add wt).sub out).a (0, 0) _ r9 Tryf.underlying25 rfl Tryf.size25 ?_)))
    refine (passedC F unit l lb ((held.add wt).sub out) _ hF2).mono ?_
    rintro e W3 ⟨rfl, hB3⟩
    have hO3 : Other bt W W3 := hO1.below (hB2.trans (hB3.mono hB2.size))
    have rt3 : W3.heap[bt]? = some (.cells (talA held (wrap64 (built + out.u))) 39) := ((hB2.trans (hB3.mono hB2.size)).block bt lt).trans HT.out
    clear R7' r9 hF2 hF1 hF
    have HT3 : Hid (W3.heap[bt]? = some (.cells (talA held (wrap64 (built + out.u))) 39)) := rt3
    clear rt3
    go_wp2
    go_ret
    exact ⟨rfl, hO3, HT3.out⟩
set_option maxHeartbeats 1000000 in
theorem hold_yes (F : Interp) (bt : Nat) (held wt out l : Wt) (built lb : Int) (unit : ByteArray) (W : World) (hF : F.answers W.tape) (hr : W.heap[bt]? = some (.cells (talA held built) 39))
    (hp : passed F unit l ((held.add wt).sub out) = ByteArray.empty) :
    Calls Tryf.prog 12 #[.pointer (some ⟨bt, 0, none⟩), .agg wt.a, .agg out.a, .agg (limA unit l lb)] W fun e W' => e = .returned (.string ByteArray.empty) ∧ Other bt W W' ∧ W'.heap[bt]? = some (.cells (talA ((held.add wt).sub out) (wrap64 (wrap64 (built + out.u) + wt.u))) 39) := by
  have hb : bt < W.heap.size := (Array.getElem?_eq_some_iff.1 hr).1
  have hB0 : Below W.heap.size W (((W.alloc (.cells wt.a 25)).alloc (.cells out.a 25)).alloc (.cells (limA unit l lb) 27)) := below3 _ _ _ _
  have r5 : (((W.alloc (.cells wt.a 25)).alloc (.cells out.a 25)).alloc (.cells (limA unit l lb) 27)).heap[W.heap.size]? = some (.cells wt.a 25) := by rw [heapAt, heapAt, heapAt]; simp; omega
  have r6 : (((W.alloc (.cells wt.a 25)).alloc (.cells out.a 25)).alloc (.cells (limA unit l lb) 27)).heap[W.heap.size + 1]? = some (.cells out.a 25) := by rw [heapAt, heapAt]; simp
  have r7 : (((W.alloc (.cells wt.a 25)).alloc (.cells out.a 25)).alloc (.cells (limA unit l lb) 27)).heap[W.heap.size + 1 + 1]? = some (.cells (limA unit l lb) 27) := by rw [heapAt]; simp
  have hs0 : (((W.alloc (.cells wt.a 25)).alloc (.cells out.a 25)).alloc (.cells (limA unit l lb) 27)).heap.size = W.heap.size + 1 + 1 + 1 := by simp
  have HS0 : Hid ((((W.alloc (.cells wt.a 25)).alloc (.cells out.a 25)).alloc (.cells (limA unit l lb) 27)).heap.size = W.heap.size + 1 + 1 + 1) := hs0
  clear hs0
  go_enter Tryf.func12, Tryf.ntmps12
  go_wp2_with fail
  generalize ((W.alloc (.cells wt.a 25)).alloc (.cells out.a 25)).alloc (.cells (limA unit l lb) 27) = W0 at *
  have rt : W0.heap[bt]? = some (.cells (talA held built) 39) := (hB0.block bt hb).trans hr
  have c3 : W0.cell? ⟨bt, 3, none⟩ = some (.int .i64 built) := cell_of_row W0 bt 3 _ 39 (0, 0) rt
  have z3 : W0.frozen? ⟨bt, 3, none⟩ = false := frozen_of_row W0 bt 3 _ 39 rt
  have c6 : W0.cell? ⟨W.heap.size + 1, 0, none⟩ = some (.int .i64 out.u) := cell_of_row W0 _ 0 _ 25 (0, 0) r6
  have HR : Hid (W0.heap[bt]? = some (.cells (talA held built) 39)) := rt
  have R5 : Hid (W0.heap[W.heap.size]? = some (.cells wt.a 25)) := r5
  have R6 : Hid (W0.heap[W.heap.size + 1]? = some (.cells out.a 25)) := r6
  have R7 : Hid (W0.heap[W.heap.size + 1 + 1]? = some (.cells (limA unit l lb) 27)) := r7
  clear hr rt r5 r6 r7
  go_region
  have hO1 : Other bt W (W0.setCell ⟨bt, 3, none⟩ (.int .i64 (wrap64 (built + out.u)))).drew := other_set hB0 _
  have hb0 : bt ≠ W.heap.size := by omega
  have hb1 : bt ≠ W.heap.size + 1 := by omega
  have hb2 : bt ≠ W.heap.size + 1 + 1 := by omega
  have rt : (W0.setCell ⟨bt, 3, none⟩ (.int .i64 (wrap64 (built + out.u)))).drew.heap[bt]? = some (.cells (talA held (wrap64 (built + out.u))) 39) := heap_setCell_same W0 bt 3 _ 39 _ HR.out
  have r5 : (W0.setCell ⟨bt, 3, none⟩ (.int .i64 (wrap64 (built + out.u)))).drew.heap[W.heap.size]? = some (.cells wt.a 25) := (heap_setCell_other _ _ _ _ (Ne.symm hb0)).trans R5.out
  have r6 : (W0.setCell ⟨bt, 3, none⟩ (.int .i64 (wrap64 (built + out.u)))).drew.heap[W.heap.size + 1]? = some (.cells out.a 25) := (heap_setCell_other _ _ _ _ (Ne.symm hb1)).trans R6.out
  have r7 : (W0.setCell ⟨bt, 3, none⟩ (.int .i64 (wrap64 (built + out.u)))).drew.heap[W.heap.size + 1 + 1]? = some (.cells (limA unit l lb) 27) := (heap_setCell_other _ _ _ _ (Ne.symm hb2)).trans R7.out
  generalize (W0.setCell ⟨bt, 3, none⟩ (.int .i64 (wrap64 (built + out.u)))).drew = W1 at *
  clear c3 z3 c6 HR R5 R6 R7 HS0 hB0
  have hF1 : F.answers W1.tape := by rw [hO1.tape]; exact hF
  have l5 : W.heap.size < W1.heap.size := (Array.getElem?_eq_some_iff.1 r5).1
  have l6 : W.heap.size + 1 < W1.heap.size := (Array.getElem?_eq_some_iff.1 r6).1
  have l7 : W.heap.size + 1 + 1 < W1.heap.size := (Array.getElem?_eq_some_iff.1 r7).1
  have lt : bt < W1.heap.size := (Array.getElem?_eq_some_iff.1 rt).1
  have HT : Hid (W1.heap[bt]? = some (.cells (talA held (wrap64 (built + out.u))) 39)) := rt
  have R5 : Hid (W1.heap[W.heap.size]? = some (.cells wt.a 25)) := r5
  have R6 : Hid (W1.heap[W.heap.size + 1]? = some (.cells out.a 25)) := r6
  have R7 : Hid (W1.heap[W.heap.size + 1 + 1]? = some (.cells (limA unit l lb) 27)) := r7
  have rh : ∀ W', Below W1.heap.size W1 W' → W'.rangeAt bt 0 [.int .i64 held.u, .int .i64 held.s, .int .i64 held.p] := fun W' hW j v hj => by
    rw [cell_of_row W' bt _ _ 39 (0, 0) ((hW.block bt lt).trans HT.out)]
    match j, hj with
    | 0, h => simpa [talA] using h
    | 1, h => simpa [talA] using h
    | 2, h => simpa [talA] using h
  clear rt r5 r6 r7
  go_wp2_with fail
  refine (fun (rest : ∀ (bk : Nat) (W2 : World), W1.heap.size ≤ bk → Below W1.heap.size W1 W2 → W2.heap[bk]? = some (.cells ((held.add wt).sub out).a 25) → (?Prest : Nat → World → Prop) bk W2) => ?main) ?rest
  case main =>
    refine wp_region_held_drew (S := fun w' => Below W1.heap.size W1 w') (by kernel_rfl) ((Below.refl _ _).drew) (fun hHeld => ?_)
    refine wpAnyH_take (i := 0) (oi := ⟨some 20, .move (.tmp 0), _, _, _, Option.none⟩) (v := .pointer (some ⟨bt, 0, none⟩)) rfl (by kernel_rfl) (by kernel_rfl) (by kernel_rfl) (fun _ _ _ h => h) (Or.inl ⟨by rfl, fun w' hS => ?_⟩) hHeld ?_
    · go_simp
    simp only [Act.put, List.setIfInBounds_toArray, List.set_cons_zero, List.set_cons_succ]
    refine wpAnyH_take (i := 1) (oi := ⟨some 21, .nilCheck (.tmp 20), _, _, _, Option.none⟩) (v := .pointer (some ⟨bt, 0, none⟩)) rfl (by kernel_rfl) (by kernel_rfl) (by kernel_rfl) (fun _ _ _ h => h) (Or.inl ⟨by rfl, fun w' hS => ?_⟩) hHeld ?_
    · go_simp
    simp only [Act.put, List.setIfInBounds_toArray, List.set_cons_zero, List.set_cons_succ]
    refine wpAnyH_take (i := 2) (oi := ⟨some 22, .fieldAddr 39 (.tmp 21) 0, _, _, _, Option.none⟩) (v := .pointer (some ⟨bt, 0, none⟩)) rfl (by kernel_rfl) (by kernel_rfl) (by kernel_rfl) (fun _ _ _ h => h) (Or.inl ⟨by rfl, fun w' hS => ?_⟩) hHeld ?_
    · go_simp
    simp only [Act.put, List.setIfInBounds_toArray, List.set_cons_zero, List.set_cons_succ]
    refine wpAnyH_take (i := 3) (oi := ⟨some 23, .load 25 (.tmp 22), _, _, _, Option.none⟩) (v := .agg held.a) rfl (by kernel_rfl) (by kernel_rfl) (by kernel_rfl) (fun _ _ _ h => h) ?_ hHeld ?_
    · exact yieldsIf_load_mid (by rfl) 25 (.tmp 22) (by rfl) bt 0 (by rfl) [.int .i64 held.u, .int .i64 held.s, .int .i64 held.p] _ (fun w' hS => rh w' hS) Tryf.underlying25 (by rfl) Tryf.size25
    simp only [Act.put, List.setIfInBounds_toArray, List.set_cons_zero, List.set_cons_succ]
    refine wpAnyH_take (i := 4) (oi := ⟨some 24, .load 25 (.tmp 5), _, _, _, Option.none⟩) (v := .agg wt.a) rfl (by kernel_rfl) (by kernel_rfl) (by kernel_rfl) (fun _ _ _ h => h) ?_ hHeld ?_
    · exact yieldsIf_row (by rfl) 25 (.tmp 5) (by rfl) (W.heap.size) (by rfl) _ wt.a (0, 0) _ (fun w' hS => (hS.block _ l5).trans R5.out) Tryf.underlying25 (by rfl) Tryf.size25
    simp only [Act.put, List.setIfInBounds_toArray, List.set_cons_zero, List.set_cons_succ]
    refine wpAnyH_take (i := 6) (oi := ⟨some 26, .load 25 (.tmp 6), _, _, _, Option.none⟩) (v := .agg out.a) rfl (by kernel_rfl) (by kernel_rfl) (by kernel_rfl) (fun _ _ _ h => h) ?_ hHeld ?_
    · exact yieldsIf_row (by rfl) 25 (.tmp 6) (by rfl) (W.heap.size + 1) (by rfl) _ out.a (0, 0) _ (fun w' hS => (hS.block _ l6).trans R6.out) Tryf.underlying25 (by rfl) Tryf.size25
    simp only [Act.put, List.setIfInBounds_toArray, List.set_cons_zero, List.set_cons_succ]
    refine wpAnyH_ready (rs := [5, 8]) (by kernel_rfl) (by simp) (AllReadyH.cons (o := ⟨some 25, .call { callee := .value (.func 16), args := #[.tmp 23, .tmp 24], argTypes := #[25, 25] }, _, _, _, Option.none⟩) rfl (fun K hK => ?_) (AllReadyH.cons (o := ⟨some 9, .alloc 25, _, _, _, Option.none⟩) rfl (fun K hK => ?_) AllReadyH.nil))
    · rw [if_pos (by rfl)]
      go_wp2_with fail
      refine (plus held wt _).mono ?_
      rintro e x1 ⟨rfl, hb1⟩
      have hHeld1 : Below W1.heap.size W1 x1 := hHeld.trans (hb1.mono hHeld.size)
      refine hK.out _ _ hHeld1 (fun hHeld => ?_)
      clear hK K
      refine wpAnyH_ready (rs := [7, 8]) (by kernel_rfl) (by simp) (AllReadyH.cons (o := ⟨some 27, .call { callee := .value (.func 17), args := #[.tmp 25, .tmp 26], argTypes := #[25, 25] }, _, _, _, Option.none⟩) rfl (fun K hK => ?_) (AllReadyH.cons (o := ⟨some 9, .alloc 25, _, _, _, Option.none⟩) rfl (fun K hK => ?_) AllReadyH.nil))
      · rw [if_pos (by rfl)]
        go_wp2_with fail
        refine (minus (held.add wt) out _).mono ?_
        rintro e x2 ⟨rfl, hb2⟩
        have hHeld2 : Below W1.heap.size W1 x2 := hHeld.trans (hb2.mono hHeld.size)
        refine hK.out _ _ hHeld2 (fun hHeld => ?_)
        clear hK K
        refine wpAnyH_ready (rs := [8]) (by kernel_rfl) (by simp) (AllReadyH.cons (o := ⟨some 9, .alloc 25, _, _, _, Option.none⟩) rfl (fun K hK => ?_) AllReadyH.nil)
        rw [if_pos (by rfl)]
        go_wp2_with fail
        have hnew := heap_alloc_new x2 (.cells #[.int .i64 0, .int .i64 0, .int .i64 0] 25)
        have hlt : x2.heap.size < (x2.alloc (.cells #[.int .i64 0, .int .i64 0, .int .i64 0] 25)).heap.size := by simp
        have hbk : W1.heap.size ≤ x2.heap.size := hHeld.size
        refine hK.out _ _ (hHeld.alloc hHeld.size _) (fun hHeld => ?_)
        clear hK K
        refine wpAnyH_ready (rs := [9]) (by kernel_rfl) (by simp) (AllReadyH.cons (o := ⟨Option.none, .store 25 (.tmp 9) (.tmp 27), _, _, _, Option.none⟩) rfl (fun K hK => ?_) AllReadyH.nil)
        rw [if_pos (by rfl)]
        refine wp_store_row 25 (.tmp 9) (.tmp 27) (by rfl) (x2.heap.size) ((held.add wt).sub out).a (by rfl) (by rfl) 25 _ hnew Tryf.size25 rfl (Wt.one _) ?_
        have hrow := setRow_heap _ _ _ ((held.add wt).sub out).a _ _ hnew
        have hB5 := below_setRow hHeld (x2.heap.size) ((held.add wt).sub out).a hbk
        refine hK.out _ _ hB5 (fun _ => ?_)
        clear hK K
        refine wpAnyH_done (by kernel_rfl) ?_ _
        generalize World.setRow _ (x2.heap.size) _ = W5 at hrow hB5 ⊢
        generalize x2.heap.size = bk at hrow hbk ⊢
        exact rest bk W5 hbk hB5 hrow
      · rw [if_pos (by rfl)]
        go_wp2_with fail
        have hnew := heap_alloc_new x1 (.cells #[.int .i64 0, .int .i64 0, .int .i64 0] 25)
        have hlt : x1.heap.size < (x1.alloc (.cells #[.int .i64 0, .int .i64 0, .int .i64 0] 25)).heap.size := by simp
        have hbk : W1.heap.size ≤ x1.heap.size := hHeld.size
        refine hK.out _ _ (hHeld.alloc hHeld.size _) (fun hHeld => ?_)
        clear hK K
        refine wpAnyH_ready (rs := [7]) (by kernel_rfl) (by simp) (AllReadyH.cons (o := ⟨some 27, .call { callee := .value (.func 17), args := #[.tmp 25, .tmp 26], argTypes := #[25, 25] }, _, _, _, Option.none⟩) rfl (fun K hK => ?_) AllReadyH.nil)
        rw [if_pos (by rfl)]
        go_wp2_with fail
        refine (minus (held.add wt) out _).mono ?_
        rintro e x3 ⟨rfl, hb3⟩
        have hHeld3 : Below W1.heap.size W1 x3 := hHeld.trans (hb3.mono hHeld.size)
        have hnew := (hb3.block _ hlt).trans hnew
        have hlt := Nat.lt_of_lt_of_le hlt hb3.size
        refine hK.out _ _ hHeld3 (fun hHeld => ?_)
        clear hK K
        refine wpAnyH_ready (rs := [9]) (by kernel_rfl) (by simp) (AllReadyH.cons (o := ⟨Option.none, .store 25 (.tmp 9) (.tmp 27), _, _, _, Option.none⟩) rfl (fun K hK => ?_) AllReadyH.nil)
        rw [if_pos (by rfl)]
        refine wp_store_row 25 (.tmp 9) (.tmp 27) (by rfl) (x1.heap.size) ((held.add wt).sub out).a (by rfl) (by rfl) 25 _ hnew Tryf.size25 rfl (Wt.one _) ?_
        have hrow := setRow_heap _ _ _ ((held.add wt).sub out).a _ _ hnew
        have hB5 := below_setRow hHeld (x1.heap.size) ((held.add wt).sub out).a hbk
        refine hK.out _ _ hB5 (fun _ => ?_)
        clear hK K
        refine wpAnyH_done (by kernel_rfl) ?_ _
        exact rest _ _ hbk hB5 hrow
    · rw [if_pos (by rfl)]
      go_wp2_with fail
      have hnew := heap_alloc_new (W1.drew) (.cells #[.int .i64 0, .int .i64 0, .int .i64 0] 25)
      have hlt : W1.heap.size < (W1.drew.alloc (.cells #[.int .i64 0, .int .i64 0, .int .i64 0] 25)).heap.size := by simp
      have hbk : W1.heap.size ≤ W1.heap.size := hHeld.size
      refine hK.out _ _ (hHeld.alloc hHeld.size _) (fun hHeld => ?_)
      clear hK K
      refine wpAnyH_ready (rs := [5]) (by kernel_rfl) (by simp) (AllReadyH.cons (o := ⟨some 25, .call { callee := .value (.func 16), args := #[.tmp 23, .tmp 24], argTypes := #[25, 25] }, _, _, _, Option.none⟩) rfl (fun K hK => ?_) AllReadyH.nil)
      rw [if_pos (by rfl)]
      go_wp2_with fail
      refine (plus held wt _).mono ?_
      rintro e x4 ⟨rfl, hb4⟩
      have hHeld4 : Below W1.heap.size W1 x4 := hHeld.trans (hb4.mono hHeld.size)
      have hnew := (hb4.block _ hlt).trans hnew
      have hlt := Nat.lt_of_lt_of_le hlt hb4.size
      refine hK.out _ _ hHeld4 (fun hHeld => ?_)
      clear hK K
      refine wpAnyH_ready (rs := [7]) (by kernel_rfl) (by simp) (AllReadyH.cons (o := ⟨some 27, .call { callee := .value (.func 17), args := #[.tmp 25, .tmp 26], argTypes := #[25, 25] }, _, _, _, Option.none⟩) rfl (fun K hK => ?_) AllReadyH.nil)
      rw [if_pos (by rfl)]
      go_wp2_with fail
      refine (minus (held.add wt) out _).mono ?_
      rintro e x5 ⟨rfl, hb5⟩
      have hHeld5 : Below W1.heap.size W1 x5 := hHeld.trans (hb5.mono hHeld.size)
      have hnew := (hb5.block _ hlt).trans hnew
      have hlt := Nat.lt_of_lt_of_le hlt hb5.size
      refine hK.out _ _ hHeld5 (fun hHeld => ?_)
      clear hK K
      refine wpAnyH_ready (rs := [9]) (by kernel_rfl) (by simp) (AllReadyH.cons (o := ⟨Option.none, .store 25 (.tmp 9) (.tmp 27), _, _, _, Option.none⟩) rfl (fun K hK => ?_) AllReadyH.nil)
      rw [if_pos (by rfl)]
      refine wp_store_row 25 (.tmp 9) (.tmp 27) (by rfl) (W1.heap.size) ((held.add wt).sub out).a (by rfl) (by rfl) 25 _ hnew Tryf.size25 rfl (Wt.one _) ?_
      have hrow := setRow_heap _ _ _ ((held.add wt).sub out).a _ _ hnew
      have hB5 := below_setRow hHeld (W1.heap.size) ((held.add wt).sub out).a hbk
      refine hK.out _ _ hB5 (fun _ => ?_)
      clear hK K
      refine wpAnyH_done (by kernel_rfl) ?_ _
      exact rest _ _ hbk hB5 hrow
  case rest =>
    intro b9 W2 hb9 hB2 r9
    have R7' : W2.heap[W.heap.size + 1 + 1]? = some (.cells (limA unit l lb) 27) := (hB2.block _ l7).trans R7.out
    have hF2 : F.answers W2.tape := by rw [hB2.tape]; exact hF1
    simp only [Act.put]
    go_wp2_with (first
      | ((with_reducible refine at_op (.load 27 (.tmp 7)) ?_ ?_); (rfl); go_must (refine wpList_load_row rfl 27 (.tmp 7) rfl (W.heap.size + 1 + 1) rfl 27 (limA unit l lb) (0, 0) _ R7' Tryf.underlying27 rfl Tryf.size27 ?_))
      | ((with_reducible refine at_op (.load 25 (.tmp 9)) ?_ ?_); (rfl); go_must (refine wpList_load_row rfl 25 (.tmp 9) rfl b9 rfl 25 ((held.add wt).sub out).a (0, 0) _ r9 Tryf.underlying25 rfl Tryf.size25 ?_)))
    refine (passedC F unit l lb ((held.add wt).sub out) _ hF2).mono ?_
    rintro e W3 ⟨rfl, hB3⟩
    have hO3 : Other bt W W3 := hO1.below (hB2.trans (hB3.mono hB2.size))
    have rt3 : W3.heap[bt]? = some (.cells (talA held (wrap64 (built + out.u))) 39) := ((hB2.trans (hB3.mono hB2.size)).block bt lt).trans HT.out
    rw [hp]
    have r9' : W3.heap[b9]? = some (.cells ((held.add wt).sub out).a 25) := (hB3.block b9 (Array.getElem?_eq_some_iff.1 r9).1).trans r9
    have r5' : W3.heap[W.heap.size]? = some (.cells wt.a 25) := ((hB2.trans (hB3.mono hB2.size)).block _ l5).trans R5.out
    have ht3 : W3.there bt 0 3 := fun j hj => by
      rw [cell_of_row W3 bt _ _ 39 (0, 0) rt3, frozen_of_row W3 bt _ _ 39 rt3]
      match j, hj with
      | 0, _ => exact ⟨rfl, rfl⟩
      | 1, _ => exact ⟨rfl, rfl⟩
      | 2, _ => exact ⟨rfl, rfl⟩
    clear R7' r9 hF2 hF1 hF hp
    have HT3 : Hid (W3.heap[bt]? = some (.cells (talA held (wrap64 (built + out.u))) 39)) := rt3
    have R5' : Hid (W3.heap[W.heap.size]? = some (.cells wt.a 25)) := r5'
    clear rt3 r5'
    go_wp2_with (first
      | ((with_reducible refine at_op (.load 25 (.tmp 9)) ?_ ?_); (rfl); go_must (refine wpList_load_row rfl 25 (.tmp 9) rfl b9 rfl 25 ((held.add wt).sub out).a (0, 0) _ r9' Tryf.underlying25 rfl Tryf.size25 ?_))
      | ((with_reducible refine at_op (.store 25 (.tmp 37) (.tmp 35)) ?_ ?_); (rfl); go_must (refine wpList_store_mid rfl 25 (.tmp 37) (.tmp 35) rfl bt 0 ((held.add wt).sub out).a rfl rfl ht3 Tryf.size25 (Wt.one _) ?_)))
    have rt4 : (W3.setCells bt 0 ((held.add wt).sub out).a.toList).heap[bt]? = some (.cells (talA ((held.add wt).sub out) (wrap64 (built + out.u))) 39) := row_set3 HT3.out
    have r54 : (W3.setCells bt 0 ((held.add wt).sub out).a.toList).heap[W.heap.size]? = some (.cells wt.a 25) := (heap_setCells_other _ _ _ _ _ (Ne.symm hb0)).trans R5'.out
    have hO4 : Other bt W (W3.setCells bt 0 ((held.add wt).sub out).a.toList) := hO3.setCells _ _
    generalize W3.setCells bt 0 ((held.add wt).sub out).a.toList = W4 at *
    clear ht3 r9' HT3 R5'
    have c3 : W4.cell? ⟨bt, 3, none⟩ = some (.int .i64 (wrap64 (built + out.u))) := cell_of_row W4 bt 3 _ 39 (0, 0) rt4
    have z3 : W4.frozen? ⟨bt, 3, none⟩ = false := frozen_of_row W4 bt 3 _ 39 rt4
    have c5 : W4.cell? ⟨W.heap.size, 0, none⟩ = some (.int .i64 wt.u) := cell_of_row W4 _ 0 _ 25 (0, 0) r54
    have HT4 : Hid (W4.heap[bt]? = some (.cells (talA ((held.add wt).sub out) (wrap64 (built + out.u))) 39)) := rt4
    clear rt4 r54
    go_region
    all_goals
      go_wp2
      go_ret
      exact ⟨rfl, hO4.setCell _ _, (heap_setCell_same W4 bt 3 _ 39 _ HT4.out).trans (by first | rfl | (rw [iw64]; rfl))⟩
end Go.Proofs.Qxb6631249aFmt
