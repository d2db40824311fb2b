/-
  Small laws over this dump's rows: a struct literal built of whole arrays, with no unrolling; an operation's step out of its run.
-/
import Derived.Test.Qxb6631221aRows
import Derived.WalkKit
import Derived.Deep.MidRow
namespace Go.Proofs.Qxb6631221a
open Go.RowKit

/-! ### 'fill': a part laid over an array, with no unrolling -/
theorem foldSet_size (l : List (Value × Nat)) (off : Nat) (cells : Array Value) :
    (l.foldl (fun cs (p : Value × Nat) => cs.setIfInBounds (off + p.2) p.1) cells).size = cells.size := by
  induction l generalizing cells with
  | nil => rfl
  | cons p l ih => simp only [List.foldl_cons]; rw [ih]; simp

theorem foldSet_get (l : List Value) (off : Nat) : ∀ (k : Nat) (cells : Array Value) (_ : off + k + l.length ≤ cells.size) (i : Nat),
    ((l.zipIdx k).foldl (fun cs (p : Value × Nat) => cs.setIfInBounds (off + p.2) p.1) cells)[i]? = if off + k ≤ i ∧ i < off + k + l.length then l[i - (off + k)]? else cells[i]? := by
  induction l with
  | nil => intro k cells _ i; simp; omega
  | cons v l ih =>
    intro k cells h i
    simp only [List.length_cons] at h
    simp only [List.zipIdx_cons, List.foldl_cons]
    rw [ih (k + 1) _ (by simp; omega) i]
    by_cases h1 : off + (k + 1) ≤ i ∧ i < off + (k + 1) + l.length
    · rw [if_pos h1, if_pos (by simp; omega)]
      have e : i - (off + k) = (i - (off + (k + 1))) + 1 := by omega
      rw [e, List.getElem?_cons_succ]
    · rw [if_neg h1]
      by_cases h2 : i = off + k
      · subst h2
        rw [if_pos (by simp)]
        simp [Array.getElem?_setIfInBounds]
        omega
      · rw [if_neg (by simp; omega)]
        rw [Array.getElem?_setIfInBounds, if_neg (by omega)]

/-- A part 'vs' laid into 'cells' from 'off' on. -/
def laidOver (cells : Array Value) (off : Nat) (vs : Array Value) : Array Value :=
  vs.zipIdx.foldl (fun cs (p : Value × Nat) => cs.setIfInBounds (off + p.2) p.1) cells
theorem laidOver_size (cells : Array Value) (off : Nat) (vs : Array Value) : (laidOver cells off vs).size = cells.size := by
  unfold laidOver
  rw [← Array.foldl_toList]
  exact foldSet_size _ _ _
theorem laidOver_get (cells : Array Value) (off : Nat) (vs : Array Value) (h : off + vs.size ≤ cells.size) (i : Nat) :
    (laidOver cells off vs)[i]? = if off ≤ i ∧ i < off + vs.size then vs[i - off]? else cells[i]? := by
  unfold laidOver
  rw [← Array.foldl_toList]
  have := foldSet_get vs.toList off 0 cells (by simpa using h) i
  simpa using this
theorem fill_cons (place : Nat → Option (Nat × Nat)) (cells : Array Value) (i : Nat) (v : Value) (rest : List (Nat × Value)) (off size : Nat)
    (hp : place i = some (off, size)) (hs : v.cells.size = size) (hle : off + size ≤ cells.size) :
    Instr.fill place cells ((i, v) :: rest) = Instr.fill place (laidOver cells off v.cells) rest := by
  subst hs
  simp only [Instr.fill, hp]
  rw [if_neg (by simp; omega)]
  rfl


/-- A Key out of its two parts. -/
theorem run_build35 (bs ids : Array Value) (hb : bs.size = 32) (hi : ids.size = 8) (w : World) :
    (Instr.build 35 #[(0, .agg bs), (1, .agg ids)]).run Try.prog w = .ok (.agg (bs ++ ids)) w := by
  have e : ∀ z : Array Value, z.size = 40 → laidOver (laidOver z 0 bs) 32 ids = bs ++ ids := by
    intro z hz
    apply Array.ext_getElem?
    intro i
    rw [laidOver_get _ _ _ (by rw [laidOver_size]; omega), laidOver_get _ _ _ (by omega), Array.getElem?_append]
    by_cases h1 : i < 32
    · rw [if_neg (by omega), if_pos (by omega), if_pos (by omega)]; simp
    · by_cases h2 : i < 40
      · rw [if_pos (by omega), if_neg (by omega), hb]
      · rw [if_neg (by omega), if_neg (by omega), if_neg (by omega), Array.getElem?_eq_none (by omega), Array.getElem?_eq_none (by omega)]
  have hf : ∀ z : Array Value, z.size = 40 → Instr.fill (#[(0, 32), (32, 8)][·]?) z [(0, .agg bs), (1, .agg ids)] = some (bs ++ ids) := by
    intro z hz
    rw [fill_cons _ _ _ _ _ 0 32 (by simp) (by simpa [Value.cells] using hb) (by omega), fill_cons _ _ _ _ _ 32 8 (by simp) (by simpa [Value.cells] using hi) (by rw [laidOver_size]; omega)]
    simp only [Instr.fill, Value.cells]
    rw [e z hz]
  have hm : ∀ pk : String, (Array.mapM (m := Sem) (fun (f : Field) => do
      let __do_lift ← sizeOf f.type
      pure (f.offset, __do_lift))
    #[{ name := "bytes", type := 24, offset := 0, embedded := false, tag := "", pkgPath := pk, byteOffset := 0 },
      { name := "id", type := 33, offset := 32, embedded := false, tag := "", pkgPath := pk, byteOffset := 32 }]).run Try.prog w = .ok #[(0, 32), (32, 8)] w := by
    intro pk
    simp [Sem.run_bind, Try.sizeOf24, Try.sizeOf33, Result.andThen_ok]
  simp only [Instr.build, Sem.run_bind, Try.zeroValue35, Try.runUnderlying35, Result.andThen_ok, hm]
  rw [hf _ (by rfl)]
  rfl

/-- A KeyringEntry out of its key and its state; the time stays zero. -/
theorem run_build45 (key : Array Value) (st : ByteArray) (hk : key.size = 40) (w : World) :
    (Instr.build 45 #[(0, .agg key), (1, .string st)]).run Try.prog w = .ok (.agg (key ++ #[.string st, .int .u64 0, .int .i64 0, .pointer none])) w := by
  have e : ∀ z : Array Value, z.size = 44 → z[41]? = some (.int .u64 0) → z[42]? = some (.int .i64 0) → z[43]? = some (.pointer none) → laidOver (laidOver z 0 key) 40 #[.string st] = key ++ #[.string st, .int .u64 0, .int .i64 0, .pointer none] := by
    intro z hz h1 h2 h3
    apply Array.ext_getElem?
    intro i
    rw [laidOver_get _ _ _ (by rw [laidOver_size]; simp; omega), laidOver_get _ _ _ (by omega), Array.getElem?_append]
    by_cases g1 : i < 40
    · rw [if_neg (by simp; omega), if_pos (by omega), if_pos (by omega)]; simp
    · have g2 : ¬ (0 ≤ i ∧ i < 0 + key.size) := by omega
      have g3 : ¬ i < key.size := by omega
      rw [if_neg g2, if_neg g3, hk]
      match i, g1 with
      | 40, _ => simp
      | 41, _ => simp [h1]
      | 42, _ => simp [h2]
      | 43, _ => simp [h3]
      | n + 44, _ => rw [if_neg (by simp), Array.getElem?_eq_none (by omega), Array.getElem?_eq_none (by simp)]
  have hf : ∀ z : Array Value, z.size = 44 → z[41]? = some (.int .u64 0) → z[42]? = some (.int .i64 0) → z[43]? = some (.pointer none) → Instr.fill (#[(0, 40), (40, 1), (41, 3)][·]?) z [(0, .agg key), (1, .string st)] = some (key ++ #[.string st, .int .u64 0, .int .i64 0, .pointer none]) := by
    intro z hz h1 h2 h3
    rw [fill_cons _ _ _ _ _ 0 40 (by simp) (by simpa [Value.cells] using hk) (by omega), fill_cons _ _ _ _ _ 40 1 (by simp) (by simp [Value.cells]) (by rw [laidOver_size]; omega)]
    simp only [Instr.fill, Value.cells]
    rw [e z hz h1 h2 h3]
  simp only [Instr.build, Sem.run_bind, Try.zeroValue45, Try.runUnderlying45, Result.andThen_ok]
  have hm : ∀ fs : Array Field, fs = #[{ name := "Key", type := 35, offset := 0, embedded := false, tag := "", pkgPath := "", byteOffset := 0 },
      { name := "State", type := 39, offset := 40, embedded := false, tag := "", pkgPath := "", byteOffset := 40 },
      { name := "Created", type := 43, offset := 41, embedded := false, tag := "", pkgPath := "", byteOffset := 56 }] → (Array.mapM (m := Sem) (fun (f : Field) => do
      let __do_lift ← sizeOf f.type
      pure (f.offset, __do_lift)) fs).run Try.prog w = .ok #[(0, 40), (40, 1), (41, 3)] w := by
    intro fs h; subst h
    simp [Sem.run_bind, Try.sizeOf35, Try.sizeOf39, Try.sizeOf43, Result.andThen_ok]
  rw [hm _ rfl]
  simp only [Result.andThen_ok]
  rw [hf _ (by rfl) (by rfl) (by rfl) (by rfl)]
  rfl

/-! ### An operation's step, out of its run -/
section
variable {P : Program} {ops : Array Oper} {rest : List Oper} {op : Oper} {a : Act} {w w' : World} {Q : Exit → Act → World → Prop} {v : Value}
theorem wpList_value (hgd : op.guard = none) (hr : (execOp a.eval op).run P w = .ok (.value v) w') (h : wpList P ops Q rest (a.put op.dst v) w') : wpList P ops Q (op :: rest) a w :=
  wpList_plain hgd fun K hK => by
    unfold Oper.wp
    rw [hr]
    exact hK _ _ h
/-- A guard: the next operation is o. -/
theorem at_op (o : Op) (_ : op.op = o) (h : wpList P ops Q (op :: rest) a w) : wpList P ops Q (op :: rest) a w := h
theorem wpList_build2 (hgd : op.guard = none) (t : TypeId) (i1 i2 : Nat) (x1 x2 : Operand) (ho : op.op = .build t #[(i1, x1), (i2, x2)]) (v1 v2 : Value) (h1 : a.eval x1 = v1) (h2 : a.eval x2 = v2)
    (hr : (Instr.build t #[(i1, v1), (i2, v2)]).run P w = .ok v w) (h : wpList P ops Q rest (a.put op.dst v) w) : wpList P ops Q (op :: rest) a w := by
  refine wpList_value hgd (v := v) (w' := w) ?_ h
  subst h1 h2
  simp only [execOp, ho, List.map_toArray, List.map_cons, List.map_nil, Sem.run_bind, hr, Result.andThen_ok, Sem.run_pure]
end

end Go.Proofs.Qxb6631221a
