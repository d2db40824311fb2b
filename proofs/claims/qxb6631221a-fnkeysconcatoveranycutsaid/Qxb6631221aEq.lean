/-
  '==' on arrays of bytes and on a Key, of a value with itself: with no unrolling.
-/
import Derived.Test.Qxb6631221aKit
import Derived.ChangeKeysEq
namespace Go.Proofs.Qxb6631221a
open Go.RowKit

/-- A byte's cell. -/
def IsByte (v : Value) : Prop := ∃ n : Int, v = .int .u8 n
theorem IsByte.one {v : Value} (h : IsByte v) : v.oneCell' = true := by obtain ⟨n, rfl⟩ := h; rfl

theorem plain5 : Try.prog.plainKey 5 = true := by kernel_rfl
theorem cells5 : Try.prog.cellsOf 5 = 1 := by kernel_rfl

theorem eqItems_self (d : Nat) (xs : Array Value) (w : World) : ∀ is : List Nat, (∀ i ∈ is, ∃ v, xs[i]? = some v ∧ IsByte v) → (Op.eqItems (d + 1) 5 1 xs xs is).run Try.prog w = .ok true w
  | [], _ => by simp [Op.eqItems]
  | i :: is, h => by
    obtain ⟨v, hv, n, rfl⟩ := h i (by simp)
    have ih := eqItems_self d xs w is (fun j hj => h j (by simp [hj]))
    have hp : (part 5 xs (i * 1)).run Try.prog w = .ok (.int .u8 n) w := run_part_plain w plain5 (by simpa using hv)
    simp only [Op.eqItems, Sem.run_bind, hp, Result.andThen_ok, run_equalIn_int w d 5 .u8 .u8 n n Try.underlying5]
    simpa using ih

theorem equal_array (d t n : Nat) (xs : Array Value) (w : World) (hu : Try.prog.underlying t = some (.array n 5)) (hs : xs.size = n) (hx : ∀ v ∈ xs.toList, IsByte v) : (Op.equalIn (d + 2) t (.agg xs) (.agg xs)).run Try.prog w = .ok true w := by
  have hi : ∃ i, Try.prog.info? 5 = some i := by
    cases h : Try.prog.info? 5 with
    | none => have := cells5; simp [Program.cellsOf, h] at this
    | some i => exact ⟨i, rfl⟩
  obtain ⟨i, hi⟩ := hi
  rw [run_equalIn_array w (d + 1) xs xs hu hi, cells5]
  refine eqItems_self d xs w _ fun j hj => ?_
  have hj' : j < xs.size := by simpa [hs] using hj
  exact ⟨xs[j], by simp [hj'], hx _ (by simp)⟩

theorem neq24 (l : List Value) (hl : l.length = 32) (hx : ∀ v ∈ l, IsByte v) (w : World) : (binOp .neq 24 (.agg l.toArray) (.agg l.toArray)).run Try.prog w = .ok (.bool false) w := by
  rw [run_neq_struct, equal_array 9998 24 32 l.toArray w Try.underlying24 (by simpa using hl) (by simpa using hx)]
  rfl
theorem neq33 (l : List Value) (hl : l.length = 8) (hx : ∀ v ∈ l, IsByte v) (w : World) : (binOp .neq 33 (.agg l.toArray) (.agg l.toArray)).run Try.prog w = .ok (.bool false) w := by
  rw [run_neq_struct, equal_array 9998 33 8 l.toArray w Try.underlying33 (by simpa using hl) (by simpa using hx)]
  rfl
theorem eqFields_step {P : Program} (d : Nat) (xs : Array Value) (f : Field) (fs : List Field) (a : Value) (w : World) (hn : f.name ≠ "_") (hp : (part f.type xs f.offset).run P w = .ok a w) (he : (Op.equalIn d f.type a a).run P w = .ok true w) (h : (Op.eqFields d xs xs fs).run P w = .ok true w) : (Op.eqFields d xs xs (f :: fs)).run P w = .ok true w := by
  unfold Op.eqFields
  rw [if_pos hn]
  simp only [Sem.run_bind, hp, he, Result.andThen_ok]
  simpa using h
theorem eqFields_none {P : Program} (d : Nat) (xs : Array Value) (w : World) : (Op.eqFields d xs xs []).run P w = .ok true w := by
  unfold Op.eqFields
  rfl
theorem eqFields35 (d : Nat) (l : List Value) (hl : l.length = 40) (hx : ∀ v ∈ l, IsByte v) (w : World) (pk : String) : (Op.eqFields (d + 2) l.toArray l.toArray [{ name := "bytes", type := 24, offset := 0, embedded := false, tag := "", pkgPath := pk, byteOffset := 0 },
      { name := "id", type := 33, offset := 32, embedded := false, tag := "", pkgPath := pk, byteOffset := 32 }]).run Try.prog w = .ok true w := by
  have e1 : (Op.equalIn (d + 2) 24 (.agg (l.toArray.extract 0 (0 + 32))) (.agg (l.toArray.extract 0 (0 + 32)))).run Try.prog w = .ok true w :=
    equal_array d 24 32 _ w Try.underlying24 (by simp [hl]) (fun v hv => hx v (by simp at hv; exact List.mem_of_mem_take hv))
  have e2 : (Op.equalIn (d + 2) 33 (.agg (l.toArray.extract 32 (32 + 8))) (.agg (l.toArray.extract 32 (32 + 8)))).run Try.prog w = .ok true w :=
    equal_array d 33 8 _ w Try.underlying33 (by simp [hl]) (fun v hv => hx v (by simp at hv; exact List.mem_of_mem_drop (List.mem_of_mem_take hv)))
  have p1 : (part 24 l.toArray 0).run Try.prog w = .ok (.agg (l.toArray.extract 0 (0 + 32))) w := by
    unfold part; simp only [Sem.run_bind, Try.isAgg24, Try.sizeOf24, Result.andThen_ok, if_true, Sem.run_pure]
  have p2 : (part 33 l.toArray 32).run Try.prog w = .ok (.agg (l.toArray.extract 32 (32 + 8))) w := by
    unfold part; simp only [Sem.run_bind, Try.isAgg33, Try.sizeOf33, Result.andThen_ok, if_true, Sem.run_pure]
  exact eqFields_step _ _ _ _ _ w (show ("bytes" : String) ≠ "_" by decide) p1 e1 (eqFields_step _ _ _ _ _ w (show ("id" : String) ≠ "_" by decide) p2 e2 (eqFields_none _ _ w))
theorem fields35 : ∃ pk : String, (Try.prog.fieldsOf 35).toList = [{ name := "bytes", type := 24, offset := 0, embedded := false, tag := "", pkgPath := pk, byteOffset := 0 },
      { name := "id", type := 33, offset := 32, embedded := false, tag := "", pkgPath := pk, byteOffset := 32 }] := by
  unfold Program.fieldsOf; rw [Try.underlying35]; exact ⟨_, rfl⟩
theorem equal35 (d : Nat) (l : List Value) (hl : l.length = 40) (hx : ∀ v ∈ l, IsByte v) (w : World) : (Op.equalIn (d + 3) 35 (.agg l.toArray) (.agg l.toArray)).run Try.prog w = .ok true w := by
  obtain ⟨pk, hf⟩ := fields35
  rw [run_equalIn_struct w (d + 2) 35 _ _ (by kernel_rfl) (by kernel_rfl), hf]
  exact eqFields35 d l hl hx w pk
theorem neq35 (l : List Value) (hl : l.length = 40) (hx : ∀ v ∈ l, IsByte v) (w : World) : (binOp .neq 35 (.agg l.toArray) (.agg l.toArray)).run Try.prog w = .ok (.bool false) w := by
  rw [run_neq_struct, equal35 9997 l hl hx w]
  rfl
end Go.Proofs.Qxb6631221a
