/-
  Weights as three ints; the small functions of the road, each by a contract.
-/
import Derived.Test.Qxb6631249aFmtRows
import Derived.Test.Qxb6631249aFmtFacts
import Derived.WalkKit
import Derived.WalkSpells
import Derived.Deep.RegionHeld3
import Derived.BigQuiet
import Derived.Deep.QuietTactic
namespace Go.Proofs.Qxb6631249aFmt
open Go.RowKit
set_option linter.unusedSimpArgs false

/-- A weight: three ints. -/
structure Wt where
  u : Int
  s : Int
  p : Int
/-- Its cells. -/
def Wt.a (x : Wt) : Array Value := #[.int .i64 x.u, .int .i64 x.s, .int .i64 x.p]
def Wt.add (x y : Wt) : Wt := ⟨wrap64 (x.u + y.u), wrap64 (x.s + y.s), wrap64 (x.p + y.p)⟩
def Wt.sub (x y : Wt) : Wt := ⟨wrap64 (x.u - y.u), wrap64 (x.s - y.s), wrap64 (x.p - y.p)⟩
def wi (h l : Wt) : Bool := decide (h.u ≤ l.u) && decide (h.p ≤ l.p)
/-- A limit's cells. -/
def limA (unit : ByteArray) (x : Wt) (b : Int) : Array Value := #[.string unit, .int .i64 x.u, .int .i64 x.s, .int .i64 x.p, .int .i64 b]
/-- A tally's cells. -/
def talA (x : Wt) (b : Int) : Array Value := #[.int .i64 x.u, .int .i64 x.s, .int .i64 x.p, .int .i64 b]

theorem below1 (w : World) (A : Obj) : Below w.heap.size w (w.alloc A) := ((Below.refl _ _).alloc (Nat.le_refl _) _)
theorem below2 (w : World) (A B : Obj) : Below w.heap.size w ((w.alloc A).alloc B) := (below1 w A).alloc (by simp) _
theorem below3 (w : World) (A B C : Obj) : Below w.heap.size w (((w.alloc A).alloc B).alloc C) := (below2 w A B).alloc (by simp; omega) _

set_option maxHeartbeats 400000 in
theorem toWeight (x : Wt) (w : World) : Calls Tryf.prog 7 #[.agg x.a] w fun e w' => e = .returned (.agg x.a) ∧ Below w.heap.size w w' := by
  obtain ⟨u, s, p⟩ := x
  show Calls Tryf.prog 7 #[.agg #[.int .i64 u, .int .i64 s, .int .i64 p]] w fun e w' => e = .returned (.agg #[.int .i64 u, .int .i64 s, .int .i64 p]) ∧ Below w.heap.size w w'
  go_enter Tryf.func7, Tryf.ntmps7
  go_wp2
  exact bodyPost_ret (v := .agg #[.int .i64 u, .int .i64 s, .int .i64 p]) (by simp [results, Tryf.results7, go_sem]) rfl ⟨rfl, below2 _ _ _⟩

set_option maxHeartbeats 400000 in
theorem addW (x y : Wt) (w : World) : Calls Tryf.prog 9 #[.agg x.a, .agg y.a] w fun e w' => e = .returned (.agg (x.add y).a) ∧ Below w.heap.size w w' := by
  obtain ⟨u, s, p⟩ := x
  obtain ⟨u', s', p'⟩ := y
  show Calls Tryf.prog 9 #[.agg #[.int .i64 u, .int .i64 s, .int .i64 p], .agg #[.int .i64 u', .int .i64 s', .int .i64 p']] w fun e w' => e = .returned (.agg #[.int .i64 (wrap64 (u + u')), .int .i64 (wrap64 (s + s')), .int .i64 (wrap64 (p + p'))]) ∧ Below w.heap.size w w'
  go_enter Tryf.func9, Tryf.ntmps9
  go_wp2
  exact bodyPost_ret (v := .agg #[.int .i64 (wrap64 (u + u')), .int .i64 (wrap64 (s + s')), .int .i64 (wrap64 (p + p'))]) (by simp [results, Tryf.results9, go_sem]) rfl ⟨rfl, below3 _ _ _ _⟩

set_option maxHeartbeats 400000 in
theorem subW (x y : Wt) (w : World) : Calls Tryf.prog 8 #[.agg x.a, .agg y.a] w fun e w' => e = .returned (.agg (x.sub y).a) ∧ Below w.heap.size w w' := by
  obtain ⟨u, s, p⟩ := x
  obtain ⟨u', s', p'⟩ := y
  show Calls Tryf.prog 8 #[.agg #[.int .i64 u, .int .i64 s, .int .i64 p], .agg #[.int .i64 u', .int .i64 s', .int .i64 p']] w fun e w' => e = .returned (.agg #[.int .i64 (wrap64 (u - u')), .int .i64 (wrap64 (s - s')), .int .i64 (wrap64 (p - p'))]) ∧ Below w.heap.size w w'
  go_enter Tryf.func8, Tryf.ntmps8
  go_wp2
  exact bodyPost_ret (v := .agg #[.int .i64 (wrap64 (u - u')), .int .i64 (wrap64 (s - s')), .int .i64 (wrap64 (p - p'))]) (by simp [results, Tryf.results8, go_sem]) rfl ⟨rfl, below3 _ _ _ _⟩

set_option maxHeartbeats 400000 in
theorem plus (x y : Wt) (w : World) : Calls Tryf.prog 16 #[.agg x.a, .agg y.a] w fun e w' => e = .returned (.agg (x.add y).a) ∧ Below w.heap.size w w' := by
  obtain ⟨u, s, p⟩ := x
  obtain ⟨u', s', p'⟩ := y
  show Calls Tryf.prog 16 #[.agg #[.int .i64 u, .int .i64 s, .int .i64 p], .agg #[.int .i64 u', .int .i64 s', .int .i64 p']] w fun e w' => e = .returned (.agg #[.int .i64 (wrap64 (u + u')), .int .i64 (wrap64 (s + s')), .int .i64 (wrap64 (p + p'))]) ∧ Below w.heap.size w w'
  go_enter Tryf.func16, Tryf.ntmps16
  go_wp2
  exact bodyPost_ret (v := .agg #[.int .i64 (wrap64 (u + u')), .int .i64 (wrap64 (s + s')), .int .i64 (wrap64 (p + p'))]) (by simp [results, Tryf.results16, go_sem]) rfl ⟨rfl, below3 _ _ _ _⟩

set_option maxHeartbeats 400000 in
theorem minus (x y : Wt) (w : World) : Calls Tryf.prog 17 #[.agg x.a, .agg y.a] w fun e w' => e = .returned (.agg (x.sub y).a) ∧ Below w.heap.size w w' := by
  obtain ⟨u, s, p⟩ := x
  obtain ⟨u', s', p'⟩ := y
  show Calls Tryf.prog 17 #[.agg #[.int .i64 u, .int .i64 s, .int .i64 p], .agg #[.int .i64 u', .int .i64 s', .int .i64 p']] w fun e w' => e = .returned (.agg #[.int .i64 (wrap64 (u - u')), .int .i64 (wrap64 (s - s')), .int .i64 (wrap64 (p - p'))]) ∧ Below w.heap.size w w'
  go_enter Tryf.func17, Tryf.ntmps17
  go_wp2
  exact bodyPost_ret (v := .agg #[.int .i64 (wrap64 (u - u')), .int .i64 (wrap64 (s - s')), .int .i64 (wrap64 (p - p'))]) (by simp [results, Tryf.results17, go_sem]) rfl ⟨rfl, below3 _ _ _ _⟩

set_option maxHeartbeats 400000 in
theorem within (x y : Wt) (w : World) : Calls Tryf.prog 10 #[.agg x.a, .agg y.a] w fun e w' => e = .returned (.bool (wi x y)) ∧ Below w.heap.size w w' := by
  obtain ⟨u, s, p⟩ := x
  obtain ⟨u', s', p'⟩ := y
  show Calls Tryf.prog 10 #[.agg #[.int .i64 u, .int .i64 s, .int .i64 p], .agg #[.int .i64 u', .int .i64 s', .int .i64 p']] w fun e w' => e = .returned (.bool (decide (u ≤ u') && decide (p ≤ p'))) ∧ Below w.heap.size w w'
  by_cases h1 : u ≤ u' <;> by_cases h2 : p ≤ p'
  all_goals
    go_enter Tryf.func10, Tryf.ntmps10
    go_wp2
    go_ret
    exact ⟨by simp [h1, h2], below2 _ _ _⟩

set_option maxHeartbeats 400000 in
theorem newLimit (unit : ByteArray) (x : Wt) (b : Int) (w : World) : Calls Tryf.prog 6 #[.string unit, .agg x.a, .int .i64 b] w fun e w' => e = .returned (.agg (limA unit x b)) ∧ Below w.heap.size w w' := by
  obtain ⟨u, s, p⟩ := x
  show Calls Tryf.prog 6 #[.string unit, .agg #[.int .i64 u, .int .i64 s, .int .i64 p], .int .i64 b] w fun e w' => e = .returned (.agg #[.string unit, .int .i64 u, .int .i64 s, .int .i64 p, .int .i64 b]) ∧ Below w.heap.size w w'
  go_enter Tryf.func6, Tryf.ntmps6
  go_wp2
  exact bodyPost_ret (v := .agg #[.string unit, .int .i64 u, .int .i64 s, .int .i64 p, .int .i64 b]) (by simp [results, Tryf.results6, go_sem]) rfl ⟨rfl, below2 _ _ _⟩

set_option maxHeartbeats 400000 in
theorem newTally (x : Wt) (b : Int) (w : World) : Calls Tryf.prog 11 #[.agg x.a, .int .i64 b] w fun e w' => ∃ bt, e = .returned (.pointer (some ⟨bt, 0, none⟩)) ∧ Below w.heap.size w w' ∧ w.heap.size ≤ bt ∧ w'.heap[bt]? = some (.cells (talA x b) 39) := by
  obtain ⟨u, s, p⟩ := x
  show Calls Tryf.prog 11 #[.agg #[.int .i64 u, .int .i64 s, .int .i64 p], .int .i64 b] w fun e w' => ∃ bt, e = .returned (.pointer (some ⟨bt, 0, none⟩)) ∧ Below w.heap.size w w' ∧ w.heap.size ≤ bt ∧ w'.heap[bt]? = some (.cells #[.int .i64 u, .int .i64 s, .int .i64 p, .int .i64 b] 39)
  go_enter Tryf.func11, Tryf.ntmps11
  go_wp2
  go_ret
  exact ⟨w.heap.size + 1, rfl, below2 _ _ _, by omega, heap_alloc2_new _ _ _⟩

set_option maxHeartbeats 400000 in
theorem tallyHeld (bt : Nat) (x : Wt) (b : Int) (w : World) (hr : w.heap[bt]? = some (.cells (talA x b) 39)) : Calls Tryf.prog 20 #[.pointer (some ⟨bt, 0, none⟩)] w fun e w' => e = .returned (.agg x.a) ∧ Below w.heap.size w w' := by
  obtain ⟨u, s, p⟩ := x
  have hb : bt < w.heap.size := (Array.getElem?_eq_some_iff.1 hr).1
  have c0 : w.cell? ⟨bt, 0, none⟩ = some (.int .i64 u) := cell_of_row w bt 0 _ 39 (0, 0) hr
  have c1 : w.cell? ⟨bt, 1, none⟩ = some (.int .i64 s) := cell_of_row w bt 1 _ 39 (0, 0) hr
  have c2 : w.cell? ⟨bt, 2, none⟩ = some (.int .i64 p) := cell_of_row w bt 2 _ 39 (0, 0) hr
  clear hr
  show Calls Tryf.prog 20 #[.pointer (some ⟨bt, 0, none⟩)] w fun e w' => e = .returned (.agg #[.int .i64 u, .int .i64 s, .int .i64 p]) ∧ Below w.heap.size w w'
  go_enter Tryf.func20, Tryf.ntmps20
  go_wp2
  exact bodyPost_ret (v := .agg #[.int .i64 u, .int .i64 s, .int .i64 p]) (by simp [results, Tryf.results20, go_sem]) rfl ⟨rfl, below1 _ _⟩

set_option maxHeartbeats 400000 in
theorem tallyBuilt (bt : Nat) (x : Wt) (b : Int) (w : World) (hr : w.heap[bt]? = some (.cells (talA x b) 39)) : Calls Tryf.prog 21 #[.pointer (some ⟨bt, 0, none⟩)] w fun e w' => e = .returned (.int .i64 b) ∧ Below w.heap.size w w' := by
  have hb : bt < w.heap.size := (Array.getElem?_eq_some_iff.1 hr).1
  have c3 : w.cell? ⟨bt, 3, none⟩ = some (.int .i64 b) := cell_of_row w bt 3 _ 39 (0, 0) hr
  clear hr
  go_enter Tryf.func21, Tryf.ntmps21
  go_wp2
  go_ret
  exact ⟨rfl, Below.refl _ _⟩

set_option maxHeartbeats 400000 in
/-- sameW, where the two are one. -/
theorem sameW (x : Wt) (w : World) : Calls Tryf.prog 19 #[.agg x.a, .agg x.a] w fun e w' => e = .returned (.bool true) ∧ Below w.heap.size w w' := by
  obtain ⟨u, s, p⟩ := x
  show Calls Tryf.prog 19 #[.agg #[.int .i64 u, .int .i64 s, .int .i64 p], .agg #[.int .i64 u, .int .i64 s, .int .i64 p]] w fun e w' => e = .returned (.bool true) ∧ Below w.heap.size w w'
  go_enter Tryf.func19, Tryf.ntmps19
  go_wp2
  go_ret
  exact ⟨rfl, below2 _ _ _⟩

/-- A bool came back. -/
def AnsB (e : Ending) : Prop := ∃ r, e = .returned (.bool r)
theorem AnsB.mk (r : Bool) : AnsB (.returned (.bool r)) := ⟨r, rfl⟩

set_option maxHeartbeats 400000 in
theorem bytes5 (v0 v2 v3 v4 v5 v7 : Array Value) (b lb : Int) (unit : ByteArray) (w : World) :
    Calls Tryf.prog 5 #[.agg v0, .int .i64 b, .agg v2, .agg v3, .agg v4, .agg v5, .string unit, .agg v7, .int .i64 lb] w fun e w' => AnsB e ∧ Below w.heap.size w w' := by
  go_enter Tryf.func5, Tryf.ntmps5
  go_wp2
  all_goals
    go_ret
    exact ⟨AnsB.mk _, by repeat (first | exact Below.refl _ _ | refine Below.alloc ?_ (by first | omega | (simp only [World.size_alloc]; omega)) _)⟩

set_option maxHeartbeats 400000 in
theorem bytes15 (v0 v2 v3 v5 : Array Value) (b lb : Int) (unit : ByteArray) (w : World) :
    Calls Tryf.prog 15 #[.agg v0, .int .i64 b, .agg v2, .agg v3, .string unit, .agg v5, .int .i64 lb] w fun e w' => AnsB e ∧ Below w.heap.size w w' := by
  go_enter Tryf.func15, Tryf.ntmps15
  go_wp2
  all_goals
    go_ret
    exact ⟨AnsB.mk _, by repeat (first | exact Below.refl _ _ | refine Below.alloc ?_ (by first | omega | (simp only [World.size_alloc]; omega)) _)⟩

end Go.Proofs.Qxb6631249aFmt
