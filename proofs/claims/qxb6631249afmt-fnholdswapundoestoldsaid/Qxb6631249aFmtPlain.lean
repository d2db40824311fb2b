/-
  The plain laws: weights with int's own wrap. No Go in sight but for the names.
-/
import Derived.Test.Qxb6631249aFmtIs
namespace Go.Proofs.Qxb6631249aFmt
open Go.RowKit Go.Extern.Stop Go.Stop Go.Extern

/-- Within int's range. -/
def InR (x : Int) : Prop := -9223372036854775808 ≤ x ∧ x ≤ 9223372036854775807
theorem wrap_back (s a b : Int) (h : InR s) : wrap64 (wrap64 (wrap64 (wrap64 (s + a) - b) + b) - a) = s := by
  obtain ⟨_, _⟩ := h
  unfold wrap64
  omega
theorem Wt.swap_back (x y z : Wt) (hu : InR x.u) (hs : InR x.s) (hp : InR x.p) : (((x.add y).sub z).add z).sub y = x := by
  obtain ⟨u, s, p⟩ := x
  simp only [Wt.add, Wt.sub]
  rw [wrap_back u y.u z.u hu, wrap_back s y.s z.s hs, wrap_back p y.p z.p hp]
theorem wrap_sum (s a b c d : Int) : wrap64 (wrap64 (s + wrap64 (a + c)) - wrap64 (b + d)) = wrap64 (wrap64 (wrap64 (wrap64 (s + a) - b) + c) - d) := by
  unfold wrap64
  omega
theorem Wt.script (x a b c d : Wt) : (x.add (a.add c)).sub (b.add d) = (((x.add a).sub b).add c).sub d := by
  simp only [Wt.add, Wt.sub]
  rw [wrap_sum, wrap_sum, wrap_sum]
theorem wrap_built (s a b c d : Int) : wrap64 (wrap64 (s + wrap64 (b + d)) + wrap64 (a + c)) = wrap64 (wrap64 (wrap64 (wrap64 (s + b) + a) + d) + c) := by
  unfold wrap64
  omega
/-- The two texts are not empty: what fmt's told texts give. -/
def Full (F : Interp) (unit : ByteArray) (l : Wt) : Prop := (txt2 F l.u unit).toList.isEmpty = false ∧ (txt1 F l.p).toList.isEmpty = false
theorem passed_no {F : Interp} {unit : ByteArray} {l h : Wt} (hf : Full F unit l) (hw : wi h l = false) : (passed F unit l h).toList.isEmpty = false := by
  unfold passed
  by_cases h1 : l.u < h.u
  · rw [if_pos h1]; exact hf.1
  · by_cases h2 : l.p < h.p
    · rw [if_neg h1, if_pos h2]; exact hf.2
    · simp [wi] at hw; omega
theorem passed_yes {F : Interp} {unit : ByteArray} {l h : Wt} (hw : wi h l = true) : passed F unit l h = ByteArray.empty := by
  simp [wi] at hw
  unfold passed
  rw [if_neg (by omega), if_neg (by omega)]

/-- The variables of a walk: each in a block of its own. -/
def Env (W : World) : List (Nat × Array Value × TypeId) → Prop
  | [] => True
  | (b, c, t) :: l => W.heap[b]? = some (.cells c t (0, 0)) ∧ Env W l
theorem Env.below {W W' : World} (h : Below W.heap.size W W') : ∀ {l : List (Nat × Array Value × TypeId)}, Env W l → Env W' l
  | [], _ => trivial
  | (b, _, _) :: _, ⟨h1, h2⟩ => ⟨(h.block b (Array.getElem?_eq_some_iff.1 h1).1).trans h1, h2.below h⟩
theorem Env.other {bt : Nat} {W W' : World} (h : Other bt W W') : ∀ {l : List (Nat × Array Value × TypeId)}, (∀ p ∈ l, p.1 ≠ bt) → Env W l → Env W' l
  | [], _, _ => trivial
  | (b, c, t) :: _, hn, ⟨h1, h2⟩ => ⟨(h.block b (Array.getElem?_eq_some_iff.1 h1).1 (hn (b, c, t) (by simp))).trans h1, h2.other h (fun p hp => hn p (by simp [hp]))⟩
theorem below_other {B bt : Nat} {w W W' : World} (h : Below B w W) (k : Other bt W W') (hb : B ≤ bt) (hs : B ≤ W.heap.size) : Below B w W' :=
  ⟨k.os.trans h.os, k.tape.trans h.tape, k.output.trans h.output, Nat.le_trans h.size k.size, fun i hi => (k.block i (by omega) (by omega)).trans (h.block i hi)⟩
end Go.Proofs.Qxb6631249aFmt
