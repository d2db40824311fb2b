/-
  The plain laws of the second statement: halves swapped; the order of two clock texts is the order of their minutes.
-/
import Derived.Test.Qxb6631293aFmtSmall
namespace Go.Proofs.Qxb6631293aFmt
open Go.RowKit Go.Extern.Stop Go.Stop Go.Extern

/-- Eleven bytes that are a window's text. -/
def Acc (z : Nat → Int) : Prop := z 5 = 45 ∧ Clk z 0 ∧ Clk z 6
/-- The halves swapped. -/
def swz (z : Nat → Int) : Nat → Int := fun j => if j < 5 then z (6 + j) else if j = 5 then z 5 else z (j - 6)

theorem swz_clk0 (z : Nat → Int) : Clk (swz z) 0 ↔ Clk z 6 := by simp [Clk, swz]
theorem swz_clk6 (z : Nat → Int) : Clk (swz z) 6 ↔ Clk z 0 := by simp [Clk, swz]
theorem swz_five (z : Nat → Int) : swz z 5 = z 5 := by simp [swz]
theorem swz_acc (z : Nat → Int) : Acc (swz z) ↔ Acc z := by
  rw [Acc, Acc, swz_clk0, swz_clk6, swz_five]
  exact ⟨fun ⟨a, b, c⟩ => ⟨a, c, b⟩, fun ⟨a, b, c⟩ => ⟨a, c, b⟩⟩
theorem swz_min0 (z : Nat → Int) : cmI (swz z) 0 = cmI z 6 := by
  have e : minute (swz z) 0 = minute z 6 := by simp [minute, swz]
  unfold cmI
  rw [e]
  by_cases h : Clk z 6
  · rw [if_pos h, if_pos ((swz_clk0 z).2 h)]
  · rw [if_neg h, if_neg (fun k => h ((swz_clk0 z).1 k))]
theorem swz_min6 (z : Nat → Int) : cmI (swz z) 6 = cmI z 0 := by
  have e : minute (swz z) 6 = minute z 0 := by simp [minute, swz]
  unfold cmI
  rw [e]
  by_cases h : Clk z 0
  · rw [if_pos h, if_pos ((swz_clk6 z).2 h)]
  · rw [if_neg h, if_neg (fun k => h ((swz_clk6 z).1 k))]
theorem cmI_range (z : Nat → Int) (p : Nat) : 0 ≤ cmI z p ∧ cmI z p < 1440 := by
  unfold cmI
  split
  · rename_i h
    obtain ⟨h2, ⟨a0, b0⟩, ⟨a1, b1⟩, ⟨a3, b3⟩, ⟨a4, b4⟩, hh, hm⟩ := h
    unfold minute
    omega
  · omega

theorem cmp_sign (z : Nat → Int) (h : Acc z) : sgn (cmI z 0 - cmI z 6) = cmp z 0 := by
  obtain ⟨_, h0, h6⟩ := h
  rw [cmI, cmI, if_pos h0, if_pos h6]
  obtain ⟨p2, ⟨a0, b0⟩, ⟨a1, b1⟩, ⟨a3, b3⟩, ⟨a4, b4⟩, hh, hm⟩ := h0
  obtain ⟨q2, ⟨c0, d0⟩, ⟨c1, d1⟩, ⟨c3, d3⟩, ⟨c4, d4⟩, gh, gm⟩ := h6
  have e5 : cmp z 5 = 0 := by rw [cmp, if_neg (by omega)]
  have e4 : cmp z 4 = if z 4 < z 10 then -1 else if z 10 < z 4 then 1 else cmp z 5 := by rw [cmp, if_pos (by omega)]
  have e3 : cmp z 3 = if z 3 < z 9 then -1 else if z 9 < z 3 then 1 else cmp z 4 := by rw [cmp, if_pos (by omega)]
  have e2 : cmp z 2 = if z 2 < z 8 then -1 else if z 8 < z 2 then 1 else cmp z 3 := by rw [cmp, if_pos (by omega)]
  have e1 : cmp z 1 = if z 1 < z 7 then -1 else if z 7 < z 1 then 1 else cmp z 2 := by rw [cmp, if_pos (by omega)]
  have e0 : cmp z 0 = if z 0 < z 6 then -1 else if z 6 < z 0 then 1 else cmp z 1 := by rw [cmp, if_pos (by omega)]
  unfold minute
  simp only [Nat.zero_add, Nat.reduceAdd] at *
  have hneg : ∀ x : Int, x < 0 → sgn x = -1 := fun x h => by rw [sgn, if_pos h]
  have hpos : ∀ x : Int, 0 < x → sgn x = 1 := fun x h => by rw [sgn, if_neg (by omega), if_pos h]
  have hzero : ∀ x : Int, x = 0 → sgn x = 0 := fun x h => by rw [sgn, if_neg (by omega), if_neg (by omega)]
  rw [e0]
  by_cases l0 : z 0 < z 6
  · rw [if_pos l0]; exact hneg _ (by omega)
  rw [if_neg l0]
  by_cases g0 : z 6 < z 0
  · rw [if_pos g0]; exact hpos _ (by omega)
  rw [if_neg g0, e1]
  by_cases l1 : z 1 < z 7
  · rw [if_pos l1]; exact hneg _ (by omega)
  rw [if_neg l1]
  by_cases g1 : z 7 < z 1
  · rw [if_pos g1]; exact hpos _ (by omega)
  rw [if_neg g1, e2, if_neg (by omega), if_neg (by omega), e3]
  by_cases l3 : z 3 < z 9
  · rw [if_pos l3]; exact hneg _ (by omega)
  rw [if_neg l3]
  by_cases g3 : z 9 < z 3
  · rw [if_pos g3]; exact hpos _ (by omega)
  rw [if_neg g3, e4]
  by_cases l4 : z 4 < z 10
  · rw [if_pos l4]; exact hneg _ (by omega)
  rw [if_neg l4]
  by_cases g4 : z 10 < z 4
  · rw [if_pos g4]; exact hpos _ (by omega)
  rw [if_neg g4, e5]
  exact hzero _ (by omega)
end Go.Proofs.Qxb6631293aFmt
