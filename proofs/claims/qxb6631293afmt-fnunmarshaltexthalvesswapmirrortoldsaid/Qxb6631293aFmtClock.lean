/-
  clockMinute: the minute that five bytes say, or none.
-/
import Derived.Test.Qxb6631293aFmtErr
import Derived.Deep.RegionHeld3
import Derived.Deep.WholeRow
import Derived.BigQuiet
import Derived.RegionTactic
import Derived.Deep.QuietTactic
import Derived.Deep.CutRange
namespace Go.Proofs.Qxb6631293aFmt
open Go.RowKit
set_option linter.unusedSimpArgs false

/-- A digit's byte. -/
def IsD (c : Int) : Prop := 48 ≤ c ∧ c ≤ 57
instance (c : Int) : Decidable (IsD c) := by unfold IsD; infer_instance
/-- The bytes from p on are a clock's text. -/
def Clk (z : Nat → Int) (p : Nat) : Prop :=
  z (p + 2) = 58 ∧ IsD (z p) ∧ IsD (z (p + 1)) ∧ IsD (z (p + 3)) ∧ IsD (z (p + 4)) ∧ (z p - 48) * 10 + (z (p + 1) - 48) ≤ 23 ∧ (z (p + 3) - 48) * 10 + (z (p + 4) - 48) ≤ 59
instance (z : Nat → Int) (p : Nat) : Decidable (Clk z p) := by unfold Clk; infer_instance
def minute (z : Nat → Int) (p : Nat) : Int := ((z p - 48) * 10 + (z (p + 1) - 48)) * 60 + ((z (p + 3) - 48) * 10 + (z (p + 4) - 48))
/-- What clockMinute answers. -/
def cmI (z : Nat → Int) (p : Nat) : Int := if Clk z p then minute z p else 0
def cmA (z : Nat → Int) (p : Nat) : Value := .tuple #[.int .i64 (cmI z p), .bool (decide (Clk z p))]

/-- n bytes lie there. -/
def Lies (w : World) (b off n : Nat) (z : Nat → Int) : Prop := ∀ j, j < n → w.cell? ⟨b, off + j, none⟩ = some (.int .u8 (z j))
def Byt (z : Nat → Int) : Prop := ∀ j, 0 ≤ z j ∧ z j < 256

/-- The four digits, the first k written. -/
def Dg (z : Nat → Int) (k : Nat) : Array Value :=
  #[.int .i64 (if 0 < k then z 0 - 48 else 0), .int .i64 (if 1 < k then z 1 - 48 else 0), .int .i64 (if 2 < k then z 3 - 48 else 0), .int .i64 (if 3 < k then z 4 - 48 else 0)]

def spots : Value := .agg #[.int .i64 0, .int .i64 1, .int .i64 3, .int .i64 4]
theorem spot0 (w : World) : (Instr.index 41 (.agg #[.int .i64 0, .int .i64 1, .int .i64 3, .int .i64 4]) (.int .i64 0)).run Tryf.prog w = .ok (.int .i64 0) w := by kernel_rfl
theorem spot1 (w : World) : (Instr.index 41 (.agg #[.int .i64 0, .int .i64 1, .int .i64 3, .int .i64 4]) (.int .i64 1)).run Tryf.prog w = .ok (.int .i64 1) w := by kernel_rfl
theorem spot2 (w : World) : (Instr.index 41 (.agg #[.int .i64 0, .int .i64 1, .int .i64 3, .int .i64 4]) (.int .i64 2)).run Tryf.prog w = .ok (.int .i64 3) w := by kernel_rfl
theorem spot3 (w : World) : (Instr.index 41 (.agg #[.int .i64 0, .int .i64 1, .int .i64 3, .int .i64 4]) (.int .i64 3)).run Tryf.prog w = .ok (.int .i64 4) w := by kernel_rfl
attribute [local go_sem] spot0 spot1 spot2 spot3

theorem cm_no {z : Nat → Int} {p : Nat} (h : ¬ Clk z p) : cmA z p = .tuple #[.int .i64 0, .bool false] := by simp [cmA, cmI, h]
theorem cm_yes {z : Nat → Int} {p : Nat} (h : Clk z p) : cmA z p = .tuple #[.int .i64 (minute z p), .bool true] := by simp [cmA, cmI, h]

set_option maxHeartbeats 2000000 in
theorem clockC (b off cap : Nat) (z : Nat → Int) (w : World) (hl : Lies w b off 5 z) :
    Calls Tryf.prog 15 #[.slice (some ⟨b, off, none⟩) 5 cap] w fun e w' => e = .returned (cmA z 0) ∧ Below w.heap.size w w' := by
  have c0 := hl 0 (by omega)
  have c1 := hl 1 (by omega)
  have c2 := hl 2 (by omega)
  have c3 := hl 3 (by omega)
  have c4 := hl 4 (by omega)
  rw [Nat.add_zero] at c0
  by_cases h2 : z 2 = 58
  · have h2' : (z 2 == 58) = true := by simpa using h2
    have hbw : b < w.heap.size := World.block_lt_of_cell? w _ c0
    go_enter Tryf.func15, Tryf.ntmps15
    go_wp2
    go_loopw [14] (fun i wr => ∃ k : Nat, k ≤ 4 ∧ i = .int .i64 k ∧ Below w.heap.size w wr ∧ wr.heap[w.heap.size]? = some (.cells (Dg z k) 41) ∧ (0 < k → IsD (z 0)) ∧ (1 < k → IsD (z 1)) ∧ (2 < k → IsD (z 3)) ∧ (3 < k → IsD (z 4))) (fun i _ => 4 - (intOf i).toNat)
    case atStart => exact ⟨0, Nat.zero_le _, rfl, (Below.refl _ _).alloc (Nat.le_refl _) _, heap_alloc_new w _, by omega, by omega, by omega, by omega⟩
    case round =>
      obtain ⟨k, hk, rfl, hbel, hrow, d0, d1, d3, d4⟩ := hrel
      have e0 : wr.cell? ⟨b, off, none⟩ = _ := (hbel.cell (p := ⟨b, off, none⟩) hbw).trans c0
      have e1 : wr.cell? ⟨b, off + 1, none⟩ = _ := (hbel.cell (p := ⟨b, off + 1, none⟩) hbw).trans c1
      have e3 : wr.cell? ⟨b, off + 3, none⟩ = _ := (hbel.cell (p := ⟨b, off + 3, none⟩) hbw).trans c3
      have e4 : wr.cell? ⟨b, off + 4, none⟩ = _ := (hbel.cell (p := ⟨b, off + 4, none⟩) hbw).trans c4
      rcases (by omega : k = 0 ∨ k = 1 ∨ k = 2 ∨ k = 3 ∨ k = 4) with rfl | rfl | rfl | rfl | rfl
      · have hcl : wr.cell? ⟨w.heap.size, 0, none⟩ = some (.int .i64 0) := by rw [cell_of_row _ _ _ _ _ _ hrow]; rfl
        have hfz : wr.frozen? ⟨w.heap.size, 0, none⟩ = false := frozen_of_row _ _ _ _ _ hrow
        by_cases hd : IsD (z 0)
        · have g1 : ¬ z 0 < 48 := by have := hd.1; omega
          have g2 : ¬ 57 < z 0 := by have := hd.2; omega
          have g3 : decide (z 0 < 48) = false := by simpa using hd.1
          have g4 : (0 : Int) ≤ z 0 - 48 := by have := hd.1; omega
          have g5 : z 0 - 48 < 256 := by have := hd.2; omega
          have hset := heap_setCell_same wr w.heap.size 0 _ 41 (.int .i64 (z 0 - 48)) hrow
          have hD : (Dg z 0).setIfInBounds 0 (.int .i64 (z 0 - 48)) = Dg z 1 := by simp [Dg]
          rw [hD] at hset
          have hbs : Below w.heap.size w (wr.setCell ⟨w.heap.size, 0, none⟩ (.int .i64 (z 0 - 48))) := hbel.setCell (Nat.le_refl _) _
          go_wp2
          exact ⟨⟨1, by omega, rfl, hbs, hset, fun _ => hd, by omega, by omega, by omega⟩, by simp [intOf]⟩
        · have hn : ¬ Clk z 0 := fun h => hd (by obtain ⟨_, i0, i1, i3, i4, _⟩ := h; simpa using i0)
          by_cases g1 : z 0 < 48
          · have g3 : decide (z 0 < 48) = true := by simpa using g1
            go_wp2
            exact bodyPost_ret (v := .tuple #[.int .i64 0, .bool false]) (by simp [results, Tryf.results15, go_sem]) rfl ⟨by rw [cm_no hn], hbel⟩
          · have g2 : 57 < z 0 := by simp only [IsD] at hd; omega
            have g3 : decide (z 0 < 48) = false := by simpa using g1
            go_wp2
            exact bodyPost_ret (v := .tuple #[.int .i64 0, .bool false]) (by simp [results, Tryf.results15, go_sem]) rfl ⟨by rw [cm_no hn], hbel⟩
      · have hcl : wr.cell? ⟨w.heap.size, 1, none⟩ = some (.int .i64 0) := by rw [cell_of_row _ _ _ _ _ _ hrow]; rfl
        have hfz : wr.frozen? ⟨w.heap.size, 1, none⟩ = false := frozen_of_row _ _ _ _ _ hrow
        by_cases hd : IsD (z 1)
        · have g1 : ¬ z 1 < 48 := by have := hd.1; omega
          have g2 : ¬ 57 < z 1 := by have := hd.2; omega
          have g3 : decide (z 1 < 48) = false := by simpa using hd.1
          have g4 : (0 : Int) ≤ z 1 - 48 := by have := hd.1; omega
          have g5 : z 1 - 48 < 256 := by have := hd.2; omega
          have hset := heap_setCell_same wr w.heap.size 1 _ 41 (.int .i64 (z 1 - 48)) hrow
          have hD : (Dg z 1).setIfInBounds 1 (.int .i64 (z 1 - 48)) = Dg z 2 := by simp [Dg]
          rw [hD] at hset
          have hbs : Below w.heap.size w (wr.setCell ⟨w.heap.size, 1, none⟩ (.int .i64 (z 1 - 48))) := hbel.setCell (Nat.le_refl _) _
          go_wp2
          exact ⟨⟨2, by omega, rfl, hbs, hset, fun _ => d0 (by omega), fun _ => hd, by omega, by omega⟩, by simp [intOf]⟩
        · have hn : ¬ Clk z 0 := fun h => hd (by obtain ⟨_, i0, i1, i3, i4, _⟩ := h; simpa using i1)
          by_cases g1 : z 1 < 48
          · have g3 : decide (z 1 < 48) = true := by simpa using g1
            go_wp2
            exact bodyPost_ret (v := .tuple #[.int .i64 0, .bool false]) (by simp [results, Tryf.results15, go_sem]) rfl ⟨by rw [cm_no hn], hbel⟩
          · have g2 : 57 < z 1 := by simp only [IsD] at hd; omega
            have g3 : decide (z 1 < 48) = false := by simpa using g1
            go_wp2
            exact bodyPost_ret (v := .tuple #[.int .i64 0, .bool false]) (by simp [results, Tryf.results15, go_sem]) rfl ⟨by rw [cm_no hn], hbel⟩
      · have hcl : wr.cell? ⟨w.heap.size, 2, none⟩ = some (.int .i64 0) := by rw [cell_of_row _ _ _ _ _ _ hrow]; rfl
        have hfz : wr.frozen? ⟨w.heap.size, 2, none⟩ = false := frozen_of_row _ _ _ _ _ hrow
        by_cases hd : IsD (z 3)
        · have g1 : ¬ z 3 < 48 := by have := hd.1; omega
          have g2 : ¬ 57 < z 3 := by have := hd.2; omega
          have g3 : decide (z 3 < 48) = false := by simpa using hd.1
          have g4 : (0 : Int) ≤ z 3 - 48 := by have := hd.1; omega
          have g5 : z 3 - 48 < 256 := by have := hd.2; omega
          have hset := heap_setCell_same wr w.heap.size 2 _ 41 (.int .i64 (z 3 - 48)) hrow
          have hD : (Dg z 2).setIfInBounds 2 (.int .i64 (z 3 - 48)) = Dg z 3 := by simp [Dg]
          rw [hD] at hset
          have hbs : Below w.heap.size w (wr.setCell ⟨w.heap.size, 2, none⟩ (.int .i64 (z 3 - 48))) := hbel.setCell (Nat.le_refl _) _
          go_wp2
          exact ⟨⟨3, by omega, rfl, hbs, hset, fun _ => d0 (by omega), fun _ => d1 (by omega), fun _ => hd, by omega⟩, by simp [intOf]⟩
        · have hn : ¬ Clk z 0 := fun h => hd (by obtain ⟨_, i0, i1, i3, i4, _⟩ := h; simpa using i3)
          by_cases g1 : z 3 < 48
          · have g3 : decide (z 3 < 48) = true := by simpa using g1
            go_wp2
            exact bodyPost_ret (v := .tuple #[.int .i64 0, .bool false]) (by simp [results, Tryf.results15, go_sem]) rfl ⟨by rw [cm_no hn], hbel⟩
          · have g2 : 57 < z 3 := by simp only [IsD] at hd; omega
            have g3 : decide (z 3 < 48) = false := by simpa using g1
            go_wp2
            exact bodyPost_ret (v := .tuple #[.int .i64 0, .bool false]) (by simp [results, Tryf.results15, go_sem]) rfl ⟨by rw [cm_no hn], hbel⟩
      · have hcl : wr.cell? ⟨w.heap.size, 3, none⟩ = some (.int .i64 0) := by rw [cell_of_row _ _ _ _ _ _ hrow]; rfl
        have hfz : wr.frozen? ⟨w.heap.size, 3, none⟩ = false := frozen_of_row _ _ _ _ _ hrow
        by_cases hd : IsD (z 4)
        · have g1 : ¬ z 4 < 48 := by have := hd.1; omega
          have g2 : ¬ 57 < z 4 := by have := hd.2; omega
          have g3 : decide (z 4 < 48) = false := by simpa using hd.1
          have g4 : (0 : Int) ≤ z 4 - 48 := by have := hd.1; omega
          have g5 : z 4 - 48 < 256 := by have := hd.2; omega
          have hset := heap_setCell_same wr w.heap.size 3 _ 41 (.int .i64 (z 4 - 48)) hrow
          have hD : (Dg z 3).setIfInBounds 3 (.int .i64 (z 4 - 48)) = Dg z 4 := by simp [Dg]
          rw [hD] at hset
          have hbs : Below w.heap.size w (wr.setCell ⟨w.heap.size, 3, none⟩ (.int .i64 (z 4 - 48))) := hbel.setCell (Nat.le_refl _) _
          go_wp2
          exact ⟨⟨4, by omega, rfl, hbs, hset, fun _ => d0 (by omega), fun _ => d1 (by omega), fun _ => d3 (by omega), fun _ => hd⟩, by simp [intOf]⟩
        · have hn : ¬ Clk z 0 := fun h => hd (by obtain ⟨_, i0, i1, i3, i4, _⟩ := h; simpa using i4)
          by_cases g1 : z 4 < 48
          · have g3 : decide (z 4 < 48) = true := by simpa using g1
            go_wp2
            exact bodyPost_ret (v := .tuple #[.int .i64 0, .bool false]) (by simp [results, Tryf.results15, go_sem]) rfl ⟨by rw [cm_no hn], hbel⟩
          · have g2 : 57 < z 4 := by simp only [IsD] at hd; omega
            have g3 : decide (z 4 < 48) = false := by simpa using g1
            go_wp2
            exact bodyPost_ret (v := .tuple #[.int .i64 0, .bool false]) (by simp [results, Tryf.results15, go_sem]) rfl ⟨by rw [cm_no hn], hbel⟩
      · have D0 := d0 (by omega)
        have D1 := d1 (by omega)
        have D3 := d3 (by omega)
        have D4 := d4 (by omega)
        clear d0 d1 d3 d4
        obtain ⟨D0l, D0h⟩ := D0
        obtain ⟨D1l, D1h⟩ := D1
        obtain ⟨D3l, D3h⟩ := D3
        obtain ⟨D4l, D4h⟩ := D4
        have r0 : wr.cell? ⟨w.heap.size, 0, none⟩ = some (.int .i64 (z 0 - 48)) := by rw [cell_of_row _ _ _ _ _ _ hrow]; rfl
        have r1 : wr.cell? ⟨w.heap.size, 1, none⟩ = some (.int .i64 (z 1 - 48)) := by rw [cell_of_row _ _ _ _ _ _ hrow]; rfl
        have r2 : wr.cell? ⟨w.heap.size, 2, none⟩ = some (.int .i64 (z 3 - 48)) := by rw [cell_of_row _ _ _ _ _ _ hrow]; rfl
        have r3 : wr.cell? ⟨w.heap.size, 3, none⟩ = some (.int .i64 (z 4 - 48)) := by rw [cell_of_row _ _ _ _ _ _ hrow]; rfl
        go_wp2
        go_quiet (fail)
        have hbq : Below w.heap.size w (wr.drewN nq) := ⟨hbel.os, hbel.tape, hbel.output, hbel.size, hbel.block⟩
        by_cases hh : 23 < (z 0 - 48) * 10 + (z 1 - 48)
        · have hn : ¬ Clk z 0 := fun h => by have := h.2.2.2.2.2.1; simp only [Nat.zero_add] at this; omega
          have g3 : decide (23 < (z 0 - 48) * 10 + (z 1 - 48)) = true := by simpa using hh
          go_wp2
          exact bodyPost_ret (v := .tuple #[.int .i64 0, .bool false]) (by simp [results, Tryf.results15, go_sem]) rfl ⟨by rw [cm_no hn], hbq⟩
        · have g3 : decide (23 < (z 0 - 48) * 10 + (z 1 - 48)) = false := by simpa using hh
          by_cases hm : 59 < (z 3 - 48) * 10 + (z 4 - 48)
          · have hn : ¬ Clk z 0 := fun h => by have := h.2.2.2.2.2.2; simp only [Nat.zero_add] at this; omega
            go_wp2
            exact bodyPost_ret (v := .tuple #[.int .i64 0, .bool false]) (by simp [results, Tryf.results15, go_sem]) rfl ⟨by rw [cm_no hn], hbq⟩
          · have hy : Clk z 0 := by
              refine ⟨h2, ⟨D0l, D0h⟩, ⟨D1l, D1h⟩, ⟨D3l, D3h⟩, ⟨D4l, D4h⟩, ?_, ?_⟩
              · simp only [Nat.zero_add]; omega
              · simp only [Nat.zero_add]; omega
            go_wp2
            exact bodyPost_ret (v := .tuple #[.int .i64 (minute z 0), .bool true]) (by simp [results, Tryf.results15, go_sem, minute]) rfl ⟨by rw [cm_yes hy], hbq⟩
  · have h2' : (z 2 == 58) = false := by simpa using h2
    have hn : ¬ Clk z 0 := fun h => h2 (by simpa using h.1)
    go_enter Tryf.func15, Tryf.ntmps15
    go_wp2
    exact bodyPost_ret (v := .tuple #[.int .i64 0, .bool false]) (by simp [results, Tryf.results15, go_sem]) rfl ⟨by rw [cm_no hn], Below.refl _ _⟩
end Go.Proofs.Qxb6631293aFmt
