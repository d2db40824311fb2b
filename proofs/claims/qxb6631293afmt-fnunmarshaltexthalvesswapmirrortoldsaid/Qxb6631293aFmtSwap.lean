/-
  FnUnmarshalTextHalvesSwapMirror: the walk.
-/
import Derived.Test.Qxb6631293aFmtPlain
import Derived.Test.Qxb6631293aFmtMatch
namespace Go.Proofs.Qxb6631293aFmt
open Go.RowKit Go.Extern.Stop Go.Stop Go.Extern
set_option linter.unusedSimpArgs false

theorem unm_ref (F : Interp) (bw b off cap : Nat) (z : Nat → Int) (w : World) (hF : F.answers w.tape) (hl : Lies w b off 11 z) (hcap : 11 ≤ cap) (hno : ¬ Acc z) :
    Calls Tryf.prog 8 #[.pointer (some ⟨bw, 0, none⟩), .slice (some ⟨b, off, none⟩) 11 cap] w fun e w' => IsErr e ∧ Below w.heap.size w w' := by
  by_cases hz : z 5 = 45
  · by_cases h0 : Clk z 0
    · have h6 : ¬ Clk z 6 := fun h => hno ⟨hz, h0, h⟩
      exact unm_second F bw b off cap z w hF hl hcap hz (decide_eq_true h0) (decide_eq_false h6)
    · exact unm_first F bw b off cap z w _ hF hl hcap hz (decide_eq_false h0) rfl
  · exact unm_dash F bw b off cap z w hF hl hz
theorem unm_acc (F : Interp) (bw b off cap : Nat) (z : Nat → Int) (s0 e0 : Int) (w : World) (hF : F.answers w.tape) (hl : Lies w b off 11 z) (hcap : 11 ≤ cap) (h : Acc z) (hw : Win w bw s0 e0) :
    Calls Tryf.prog 8 #[.pointer (some ⟨bw, 0, none⟩), .slice (some ⟨b, off, none⟩) 11 cap] w fun e w' => e = .returned .nilIface ∧ Below bw w w' ∧ Win w' bw (cmI z 0) (cmI z 6) :=
  unm_yes F bw b off cap z s0 e0 w hF hl hcap h.1 (decide_eq_true h.2.1) (decide_eq_true h.2.2) hw

theorem make11 (w : World) : (Instr.makeSlice 22 (.int .i64 11) (.int .i64 11)).run Tryf.prog w = .ok (.slice (some ⟨w.heap.size, 0, none⟩) 11 11) (w.alloc (.cells #[.int .u8 0, .int .u8 0, .int .u8 0, .int .u8 0, .int .u8 0, .int .u8 0, .int .u8 0, .int .u8 0, .int .u8 0, .int .u8 0, .int .u8 0] 5)) := by kernel_rfl
attribute [local go_sem] make11

/-- The swapped text, k rounds done. -/
def Sw (z : Nat → Int) (k : Nat) : Array Value :=
  #[.int .u8 (if 0 < k then z 6 else 0), .int .u8 (if 1 < k then z 7 else 0), .int .u8 (if 2 < k then z 8 else 0), .int .u8 (if 3 < k then z 9 else 0), .int .u8 (if 4 < k then z 10 else 0), .int .u8 (if 5 < k then z 5 else 0),
    .int .u8 (if 0 < k then z 0 else 0), .int .u8 (if 1 < k then z 1 else 0), .int .u8 (if 2 < k then z 2 else 0), .int .u8 (if 3 < k then z 3 else 0), .int .u8 (if 4 < k then z 4 else 0)]
theorem sw_lies {w : World} {b : Nat} {z : Nat → Int} (h : w.heap[b]? = some (.cells (Sw z 6) 5)) : Lies w b 0 11 (swz z) := fun j hj => by
  rw [cell_of_row _ _ _ _ _ _ h, Nat.zero_add]
  rcases (by omega : j = 0 ∨ j = 1 ∨ j = 2 ∨ j = 3 ∨ j = 4 ∨ j = 5 ∨ j = 6 ∨ j = 7 ∨ j = 8 ∨ j = 9 ∨ j = 10) with rfl | rfl | rfl | rfl | rfl | rfl | rfl | rfl | rfl | rfl | rfl <;> rfl

set_option maxHeartbeats 4000000 in
set_option maxRecDepth 100000 in
theorem swap_out (s e : Int) (a : Option Addr) (n cap : Nat) (w : World) (h : 1048576 < (n : Int) ∨ s < 0 ∨ 1439 < s ∨ e < 0 ∨ 1439 < e) :
    Calls Tryf.prog 4 #[.int .i64 s, .int .i64 e, .slice a n cap] w fun x w' => x = .returned (.bool true) ∧ Below w.heap.size w w' := by
  by_cases hbig : 1048576 < (n : Int)
  · go_enter Tryf.func4, Tryf.ntmps4
    go_wp2_with fail
    refine (bytes11_big s e _ _ _ w (by omega)).mono ?_
    rintro x w ⟨rfl, rfl⟩
    go_wp2
    exact bodyPost_ret (v := .bool true) (by simp [results, Tryf.results4, go_sem]) rfl ⟨rfl, Below.refl _ _⟩
  · by_cases h1 : s < 0
    · have g1 : decide (s < 0) = true := by simpa using h1
      go_enter Tryf.func4, Tryf.ntmps4
      go_wp2_with fail
      refine (bytes11_ok s e _ _ _ w (by omega)).mono ?_
      rintro x w ⟨rfl, rfl⟩
      go_wp2
      exact bodyPost_ret (v := .bool true) (by simp [results, Tryf.results4, go_sem]) rfl ⟨rfl, Below.refl _ _⟩
    · have g1 : decide (s < 0) = false := by simpa using h1
      by_cases h2 : 1439 < s
      · have g2 : decide (1439 < s) = true := by simpa using h2
        go_enter Tryf.func4, Tryf.ntmps4
        go_wp2_with fail
        refine (bytes11_ok s e _ _ _ w (by omega)).mono ?_
        rintro x w ⟨rfl, rfl⟩
        go_wp2
        exact bodyPost_ret (v := .bool true) (by simp [results, Tryf.results4, go_sem]) rfl ⟨rfl, Below.refl _ _⟩
      · have g2 : decide (1439 < s) = false := by simpa using h2
        by_cases h3 : e < 0
        · have g3 : decide (e < 0) = true := by simpa using h3
          go_enter Tryf.func4, Tryf.ntmps4
          go_wp2_with fail
          refine (bytes11_ok s e _ _ _ w (by omega)).mono ?_
          rintro x w ⟨rfl, rfl⟩
          go_wp2
          exact bodyPost_ret (v := .bool true) (by simp [results, Tryf.results4, go_sem]) rfl ⟨rfl, Below.refl _ _⟩
        · have g3 : decide (e < 0) = false := by simpa using h3
          have h4 : 1439 < e := by omega
          go_enter Tryf.func4, Tryf.ntmps4
          go_wp2_with fail
          refine (bytes11_ok s e _ _ _ w (by omega)).mono ?_
          rintro x w ⟨rfl, rfl⟩
          go_wp2
          exact bodyPost_ret (v := .bool true) (by simp [results, Tryf.results4, go_sem]) rfl ⟨rfl, Below.refl _ _⟩

set_option maxHeartbeats 4000000 in
set_option maxRecDepth 100000 in
theorem swap_len (F : Interp) (s e : Int) (z : Nat → Int) (w : World) (hF : F.answers w.tape) (h1 : ¬ s < 0) (h2 : ¬ 1439 < s) (h3 : ¬ e < 0) (h4 : ¬ 1439 < e) (a : Option Addr) (n cap : Nat) (hbig : ¬ 1048576 < (n : Int)) (ht : Txt w a n cap z) (hn : n ≠ 11) :
    Calls Tryf.prog 4 #[.int .i64 s, .int .i64 e, .slice a n cap] w fun x w' => x = .returned (.bool true) ∧ Below w.heap.size w w' := by
  have g1 : decide (s < 0) = false := by simpa using h1
  have g2 : decide (1439 < s) = false := by simpa using h2
  have g3 : decide (e < 0) = false := by simpa using h3
  have g4 : decide (1439 < e) = false := by simpa using h4
  have hne : ((n : Int) == 11) = false := by simpa using (by omega : (n : Int) ≠ 11)
  go_enter Tryf.func4, Tryf.ntmps4
  go_wp2_with fail
  refine (bytes11_ok s e _ _ _ w (by omega)).mono ?_
  rintro x w ⟨rfl, rfl⟩
  go_wp2_with fail
  refine (newC s e w).mono ?_
  rintro x W1 ⟨rfl, hB1, hW1⟩
  have hF1 : F.answers W1.tape := by rw [hB1.tape]; exact hF
  go_wp2_with fail
  refine (unm_len F w.heap.size n cap a z W1 hF1 (ht.below hB1 ht.lt) hn).mono ?_
  rintro x W2 ⟨⟨ae, rfl⟩, hb⟩
  have hW2 : Win W2 w.heap.size s e := (hb.block _ (Array.getElem?_eq_some_iff.1 hW1).1).trans hW1
  have hB2 := hB1.trans (hb.mono hB1.size)
  clear hb hB1 hW1
  go_wp2_with fail
  refine (startC w.heap.size s e W2 hW2).mono ?_
  rintro x W2 ⟨rfl, rfl⟩
  go_wp2_with fail
  refine (endC w.heap.size s e W2 hW2).mono ?_
  rintro x W2 ⟨rfl, rfl⟩
  go_wp2
  exact bodyPost_ret (v := .bool true) (by simp [results, Tryf.results4, go_sem]) rfl ⟨rfl, hB2⟩

set_option maxHeartbeats 4000000 in
set_option maxRecDepth 100000 in
theorem swap_ref (F : Interp) (s e : Int) (z : Nat → Int) (w : World) (hF : F.answers w.tape) (h1 : ¬ s < 0) (h2 : ¬ 1439 < s) (h3 : ¬ e < 0) (h4 : ¬ 1439 < e) (b off cap : Nat) (hl : Lies w b off 11 z) (hcap : 11 ≤ cap) (hno : ¬ Acc z) :
    Calls Tryf.prog 4 #[.int .i64 s, .int .i64 e, .slice (some ⟨b, off, none⟩) 11 cap] w fun x w' => x = .returned (.bool true) ∧ Below w.heap.size w w' := by
  have g1 : decide (s < 0) = false := by simpa using h1
  have g2 : decide (1439 < s) = false := by simpa using h2
  have g3 : decide (e < 0) = false := by simpa using h3
  have g4 : decide (1439 < e) = false := by simpa using h4
  have hbw : b < w.heap.size := World.block_lt_of_cell? w _ (hl 0 (by omega))
  go_enter Tryf.func4, Tryf.ntmps4
  go_wp2_with fail
  refine (bytes11_ok s e _ _ _ w (by omega)).mono ?_
  rintro x w ⟨rfl, rfl⟩
  go_wp2_with fail
  refine (newC s e w).mono ?_
  rintro x W1 ⟨rfl, hB1, hW1⟩
  have hF1 : F.answers W1.tape := by rw [hB1.tape]; exact hF
  go_wp2_with fail
  refine (unm_ref F w.heap.size b off cap z W1 hF1 (hl.below hB1 hbw) hcap hno).mono ?_
  rintro x W2 ⟨⟨ae, rfl⟩, hb⟩
  have hW2 : Win W2 w.heap.size s e := (hb.block _ (Array.getElem?_eq_some_iff.1 hW1).1).trans hW1
  have hB2 := hB1.trans (hb.mono hB1.size)
  clear hb hB1 hW1
  go_wp2_with fail
  refine (startC w.heap.size s e W2 hW2).mono ?_
  rintro x W2 ⟨rfl, rfl⟩
  go_wp2_with fail
  refine (endC w.heap.size s e W2 hW2).mono ?_
  rintro x W2 ⟨rfl, rfl⟩
  go_wp2
  have hb2 : b < W2.heap.size := Nat.lt_of_lt_of_le hbw hB2.size
  have hl2 := hl.below hB2 hbw
  go_loopw [12] (fun i wr => ∃ k : Nat, k ≤ 5 ∧ i = .int .i64 k ∧ Below W2.heap.size W2 wr ∧ wr.heap[W2.heap.size]? = some (.cells (Sw z k) 5)) (fun i _ => 5 - (intOf i).toNat)
  case atStart => exact ⟨0, Nat.zero_le _, rfl, below1 _ _, heap_alloc_new W2 _⟩
  case round =>
    obtain ⟨k, hk, rfl, hbel, hrow⟩ := hrel
    have hlw := hl2.below hbel hb2
    rcases (by omega : k = 0 ∨ k = 1 ∨ k = 2 ∨ k = 3 ∨ k = 4 ∨ k = 5) with rfl | rfl | rfl | rfl | rfl | rfl
    · have c0 := hlw 0 (by omega)
      have c6 := hlw 6 (by omega)
      rw [Nat.add_zero] at c0
      have q0 : wr.cell? ⟨W2.heap.size, 0, none⟩ = some (.int .u8 0) := by rw [cell_of_row _ _ _ _ _ _ hrow]; rfl
      have q6 : wr.cell? ⟨W2.heap.size, 6, none⟩ = some (.int .u8 0) := by rw [cell_of_row _ _ _ _ _ _ hrow]; rfl
      have f0 : wr.frozen? ⟨W2.heap.size, 0, none⟩ = false := frozen_of_row _ _ _ _ _ hrow
      have f6 : wr.frozen? ⟨W2.heap.size, 6, none⟩ = false := frozen_of_row _ _ _ _ _ hrow
      have ne : b ≠ W2.heap.size := by omega
      have r1 := heap_setCell_same wr W2.heap.size 0 _ 5 (.int .u8 (z 6)) hrow
      have r2 := heap_setCell_same (wr.setCell ⟨W2.heap.size, 0, none⟩ (.int .u8 (z 6))) W2.heap.size 6 _ 5 (.int .u8 (z 0)) r1
      have eS : ((Sw z 0).setIfInBounds 0 (.int .u8 (z 6))).setIfInBounds 6 (.int .u8 (z 0)) = Sw z 1 := by simp [Sw]
      rw [eS] at r2
      have hbs : Below W2.heap.size W2 ((wr.setCell ⟨W2.heap.size, 0, none⟩ (.int .u8 (z 6))).setCell ⟨W2.heap.size, 6, none⟩ (.int .u8 (z 0))) := (hbel.setCell (Nat.le_refl _) _).setCell (Nat.le_refl _) _
      clear r1 eS
      go_wp2
      exact ⟨⟨1, by omega, rfl, hbs, r2⟩, by simp [intOf]⟩
    · have c0 := hlw 1 (by omega)
      have c6 := hlw 7 (by omega)
      have q0 : wr.cell? ⟨W2.heap.size, 1, none⟩ = some (.int .u8 0) := by rw [cell_of_row _ _ _ _ _ _ hrow]; rfl
      have q6 : wr.cell? ⟨W2.heap.size, 7, none⟩ = some (.int .u8 0) := by rw [cell_of_row _ _ _ _ _ _ hrow]; rfl
      have f0 : wr.frozen? ⟨W2.heap.size, 1, none⟩ = false := frozen_of_row _ _ _ _ _ hrow
      have f6 : wr.frozen? ⟨W2.heap.size, 7, none⟩ = false := frozen_of_row _ _ _ _ _ hrow
      have ne : b ≠ W2.heap.size := by omega
      have r1 := heap_setCell_same wr W2.heap.size 1 _ 5 (.int .u8 (z 7)) hrow
      have r2 := heap_setCell_same (wr.setCell ⟨W2.heap.size, 1, none⟩ (.int .u8 (z 7))) W2.heap.size 7 _ 5 (.int .u8 (z 1)) r1
      have eS : ((Sw z 1).setIfInBounds 1 (.int .u8 (z 7))).setIfInBounds 7 (.int .u8 (z 1)) = Sw z 2 := by simp [Sw]
      rw [eS] at r2
      have hbs : Below W2.heap.size W2 ((wr.setCell ⟨W2.heap.size, 1, none⟩ (.int .u8 (z 7))).setCell ⟨W2.heap.size, 7, none⟩ (.int .u8 (z 1))) := (hbel.setCell (Nat.le_refl _) _).setCell (Nat.le_refl _) _
      clear r1 eS
      go_wp2
      exact ⟨⟨2, by omega, rfl, hbs, r2⟩, by simp [intOf]⟩
    · have c0 := hlw 2 (by omega)
      have c6 := hlw 8 (by omega)
      have q0 : wr.cell? ⟨W2.heap.size, 2, none⟩ = some (.int .u8 0) := by rw [cell_of_row _ _ _ _ _ _ hrow]; rfl
      have q6 : wr.cell? ⟨W2.heap.size, 8, none⟩ = some (.int .u8 0) := by rw [cell_of_row _ _ _ _ _ _ hrow]; rfl
      have f0 : wr.frozen? ⟨W2.heap.size, 2, none⟩ = false := frozen_of_row _ _ _ _ _ hrow
      have f6 : wr.frozen? ⟨W2.heap.size, 8, none⟩ = false := frozen_of_row _ _ _ _ _ hrow
      have ne : b ≠ W2.heap.size := by omega
      have r1 := heap_setCell_same wr W2.heap.size 2 _ 5 (.int .u8 (z 8)) hrow
      have r2 := heap_setCell_same (wr.setCell ⟨W2.heap.size, 2, none⟩ (.int .u8 (z 8))) W2.heap.size 8 _ 5 (.int .u8 (z 2)) r1
      have eS : ((Sw z 2).setIfInBounds 2 (.int .u8 (z 8))).setIfInBounds 8 (.int .u8 (z 2)) = Sw z 3 := by simp [Sw]
      rw [eS] at r2
      have hbs : Below W2.heap.size W2 ((wr.setCell ⟨W2.heap.size, 2, none⟩ (.int .u8 (z 8))).setCell ⟨W2.heap.size, 8, none⟩ (.int .u8 (z 2))) := (hbel.setCell (Nat.le_refl _) _).setCell (Nat.le_refl _) _
      clear r1 eS
      go_wp2
      exact ⟨⟨3, by omega, rfl, hbs, r2⟩, by simp [intOf]⟩
    · have c0 := hlw 3 (by omega)
      have c6 := hlw 9 (by omega)
      have q0 : wr.cell? ⟨W2.heap.size, 3, none⟩ = some (.int .u8 0) := by rw [cell_of_row _ _ _ _ _ _ hrow]; rfl
      have q6 : wr.cell? ⟨W2.heap.size, 9, none⟩ = some (.int .u8 0) := by rw [cell_of_row _ _ _ _ _ _ hrow]; rfl
      have f0 : wr.frozen? ⟨W2.heap.size, 3, none⟩ = false := frozen_of_row _ _ _ _ _ hrow
      have f6 : wr.frozen? ⟨W2.heap.size, 9, none⟩ = false := frozen_of_row _ _ _ _ _ hrow
      have ne : b ≠ W2.heap.size := by omega
      have r1 := heap_setCell_same wr W2.heap.size 3 _ 5 (.int .u8 (z 9)) hrow
      have r2 := heap_setCell_same (wr.setCell ⟨W2.heap.size, 3, none⟩ (.int .u8 (z 9))) W2.heap.size 9 _ 5 (.int .u8 (z 3)) r1
      have eS : ((Sw z 3).setIfInBounds 3 (.int .u8 (z 9))).setIfInBounds 9 (.int .u8 (z 3)) = Sw z 4 := by simp [Sw]
      rw [eS] at r2
      have hbs : Below W2.heap.size W2 ((wr.setCell ⟨W2.heap.size, 3, none⟩ (.int .u8 (z 9))).setCell ⟨W2.heap.size, 9, none⟩ (.int .u8 (z 3))) := (hbel.setCell (Nat.le_refl _) _).setCell (Nat.le_refl _) _
      clear r1 eS
      go_wp2
      exact ⟨⟨4, by omega, rfl, hbs, r2⟩, by simp [intOf]⟩
    · have c0 := hlw 4 (by omega)
      have c6 := hlw 10 (by omega)
      have q0 : wr.cell? ⟨W2.heap.size, 4, none⟩ = some (.int .u8 0) := by rw [cell_of_row _ _ _ _ _ _ hrow]; rfl
      have q6 : wr.cell? ⟨W2.heap.size, 10, none⟩ = some (.int .u8 0) := by rw [cell_of_row _ _ _ _ _ _ hrow]; rfl
      have f0 : wr.frozen? ⟨W2.heap.size, 4, none⟩ = false := frozen_of_row _ _ _ _ _ hrow
      have f6 : wr.frozen? ⟨W2.heap.size, 10, none⟩ = false := frozen_of_row _ _ _ _ _ hrow
      have ne : b ≠ W2.heap.size := by omega
      have r1 := heap_setCell_same wr W2.heap.size 4 _ 5 (.int .u8 (z 10)) hrow
      have r2 := heap_setCell_same (wr.setCell ⟨W2.heap.size, 4, none⟩ (.int .u8 (z 10))) W2.heap.size 10 _ 5 (.int .u8 (z 4)) r1
      have eS : ((Sw z 4).setIfInBounds 4 (.int .u8 (z 10))).setIfInBounds 10 (.int .u8 (z 4)) = Sw z 5 := by simp [Sw]
      rw [eS] at r2
      have hbs : Below W2.heap.size W2 ((wr.setCell ⟨W2.heap.size, 4, none⟩ (.int .u8 (z 10))).setCell ⟨W2.heap.size, 10, none⟩ (.int .u8 (z 4))) := (hbel.setCell (Nat.le_refl _) _).setCell (Nat.le_refl _) _
      clear r1 eS
      go_wp2
      exact ⟨⟨5, by omega, rfl, hbs, r2⟩, by simp [intOf]⟩
    · have c5 := hlw 5 (by omega)
      have q5 : wr.cell? ⟨W2.heap.size, 5, none⟩ = some (.int .u8 0) := by rw [cell_of_row _ _ _ _ _ _ hrow]; rfl
      have f5 : wr.frozen? ⟨W2.heap.size, 5, none⟩ = false := frozen_of_row _ _ _ _ _ hrow
      have r1 := heap_setCell_same wr W2.heap.size 5 _ 5 (.int .u8 (z 5)) hrow
      have eS : (Sw z 5).setIfInBounds 5 (.int .u8 (z 5)) = Sw z 6 := by simp [Sw]
      rw [eS] at r1
      have hbs : Below W2.heap.size W2 (wr.setCell ⟨W2.heap.size, 5, none⟩ (.int .u8 (z 5))) := hbel.setCell (Nat.le_refl _) _
      clear eS
      go_wp2_with fail
      generalize hW3 : wr.setCell ⟨W2.heap.size, 5, none⟩ (.int .u8 (z 5)) = W3 at *
      have hl3 := sw_lies r1
      have hb3 : W2.heap.size < W3.heap.size := (Array.getElem?_eq_some_iff.1 r1).1
      have hB3 := hB2.trans (hbs.mono hB2.size)
      clear hW3 hrow hbel q5 f5 c5 r1
      refine (newC s e W3).mono ?_
      rintro x W4 ⟨rfl, hB4, hW4⟩
      have hF4 : F.answers W4.tape := by rw [hB4.tape, hB3.tape]; exact hF
      go_wp2_with fail
      refine (unm_ref F W3.heap.size W2.heap.size 0 11 (swz z) W4 hF4 (hl3.below hB4 hb3) (Nat.le_refl _) (fun h => hno ((swz_acc z).1 h))).mono ?_
      rintro x W5 ⟨⟨ae2, rfl⟩, hb⟩
      have hW5 : Win W5 W3.heap.size s e := (hb.block _ (Array.getElem?_eq_some_iff.1 hW4).1).trans hW4
      have hB5 := (hB3.trans (hB4.mono hB3.size)).trans (hb.mono (hB3.trans (hB4.mono hB3.size)).size)
      clear hb
      go_wp2_with fail
      refine (startC W3.heap.size s e W5 hW5).mono ?_
      rintro x W5 ⟨rfl, rfl⟩
      go_wp2_with fail
      refine (endC W3.heap.size s e W5 hW5).mono ?_
      rintro x W5 ⟨rfl, rfl⟩
      go_wp2
      go_quiet (fail)
      have hBq : Below w.heap.size w (W5.drewN nq) := ⟨hB5.os, hB5.tape, hB5.output, hB5.size, hB5.block⟩
      go_wp2
      exact bodyPost_ret (v := .bool true) (by simp [results, Tryf.results4, go_sem]) rfl ⟨rfl, hBq⟩

set_option maxHeartbeats 4000000 in
set_option maxRecDepth 100000 in
theorem swap_acc (F : Interp) (s e : Int) (z : Nat → Int) (w : World) (hF : F.answers w.tape) (h1 : ¬ s < 0) (h2 : ¬ 1439 < s) (h3 : ¬ e < 0) (h4 : ¬ 1439 < e) (b off cap : Nat) (hl : Lies w b off 11 z) (hcap : 11 ≤ cap) (hy : Acc z) :
    Calls Tryf.prog 4 #[.int .i64 s, .int .i64 e, .slice (some ⟨b, off, none⟩) 11 cap] w fun x w' => x = .returned (.bool true) ∧ Below w.heap.size w w' := by
  have g1 : decide (s < 0) = false := by simpa using h1
  have g2 : decide (1439 < s) = false := by simpa using h2
  have g3 : decide (e < 0) = false := by simpa using h3
  have g4 : decide (1439 < e) = false := by simpa using h4
  have hbw : b < w.heap.size := World.block_lt_of_cell? w _ (hl 0 (by omega))
  go_enter Tryf.func4, Tryf.ntmps4
  go_wp2_with fail
  refine (bytes11_ok s e _ _ _ w (by omega)).mono ?_
  rintro x w ⟨rfl, rfl⟩
  go_wp2_with fail
  refine (newC s e w).mono ?_
  rintro x W1 ⟨rfl, hB1, hW1⟩
  have hF1 : F.answers W1.tape := by rw [hB1.tape]; exact hF
  go_wp2_with fail
  refine (unm_acc F w.heap.size b off cap z s e W1 hF1 (hl.below hB1 hbw) hcap hy hW1).mono ?_
  rintro x W2 ⟨rfl, hb, hW2⟩
  have hB2 := hB1.trans hb
  clear hb hB1 hW1
  go_wp2_with fail
  refine (startC w.heap.size (cmI z 0) (cmI z 6) W2 hW2).mono ?_
  rintro x W2 ⟨rfl, rfl⟩
  go_wp2_with fail
  refine (endC w.heap.size (cmI z 0) (cmI z 6) W2 hW2).mono ?_
  rintro x W2 ⟨rfl, rfl⟩
  go_wp2
  have hb2 : b < W2.heap.size := Nat.lt_of_lt_of_le hbw hB2.size
  have hl2 := hl.below hB2 hbw
  go_loopw [12] (fun i wr => ∃ k : Nat, k ≤ 5 ∧ i = .int .i64 k ∧ Below W2.heap.size W2 wr ∧ wr.heap[W2.heap.size]? = some (.cells (Sw z k) 5)) (fun i _ => 5 - (intOf i).toNat)
  case atStart => exact ⟨0, Nat.zero_le _, rfl, below1 _ _, heap_alloc_new W2 _⟩
  case round =>
    obtain ⟨k, hk, rfl, hbel, hrow⟩ := hrel
    have hlw := hl2.below hbel hb2
    rcases (by omega : k = 0 ∨ k = 1 ∨ k = 2 ∨ k = 3 ∨ k = 4 ∨ k = 5) with rfl | rfl | rfl | rfl | rfl | rfl
    · have c0 := hlw 0 (by omega)
      have c6 := hlw 6 (by omega)
      rw [Nat.add_zero] at c0
      have q0 : wr.cell? ⟨W2.heap.size, 0, none⟩ = some (.int .u8 0) := by rw [cell_of_row _ _ _ _ _ _ hrow]; rfl
      have q6 : wr.cell? ⟨W2.heap.size, 6, none⟩ = some (.int .u8 0) := by rw [cell_of_row _ _ _ _ _ _ hrow]; rfl
      have f0 : wr.frozen? ⟨W2.heap.size, 0, none⟩ = false := frozen_of_row _ _ _ _ _ hrow
      have f6 : wr.frozen? ⟨W2.heap.size, 6, none⟩ = false := frozen_of_row _ _ _ _ _ hrow
      have ne : b ≠ W2.heap.size := by omega
      have r1 := heap_setCell_same wr W2.heap.size 0 _ 5 (.int .u8 (z 6)) hrow
      have r2 := heap_setCell_same (wr.setCell ⟨W2.heap.size, 0, none⟩ (.int .u8 (z 6))) W2.heap.size 6 _ 5 (.int .u8 (z 0)) r1
      have eS : ((Sw z 0).setIfInBounds 0 (.int .u8 (z 6))).setIfInBounds 6 (.int .u8 (z 0)) = Sw z 1 := by simp [Sw]
      rw [eS] at r2
      have hbs : Below W2.heap.size W2 ((wr.setCell ⟨W2.heap.size, 0, none⟩ (.int .u8 (z 6))).setCell ⟨W2.heap.size, 6, none⟩ (.int .u8 (z 0))) := (hbel.setCell (Nat.le_refl _) _).setCell (Nat.le_refl _) _
      clear r1 eS
      go_wp2
      exact ⟨⟨1, by omega, rfl, hbs, r2⟩, by simp [intOf]⟩
    · have c0 := hlw 1 (by omega)
      have c6 := hlw 7 (by omega)
      have q0 : wr.cell? ⟨W2.heap.size, 1, none⟩ = some (.int .u8 0) := by rw [cell_of_row _ _ _ _ _ _ hrow]; rfl
      have q6 : wr.cell? ⟨W2.heap.size, 7, none⟩ = some (.int .u8 0) := by rw [cell_of_row _ _ _ _ _ _ hrow]; rfl
      have f0 : wr.frozen? ⟨W2.heap.size, 1, none⟩ = false := frozen_of_row _ _ _ _ _ hrow
      have f6 : wr.frozen? ⟨W2.heap.size, 7, none⟩ = false := frozen_of_row _ _ _ _ _ hrow
      have ne : b ≠ W2.heap.size := by omega
      have r1 := heap_setCell_same wr W2.heap.size 1 _ 5 (.int .u8 (z 7)) hrow
      have r2 := heap_setCell_same (wr.setCell ⟨W2.heap.size, 1, none⟩ (.int .u8 (z 7))) W2.heap.size 7 _ 5 (.int .u8 (z 1)) r1
      have eS : ((Sw z 1).setIfInBounds 1 (.int .u8 (z 7))).setIfInBounds 7 (.int .u8 (z 1)) = Sw z 2 := by simp [Sw]
      rw [eS] at r2
      have hbs : Below W2.heap.size W2 ((wr.setCell ⟨W2.heap.size, 1, none⟩ (.int .u8 (z 7))).setCell ⟨W2.heap.size, 7, none⟩ (.int .u8 (z 1))) := (hbel.setCell (Nat.le_refl _) _).setCell (Nat.le_refl _) _
      clear r1 eS
      go_wp2
      exact ⟨⟨2, by omega, rfl, hbs, r2⟩, by simp [intOf]⟩
    · have c0 := hlw 2 (by omega)
      have c6 := hlw 8 (by omega)
      have q0 : wr.cell? ⟨W2.heap.size, 2, none⟩ = some (.int .u8 0) := by rw [cell_of_row _ _ _ _ _ _ hrow]; rfl
      have q6 : wr.cell? ⟨W2.heap.size, 8, none⟩ = some (.int .u8 0) := by rw [cell_of_row _ _ _ _ _ _ hrow]; rfl
      have f0 : wr.frozen? ⟨W2.heap.size, 2, none⟩ = false := frozen_of_row _ _ _ _ _ hrow
      have f6 : wr.frozen? ⟨W2.heap.size, 8, none⟩ = false := frozen_of_row _ _ _ _ _ hrow
      have ne : b ≠ W2.heap.size := by omega
      have r1 := heap_setCell_same wr W2.heap.size 2 _ 5 (.int .u8 (z 8)) hrow
      have r2 := heap_setCell_same (wr.setCell ⟨W2.heap.size, 2, none⟩ (.int .u8 (z 8))) W2.heap.size 8 _ 5 (.int .u8 (z 2)) r1
      have eS : ((Sw z 2).setIfInBounds 2 (.int .u8 (z 8))).setIfInBounds 8 (.int .u8 (z 2)) = Sw z 3 := by simp [Sw]
      rw [eS] at r2
      have hbs : Below W2.heap.size W2 ((wr.setCell ⟨W2.heap.size, 2, none⟩ (.int .u8 (z 8))).setCell ⟨W2.heap.size, 8, none⟩ (.int .u8 (z 2))) := (hbel.setCell (Nat.le_refl _) _).setCell (Nat.le_refl _) _
      clear r1 eS
      go_wp2
      exact ⟨⟨3, by omega, rfl, hbs, r2⟩, by simp [intOf]⟩
    · have c0 := hlw 3 (by omega)
      have c6 := hlw 9 (by omega)
      have q0 : wr.cell? ⟨W2.heap.size, 3, none⟩ = some (.int .u8 0) := by rw [cell_of_row _ _ _ _ _ _ hrow]; rfl
      have q6 : wr.cell? ⟨W2.heap.size, 9, none⟩ = some (.int .u8 0) := by rw [cell_of_row _ _ _ _ _ _ hrow]; rfl
      have f0 : wr.frozen? ⟨W2.heap.size, 3, none⟩ = false := frozen_of_row _ _ _ _ _ hrow
      have f6 : wr.frozen? ⟨W2.heap.size, 9, none⟩ = false := frozen_of_row _ _ _ _ _ hrow
      have ne : b ≠ W2.heap.size := by omega
      have r1 := heap_setCell_same wr W2.heap.size 3 _ 5 (.int .u8 (z 9)) hrow
      have r2 := heap_setCell_same (wr.setCell ⟨W2.heap.size, 3, none⟩ (.int .u8 (z 9))) W2.heap.size 9 _ 5 (.int .u8 (z 3)) r1
      have eS : ((Sw z 3).setIfInBounds 3 (.int .u8 (z 9))).setIfInBounds 9 (.int .u8 (z 3)) = Sw z 4 := by simp [Sw]
      rw [eS] at r2
      have hbs : Below W2.heap.size W2 ((wr.setCell ⟨W2.heap.size, 3, none⟩ (.int .u8 (z 9))).setCell ⟨W2.heap.size, 9, none⟩ (.int .u8 (z 3))) := (hbel.setCell (Nat.le_refl _) _).setCell (Nat.le_refl _) _
      clear r1 eS
      go_wp2
      exact ⟨⟨4, by omega, rfl, hbs, r2⟩, by simp [intOf]⟩
    · have c0 := hlw 4 (by omega)
      have c6 := hlw 10 (by omega)
      have q0 : wr.cell? ⟨W2.heap.size, 4, none⟩ = some (.int .u8 0) := by rw [cell_of_row _ _ _ _ _ _ hrow]; rfl
      have q6 : wr.cell? ⟨W2.heap.size, 10, none⟩ = some (.int .u8 0) := by rw [cell_of_row _ _ _ _ _ _ hrow]; rfl
      have f0 : wr.frozen? ⟨W2.heap.size, 4, none⟩ = false := frozen_of_row _ _ _ _ _ hrow
      have f6 : wr.frozen? ⟨W2.heap.size, 10, none⟩ = false := frozen_of_row _ _ _ _ _ hrow
      have ne : b ≠ W2.heap.size := by omega
      have r1 := heap_setCell_same wr W2.heap.size 4 _ 5 (.int .u8 (z 10)) hrow
      have r2 := heap_setCell_same (wr.setCell ⟨W2.heap.size, 4, none⟩ (.int .u8 (z 10))) W2.heap.size 10 _ 5 (.int .u8 (z 4)) r1
      have eS : ((Sw z 4).setIfInBounds 4 (.int .u8 (z 10))).setIfInBounds 10 (.int .u8 (z 4)) = Sw z 5 := by simp [Sw]
      rw [eS] at r2
      have hbs : Below W2.heap.size W2 ((wr.setCell ⟨W2.heap.size, 4, none⟩ (.int .u8 (z 10))).setCell ⟨W2.heap.size, 10, none⟩ (.int .u8 (z 4))) := (hbel.setCell (Nat.le_refl _) _).setCell (Nat.le_refl _) _
      clear r1 eS
      go_wp2
      exact ⟨⟨5, by omega, rfl, hbs, r2⟩, by simp [intOf]⟩
    · have c5 := hlw 5 (by omega)
      have q5 : wr.cell? ⟨W2.heap.size, 5, none⟩ = some (.int .u8 0) := by rw [cell_of_row _ _ _ _ _ _ hrow]; rfl
      have f5 : wr.frozen? ⟨W2.heap.size, 5, none⟩ = false := frozen_of_row _ _ _ _ _ hrow
      have r1 := heap_setCell_same wr W2.heap.size 5 _ 5 (.int .u8 (z 5)) hrow
      have eS : (Sw z 5).setIfInBounds 5 (.int .u8 (z 5)) = Sw z 6 := by simp [Sw]
      rw [eS] at r1
      have hbs : Below W2.heap.size W2 (wr.setCell ⟨W2.heap.size, 5, none⟩ (.int .u8 (z 5))) := hbel.setCell (Nat.le_refl _) _
      clear eS
      go_wp2_with fail
      generalize hW3 : wr.setCell ⟨W2.heap.size, 5, none⟩ (.int .u8 (z 5)) = W3 at *
      have hl3 := sw_lies r1
      have hb3 : W2.heap.size < W3.heap.size := (Array.getElem?_eq_some_iff.1 r1).1
      have hB3 := hB2.trans (hbs.mono hB2.size)
      clear hW3 hrow hbel q5 f5 c5 r1
      refine (newC s e W3).mono ?_
      rintro x W4 ⟨rfl, hB4, hW4⟩
      have hF4 : F.answers W4.tape := by rw [hB4.tape, hB3.tape]; exact hF
      go_wp2_with fail
      refine (unm_acc F W3.heap.size W2.heap.size 0 11 (swz z) s e W4 hF4 (hl3.below hB4 hb3) (Nat.le_refl _) ((swz_acc z).2 hy) hW4).mono ?_
      rintro x W5 ⟨rfl, hb, hW5⟩
      rw [swz_min0, swz_min6] at hW5
      have hB5 := (hB3.trans (hB4.mono hB3.size)).trans (hb.mono hB3.size)
      clear hb
      go_wp2_with fail
      refine (startC W3.heap.size (cmI z 6) (cmI z 0) W5 hW5).mono ?_
      rintro x W5 ⟨rfl, rfl⟩
      go_wp2_with fail
      refine (endC W3.heap.size (cmI z 6) (cmI z 0) W5 hW5).mono ?_
      rintro x W5 ⟨rfl, rfl⟩
      go_wp2
      go_quiet (fail)
      have hBq : Below w.heap.size w (W5.drewN nq) := ⟨hB5.os, hB5.tape, hB5.output, hB5.size, hB5.block⟩
      have hlq := hl.below hBq hbw
      obtain ⟨m0, m1⟩ := cmI_range z 0
      obtain ⟨m2, m3⟩ := cmI_range z 6
      have hs := cmp_sign z hy
      go_wp2_with fail
      refine (signC _ _).mono ?_
      rintro x W6 ⟨rfl, hW6⟩
      subst hW6
      go_wp2_with fail
      refine (cmpC b off cap z _ hlq).mono ?_
      rintro x W7 ⟨rfl, hb⟩
      have hB7 := hBq.trans (hb.mono hBq.size)
      go_wp2
      exact bodyPost_ret (v := .bool true) (by simp [results, Tryf.results4, go_sem]) rfl ⟨rfl, hB7⟩

theorem swap_walk (F : Interp) (s e : Int) (z : Nat → Int) (w : World) (hF : F.answers w.tape) (a : Option Addr) (n cap : Nat) (hcap : n ≤ cap) (ht : Txt w a n cap z) :
    Calls Tryf.prog 4 #[.int .i64 s, .int .i64 e, .slice a n cap] w fun x w' => x = .returned (.bool true) ∧ Below w.heap.size w w' := by
  by_cases ho : 1048576 < (n : Int) ∨ s < 0 ∨ 1439 < s ∨ e < 0 ∨ 1439 < e
  · exact swap_out s e a n cap w ho
  · have hbig : ¬ 1048576 < (n : Int) := by omega
    have h1 : ¬ s < 0 := by omega
    have h2 : ¬ 1439 < s := by omega
    have h3 : ¬ e < 0 := by omega
    have h4 : ¬ 1439 < e := by omega
    by_cases hn : n = 11
    · subst hn
      obtain ⟨b, off, rfl, hl⟩ := ht.lies (by omega)
      by_cases hy : Acc z
      · exact swap_acc F s e z w hF h1 h2 h3 h4 b off cap hl hcap hy
      · exact swap_ref F s e z w hF h1 h2 h3 h4 b off cap hl hcap hy
    · exact swap_len F s e z w hF h1 h2 h3 h4 a n cap hbig ht hn
end Go.Proofs.Qxb6631293aFmt
