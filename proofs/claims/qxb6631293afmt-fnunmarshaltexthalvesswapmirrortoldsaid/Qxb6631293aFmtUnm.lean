/-
  (*Window).UnmarshalText, by contracts; the small functions beside it.
-/
import Derived.Test.Qxb6631293aFmtSearch
namespace Go.Proofs.Qxb6631293aFmt
open Go.RowKit Go.Extern.Stop Go.Stop Go.Extern
set_option linter.unusedSimpArgs false

theorem below1 (w : World) (A : Obj) : Below w.heap.size w (w.alloc A) := ((Below.refl _ _).alloc (Nat.le_refl _) _)
theorem Txt.below {w w' : World} {a : Option Addr} {n cap B : Nat} {z : Nat → Int} (h : Txt w a n cap z) (hb : Below B w w') (hB : ∀ x : Addr, a = some x → 0 < n → x.block < B) : Txt w' a n cap z := by
  rcases h with h | ⟨x, rfl, hc⟩
  · exact Or.inl h
  · exact Or.inr ⟨x, rfl, fun j hj => (hb.cell (p := x.add j) (by have := hB x rfl (by omega); unfold Addr.add; split <;> exact this)).trans (hc j hj)⟩
theorem Txt.lt {w : World} {a : Option Addr} {n cap : Nat} {z : Nat → Int} (h : Txt w a n cap z) (x : Addr) (hx : a = some x) (hn : 0 < n) : x.block < w.heap.size := by
  rcases h with ⟨rfl, _⟩ | ⟨y, rfl, hc⟩
  · cases hx
  · cases hx; exact World.block_lt_of_cell? w _ (hc 0 hn)

set_option maxHeartbeats 1000000 in
theorem unm_len (F : Interp) (bw n cap : Nat) (a : Option Addr) (z : Nat → Int) (w : World) (hF : F.answers w.tape) (ht : Txt w a n cap z) (hn : n ≠ 11) :
    Calls Tryf.prog 8 #[.pointer (some ⟨bw, 0, none⟩), .slice a n cap] w fun e w' => IsErr e ∧ Below w.heap.size w w' := by
  have hne : ((n : Int) == 11) = false := by simpa using (by omega : (n : Int) ≠ 11)
  obtain ⟨r, hr⟩ := (ht.below (below1 w (.cells #[.iface 22 (.slice a n cap)] 20)) ht.lt).operand
  have hnew := heap_alloc_new w (.cells #[.iface 22 (.slice a n cap)] 20)
  go_enter Tryf.func8, Tryf.ntmps8
  go_wp2_with fail
  refine (errorfC F _ r _ (w.alloc (.cells #[.iface 22 (.slice a n cap)] 20)) hF hnew hr).mono ?_
  rintro e W ⟨⟨ae, rfl⟩, hb⟩
  have hB := (below1 w (.cells #[.iface 22 (.slice a n cap)] 20)).trans (hb.mono (below1 w _).size)
  clear hb hr hnew
  go_wp2
  exact bodyPost_ret (v := .iface 42 (.pointer (some ae))) (by simp [results, Tryf.results8, go_sem]) rfl ⟨⟨_, rfl⟩, hB⟩

theorem Lies.below {w w' : World} {b off n B : Nat} {z : Nat → Int} (h : Lies w b off n z) (hb : Below B w w') (hB : b < B) : Lies w' b off n z :=
  fun j hj => (hb.cell (p := ⟨b, off + j, none⟩) hB).trans (h j hj)

set_option maxHeartbeats 1000000 in
theorem unm_dash (F : Interp) (bw b off cap : Nat) (z : Nat → Int) (w : World) (hF : F.answers w.tape) (hl : Lies w b off 11 z) (hz : z 5 ≠ 45) :
    Calls Tryf.prog 8 #[.pointer (some ⟨bw, 0, none⟩), .slice (some ⟨b, off, none⟩) 11 cap] w fun e w' => IsErr e ∧ Below w.heap.size w w' := by
  have hne : (z 5 == 45) = false := by simpa using hz
  have hbw : b < w.heap.size := World.block_lt_of_cell? w _ (hl 0 (by omega))
  have ht : Txt w (some ⟨b, off, none⟩) 11 cap z := Or.inr ⟨_, rfl, fun j hj => by
    have := hl j hj
    unfold Addr.add; split
    · rename_i e; subst e; exact this
    · exact this⟩
  obtain ⟨r, hr⟩ := (ht.below (below1 w (.cells #[.iface 22 (.slice (some ⟨b, off, none⟩) 11 cap)] 20)) ht.lt).operand
  have hnew := heap_alloc_new w (.cells #[.iface 22 (.slice (some ⟨b, off, none⟩) 11 cap)] 20)
  go_enter Tryf.func8, Tryf.ntmps8
  go_wp2_with fail
  refine (errorfC F _ r _ (w.alloc (.cells #[.iface 22 (.slice (some ⟨b, off, none⟩) 11 cap)] 20)) hF hnew hr).mono ?_
  rintro e W ⟨⟨ae, rfl⟩, hb⟩
  have hB := (below1 w (.cells #[.iface 22 (.slice (some ⟨b, off, none⟩) 11 cap)] 20)).trans (hb.mono (below1 w _).size)
  clear hb hr hnew
  have c5 := hl.below hB hbw 5 (by omega)
  go_wp2
  exact bodyPost_ret (v := .iface 42 (.pointer (some ae))) (by simp [results, Tryf.results8, go_sem]) rfl ⟨⟨_, rfl⟩, hB⟩

def fromSix (z : Nat → Int) : Nat → Int := fun j => z (j + 6)
theorem clk_six (z : Nat → Int) : cmA (fromSix z) 0 = cmA z 6 := rfl
theorem Lies.six {w : World} {b off : Nat} {z : Nat → Int} (h : Lies w b off 11 z) : Lies w b (off + 6) 5 (fromSix z) := fun j hj => by
  have := h (j + 6) (by omega)
  rw [show off + 6 + j = off + (j + 6) by omega]; exact this
theorem Lies.five {w : World} {b off : Nat} {z : Nat → Int} (h : Lies w b off 11 z) : Lies w b off 5 z := fun j hj => h j (by omega)

theorem clockB (b off cap : Nat) (z : Nat → Int) (w : World) (o : Bool) (h : decide (Clk z 0) = o) (hl : Lies w b off 5 z) :
    Calls Tryf.prog 15 #[.slice (some ⟨b, off, none⟩) 5 cap] w fun e w' => e = .returned (.tuple #[.int .i64 (cmI z 0), .bool o]) ∧ Below w.heap.size w w' := by
  subst h
  exact clockC b off cap z w hl

set_option maxHeartbeats 1000000 in
theorem unm_first (F : Interp) (bw b off cap : Nat) (z : Nat → Int) (w : World) (o : Bool) (hF : F.answers w.tape) (hl : Lies w b off 11 z) (hcap : 11 ≤ cap) (hz : z 5 = 45) (h1 : decide (Clk z 0) = false) (h2 : decide (Clk (fromSix z) 0) = o) :
    Calls Tryf.prog 8 #[.pointer (some ⟨bw, 0, none⟩), .slice (some ⟨b, off, none⟩) 11 cap] w fun e w' => IsErr e ∧ Below w.heap.size w w' := by
  have hne : (z 5 == 45) = true := by simpa using hz
  have hbw : b < w.heap.size := World.block_lt_of_cell? w _ (hl 0 (by omega))
  have ht : Txt w (some ⟨b, off, none⟩) 11 cap z := Or.inr ⟨_, rfl, fun j hj => by
    have := hl j hj
    unfold Addr.add; split
    · rename_i e; subst e; exact this
    · exact this⟩
  obtain ⟨r, hr⟩ := (ht.below (below1 w (.cells #[.iface 22 (.slice (some ⟨b, off, none⟩) 11 cap)] 20)) ht.lt).operand
  have hnew := heap_alloc_new w (.cells #[.iface 22 (.slice (some ⟨b, off, none⟩) 11 cap)] 20)
  go_enter Tryf.func8, Tryf.ntmps8
  go_wp2_with fail
  refine (errorfC F _ r _ (w.alloc (.cells #[.iface 22 (.slice (some ⟨b, off, none⟩) 11 cap)] 20)) hF hnew hr).mono ?_
  rintro e W ⟨⟨ae, rfl⟩, hb⟩
  have hB := (below1 w (.cells #[.iface 22 (.slice (some ⟨b, off, none⟩) 11 cap)] 20)).trans (hb.mono (below1 w _).size)
  clear hb hr hnew
  have c5 := hl.below hB hbw 5 (by omega)
  have k5 : (5 : Int) ≤ (cap : Int) := by omega
  have k11 : (11 : Int) ≤ (cap : Int) := by omega
  go_wp2_with fail
  refine (clockB b off cap z W _ h1 (hl.below hB hbw).five).mono ?_
  rintro e W2 ⟨rfl, hb⟩
  have hB2 := hB.trans (hb.mono hB.size)
  clear hb
  go_wp2_with fail
  refine (clockB b (off + 6) (cap - 6) (fromSix z) W2 _ h2 (hl.below hB2 hbw).six).mono ?_
  rintro e W3 ⟨rfl, hb⟩
  have hB3 := hB2.trans (hb.mono hB2.size)
  clear hb
  go_wp2
  exact bodyPost_ret (v := .iface 42 (.pointer (some ae))) (by simp [results, Tryf.results8, go_sem]) rfl ⟨⟨_, rfl⟩, hB3⟩

set_option maxHeartbeats 1000000 in
theorem unm_second (F : Interp) (bw b off cap : Nat) (z : Nat → Int) (w : World) (hF : F.answers w.tape) (hl : Lies w b off 11 z) (hcap : 11 ≤ cap) (hz : z 5 = 45) (h1 : decide (Clk z 0) = true) (h2 : decide (Clk (fromSix z) 0) = false) :
    Calls Tryf.prog 8 #[.pointer (some ⟨bw, 0, none⟩), .slice (some ⟨b, off, none⟩) 11 cap] w fun e w' => IsErr e ∧ Below w.heap.size w w' := by
  have hne : (z 5 == 45) = true := by simpa using hz
  have hbw : b < w.heap.size := World.block_lt_of_cell? w _ (hl 0 (by omega))
  have ht : Txt w (some ⟨b, off, none⟩) 11 cap z := Or.inr ⟨_, rfl, fun j hj => by
    have := hl j hj
    unfold Addr.add; split
    · rename_i e; subst e; exact this
    · exact this⟩
  obtain ⟨r, hr⟩ := (ht.below (below1 w (.cells #[.iface 22 (.slice (some ⟨b, off, none⟩) 11 cap)] 20)) ht.lt).operand
  have hnew := heap_alloc_new w (.cells #[.iface 22 (.slice (some ⟨b, off, none⟩) 11 cap)] 20)
  go_enter Tryf.func8, Tryf.ntmps8
  go_wp2_with fail
  refine (errorfC F _ r _ (w.alloc (.cells #[.iface 22 (.slice (some ⟨b, off, none⟩) 11 cap)] 20)) hF hnew hr).mono ?_
  rintro e W ⟨⟨ae, rfl⟩, hb⟩
  have hB := (below1 w (.cells #[.iface 22 (.slice (some ⟨b, off, none⟩) 11 cap)] 20)).trans (hb.mono (below1 w _).size)
  clear hb hr hnew
  have c5 := hl.below hB hbw 5 (by omega)
  have k5 : (5 : Int) ≤ (cap : Int) := by omega
  have k11 : (11 : Int) ≤ (cap : Int) := by omega
  go_wp2_with fail
  refine (clockB b off cap z W _ h1 (hl.below hB hbw).five).mono ?_
  rintro e W2 ⟨rfl, hb⟩
  have hB2 := hB.trans (hb.mono hB.size)
  clear hb
  go_wp2_with fail
  refine (clockB b (off + 6) (cap - 6) (fromSix z) W2 _ h2 (hl.below hB2 hbw).six).mono ?_
  rintro e W3 ⟨rfl, hb⟩
  have hB3 := hB2.trans (hb.mono hB2.size)
  clear hb
  go_wp2
  exact bodyPost_ret (v := .iface 42 (.pointer (some ae))) (by simp [results, Tryf.results8, go_sem]) rfl ⟨⟨_, rfl⟩, hB3⟩


/-- A window in memory. -/
def Win (w : World) (bw : Nat) (s e : Int) : Prop := w.heap[bw]? = some (.cells #[.int .i64 s, .int .i64 e] 35)

set_option maxHeartbeats 1000000 in
theorem unm_yes (F : Interp) (bw b off cap : Nat) (z : Nat → Int) (s0 e0 : Int) (w : World) (hF : F.answers w.tape) (hl : Lies w b off 11 z) (hcap : 11 ≤ cap) (hz : z 5 = 45) (h1 : decide (Clk z 0) = true) (h2 : decide (Clk (fromSix z) 0) = true) (hw : Win w bw s0 e0) :
    Calls Tryf.prog 8 #[.pointer (some ⟨bw, 0, none⟩), .slice (some ⟨b, off, none⟩) 11 cap] w fun e w' => e = .returned .nilIface ∧ Below bw w w' ∧ Win w' bw (cmI z 0) (cmI z 6) := by
  have hne : (z 5 == 45) = true := by simpa using hz
  have hbb : bw < w.heap.size := (Array.getElem?_eq_some_iff.1 hw).1
  have hbw : b < w.heap.size := World.block_lt_of_cell? w _ (hl 0 (by omega))
  have ht : Txt w (some ⟨b, off, none⟩) 11 cap z := Or.inr ⟨_, rfl, fun j hj => by
    have := hl j hj
    unfold Addr.add; split
    · rename_i e; subst e; exact this
    · exact this⟩
  obtain ⟨r, hr⟩ := (ht.below (below1 w (.cells #[.iface 22 (.slice (some ⟨b, off, none⟩) 11 cap)] 20)) ht.lt).operand
  have hnew := heap_alloc_new w (.cells #[.iface 22 (.slice (some ⟨b, off, none⟩) 11 cap)] 20)
  go_enter Tryf.func8, Tryf.ntmps8
  go_wp2_with fail
  refine (errorfC F _ r _ (w.alloc (.cells #[.iface 22 (.slice (some ⟨b, off, none⟩) 11 cap)] 20)) hF hnew hr).mono ?_
  rintro e W ⟨⟨ae, rfl⟩, hb⟩
  have hB := (below1 w (.cells #[.iface 22 (.slice (some ⟨b, off, none⟩) 11 cap)] 20)).trans (hb.mono (below1 w _).size)
  clear hb hr hnew
  have c5 := hl.below hB hbw 5 (by omega)
  have k5 : (5 : Int) ≤ (cap : Int) := by omega
  have k11 : (11 : Int) ≤ (cap : Int) := by omega
  go_wp2_with fail
  refine (clockB b off cap z W _ h1 (hl.below hB hbw).five).mono ?_
  rintro e W2 ⟨rfl, hb⟩
  have hB2 := hB.trans (hb.mono hB.size)
  clear hb
  go_wp2_with fail
  refine (clockB b (off + 6) (cap - 6) (fromSix z) W2 _ h2 (hl.below hB2 hbw).six).mono ?_
  rintro e W3 ⟨rfl, hb⟩
  have hB3 := hB2.trans (hb.mono hB2.size)
  clear hb
  have hW3 : W3.heap[bw]? = some (.cells #[.int .i64 s0, .int .i64 e0] 35) := (hB3.block _ hbb).trans hw
  have q0 : W3.cell? ⟨bw, 0, none⟩ = some (.int .i64 s0) := by rw [cell_of_row _ _ _ _ _ _ hW3]; rfl
  have q1 : W3.cell? ⟨bw, 1, none⟩ = some (.int .i64 e0) := by rw [cell_of_row _ _ _ _ _ _ hW3]; rfl
  have f0 : W3.frozen? ⟨bw, 0, none⟩ = false := frozen_of_row _ _ _ _ _ hW3
  have f1 : W3.frozen? ⟨bw, 1, none⟩ = false := frozen_of_row _ _ _ _ _ hW3
  have hr1 := heap_setCell_same W3 bw 0 _ 35 (.int .i64 (cmI z 0)) hW3
  have hr2 := heap_setCell_same (W3.setCell ⟨bw, 0, none⟩ (.int .i64 (cmI z 0))) bw 1 _ 35 (.int .i64 (cmI (fromSix z) 0)) hr1
  have hB4 : Below bw w ((W3.setCell ⟨bw, 0, none⟩ (.int .i64 (cmI z 0))).setCell ⟨bw, 1, none⟩ (.int .i64 (cmI (fromSix z) 0))) := ((hB3.mono (Nat.le_of_lt hbb)).setCell (Nat.le_refl _) _).setCell (Nat.le_refl _) _
  go_wp2
  exact bodyPost_ret (v := .nilIface) (by simp [results, Tryf.results8, go_sem]) rfl ⟨rfl, hB4, hr2⟩
end Go.Proofs.Qxb6631293aFmt
