/-
  The small functions of the road.
-/
import Derived.Test.Qxb6631293aFmtUnm
namespace Go.Proofs.Qxb6631293aFmt
open Go.RowKit
set_option linter.unusedSimpArgs false

theorem bytes5_big (s e : Int) (a : Option Addr) (n cap : Nat) (w : World) (h : 1048576 < (n : Int)) :
    Calls Tryf.prog 5 #[.int .i64 s, .int .i64 e, .slice a n cap] w fun e w' => e = .returned (.bool false) ∧ w' = w := by
  go_enter Tryf.func5, Tryf.ntmps5
  go_wp2
  go_ret
  exact ⟨rfl, rfl⟩
theorem bytes5_ok (s e : Int) (a : Option Addr) (n cap : Nat) (w : World) (h : ¬ 1048576 < (n : Int)) :
    Calls Tryf.prog 5 #[.int .i64 s, .int .i64 e, .slice a n cap] w fun e w' => e = .returned (.bool true) ∧ w' = w := by
  go_enter Tryf.func5, Tryf.ntmps5
  go_wp2
  go_ret
  exact ⟨rfl, rfl⟩
theorem bytes11_big (s e : Int) (a : Option Addr) (n cap : Nat) (w : World) (h : 1048576 < (n : Int)) :
    Calls Tryf.prog 11 #[.int .i64 s, .int .i64 e, .slice a n cap] w fun e w' => e = .returned (.bool false) ∧ w' = w := by
  go_enter Tryf.func11, Tryf.ntmps11
  go_wp2
  go_ret
  exact ⟨rfl, rfl⟩
theorem bytes11_ok (s e : Int) (a : Option Addr) (n cap : Nat) (w : World) (h : ¬ 1048576 < (n : Int)) :
    Calls Tryf.prog 11 #[.int .i64 s, .int .i64 e, .slice a n cap] w fun e w' => e = .returned (.bool true) ∧ w' = w := by
  go_enter Tryf.func11, Tryf.ntmps11
  go_wp2
  go_ret
  exact ⟨rfl, rfl⟩
theorem newC (s e : Int) (w : World) : Calls Tryf.prog 7 #[.int .i64 s, .int .i64 e] w fun x w' => x = .returned (.pointer (some ⟨w.heap.size, 0, none⟩)) ∧ Below w.heap.size w w' ∧ Win w' w.heap.size s e := by
  have hr := heap_alloc_new w (.cells #[.int .i64 s, .int .i64 e] 35)
  go_enter Tryf.func7, Tryf.ntmps7
  go_wp2
  go_ret
  exact ⟨rfl, below1 _ _, hr⟩
theorem startC (bw : Nat) (s e : Int) (w : World) (h : Win w bw s e) : Calls Tryf.prog 9 #[.pointer (some ⟨bw, 0, none⟩)] w fun x w' => x = .returned (.int .i64 s) ∧ w' = w := by
  have q0 : w.cell? ⟨bw, 0, none⟩ = some (.int .i64 s) := by rw [cell_of_row _ _ _ _ _ _ h]; rfl
  go_enter Tryf.func9, Tryf.ntmps9
  go_wp2
  go_ret
  exact ⟨rfl, rfl⟩
theorem endC (bw : Nat) (s e : Int) (w : World) (h : Win w bw s e) : Calls Tryf.prog 10 #[.pointer (some ⟨bw, 0, none⟩)] w fun x w' => x = .returned (.int .i64 e) ∧ w' = w := by
  have q1 : w.cell? ⟨bw, 1, none⟩ = some (.int .i64 e) := by rw [cell_of_row _ _ _ _ _ _ h]; rfl
  go_enter Tryf.func10, Tryf.ntmps10
  go_wp2
  go_ret
  exact ⟨rfl, rfl⟩

def sgn (x : Int) : Int := if x < 0 then -1 else if 0 < x then 1 else 0
theorem signC (x : Int) (w : World) : Calls Tryf.prog 12 #[.int .i64 x] w fun e w' => e = .returned (.int .i64 (sgn x)) ∧ w' = w := by
  by_cases h : x < 0
  · go_enter Tryf.func12, Tryf.ntmps12
    go_wp2
    go_ret
    exact ⟨by simp [sgn, h], rfl⟩
  · by_cases h' : 0 < x
    · go_enter Tryf.func12, Tryf.ntmps12
      go_wp2
      go_ret
      exact ⟨by simp [sgn, h, h'], rfl⟩
    · have es : sgn x = 0 := by rw [sgn, if_neg h, if_neg h']
      go_enter Tryf.func12, Tryf.ntmps12
      go_wp2
      go_ret
      exact ⟨by first | rfl | (rw [es]; rfl), rfl⟩

/-- The two halves compared, from the k-th byte on. -/
def cmp (z : Nat → Int) (k : Nat) : Int := if k < 5 then (if z k < z (6 + k) then -1 else if z (6 + k) < z k then 1 else cmp z (k + 1)) else 0
termination_by 5 - k

set_option maxHeartbeats 1000000 in
theorem cmpC (b off cap : Nat) (z : Nat → Int) (w : World) (hl : Lies w b off 11 z) :
    Calls Tryf.prog 13 #[.slice (some ⟨b, off, none⟩) 11 cap, .int .i64 0, .int .i64 6] w fun e w' => e = .returned (.int .i64 (cmp z 0)) ∧ Below w.heap.size w w' := by
  have hbw : b < w.heap.size := World.block_lt_of_cell? w _ (hl 0 (by omega))
  go_enter Tryf.func13, Tryf.ntmps13
  go_wp2
  go_loopw [7] (fun i wr => ∃ k : Nat, k ≤ 5 ∧ i = .int .i64 k ∧ Below w.heap.size w wr ∧ cmp z k = cmp z 0) (fun i _ => 5 - (intOf i).toNat)
  case atStart => exact ⟨0, Nat.zero_le _, rfl, Below.refl _ _, rfl⟩
  case round =>
    obtain ⟨k, hk, rfl, hbel, hc⟩ := hrel
    by_cases hlt : k < 5
    · have j0 : (k : Int) < 5 := by omega
      have j1 : (k : Int) < 11 := by omega
      have j2 : (0 : Int) ≤ (k : Int) := by omega
      have j3 : 6 + (k : Int) < 11 := by omega
      have c0 := hl.below hbel hbw k (by omega)
      have c1 := hl.below hbel hbw (6 + k) (by omega)
      go_wp2
      go_quiet (fail)
      have hbq : Below w.heap.size w (wr.drewN nq) := ⟨hbel.os, hbel.tape, hbel.output, hbel.size, hbel.block⟩
      by_cases h1 : z k < z (6 + k)
      · have e : cmp z 0 = -1 := by rw [← hc, cmp, if_pos hlt, if_pos h1]
        go_wp2
        exact bodyPost_ret (v := .int .i64 (-1)) (by simp [results, Tryf.results13, go_sem]) rfl ⟨by rw [e], hbq⟩
      · by_cases h2 : z (6 + k) < z k
        · have e : cmp z 0 = 1 := by rw [← hc, cmp, if_pos hlt, if_neg h1, if_pos h2]
          go_wp2
          go_quiet (fail)
          go_wp2
          exact bodyPost_ret (v := .int .i64 1) (by simp [results, Tryf.results13, go_sem]) rfl ⟨by rw [e], ⟨hbel.os, hbel.tape, hbel.output, hbel.size, hbel.block⟩⟩
        · have e : cmp z (k + 1) = cmp z 0 := by rw [← hc, cmp.eq_def z k, if_pos hlt, if_neg h1, if_neg h2]
          go_wp2
          go_quiet (fail)
          go_wp2
          exact ⟨⟨k + 1, by omega, by simp, ⟨hbel.os, hbel.tape, hbel.output, hbel.size, hbel.block⟩, e⟩, by simp [intOf]; omega⟩
    · have e : cmp z 0 = 0 := by rw [← hc, cmp, if_neg hlt]
      have j0 : ¬ (k : Int) < 5 := by omega
      go_wp2
      exact bodyPost_ret (v := .int .i64 0) (by simp [results, Tryf.results13, go_sem]) rfl ⟨by first | rfl | rw [e], hbel⟩
end Go.Proofs.Qxb6631293aFmt
