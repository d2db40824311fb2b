/-
  (View).Row and sameCells, by contracts.
-/
import Derived.Test.Qxb6632222aKit
namespace Go.Proofs.Qxb6632222a
open Go.RowKit
set_option linter.unusedSimpArgs false

theorem below1 (w : World) (A : Obj) : Below w.heap.size w (w.alloc A) := ((Below.refl _ _).alloc (Nat.le_refl _) _)
theorem Sl.Lies.below {x : Sl} {w w' : World} {B : Nat} (h : x.Lies w) (hb : Below B w w') (hB : ∀ j, j < x.n → x.b < B) : x.Lies w' :=
  ⟨h.here, fun j hj => (hb.cell (p := ⟨x.b, x.off + j, none⟩) (hB j hj)).trans (h.cell j hj), h.max⟩
theorem Sl.Lies.lt {x : Sl} {w : World} (h : x.Lies w) : ∀ j, j < x.n → x.b < w.heap.size := fun j hj => World.block_lt_of_cell? w _ (h.cell j hj)
theorem Tb.Lies.lt {x : Tb} {w : World} (h : x.Lies w) : ∀ j, j < x.n → x.b < w.heap.size := fun j hj => World.block_lt_of_cell? w _ (h.cell j hj)
theorem Tb.Lies.below {x : Tb} {w w' : World} (h : x.Lies w) (hb : Below w.heap.size w w') : x.Lies w' :=
  ⟨h.here, fun j hj => (hb.cell (p := ⟨x.b, x.off + j, none⟩) (h.lt j hj)).trans (h.cell j hj), fun j hj => (h.row j hj).below hb (h.row j hj).lt, h.max⟩

/-- The row's first cell is the name. -/
def Sl.Bears (x : Sl) (nm : ByteArray) : Prop := 0 < x.n ∧ x.s 0 = nm
/-- A view's cells. -/
def viewA (t0 : ByteArray) (a1 : Option Addr) (n1 c1 : Nat) (v : Value) (t3 t4 t5 : ByteArray) (a6 : Option Addr) (n6 c6 : Nat) : Array Value :=
  #[.string t0, .slice a1 n1 c1, v, .string t3, .string t4, .string t5, .slice a6 n6 c6]

theorem str_ne {x y : ByteArray} (h : ¬ x = y) : (x.toList == y.toList) = false := by
  rw [beq_eq_false_iff_ne]
  intro e
  rw [ByteArray.toList_eq, ByteArray.toList_eq] at e
  exact h (ByteArray.ext (Array.toList_inj.1 e))
theorem str_eq {x y : ByteArray} (h : x = y) : (x.toList == y.toList) = true := by rw [h]; exact beq_self_eq_true _

set_option maxHeartbeats 1000000 in
theorem row_none (t0 t3 t4 t5 nm : ByteArray) (a1 a6 : Option Addr) (n1 c1 n6 c6 : Nat) (T : Tb) (w : World) (hT : T.Lies w) (hno : ∀ j, j < T.n → ¬ (T.r j).Bears nm) :
    Calls Try.prog 7 #[.agg (viewA t0 a1 n1 c1 T.v t3 t4 t5 a6 n6 c6), .string nm] w fun e w' => e = .returned (.slice none 0 0) ∧ Below w.heap.size w w' := by
  have hB := below1 w (.cells (viewA t0 a1 n1 c1 T.v t3 t4 t5 a6 n6 c6) 27)
  have hT' := hT.below hB
  obtain ⟨a, n, cap, b, off, r⟩ := T
  obtain ⟨hh, hc, hr, hm⟩ := hT'
  dsimp only at hh hc hr hm hno
  unfold maxLen at hm
  unfold viewA Tb.v at hc hB hr
  unfold viewA Tb.v
  dsimp only at hc hB hr
  dsimp only
  clear hT
  go_enter Try.func7, Try.ntmps7
  go_wp2_with fail
  generalize hW : w.alloc (.cells #[.string t0, .slice a1 n1 c1, .slice a n cap, .string t3, .string t4, .string t5, .slice a6 n6 c6] 27) = W at *
  go_loop [10] (fun i => ∃ k : Nat, k ≤ n ∧ i = .int .i64 k) (fun i => n - (intOf i).toNat)
  case atStart => exact ⟨0, Nat.zero_le _, rfl⟩
  case round =>
    obtain ⟨k, hk, rfl⟩ := hrel
    by_cases hlt : k < n
    · obtain rfl := hh k (by omega)
      have hcr : W.cell? ⟨b, off + k, none⟩ = some (.slice (r k).a (r k).n (r k).cap) := hc k (by omega)
      have hrow := hr k (by omega)
      have hnb := hno k hlt
      clear hc hr hno
      generalize r k = R at *
      obtain ⟨ra, rn, rcap, rb, ro, rs⟩ := R
      obtain ⟨h1, h2, h3⟩ := hrow
      unfold Sl.Bears at hnb
      dsimp only at h1 h2 h3 hnb hcr
      have l0 : (0 : Int) ≤ (k : Int) := by omega
      have l1 : (k : Int) < (n : Int) := by omega
      by_cases hz : 0 < rn
      · obtain rfl := h1 0 hz
        have hs := h2 0 hz
        rw [Nat.add_zero] at hs
        have hz' : (0 : Int) < (rn : Int) := by omega
        have hne := str_ne (x := rs 0) (y := nm) fun h => hnb ⟨hz, h⟩
        clear h1 h2
        go_wp2
        exact ⟨⟨k + 1, by omega, by simp⟩, by simp [intOf]; omega⟩
      · have hz' : decide ((0 : Int) < (rn : Int)) = false := by simpa using (by omega : rn = 0)
        go_wp2
        exact ⟨⟨k + 1, by omega, by simp⟩, by simp [intOf]; omega⟩
    · have l1 : ¬ (k : Int) < (n : Int) := by omega
      go_wp2
      exact bodyPost_ret (v := .slice none 0 0) (by simp [results, Try.results7, go_sem]) rfl ⟨rfl, hB⟩

set_option maxHeartbeats 1000000 in
theorem row_first (t0 t3 t4 t5 nm : ByteArray) (a1 a6 : Option Addr) (n1 c1 n6 c6 : Nat) (T : Tb) (w : World) (hT : T.Lies w) (j0 : Nat) (hj : j0 < T.n) (hbr : (T.r j0).Bears nm) (hno : ∀ j, j < j0 → ¬ (T.r j).Bears nm) :
    Calls Try.prog 7 #[.agg (viewA t0 a1 n1 c1 T.v t3 t4 t5 a6 n6 c6), .string nm] w fun e w' => e = .returned (T.r j0).v ∧ Below w.heap.size w w' := by
  have hB := below1 w (.cells (viewA t0 a1 n1 c1 T.v t3 t4 t5 a6 n6 c6) 27)
  have hT' := hT.below hB
  obtain ⟨a, n, cap, b, off, r⟩ := T
  obtain ⟨hh, hc, hr, hm⟩ := hT'
  dsimp only at hh hc hr hm hno hj hbr
  unfold maxLen at hm
  unfold viewA Tb.v at hc hB hr
  unfold viewA Tb.v
  dsimp only at hc hB hr
  dsimp only
  clear hT
  obtain ⟨R, hR⟩ : ∃ R, r j0 = R := ⟨_, rfl⟩
  have hcj := hc j0 hj
  have hrj := hr j0 hj
  rw [hR] at hcj hrj hbr ⊢
  obtain ⟨qa, qn, qcap, qb, qo, qs⟩ := R
  obtain ⟨q1, q2, q3⟩ := hrj
  unfold Sl.Bears at hbr
  unfold Sl.v at hcj ⊢
  dsimp only at q1 q2 q3 hbr hcj ⊢
  obtain ⟨qz, qnm⟩ := hbr
  obtain rfl := q1 0 qz
  go_enter Try.func7, Try.ntmps7
  go_wp2_with fail
  generalize hW : w.alloc (.cells #[.string t0, .slice a1 n1 c1, .slice a n cap, .string t3, .string t4, .string t5, .slice a6 n6 c6] 27) = W at *
  go_loop [10] (fun i => ∃ k : Nat, k ≤ j0 ∧ i = .int .i64 k) (fun i => n - (intOf i).toNat)
  case atStart => exact ⟨0, Nat.zero_le _, rfl⟩
  case round =>
    obtain ⟨k, hk, rfl⟩ := hrel
    by_cases hlt : k < j0
    · obtain rfl := hh k (by omega)
      have hcr : W.cell? ⟨b, off + k, none⟩ = some (.slice (r k).a (r k).n (r k).cap) := hc k (by omega)
      have hrow := hr k (by omega)
      have hnb := hno k hlt
      clear hc hr hno
      generalize r k = R at *
      obtain ⟨ra, rn, rcap, rb, ro, rs⟩ := R
      obtain ⟨h1, h2, h3⟩ := hrow
      unfold Sl.Bears at hnb
      dsimp only at h1 h2 h3 hnb hcr
      have l0 : (0 : Int) ≤ (k : Int) := by omega
      have l1 : (k : Int) < (n : Int) := by omega
      by_cases hz : 0 < rn
      · obtain rfl := h1 0 hz
        have hs := h2 0 hz
        rw [Nat.add_zero] at hs
        have hz' : (0 : Int) < (rn : Int) := by omega
        have hne := str_ne (x := rs 0) (y := nm) fun h => hnb ⟨hz, h⟩
        clear h1 h2
        go_wp2
        exact ⟨⟨k + 1, by omega, by simp⟩, by simp [intOf]; omega⟩
      · have hz' : decide ((0 : Int) < (rn : Int)) = false := by simpa using (by omega : rn = 0)
        go_wp2
        exact ⟨⟨k + 1, by omega, by simp⟩, by simp [intOf]; omega⟩
    · obtain rfl : k = j0 := by omega
      obtain rfl := hh k (by omega)
      clear hc hr hno
      have l0 : (0 : Int) ≤ (k : Int) := by omega
      have l1 : (k : Int) < (n : Int) := by omega
      have hs := q2 0 qz
      rw [Nat.add_zero] at hs
      have hz' : (0 : Int) < (qn : Int) := by omega
      have hne := str_eq (x := qs 0) (y := nm) qnm
      clear q1 q2
      go_wp2
      exact bodyPost_ret (v := .slice (some ⟨qb, qo, none⟩) qn qcap) (by simp [results, Try.results7, go_sem]) rfl ⟨rfl, hB⟩

theorem least (P : Nat → Prop) : ∀ n, (∀ j, j < n → ¬ P j) ∨ ∃ j, j < n ∧ P j ∧ ∀ i, i < j → ¬ P i
  | 0 => Or.inl fun j hj => by omega
  | n + 1 => by
    rcases least P n with h | ⟨j, hj, hp, hi⟩
    · by_cases hn : P n
      · exact Or.inr ⟨n, by omega, hn, h⟩
      · refine Or.inl fun j hj => ?_
        by_cases e : j = n
        · subst e; exact hn
        · exact h j (by omega)
    · exact Or.inr ⟨j, by omega, hp, hi⟩

/-- Some row or nil. -/
def AnsV (e : Ending) : Prop := ∃ v, e = .returned v
theorem row_any (t0 t3 t4 t5 nm : ByteArray) (a1 a6 : Option Addr) (n1 c1 n6 c6 : Nat) (T : Tb) (w : World) (hT : T.Lies w) : Calls Try.prog 7 #[.agg (viewA t0 a1 n1 c1 T.v t3 t4 t5 a6 n6 c6), .string nm] w fun e w' => AnsV e ∧ Below w.heap.size w w' := by
  rcases least (fun j => (T.r j).Bears nm) T.n with h | ⟨j, hj, hp, hi⟩
  · exact (row_none t0 t3 t4 t5 nm a1 a6 n1 c1 n6 c6 T w hT h).mono fun e w' ⟨he, hb⟩ => ⟨⟨_, he⟩, hb⟩
  · exact (row_first t0 t3 t4 t5 nm a1 a6 n1 c1 n6 c6 T w hT j hj hp hi).mono fun e w' ⟨he, hb⟩ => ⟨⟨_, he⟩, hb⟩

theorem eqNN (w : World) : (binOp .eql 22 (.slice none 0 0) (.slice none 0 0)).run Try.prog w = .ok (.bool true) w := by kernel_rfl
theorem eqSN (x : Addr) (n cap : Nat) (w : World) : (binOp .eql 22 (.slice (some x) n cap) (.slice none 0 0)).run Try.prog w = .ok (.bool false) w := by kernel_rfl
theorem neNN (w : World) : (binOp .neq 22 (.slice none 0 0) (.slice none 0 0)).run Try.prog w = .ok (.bool false) w := by kernel_rfl
theorem neSN (x : Addr) (n cap : Nat) (w : World) : (binOp .neq 22 (.slice (some x) n cap) (.slice none 0 0)).run Try.prog w = .ok (.bool true) w := by kernel_rfl
attribute [local go_sem] eqNN eqSN neNN neSN

theorem same_nil (w : World) : Calls Try.prog 8 #[.slice none 0 0, .slice none 0 0] w fun e w' => e = .returned (.bool true) ∧ Below w.heap.size w w' := by
  go_enter Try.func8, Try.ntmps8
  go_wp2
  go_loop [5] (fun i => i = .int .i64 0) (fun i => 0 - (intOf i).toNat)
  case atStart => rfl
  case round =>
    subst hrel
    go_wp2
    exact bodyPost_ret (v := .bool true) (by simp [results, Try.results8, go_sem]) rfl ⟨rfl, Below.refl _ _⟩

set_option maxHeartbeats 1000000 in
theorem same_some (x : Addr) (n cap b off : Nat) (s : Nat → ByteArray) (w : World) (hh : ∀ j, j < n → x = ⟨b, off, none⟩) (hc : ∀ j, j < n → w.cell? ⟨b, off + j, none⟩ = some (.string (s j))) (hm : n ≤ maxLen) :
    Calls Try.prog 8 #[.slice (some x) n cap, .slice (some x) n cap] w fun e w' => e = .returned (.bool true) ∧ Below w.heap.size w w' := by
  unfold maxLen at hm
  go_enter Try.func8, Try.ntmps8
  go_wp2
  go_loopw [5] (fun i wr => ∃ k : Nat, k ≤ n ∧ i = .int .i64 k ∧ Below w.heap.size w wr) (fun i _ => n - (intOf i).toNat)
  case atStart => exact ⟨0, Nat.zero_le _, rfl, Below.refl _ _⟩
  case round =>
    obtain ⟨k, hk, rfl, hbel⟩ := hrel
    by_cases hlt : k < n
    · obtain rfl := hh k hlt
      have hs := hc k hlt
      have hbw := World.block_lt_of_cell? w _ hs
      have hs' : wr.cell? ⟨b, off + k, none⟩ = _ := (hbel.cell (p := ⟨b, off + k, none⟩) hbw).trans hs
      have l0 : (0 : Int) ≤ (k : Int) := by omega
      have l1 : (k : Int) < (n : Int) := by omega
      go_wp2
      go_quiet (fail)
      go_wp2
      exact ⟨⟨k + 1, by omega, by simp, ⟨hbel.os, hbel.tape, hbel.output, hbel.size, hbel.block⟩⟩, by simp [intOf]; omega⟩
    · have l1 : ¬ (k : Int) < (n : Int) := by omega
      go_wp2
      exact bodyPost_ret (v := .bool true) (by simp [results, Try.results8, go_sem]) rfl ⟨rfl, hbel⟩
end Go.Proofs.Qxb6632222a
