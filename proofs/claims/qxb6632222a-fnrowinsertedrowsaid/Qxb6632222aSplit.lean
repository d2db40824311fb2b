/-
  FnRowSplitsAtAnyCut: the walk.
-/
import Derived.Test.Qxb6632222aRow
import Derived.Test.Qxb6632222aBytes
import Derived.Test.Qxb6632222aBig
namespace Go.Proofs.Qxb6632222a
open Go.RowKit
set_option linter.unusedSimpArgs false
attribute [local go_sem] eqNN eqSN neNN neSN

/-- Where the slice behind a cut begins. -/
def cutA (a : Option Addr) (cap k : Nat) : Option Addr := if cap = k then a else a.map (·.add k)
def Tb.upto (T : Tb) (k : Nat) : Tb := { T with n := k }
def Tb.from (T : Tb) (k : Nat) : Tb := ⟨cutA T.a T.cap k, T.n - k, T.cap - k, T.b, T.off + k, fun j => T.r (k + j)⟩
theorem Tb.Lies.upto {T : Tb} {w : World} (h : T.Lies w) {k : Nat} (hk : k ≤ T.n) : (T.upto k).Lies w :=
  ⟨fun j hj => h.here j (Nat.lt_of_lt_of_le hj hk), fun j hj => h.cell j (Nat.lt_of_lt_of_le hj hk), fun j hj => h.row j (Nat.lt_of_lt_of_le hj hk), Nat.le_trans hk h.max⟩
theorem Tb.Lies.from {T : Tb} {w : World} (h : T.Lies w) {k : Nat} (hc : T.n ≤ T.cap) : (T.from k).Lies w := by
  refine ⟨fun j hj => ?_, fun j hj => ?_, fun j hj => ?_, ?_⟩
  · have hj' : j < T.n - k := hj
    show cutA T.a T.cap k = some ⟨T.b, T.off + k, none⟩
    rw [cutA, if_neg (by omega), h.here 0 (by omega)]
    by_cases e : k = 0
    · subst e; rfl
    · simp [Addr.add, e]
  · have hj' : j < T.n - k := hj
    have := h.cell (k + j) (by omega)
    show w.cell? ⟨T.b, T.off + k + j, none⟩ = some (T.r (k + j)).v
    rw [Nat.add_assoc]; exact this
  · have hj' : j < T.n - k := hj
    exact h.row (k + j) (by omega)
  · exact Nat.le_trans (Nat.sub_le _ _) h.max

theorem cutL (a : Option Addr) (n cap k : Nat) (w : World) (hk : k ≤ n) (hn : n ≤ cap) : (Instr.slice 23 (.slice a n cap) none (some (.int .i64 k)) none).run Try.prog w = .ok (.slice a k cap) w := by
  have h0 : (0 : Int) ≤ (k : Int) := by omega
  have h1 : (k : Int) ≤ (cap : Int) := by omega
  have hs : (sizeOf (Try.prog.elem 23)).run Try.prog w = .ok 1 w := by kernel_rfl
  have hadd : a.map (·.add 0) = a := by cases a <;> rfl
  rw [run_slice_h w 23 a n cap (by kernel_rfl) .i64 k h0 h1, hs]
  simp [Result.andThen, sliced, hadd]
theorem cutR (a : Option Addr) (n cap k : Nat) (w : World) (hk : k ≤ n) : (Instr.slice 23 (.slice a n cap) (some (.int .i64 k)) none none).run Try.prog w = .ok (.slice (cutA a cap k) (n - k) (cap - k)) w := by
  have h0 : (0 : Int) ≤ (k : Int) := by omega
  have h1 : (k : Int) ≤ (n : Int) := by omega
  have hs : (sizeOf (Try.prog.elem 23)).run Try.prog w = .ok 1 w := by kernel_rfl
  rw [run_slice_l w 23 a n cap (by kernel_rfl) .i64 k h0 h1, hs]
  simp [Result.andThen, sliced, cutA]

theorem heap3_mid (w : World) (A B C : Obj) : (((w.alloc A).alloc B).alloc C).heap[w.heap.size + 1]? = some B := by
  have h := heap_alloc_new (w.alloc A) B
  rw [World.size_alloc] at h
  rw [heap_alloc_old _ _ (by simp)]
  exact h
theorem heap3_new (w : World) (A B C : Obj) : (((w.alloc A).alloc B).alloc C).heap[w.heap.size + 1 + 1]? = some C := by
  have h := heap_alloc_new ((w.alloc A).alloc B) C
  rw [World.size_alloc, World.size_alloc] at h
  exact h
theorem below3 (w : World) (A B C : Obj) : Below w.heap.size w (((w.alloc A).alloc B).alloc C) := (((below1 w A).alloc (by simp) B).alloc (by simp; omega) C)
theorem cells7 {w : World} {b : Nat} {v0 v1 v2 v3 v4 v5 v6 : Value} (h : w.heap[b]? = some (.cells #[v0, v1, v2, v3, v4, v5, v6] 27)) :
    w.cell? ⟨b, 0, none⟩ = some v0 ∧ w.cell? ⟨b, 1, none⟩ = some v1 ∧ w.cell? ⟨b, 2, none⟩ = some v2 ∧ w.cell? ⟨b, 3, none⟩ = some v3 ∧ w.cell? ⟨b, 4, none⟩ = some v4 ∧ w.cell? ⟨b, 5, none⟩ = some v5 ∧ w.cell? ⟨b, 6, none⟩ = some v6 := by
  refine ⟨?_, ?_, ?_, ?_, ?_, ?_, ?_⟩ <;> (rw [cell_of_row _ _ _ _ _ _ h]; rfl)

set_option maxHeartbeats 8000000 in
set_option maxRecDepth 100000 in
theorem split_none (ti te al st na : ByteArray) (H Q : Sl) (T : Tb) (kk : Int) (w : World) (hH : H.Lies w) (hQ : Q.Lies w) (hT : T.Lies w) (hcap : T.n ≤ T.cap) (hmax : T.cap ≤ maxLen) (hno : ∀ j, j < T.n → ¬ (T.r j).Bears na) :
    Calls Try.prog 3 #[.string ti, .slice H.a H.n H.cap, .slice T.a T.n T.cap, .string te, .string al, .string st, .slice Q.a Q.n Q.cap, .string na, .int .i64 kk] w fun e w' => e = .returned (.bool true) ∧ Below w.heap.size w w' := by
  unfold maxLen at hmax
  go_enter Try.func3, Try.ntmps3
  go_wp2_with fail
  refine (bytes5 ti te al st na H.a T.a Q.a H.n H.cap H.b H.off T.n T.cap T.b T.off Q.n Q.cap Q.b Q.off H.s Q.s T.r kk w ⟨hH.here, hH.cell⟩ ⟨hT.here, hT.cell, hT.row⟩ ⟨hQ.here, hQ.cell⟩ hH.max hT.max hQ.max).mono ?_
  rintro e w ⟨⟨r1, rfl⟩, rfl⟩
  cases r1
  · go_wp2
    exact bodyPost_ret (v := .bool true) (by simp [results, Try.results3, go_sem]) rfl ⟨rfl, Below.refl _ _⟩
  go_wp2_with fail
  refine (tooBigC ti te al st na H.a T.a Q.a none H.n H.cap H.b H.off T.n T.cap T.b T.off Q.n Q.cap Q.b Q.off 0 0 0 0 H.s Q.s (fun _ => ByteArray.empty) T.r w ⟨hH.here, hH.cell⟩ ⟨hT.here, hT.cell, hT.row⟩ ⟨hQ.here, hQ.cell⟩ ⟨fun j hj => by omega, fun j hj => by omega⟩ hH.max hT.max hQ.max (Nat.zero_le _)).mono ?_
  rintro e w ⟨⟨r2, rfl, _⟩, rfl⟩
  cases r2
  rotate_left
  · go_wp2
    exact bodyPost_ret (v := .bool true) (by simp [results, Try.results3, go_sem]) rfl ⟨rfl, Below.refl _ _⟩
  by_cases k0 : kk < 0
  · have g : decide (kk < 0) = true := by simpa using k0
    go_wp2
    exact bodyPost_ret (v := .bool true) (by simp [results, Try.results3, go_sem]) rfl ⟨rfl, Below.refl _ _⟩
  obtain ⟨k, rfl⟩ : ∃ k : Nat, kk = k := ⟨kk.toNat, by omega⟩
  have g0 : decide ((k : Int) < 0) = false := by simp
  by_cases k1 : (T.n : Int) < (k : Int)
  · go_wp2
    exact bodyPost_ret (v := .bool true) (by simp [results, Try.results3, go_sem]) rfl ⟨rfl, Below.refl _ _⟩
  have hk : k ≤ T.n := by omega
  have cl := fun w => cutL T.a T.n T.cap k w hk hcap
  have cr := fun w => cutR T.a T.n T.cap k w hk
  have hB1 : Below w.heap.size w (((w.alloc (.cells (viewA ti H.a H.n H.cap (.slice T.a T.n T.cap) te al st Q.a Q.n Q.cap) 27)).alloc (.cells (viewA ⟨#[]⟩ none 0 0 (.slice T.a k T.cap) ⟨#[]⟩ ⟨#[]⟩ ⟨#[]⟩ none 0 0) 27)).alloc (.cells (viewA ⟨#[]⟩ none 0 0 (.slice (cutA T.a T.cap k) (T.n - k) (T.cap - k)) ⟨#[]⟩ ⟨#[]⟩ ⟨#[]⟩ none 0 0) 27)) := below3 _ _ _ _
  have hV1 := heap3_mid w (.cells (viewA ti H.a H.n H.cap (.slice T.a T.n T.cap) te al st Q.a Q.n Q.cap) 27) (.cells (viewA ⟨#[]⟩ none 0 0 (.slice T.a k T.cap) ⟨#[]⟩ ⟨#[]⟩ ⟨#[]⟩ none 0 0) 27) (.cells (viewA ⟨#[]⟩ none 0 0 (.slice (cutA T.a T.cap k) (T.n - k) (T.cap - k)) ⟨#[]⟩ ⟨#[]⟩ ⟨#[]⟩ none 0 0) 27)
  have hV2 := heap3_new w (.cells (viewA ti H.a H.n H.cap (.slice T.a T.n T.cap) te al st Q.a Q.n Q.cap) 27) (.cells (viewA ⟨#[]⟩ none 0 0 (.slice T.a k T.cap) ⟨#[]⟩ ⟨#[]⟩ ⟨#[]⟩ none 0 0) 27) (.cells (viewA ⟨#[]⟩ none 0 0 (.slice (cutA T.a T.cap k) (T.n - k) (T.cap - k)) ⟨#[]⟩ ⟨#[]⟩ ⟨#[]⟩ none 0 0) 27)
  unfold viewA at hB1 hV1 hV2
  go_wp2_with fail
  clear cl cr
  generalize World.alloc _ _ = W1 at hB1 hV1 hV2 ⊢
  have l1 : w.heap.size + 1 < W1.heap.size := (Array.getElem?_eq_some_iff.1 hV1).1
  have l2 : w.heap.size + 1 + 1 < W1.heap.size := (Array.getElem?_eq_some_iff.1 hV2).1
  refine (row_none ti te al st na H.a Q.a H.n H.cap Q.n Q.cap T W1 (hT.below hB1) hno).mono ?_
  rintro e W2 ⟨rfl, hb⟩
  have hB2 := hB1.trans (hb.mono hB1.size)
  have hV1 := (hb.block _ l1).trans hV1
  have hV2 := (hb.block _ l2).trans hV2
  have l1 := Nat.lt_of_lt_of_le l1 hb.size
  have l2 := Nat.lt_of_lt_of_le l2 hb.size
  clear hb
  obtain ⟨c0, c1, c2, c3, c4, c5, c6⟩ := cells7 hV1
  go_wp2_with fail
  clear c0 c1 c2 c3 c4 c5 c6
  refine (row_none ⟨#[]⟩ ⟨#[]⟩ ⟨#[]⟩ ⟨#[]⟩ na none none 0 0 0 0 (T.upto k) W2 ((hT.below hB2).upto hk) (fun j hj => hno j (Nat.lt_of_lt_of_le hj hk))).mono ?_
  rintro e W3 ⟨rfl, hb⟩
  have hB3 := hB2.trans (hb.mono hB2.size)
  have hV2 := (hb.block _ l2).trans hV2
  clear hb
  obtain ⟨c0, c1, c2, c3, c4, c5, c6⟩ := cells7 hV2
  go_wp2_with fail
  clear c0 c1 c2 c3 c4 c5 c6
  refine (row_none ⟨#[]⟩ ⟨#[]⟩ ⟨#[]⟩ ⟨#[]⟩ na none none 0 0 0 0 (T.from k) W3 ((hT.below hB3).from hcap) (fun j hj => hno (k + j) (by have : j < T.n - k := hj; omega))).mono ?_
  rintro e W4 ⟨rfl, hb⟩
  have hB4 := hB3.trans (hb.mono hB3.size)
  clear hb hV1 hV2 l1 l2
  have hT4 := hT.below hB4
  go_wp2
  go_loop [26, 27] (fun p i => p = .bool false ∧ ∃ i' : Nat, i' ≤ T.n ∧ i = .int .i64 i') (fun _ i => T.n - (intOf i).toNat)
  case atStart => exact ⟨rfl, 0, Nat.zero_le _, rfl⟩
  case round =>
    obtain ⟨rfl, i, hi, rfl⟩ := hrel
    by_cases hlt : i < T.n
    · have ha := hT4.here i (by omega)
      have hcr : W4.cell? ⟨T.b, T.off + i, none⟩ = some (.slice (T.r i).a (T.r i).n (T.r i).cap) := hT4.cell i (by omega)
      obtain ⟨h1, h2, h3⟩ := hT4.row i (by omega)
      have hnb := hno i hlt
      unfold Sl.Bears at hnb
      have l0 : (0 : Int) ≤ (i : Int) := by omega
      have l1 : (i : Int) < (T.n : Int) := by omega
      by_cases hz : 0 < (T.r i).n
      · have hra := h1 0 hz
        rw [hra] at hcr
        have hs := h2 0 hz
        rw [Nat.add_zero] at hs
        have hz' : (0 : Int) < ((T.r i).n : Int) := by omega
        have hne := str_ne (x := (T.r i).s 0) (y := na) fun h => hnb ⟨hz, h⟩
        clear h1 h2 hra
        rw [ha]
        go_wp2
        exact ⟨⟨rfl, i + 1, by omega, by simp⟩, by simp [intOf]; omega⟩
      · have hz' : decide ((0 : Int) < ((T.r i).n : Int)) = false := by simpa using (by omega : (T.r i).n = 0)
        rw [ha]
        go_wp2
        exact ⟨⟨rfl, i + 1, by omega, by simp⟩, by simp [intOf]; omega⟩
    · have l1 : ¬ (i : Int) < (T.n : Int) := by omega
      go_wp2_with fail
      refine (same_nil W4).mono ?_
      rintro e W5 ⟨rfl, hb⟩
      have hB5 := hB4.trans (hb.mono hB4.size)
      go_wp2
      exact bodyPost_ret (v := .bool true) (by simp [results, Try.results3, go_sem]) rfl ⟨rfl, hB5⟩

set_option maxHeartbeats 8000000 in
set_option maxRecDepth 100000 in
theorem split_first (ti te al st na : ByteArray) (H Q : Sl) (T : Tb) (kk : Int) (w : World) (hH : H.Lies w) (hQ : Q.Lies w) (hT : T.Lies w) (hcap : T.n ≤ T.cap) (hmax : T.cap ≤ maxLen) (j0 : Nat) (hj : j0 < T.n) (hbr : (T.r j0).Bears na) (hno : ∀ j, j < j0 → ¬ (T.r j).Bears na) :
    Calls Try.prog 3 #[.string ti, .slice H.a H.n H.cap, .slice T.a T.n T.cap, .string te, .string al, .string st, .slice Q.a Q.n Q.cap, .string na, .int .i64 kk] w fun e w' => e = .returned (.bool true) ∧ Below w.heap.size w w' := by
  unfold maxLen at hmax
  obtain ⟨qz, qnm⟩ := hbr
  have hv : (T.r j0).v = .slice (some ⟨(T.r j0).b, (T.r j0).off, none⟩) (T.r j0).n (T.r j0).cap := by rw [Sl.v, (hT.row j0 hj).here 0 qz]
  go_enter Try.func3, Try.ntmps3
  go_wp2_with fail
  refine (bytes5 ti te al st na H.a T.a Q.a H.n H.cap H.b H.off T.n T.cap T.b T.off Q.n Q.cap Q.b Q.off H.s Q.s T.r kk w ⟨hH.here, hH.cell⟩ ⟨hT.here, hT.cell, hT.row⟩ ⟨hQ.here, hQ.cell⟩ hH.max hT.max hQ.max).mono ?_
  rintro e w ⟨⟨r1, rfl⟩, rfl⟩
  cases r1
  · go_wp2
    exact bodyPost_ret (v := .bool true) (by simp [results, Try.results3, go_sem]) rfl ⟨rfl, Below.refl _ _⟩
  go_wp2_with fail
  refine (tooBigC ti te al st na H.a T.a Q.a none H.n H.cap H.b H.off T.n T.cap T.b T.off Q.n Q.cap Q.b Q.off 0 0 0 0 H.s Q.s (fun _ => ByteArray.empty) T.r w ⟨hH.here, hH.cell⟩ ⟨hT.here, hT.cell, hT.row⟩ ⟨hQ.here, hQ.cell⟩ ⟨fun j hj => by omega, fun j hj => by omega⟩ hH.max hT.max hQ.max (Nat.zero_le _)).mono ?_
  rintro e w ⟨⟨r2, rfl, _⟩, rfl⟩
  cases r2
  rotate_left
  · go_wp2
    exact bodyPost_ret (v := .bool true) (by simp [results, Try.results3, go_sem]) rfl ⟨rfl, Below.refl _ _⟩
  by_cases k0 : kk < 0
  · have g : decide (kk < 0) = true := by simpa using k0
    go_wp2
    exact bodyPost_ret (v := .bool true) (by simp [results, Try.results3, go_sem]) rfl ⟨rfl, Below.refl _ _⟩
  obtain ⟨k, rfl⟩ : ∃ k : Nat, kk = k := ⟨kk.toNat, by omega⟩
  have g0 : decide ((k : Int) < 0) = false := by simp
  by_cases k1 : (T.n : Int) < (k : Int)
  · go_wp2
    exact bodyPost_ret (v := .bool true) (by simp [results, Try.results3, go_sem]) rfl ⟨rfl, Below.refl _ _⟩
  have hk : k ≤ T.n := by omega
  have cl := fun w => cutL T.a T.n T.cap k w hk hcap
  have cr := fun w => cutR T.a T.n T.cap k w hk
  have hB1 : Below w.heap.size w (((w.alloc (.cells (viewA ti H.a H.n H.cap (.slice T.a T.n T.cap) te al st Q.a Q.n Q.cap) 27)).alloc (.cells (viewA ⟨#[]⟩ none 0 0 (.slice T.a k T.cap) ⟨#[]⟩ ⟨#[]⟩ ⟨#[]⟩ none 0 0) 27)).alloc (.cells (viewA ⟨#[]⟩ none 0 0 (.slice (cutA T.a T.cap k) (T.n - k) (T.cap - k)) ⟨#[]⟩ ⟨#[]⟩ ⟨#[]⟩ none 0 0) 27)) := below3 _ _ _ _
  have hV1 := heap3_mid w (.cells (viewA ti H.a H.n H.cap (.slice T.a T.n T.cap) te al st Q.a Q.n Q.cap) 27) (.cells (viewA ⟨#[]⟩ none 0 0 (.slice T.a k T.cap) ⟨#[]⟩ ⟨#[]⟩ ⟨#[]⟩ none 0 0) 27) (.cells (viewA ⟨#[]⟩ none 0 0 (.slice (cutA T.a T.cap k) (T.n - k) (T.cap - k)) ⟨#[]⟩ ⟨#[]⟩ ⟨#[]⟩ none 0 0) 27)
  have hV2 := heap3_new w (.cells (viewA ti H.a H.n H.cap (.slice T.a T.n T.cap) te al st Q.a Q.n Q.cap) 27) (.cells (viewA ⟨#[]⟩ none 0 0 (.slice T.a k T.cap) ⟨#[]⟩ ⟨#[]⟩ ⟨#[]⟩ none 0 0) 27) (.cells (viewA ⟨#[]⟩ none 0 0 (.slice (cutA T.a T.cap k) (T.n - k) (T.cap - k)) ⟨#[]⟩ ⟨#[]⟩ ⟨#[]⟩ none 0 0) 27)
  unfold viewA at hB1 hV1 hV2
  go_wp2_with fail
  clear cl cr
  generalize World.alloc _ _ = W1 at hB1 hV1 hV2 ⊢
  have l1 : w.heap.size + 1 < W1.heap.size := (Array.getElem?_eq_some_iff.1 hV1).1
  have l2 : w.heap.size + 1 + 1 < W1.heap.size := (Array.getElem?_eq_some_iff.1 hV2).1
  have cFirst : Calls Try.prog 7 #[.agg (viewA ti H.a H.n H.cap T.v te al st Q.a Q.n Q.cap), .string na] W1 fun e w' => e = .returned (T.r j0).v ∧ Below W1.heap.size W1 w' := row_first ti te al st na H.a Q.a H.n H.cap Q.n Q.cap T W1 (hT.below hB1) j0 hj ⟨qz, qnm⟩ hno
  by_cases hjk : j0 < k
  · refine (cFirst).mono ?_
    rintro e W2 ⟨he, hb⟩
    rw [hv] at he
    subst he
    have hB2 := hB1.trans (hb.mono hB1.size)
    have hV1 := (hb.block _ l1).trans hV1
    have hV2 := (hb.block _ l2).trans hV2
    have l1 := Nat.lt_of_lt_of_le l1 hb.size
    have l2 := Nat.lt_of_lt_of_le l2 hb.size
    clear hb
    obtain ⟨c0, c1, c2, c3, c4, c5, c6⟩ := cells7 hV1
    go_wp2_with fail
    clear c0 c1 c2 c3 c4 c5 c6
    refine (row_first ⟨#[]⟩ ⟨#[]⟩ ⟨#[]⟩ ⟨#[]⟩ na none none 0 0 0 0 (T.upto k) W2 ((hT.below hB2).upto hk) j0 hjk ⟨qz, qnm⟩ hno).mono ?_
    rintro e W3 ⟨he, hb⟩
    rw [(show ((T.upto k).r j0).v = _ from hv)] at he
    subst he
    have hB3 := hB2.trans (hb.mono hB2.size)
    have hV2 := (hb.block _ l2).trans hV2
    clear hb
    obtain ⟨c0, c1, c2, c3, c4, c5, c6⟩ := cells7 hV2
    go_wp2_with fail
    clear c0 c1 c2 c3 c4 c5 c6
    refine (row_any ⟨#[]⟩ ⟨#[]⟩ ⟨#[]⟩ ⟨#[]⟩ na none none 0 0 0 0 (T.from k) W3 ((hT.below hB3).from hcap)).mono ?_
    rintro e W4 ⟨⟨v, rfl⟩, hb⟩
    have hB4 := hB3.trans (hb.mono hB3.size)
    clear hb hV1 hV2 l1 l2
    have hT4 := hT.below hB4
    go_wp2
    go_loop [26, 27] (fun p i => p = .bool false ∧ ∃ i' : Nat, i' ≤ j0 ∧ i = .int .i64 i') (fun _ i => T.n - (intOf i).toNat)
    case atStart => exact ⟨rfl, 0, Nat.zero_le _, rfl⟩
    case round =>
      obtain ⟨rfl, i, hi, rfl⟩ := hrel
      by_cases hlt : i < j0
      · have ha := hT4.here i (by omega)
        have hcr : W4.cell? ⟨T.b, T.off + i, none⟩ = some (.slice (T.r i).a (T.r i).n (T.r i).cap) := hT4.cell i (by omega)
        obtain ⟨h1, h2, h3⟩ := hT4.row i (by omega)
        have hnb := hno i hlt
        unfold Sl.Bears at hnb
        have l0 : (0 : Int) ≤ (i : Int) := by omega
        have l1 : (i : Int) < (T.n : Int) := by omega
        by_cases hz : 0 < (T.r i).n
        · have hra := h1 0 hz
          rw [hra] at hcr
          have hs := h2 0 hz
          rw [Nat.add_zero] at hs
          have hz' : (0 : Int) < ((T.r i).n : Int) := by omega
          have hne := str_ne (x := (T.r i).s 0) (y := na) fun h => hnb ⟨hz, h⟩
          clear h1 h2 hra
          rw [ha]
          go_wp2
          exact ⟨⟨rfl, i + 1, by omega, by simp⟩, by simp [intOf]; omega⟩
        · have hz' : decide ((0 : Int) < ((T.r i).n : Int)) = false := by simpa using (by omega : (T.r i).n = 0)
          rw [ha]
          go_wp2
          exact ⟨⟨rfl, i + 1, by omega, by simp⟩, by simp [intOf]; omega⟩
      · obtain rfl : i = j0 := by omega
        have ha := hT4.here i (by omega)
        have hcr : W4.cell? ⟨T.b, T.off + i, none⟩ = some (T.r i).v := hT4.cell i (by omega)
        rw [hv] at hcr
        obtain ⟨h1, h2, h3⟩ := hT4.row i (by omega)
        have l0 : (0 : Int) ≤ (i : Int) := by omega
        have l1 : (i : Int) < (T.n : Int) := by omega
        have hs := h2 0 qz
        rw [Nat.add_zero] at hs
        have hz' : (0 : Int) < ((T.r i).n : Int) := by omega
        have hz2 : ¬ ((T.r i).n : Int) ≤ 0 := by omega
        have hz3 : decide (((T.r i).n : Int) ≤ 0) = false := by simpa using hz2
        have hne := str_eq (x := (T.r i).s 0) (y := na) qnm
        rw [ha]
        go_wp2_with fail
        refine (same_some _ _ _ _ _ _ W4 (fun _ _ => rfl) h2 h3).mono ?_
        rintro e W5 ⟨rfl, hb⟩
        have hB5 := hB4.trans (hb.mono hB4.size)
        go_wp2
        exact bodyPost_ret (v := .bool true) (by simp [results, Try.results3, go_sem]) rfl ⟨rfl, hB5⟩
  · have hEF : (T.from k).r (j0 - k) = T.r j0 := by
      show T.r (k + (j0 - k)) = _
      rw [Nat.add_sub_cancel' (by omega)]
    refine (cFirst).mono ?_
    rintro e W2 ⟨he, hb⟩
    rw [hv] at he
    subst he
    have hB2 := hB1.trans (hb.mono hB1.size)
    have hV1 := (hb.block _ l1).trans hV1
    have hV2 := (hb.block _ l2).trans hV2
    have l1 := Nat.lt_of_lt_of_le l1 hb.size
    have l2 := Nat.lt_of_lt_of_le l2 hb.size
    clear hb
    obtain ⟨c0, c1, c2, c3, c4, c5, c6⟩ := cells7 hV1
    go_wp2_with fail
    clear c0 c1 c2 c3 c4 c5 c6
    refine (row_none ⟨#[]⟩ ⟨#[]⟩ ⟨#[]⟩ ⟨#[]⟩ na none none 0 0 0 0 (T.upto k) W2 ((hT.below hB2).upto hk) (fun j hj => hno j (by have : j < k := hj; omega))).mono ?_
    rintro e W3 ⟨rfl, hb⟩
    have hB3 := hB2.trans (hb.mono hB2.size)
    have hV2 := (hb.block _ l2).trans hV2
    clear hb
    obtain ⟨c0, c1, c2, c3, c4, c5, c6⟩ := cells7 hV2
    go_wp2_with fail
    clear c0 c1 c2 c3 c4 c5 c6
    refine (row_first ⟨#[]⟩ ⟨#[]⟩ ⟨#[]⟩ ⟨#[]⟩ na none none 0 0 0 0 (T.from k) W3 ((hT.below hB3).from hcap) (j0 - k) (by show j0 - k < T.n - k; omega) (by rw [hEF]; exact ⟨qz, qnm⟩) (fun j hj => hno (k + j) (by omega))).mono ?_
    rintro e W4 ⟨he, hb⟩
    rw [hEF, hv] at he
    subst he
    have hB4 := hB3.trans (hb.mono hB3.size)
    clear hb hV1 hV2 l1 l2
    have hT4 := hT.below hB4
    go_wp2
    go_loop [26, 27] (fun p i => p = .bool false ∧ ∃ i' : Nat, i' ≤ j0 ∧ i = .int .i64 i') (fun _ i => T.n - (intOf i).toNat)
    case atStart => exact ⟨rfl, 0, Nat.zero_le _, rfl⟩
    case round =>
      obtain ⟨rfl, i, hi, rfl⟩ := hrel
      by_cases hlt : i < j0
      · have ha := hT4.here i (by omega)
        have hcr : W4.cell? ⟨T.b, T.off + i, none⟩ = some (.slice (T.r i).a (T.r i).n (T.r i).cap) := hT4.cell i (by omega)
        obtain ⟨h1, h2, h3⟩ := hT4.row i (by omega)
        have hnb := hno i hlt
        unfold Sl.Bears at hnb
        have l0 : (0 : Int) ≤ (i : Int) := by omega
        have l1 : (i : Int) < (T.n : Int) := by omega
        by_cases hz : 0 < (T.r i).n
        · have hra := h1 0 hz
          rw [hra] at hcr
          have hs := h2 0 hz
          rw [Nat.add_zero] at hs
          have hz' : (0 : Int) < ((T.r i).n : Int) := by omega
          have hne := str_ne (x := (T.r i).s 0) (y := na) fun h => hnb ⟨hz, h⟩
          clear h1 h2 hra
          rw [ha]
          go_wp2
          exact ⟨⟨rfl, i + 1, by omega, by simp⟩, by simp [intOf]; omega⟩
        · have hz' : decide ((0 : Int) < ((T.r i).n : Int)) = false := by simpa using (by omega : (T.r i).n = 0)
          rw [ha]
          go_wp2
          exact ⟨⟨rfl, i + 1, by omega, by simp⟩, by simp [intOf]; omega⟩
      · obtain rfl : i = j0 := by omega
        have ha := hT4.here i (by omega)
        have hcr : W4.cell? ⟨T.b, T.off + i, none⟩ = some (T.r i).v := hT4.cell i (by omega)
        rw [hv] at hcr
        obtain ⟨h1, h2, h3⟩ := hT4.row i (by omega)
        have l0 : (0 : Int) ≤ (i : Int) := by omega
        have l1 : (i : Int) < (T.n : Int) := by omega
        have hs := h2 0 qz
        rw [Nat.add_zero] at hs
        have hz' : (0 : Int) < ((T.r i).n : Int) := by omega
        have hz2 : ¬ ((T.r i).n : Int) ≤ 0 := by omega
        have hz3 : decide (((T.r i).n : Int) ≤ 0) = false := by simpa using hz2
        have hne := str_eq (x := (T.r i).s 0) (y := na) qnm
        rw [ha]
        go_wp2_with fail
        refine (same_some _ _ _ _ _ _ W4 (fun _ _ => rfl) h2 h3).mono ?_
        rintro e W5 ⟨rfl, hb⟩
        have hB5 := hB4.trans (hb.mono hB4.size)
        go_wp2
        exact bodyPost_ret (v := .bool true) (by simp [results, Try.results3, go_sem]) rfl ⟨rfl, hB5⟩

theorem split_walk (ti te al st na : ByteArray) (H Q : Sl) (T : Tb) (kk : Int) (w : World) (hH : H.Lies w) (hQ : Q.Lies w) (hT : T.Lies w) (hcap : T.n ≤ T.cap) (hmax : T.cap ≤ maxLen) :
    Calls Try.prog 3 #[.string ti, .slice H.a H.n H.cap, .slice T.a T.n T.cap, .string te, .string al, .string st, .slice Q.a Q.n Q.cap, .string na, .int .i64 kk] w fun e w' => e = .returned (.bool true) ∧ Below w.heap.size w w' := by
  rcases least (fun j => (T.r j).Bears na) T.n with h | ⟨j, hj, hp, hi⟩
  · exact split_none ti te al st na H Q T kk w hH hQ hT hcap hmax h
  · exact split_first ti te al st na H Q T kk w hH hQ hT hcap hmax j hj hp hi
end Go.Proofs.Qxb6632222a
