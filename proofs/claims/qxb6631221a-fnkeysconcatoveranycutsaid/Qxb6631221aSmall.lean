/-
  The four small functions of the road: ZZnewKey, ZZnewKeyring, ZZkeyBytes, ZZkeyID: each by a contract.
-/
import Derived.Test.Qxb6631221aEq
import Derived.WalkSpells
import Derived.Deep.DeepMust
import Derived.Deep.WholeRow
namespace Go.Proofs.Qxb6631221a
open Go.RowKit
set_option linter.unusedSimpArgs false

theorem Try.size24 : (Try.prog.info? 24).map (·.size) = some 32 := by kernel_rfl
theorem Try.size33 : (Try.prog.info? 33).map (·.size) = some 8 := by kernel_rfl
theorem Try.size25 : (Try.prog.info? 25).map (·.size) = some 8 := by kernel_rfl
theorem Try.size35 : (Try.prog.info? 35).map (·.size) = some 40 := by kernel_rfl
theorem Try.size45 : (Try.prog.info? 45).map (·.size) = some 44 := by kernel_rfl

theorem heapAt (w : World) (o : Obj) (i : Nat) : (w.alloc o).heap[i]? = if i = w.heap.size then some o else w.heap[i]? := by
  show (w.heap.push o)[i]? = _
  rw [Array.getElem?_push]
theorem heap2 (w : World) (A B : Obj) : ((w.alloc A).alloc B).heap[w.heap.size + 1]? = some B := by
  simp only [heapAt, World.size_alloc, if_true]
theorem heap3 (w : World) (A B C : Obj) : (((w.alloc A).alloc B).alloc C).heap[w.heap.size + 1 + 1]? = some C := by
  simp only [heapAt, World.size_alloc, if_true]
theorem setRow2 (w : World) (A : Obj) (c c' : Array Value) (t : TypeId) : ((w.alloc A).alloc (.cells c t)).setRow (w.heap.size + 1) c' = (w.alloc A).alloc (.cells c' t) := by
  have := World.setRow_alloc_new (w.alloc A) c c' t
  simpa only [World.size_alloc] using this
theorem setRow3 (w : World) (A B : Obj) (c c' : Array Value) (t : TypeId) : (((w.alloc A).alloc B).alloc (.cells c t)).setRow (w.heap.size + 1 + 1) c' = ((w.alloc A).alloc B).alloc (.cells c' t) := by
  have := World.setRow_alloc_new ((w.alloc A).alloc B) c c' t
  simpa only [World.size_alloc] using this
theorem below2 (w : World) (A B : Obj) : Below w.heap.size w ((w.alloc A).alloc B) := (((Below.refl _ _).alloc (Nat.le_refl _) _).alloc (by simp) _)
theorem below3 (w : World) (A B C : Obj) : Below w.heap.size w (((w.alloc A).alloc B).alloc C) := (below2 w A B).alloc (by simp; omega) _

set_option maxHeartbeats 400000 in
theorem newKey (bs ids : List Value) (hb : bs.length = 32) (hi : ids.length = 8) (h1 : ∀ v ∈ bs, IsByte v) (h2 : ∀ v ∈ ids, IsByte v) (w : World) :
    Calls Try.prog 10 #[.agg bs.toArray, .agg ids.toArray] w fun e w' => e = .returned (.agg (bs ++ ids).toArray) ∧ Below w.heap.size w w' := by
  have g1 : bs.toArray.size = 32 := by simpa using hb
  have g2 : ids.toArray.size = 8 := by simpa using hi
  have g3 : (bs ++ ids).toArray.size = 40 := by simp [hb, hi]
  have g4 : (bs ++ ids).toArray.all (·.oneCell') = true := all_oneCell_toArray (fun v hv => by rcases List.mem_append.1 hv with h | h; exact (h1 v h).one; exact (h2 v h).one)
  have hB := run_build35 bs.toArray ids.toArray g1 g2
  rw [List.append_toArray] at hB
  generalize bs.toArray = B at *
  generalize ids.toArray = I at *
  generalize (bs ++ ids).toArray = K at *
  clear h1 h2 hb hi
  go_enter Try.func10, Try.ntmps10
  go_wp2_with (first
    | ((with_reducible refine at_op (.load 24 (.tmp 2)) ?_ ?_); (rfl); go_must (refine wpList_load_row rfl 24 (.tmp 2) rfl w.heap.size rfl 24 B (0, 0) _ ?_ Try.underlying24 rfl ?_ ?_; (simp only [heapAt, World.size_alloc, if_true]; rw [if_neg (by omega), if_neg (by omega)]); (rw [g1]; exact Try.size24)))
    | ((with_reducible refine at_op (.load 33 (.tmp 3)) ?_ ?_); (rfl); go_must (refine wpList_load_row rfl 33 (.tmp 3) rfl (w.heap.size + 1) rfl 33 I (0, 0) _ ?_ Try.underlying33 rfl ?_ ?_; (simp only [heapAt, World.size_alloc, if_true]; rw [if_neg (by omega)]); (rw [g2]; exact Try.size33)))
    | ((with_reducible refine at_op (.build 35 #[(0, .tmp 5), (1, .tmp 6)]) ?_ ?_); (rfl); go_must (refine wpList_build2 rfl 35 0 1 (.tmp 5) (.tmp 6) rfl (.agg B) (.agg I) rfl rfl (hB _) ?_))
    | ((with_reducible refine at_op (.store 35 (.tmp 4) (.tmp 7)) ?_ ?_); (rfl); go_must (refine wpList_store_row rfl 35 (.tmp 4) (.tmp 7) rfl (w.heap.size + 1 + 1) K rfl rfl 35 _ (heap3 _ _ _ _) ?_ ?_ ?_ ?_; (rw [g3]; exact Try.size35); (rw [g3]; rfl); (exact g4); rw [setRow3])))
  exact bodyPost_ret (v := .agg K) (results_cell_row rfl _ _ (w.heap.size + 1 + 1) 35 K (0, 0) _ rfl (heap3 _ _ _ _) Try.underlying35 rfl (by rw [g3]; exact Try.size35)) rfl ⟨rfl, below3 _ _ _ _⟩

set_option maxHeartbeats 400000 in
theorem newKeyring (a : Option Addr) (n c : Nat) (w : World) :
    Calls Try.prog 11 #[.slice a n c] w fun e w' => e = .returned (.pointer (some ⟨w.heap.size, 0, none⟩)) ∧ w' = w.alloc (.cells #[.int .i32 0, .int .u32 0, .int .u32 0, .int .u32 0, .int .i32 0, .int .i32 0, .slice a n c] 60) := by
  go_enter Try.func11, Try.ntmps11
  go_wp2
  go_ret
  exact ⟨rfl, rfl⟩

set_option maxHeartbeats 400000 in
theorem keyBytes (bs ids : List Value) (hb : bs.length = 32) (hi : ids.length = 8) (h1 : ∀ v ∈ bs, IsByte v) (w : World) :
    Calls Try.prog 14 #[.agg (bs ++ ids).toArray] w fun e w' => e = .returned (.agg bs.toArray) ∧ Below w.heap.size w w' := by
  have g1 : bs.toArray.size = 32 := by simpa using hb
  have g3 : (bs ++ ids).toArray.size = 40 := by simp [hb, hi]
  have g4 : bs.toArray.all (·.oneCell') = true := all_oneCell_toArray (fun v hv => (h1 v hv).one)
  have hr : ∀ A : Obj, World.rangeAt ((w.alloc (.cells (bs ++ ids).toArray 35)).alloc A) w.heap.size 0 bs := by
    intro A j v hj
    have hj' := (List.getElem?_eq_some_iff.1 hj).1
    rw [cell_of_row _ _ _ (bs ++ ids).toArray 35 (0, 0) (by simp only [heapAt, World.size_alloc, if_true]; rw [if_neg (by omega)])]
    simp only [List.getElem?_toArray, Nat.zero_add]
    rw [List.getElem?_append_left hj', hj]
  generalize (bs ++ ids).toArray = K at *
  clear h1 hi
  go_enter Try.func14, Try.ntmps14
  go_wp2_with (first
    | ((with_reducible refine at_op (.load 24 (.tmp 3)) ?_ ?_); (rfl); go_must (refine wpList_load_mid rfl 24 (.tmp 3) rfl w.heap.size 0 rfl bs _ (hr _) Try.underlying24 rfl ?_ ?_; (rw [hb]; exact Try.size24)))
    | ((with_reducible refine at_op (.store 24 (.tmp 2) (.tmp 4)) ?_ ?_); (rfl); go_must (refine wpList_store_row rfl 24 (.tmp 2) (.tmp 4) rfl (w.heap.size + 1) bs.toArray rfl rfl 24 _ (heap2 _ _ _) ?_ ?_ ?_ ?_; (rw [g1]; exact Try.size24); (rw [g1]; rfl); (exact g4); rw [setRow2])))
  exact bodyPost_ret (v := .agg bs.toArray) (results_cell_row rfl _ _ (w.heap.size + 1) 24 bs.toArray (0, 0) _ rfl (heap2 _ _ _) Try.underlying24 rfl (by rw [g1]; exact Try.size24)) rfl ⟨rfl, below2 _ _ _⟩

set_option maxHeartbeats 400000 in
theorem keyID (bs ids : List Value) (hb : bs.length = 32) (hi : ids.length = 8) (h1 : ∀ v ∈ ids, IsByte v) (w : World) :
    Calls Try.prog 15 #[.agg (bs ++ ids).toArray] w fun e w' => e = .returned (.agg ids.toArray) ∧ Below w.heap.size w w' := by
  have g1 : ids.toArray.size = 8 := by simpa using hi
  have g3 : (bs ++ ids).toArray.size = 40 := by simp [hb, hi]
  have g4 : ids.toArray.all (·.oneCell') = true := all_oneCell_toArray (fun v hv => (h1 v hv).one)
  have hr : ∀ A : Obj, World.rangeAt ((w.alloc (.cells (bs ++ ids).toArray 35)).alloc A) w.heap.size 32 ids := by
    intro A j v hj
    have hj' := (List.getElem?_eq_some_iff.1 hj).1
    rw [cell_of_row _ _ _ (bs ++ ids).toArray 35 (0, 0) (by simp only [heapAt, World.size_alloc, if_true]; rw [if_neg (by omega)])]
    simp only [List.getElem?_toArray]
    rw [List.getElem?_append_right (by omega), hb, Nat.add_sub_cancel_left, hj]
  generalize (bs ++ ids).toArray = K at *
  clear h1 hb
  go_enter Try.func15, Try.ntmps15
  go_wp2_with (first
    | ((with_reducible refine at_op (.load 33 (.tmp 3)) ?_ ?_); (rfl); go_must (refine wpList_load_mid rfl 33 (.tmp 3) rfl w.heap.size 32 rfl ids _ (hr _) Try.underlying33 rfl ?_ ?_; (rw [hi]; exact Try.size33)))
    | ((with_reducible refine at_op (.store 33 (.tmp 2) (.tmp 4)) ?_ ?_); (rfl); go_must (refine wpList_store_row rfl 33 (.tmp 2) (.tmp 4) rfl (w.heap.size + 1) ids.toArray rfl rfl 33 _ (heap2 _ _ _) ?_ ?_ ?_ ?_; (rw [g1]; exact Try.size33); (rw [g1]; rfl); (exact g4); rw [setRow2])))
  exact bodyPost_ret (v := .agg ids.toArray) (results_cell_row rfl _ _ (w.heap.size + 1) 33 ids.toArray (0, 0) _ rfl (heap2 _ _ _) Try.underlying33 rfl (by rw [g1]; exact Try.size33)) rfl ⟨rfl, below2 _ _ _⟩
end Go.Proofs.Qxb6631221a
