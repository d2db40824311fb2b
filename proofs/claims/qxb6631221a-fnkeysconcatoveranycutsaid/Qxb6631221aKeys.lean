/-
  (*Keyring).Keys, under its lock: by a contract.
-/
import Derived.Test.Qxb6631221aRing
import Derived.Test.Qxb6631221aLocks
import Derived.Conc.RwLone
namespace Go.Proofs.Qxb6631221a
open Go.RowKit
open Go.RwLone
set_option linter.unusedSimpArgs false

theorem made28 (n : Nat) (hn : n ≤ 1048576) : ∃ Z : Array Value, Z.size = n * 40 ∧ ∀ w, (Instr.makeSlice 28 (.int .i64 n) (.int .i64 n)).run Try.prog w = .ok (.slice (some ⟨w.heap.size, 0, none⟩) n n) (w.alloc (.cells Z 35)) := by
  obtain ⟨i, z, hi, hz, hs, hb⟩ : ∃ i z, Try.prog.info? 35 = some i ∧ i.zero = some z ∧ i.size = 40 ∧ i.bytes = 40 := by
    have h : (Try.prog.info? 35).map (fun i => (i.zero.isSome, i.size, i.bytes)) = some (true, 40, 40) := by kernel_rfl
    cases hq : Try.prog.info? 35 with
    | none => simp [hq] at h
    | some i =>
      simp [hq] at h
      obtain ⟨z, hz⟩ := Option.isSome_iff_exists.1 h.1
      exact ⟨i, z, rfl, hz, h.2.1, h.2.2⟩
  refine ⟨madeCells z.cells (n * 40), size_madeCells _ _, fun w => ?_⟩
  have := run_make (P := Try.prog) w 28 35 i z Try.underlying28 hi hz .i64 .i64 n n (by omega) (by omega) (by rw [hb]; omega) (by omega)
  rw [hs] at this
  simpa using this

/-- The keyring at block bk: its lock free, its entries in block be. -/
structure IsRing (w : World) (bk be n : Nat) (es : Nat → Ent) : Prop where
  row : w.heap[bk]? = some (.cells #[.int .i32 0, .int .u32 0, .int .u32 0, .int .u32 0, .int .i32 0, .int .i32 0, .slice (some ⟨be, 0, none⟩) n n] 60)
  ne : be ≠ bk
  ents : ∀ j, j < n → w.rangeAt be (j * 44) (es j).entry

theorem rlockIt (bk be n : Nat) (w : World) (hrow : w.heap[bk]? = some (.cells #[.int .i32 0, .int .u32 0, .int .u32 0, .int .u32 0, .int .i32 0, .int .i32 0, .slice (some ⟨be, 0, none⟩) n n] 60)) :
    Calls Try.prog 12 #[.pointer (some ⟨bk, 0, none⟩)] w fun e w' => e = .returned (.tuple #[]) ∧ w' = w.setCell ⟨bk, 4, none⟩ (.int .i32 1) := by
  have c : ∀ j, w.cell? ⟨bk, j, none⟩ = #[.int .i32 0, .int .u32 0, .int .u32 0, .int .u32 0, .int .i32 0, .int .i32 0, .slice (some ⟨be, 0, none⟩) n n][j]? := fun j => cell_of_row w bk j _ 60 (0, 0) hrow
  have c0 : w.cell? ⟨bk, 0, none⟩ = some (.int .i32 0) := c 0
  have c3 : w.cell? ⟨bk, 3, none⟩ = some (.int .u32 0) := c 3
  have c4 : w.cell? ⟨bk, 4, none⟩ = some (.int .i32 0) := c 4
  have z4 : w.frozen? ⟨bk, 4, none⟩ = false := frozen_of_row w bk 4 _ 60 hrow
  have hL := rlock_open Try.rwRLib bk 0 0 _ _ w c0 c3 c4 z4 (by unfold wrap32; decide)
  have e1 : wrap32 (0 + 1) = 1 := by unfold wrap32; decide
  rw [e1] at hL
  exact hL
theorem runlockIt (bk be n : Nat) (w : World) (hrow : w.heap[bk]? = some (.cells #[.int .i32 0, .int .u32 0, .int .u32 0, .int .u32 0, .int .i32 1, .int .i32 0, .slice (some ⟨be, 0, none⟩) n n] 60)) :
    CallsD Try.prog 13 #[.pointer (some ⟨bk, 0, none⟩)] .returning w fun e u' w' => u' = .returning ∧ (e = .returned (.tuple #[]) ∧ w' = w.setCell ⟨bk, 4, none⟩ (.int .i32 0)) := by
  have c : ∀ j, w.cell? ⟨bk, j, none⟩ = #[.int .i32 0, .int .u32 0, .int .u32 0, .int .u32 0, .int .i32 1, .int .i32 0, .slice (some ⟨be, 0, none⟩) n n][j]? := fun j => cell_of_row w bk j _ 60 (0, 0) hrow
  have c0 : w.cell? ⟨bk, 0, none⟩ = some (.int .i32 0) := c 0
  have c2 : w.cell? ⟨bk, 2, none⟩ = some (.int .u32 0) := c 2
  have c4 : w.cell? ⟨bk, 4, none⟩ = some (.int .i32 1) := c 4
  have z4 : w.frozen? ⟨bk, 4, none⟩ = false := frozen_of_row w bk 4 _ 60 hrow
  have hL := runlock_deferred Try.rwRLib bk 0 1 _ _ .returning w c0 c2 c4 z4 (by unfold wrap32; decide)
  have e1 : wrap32 (1 + -1) = 0 := by unfold wrap32; decide
  rw [e1] at hL
  exact hL

theorem below_relock {w w1 wr : World} {bk be n : Nat} (h0 : w.heap[bk]? = some (.cells #[.int .i32 0, .int .u32 0, .int .u32 0, .int .u32 0, .int .i32 0, .int .i32 0, .slice (some ⟨be, 0, none⟩) n n] 60)) (hbk : bk < w.heap.size)
    (hw : w1 = w.setCell ⟨bk, 4, none⟩ (.int .i32 1)) (hbel : Below w1.heap.size w1 wr)
    (hr : wr.heap[bk]? = some (.cells #[.int .i32 0, .int .u32 0, .int .u32 0, .int .u32 0, .int .i32 1, .int .i32 0, .slice (some ⟨be, 0, none⟩) n n] 60)) :
    Below w.heap.size w (wr.setCell ⟨bk, 4, none⟩ (.int .i32 0)) := by
  have hs : w1.heap.size = w.heap.size := by rw [hw]; simp [World.setCell]
  refine ⟨hbel.os.trans (by rw [hw]; rfl), hbel.tape.trans (by rw [hw]; rfl), hbel.output.trans (by rw [hw]; rfl), ?_, fun j hj => ?_⟩
  · have := hbel.size
    simp [World.setCell]; omega
  · by_cases hjb : j = bk
    · subst hjb
      rw [heap_setCell_same wr j 4 _ 60 _ hr, h0]
      rfl
    · rw [heap_setCell_other _ _ _ _ hjb, hbel.block j (by omega), hw, heap_setCell_other _ _ _ _ hjb]

set_option maxHeartbeats 2000000 in
theorem keysOf (bk be n : Nat) (es : Nat → Ent) (hok : ∀ j, j < n → (es j).Ok) (w : World) (hR : IsRing w bk be n es) (hn : n ≤ 1048576) :
    Calls Try.prog 7 #[.pointer (some ⟨bk, 0, none⟩)] w fun e w' => ∃ b, e = .returned (.slice (some ⟨b, 0, none⟩) n n) ∧ Below w.heap.size w w' ∧ w.heap.size ≤ b ∧ w'.there b 0 (n * 40) ∧ ∀ j, j < n → w'.rangeAt b (j * 40) (es j).key := by
  obtain ⟨Z, hZ, hmk⟩ := made28 n hn
  obtain ⟨hrow, hne, hent⟩ := hR
  have hbk : bk < w.heap.size := (Array.getElem?_eq_some_iff.1 hrow).1
  have hbe : ∀ j, j < n → be < w.heap.size := fun j hj => range_lt (hent j hj) (by rw [(hok j hj).entry]; omega)
  have HR : Hid (w.heap[bk]? = some (.cells #[.int .i32 0, .int .u32 0, .int .u32 0, .int .u32 0, .int .i32 0, .int .i32 0, .slice (some ⟨be, 0, none⟩) n n] 60)) := hrow
  clear hrow
  go_enter_defers Try.func7, Try.ntmps7
  go_wp2_with fail
  refine (rlockIt bk be n w HR.out).mono ?_
  rintro e w1 ⟨rfl, hw1⟩
  have hrow1 : w1.heap[bk]? = some (.cells #[.int .i32 0, .int .u32 0, .int .u32 0, .int .u32 0, .int .i32 1, .int .i32 0, .slice (some ⟨be, 0, none⟩) n n] 60) := by rw [hw1]; exact heap_setCell_same w bk 4 _ 60 _ HR.out
  have hsz1 : w1.heap.size = w.heap.size := by rw [hw1]; simp [World.setCell]
  have hent1 : ∀ j, j < n → w1.rangeAt be (j * 44) (es j).entry := fun j hj i v hv => by
    rw [hw1, World.cell?_setCell_other _ _ _ _ (fun h => hne (congrArg Addr.block h).symm)]; exact hent j hj i v hv
  have c6 : w1.cell? ⟨bk, 6, none⟩ = some (.slice (some ⟨be, 0, none⟩) n n) := cell_of_row w1 bk 6 _ 60 (0, 0) hrow1
  have HW : Hid (w1 = w.setCell ⟨bk, 4, none⟩ (.int .i32 1)) := hw1
  have HR1 : Hid (w1.heap[bk]? = some (.cells #[.int .i32 0, .int .u32 0, .int .u32 0, .int .u32 0, .int .i32 1, .int .i32 0, .slice (some ⟨be, 0, none⟩) n n] 60)) := hrow1
  have HZ : Hid (w1.heap.size = w.heap.size) := hsz1
  have hbk1 : bk < w1.heap.size := by omega
  have hbe1 : ∀ j, j < n → be < w1.heap.size := fun j hj => by have := hbe j hj; omega
  clear hw1 hrow1 hsz1 hent
  go_wp2_with fail
  clear hmk c6
  go_loopw [24] (fun i wr => ∃ k : Nat, k ≤ n ∧ i = .int .i64 k ∧ Below w1.heap.size w1 wr ∧ w1.heap.size < wr.heap.size ∧ wr.there w1.heap.size 0 (n * 40) ∧ ∀ j, j < k → wr.rangeAt w1.heap.size (j * 40) (es j).key) (fun i _ => n - (intOf i).toNat)
  case atStart => exact ⟨0, Nat.zero_le _, rfl, (Below.refl _ _).alloc (Nat.le_refl _) _, by simp, fun j hj => by
    rw [cell_of_row _ _ _ Z 35 (0, 0) (heap_alloc_new w1 _), frozen_of_row _ _ _ Z 35 (heap_alloc_new w1 _)]
    exact ⟨by rw [Array.getElem?_eq_getElem (by omega)]; rfl, rfl⟩, fun j hj => by omega⟩
  case round =>
    obtain ⟨k, hk, rfl, hbel, hsz, hth, hkeys⟩ := hrel
    by_cases hlt : k < n
    · have hE := hok k hlt
      have hi1 : (0 : Int) ≤ (k : Int) := by omega
      have hi2 : (k : Int) < (n : Int) := by omega
      have hbew := hbe1 k hlt
      have rE : wr.rangeAt be (k * 44) (es k).entry := range_below hbel hbew (hent1 k hlt)
      have zE := hE.entry
      have zEa : (es k).entry.toArray.size = 44 := by simp [zE]
      have sE : (Try.prog.info? 45).map (·.size) = some (es k).entry.length := by rw [zE]; exact Try.size45
      have sEa : (Try.prog.info? 45).map (·.size) = some (es k).entry.toArray.size := by rw [zEa]; exact Try.size45
      have zK := hE.key
      have zKa : (es k).key.toArray.size = 40 := by simp [zK]
      have sK : (Try.prog.info? 35).map (·.size) = some (es k).key.length := by rw [zK]; exact Try.size35
      have sKa : (Try.prog.info? 35).map (·.size) = some (es k).key.toArray.size := by rw [zKa]; exact Try.size35
      have oE := all_oneCell_toArray hE.entryOne
      have oK : (es k).key.toArray.all (·.oneCell') = true := all_oneCell_toArray (fun v hv => (hE.keyByte v hv).one)
      have rK : (wr.alloc (.cells (es k).entry.toArray 45)).rangeAt wr.heap.size 0 (es k).key := by
        intro j v hj
        have hj' := (List.getElem?_eq_some_iff.1 hj).1
        rw [cell_of_row _ _ _ (es k).entry.toArray 45 (0, 0) (heap_alloc_new wr _), Nat.zero_add]
        simp only [List.getElem?_toArray, Ent.entry]
        rw [List.getElem?_append_left hj', hj]
      have hth2 : (wr.alloc (.cells (es k).entry.toArray 45)).there w1.heap.size 0 (n * 40) := World.there_alloc hth _
      have hth3 : (wr.alloc (.cells (es k).entry.toArray 45)).there w1.heap.size (k * 40) 40 := there_mid hth2 (Nat.zero_le _) (by omega)
      have hin : ((wr.alloc (.cells (es k).entry.toArray 45)).setCells w1.heap.size (k * 40) (es k).key).rangeAt w1.heap.size (k * 40) (es k).key := World.rangeAt_setCells_same _ _ _ _ (by rw [zK]; exact hth3)
      have hold : ∀ j, j < k → ((wr.alloc (.cells (es k).entry.toArray 45)).setCells w1.heap.size (k * 40) (es k).key).rangeAt w1.heap.size (j * 40) (es j).key := fun j hj =>
        World.rangeAt_setCells_apart (World.rangeAt_alloc (hkeys j hj) _) _ _ _ (Or.inr (Or.inl (by rw [(hok j (by omega)).key]; omega)))
      have hbel6 := below_setCells w1.heap.size (Nat.le_refl _) (es k).key (k * 40) (hbel.alloc (Nat.le_of_lt hsz) (.cells (es k).entry.toArray 45))
      have hth6 := World.there_setCells hth2 w1.heap.size (k * 40) (es k).key
      have hsz6 : w1.heap.size < ((wr.alloc (.cells (es k).entry.toArray 45)).setCells w1.heap.size (k * 40) (es k).key).heap.size := by rw [size_setCells]; simp; omega
      clear hok hE hent1 hbe hbe1 hkeys hth
      go_wp2_with (first
        | ((with_reducible refine at_op (.load 45 (.tmp 27)) ?_ ?_); (rfl); go_must (refine wpList_load_mid rfl 45 (.tmp 27) rfl be (k * 44) rfl (es k).entry _ rE Try.underlying45 rfl sE ?_))
        | ((with_reducible refine at_op (.store 45 (.tmp 5) (.tmp 28)) ?_ ?_); (rfl); go_must (refine wpList_store_row rfl 45 (.tmp 5) (.tmp 28) rfl wr.heap.size (es k).entry.toArray rfl rfl 45 _ (heap_alloc_new wr _) sEa ?_ oE ?_; (rw [zEa]; rfl); rw [World.setRow_alloc_new]))
        | ((with_reducible refine at_op (.load 35 (.tmp 31)) ?_ ?_); (rfl); go_must (refine wpList_load_mid rfl 35 (.tmp 31) rfl wr.heap.size 0 rfl (es k).key _ rK Try.underlying35 rfl sK ?_))
        | ((with_reducible refine at_op (.store 35 (.tmp 33) (.tmp 32)) ?_ ?_); (rfl); go_must (refine wpList_store_mid rfl 35 (.tmp 33) (.tmp 32) rfl w1.heap.size (k * 40) (es k).key.toArray rfl rfl ?_ sKa oK ?_; (rw [zKa]; exact hth3))))
      exact ⟨⟨k + 1, by omega, by go_num, hbel6, hsz6, hth6, fun j hj => by
        by_cases h : j < k
        · exact hold j h
        · rw [show j = k by omega]; exact hin⟩, by simp [intOf]; omega⟩
    · have hk' : k = n := by omega
      subst hk'
      clear hok hent1 hbe hbe1
      go_wp2_with fail
      have hrw : wr.heap[bk]? = some (.cells #[.int .i32 0, .int .u32 0, .int .u32 0, .int .u32 0, .int .i32 1, .int .i32 0, .slice (some ⟨be, 0, none⟩) k k] 60) := (hbel.block bk hbk1).trans HR1.out
      refine leaves_cons (f := 13) (args := #[.pointer (some ⟨bk, 0, none⟩)]) (by simp) (by simp [go_sem]) ?_
      refine (runlockIt bk be k wr hrw).mono ?_
      rintro e u' w'' ⟨rfl, rfl, rfl⟩
      have hb2 : Below w.heap.size w (wr.setCell ⟨bk, 4, none⟩ (.int .i32 0)) := below_relock HR.out hbk HW.out hbel hrw
      have e1 := HZ.out
      refine ⟨_, results_tmp rfl _ _ _, w1.heap.size, rfl, hb2, by omega, fun j hj => ?_, fun j hj i v hv => ?_⟩
      · have := hth j hj
        rw [World.cell?_setCell_other _ _ _ _ (fun h => by have := congrArg Addr.block h; simp at this; omega), World.frozen?_setCell]
        exact this
      · rw [World.cell?_setCell_other _ _ _ _ (fun h => by have := congrArg Addr.block h; simp at this; omega)]
        exact hkeys j hj i v hv
end Go.Proofs.Qxb6631221a
