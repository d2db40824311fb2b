/-
  zzRing: the keyring that it builds, in memory. The entries are bare lists of cells; the two regions that draw their order are walked by hand.
-/
import Derived.Test.Qxb6631221aSmall
import Derived.Deep.RegionHeld3
namespace Go.Proofs.Qxb6631221a
open Go.RowKit
set_option linter.unusedSimpArgs false

/-- One entry as it came in: 32 bytes, 8 bytes, a state. -/
structure Ent where
  bs : List Value
  ids : List Value
  st : ByteArray
structure Ent.Ok (e : Ent) : Prop where
  b : e.bs.length = 32
  i : e.ids.length = 8
  bb : ∀ v ∈ e.bs, IsByte v
  ib : ∀ v ∈ e.ids, IsByte v
/-- As it lies in es. -/
def Ent.cells (e : Ent) : List Value := e.bs ++ e.ids ++ [.string e.st]
/-- Its key. -/
def Ent.key (e : Ent) : List Value := e.bs ++ e.ids
/-- As it lies in the keyring. -/
def Ent.entry (e : Ent) : List Value := e.key ++ [.string e.st, .int .u64 0, .int .i64 0, .pointer none]

theorem below_setRow {B : Nat} {w W : World} (h : Below B w W) (g : Nat) (cs : Array Value) (hg : B ≤ g) : Below B w (W.setRow g cs) :=
  h.trans ⟨rfl, rfl, rfl, by simp, fun k hk => setRow_other W g k cs (by omega)⟩
theorem below_setCells {B : Nat} {w : World} (b : Nat) (hb : B ≤ b) : ∀ (vs : List Value) (o : Nat) {W : World}, Below B w W → Below B w (W.setCells b o vs)
  | [], _, _, h => h
  | v :: r, o, _, h => by rw [World.setCells]; exact below_setCells b hb r (o + 1) (h.setCell hb v)
theorem range_below {B : Nat} {w W : World} (h : Below B w W) {b o : Nat} {l : List Value} (hb : b < B) (hr : w.rangeAt b o l) : W.rangeAt b o l := fun j v hj => by
  rw [h.cell (p := ⟨b, o + j, none⟩) hb]; exact hr j v hj
theorem there_below {B : Nat} {w W : World} (h : Below B w W) {b o n : Nat} (hb : b < B) (hr : w.there b o n) : W.there b o n := fun j hj => by
  rw [h.cell (p := ⟨b, o + j, none⟩) hb, h.frozen (p := ⟨b, o + j, none⟩) hb]; exact hr j hj
theorem range_lt {w : World} {b o : Nat} {l : List Value} (hr : w.rangeAt b o l) (hl : 0 < l.length) : b < w.heap.size :=
  World.block_lt_of_cell? w _ (hr 0 _ (List.getElem?_eq_getElem hl))
theorem range_left {w : World} {b o : Nat} {l r : List Value} (h : w.rangeAt b o (l ++ r)) : w.rangeAt b o l := fun j v hj => h j v (by
  rw [List.getElem?_append_left (List.getElem?_eq_some_iff.1 hj).1]; exact hj)
theorem range_right {w : World} {b o : Nat} {l r : List Value} (h : w.rangeAt b o (l ++ r)) : w.rangeAt b (o + l.length) r := fun j v hj => by
  have := h (l.length + j) v (by rw [List.getElem?_append_right (by omega)]; simpa using hj)
  rw [Nat.add_assoc]; exact this
theorem range_setRow {W : World} {g : Nat} {old cs : Array Value} {t : TypeId} {fr : Nat × Nat} (hg : W.heap[g]? = some (.cells old t fr)) : (W.setRow g cs).rangeAt g 0 cs.toList := fun j v hj => by
  rw [Nat.zero_add, cell_setRow_same W g j old cs t fr hg]; simpa using hj
theorem there_mid {w : World} {b o n o' m : Nat} (h : w.there b o n) (h1 : o ≤ o') (h2 : o' + m ≤ o + n) : w.there b o' m := fun j hj => by
  have := h (o' - o + j) (by omega)
  rw [show o + (o' - o + j) = o' + j by omega] at this; exact this
theorem Ent.Ok.key {e : Ent} (h : e.Ok) : e.key.length = 40 := by simp [Ent.key, h.b, h.i]
theorem Ent.Ok.keyByte {e : Ent} (h : e.Ok) : ∀ v ∈ e.key, IsByte v := fun v hv => by
  rcases List.mem_append.1 hv with hv | hv
  · exact h.bb v hv
  · exact h.ib v hv
theorem Ent.Ok.cells {e : Ent} (h : e.Ok) : e.cells.length = 41 := by simp [Ent.cells, h.b, h.i]
theorem Ent.Ok.entry {e : Ent} (h : e.Ok) : e.entry.length = 44 := by simp [Ent.entry, h.key]
theorem Ent.Ok.entryOne {e : Ent} (h : e.Ok) : ∀ v ∈ e.entry, v.oneCell' = true := fun v hv => by
  rcases List.mem_append.1 hv with hv | hv
  · exact (h.keyByte v hv).one
  · simp at hv; rcases hv with rfl | rfl | rfl | rfl <;> rfl
/-- What es gives of one entry. -/
theorem Ent.Ok.read {e : Ent} (h : e.Ok) {w : World} {b o : Nat} (hr : w.rangeAt b o e.cells) :
    w.rangeAt b o e.bs ∧ w.rangeAt b (o + 32) e.ids ∧ w.cell? ⟨b, o + 40, none⟩ = some (.string e.st) ∧ b < w.heap.size := by
  have h1 : w.rangeAt b o (e.bs ++ e.ids) := range_left hr
  refine ⟨range_left h1, ?_, ?_, range_lt hr (by rw [h.cells]; omega)⟩
  · have := range_right h1; rw [h.b] at this; exact this
  · have := range_right hr 0 (.string e.st) rfl
    simp [h.b, h.i] at this; exact this

theorem exec_build2 {P : Program} {ev : Operand → Value} {op : Oper} {t : TypeId} {i1 i2 : Nat} {x1 x2 : Operand} {v1 v2 v : Value} {w : World} (ho : op.op = .build t #[(i1, x1), (i2, x2)]) (h1 : ev x1 = v1) (h2 : ev x2 = v2)
    (hr : (Instr.build t #[(i1, v1), (i2, v2)]).run P w = .ok v w) : (execOp ev op).run P w = .ok (.value v) w := by
  subst h1 h2
  simp only [execOp, ho, List.map_toArray, List.map_cons, List.map_nil, Sem.run_bind, hr, Result.andThen_ok, Sem.run_pure]
theorem size_setCells (b : Nat) : ∀ (vs : List Value) (o : Nat) (w : World), (w.setCells b o vs).heap.size = w.heap.size
  | [], _, _ => rfl
  | v :: r, o, w => by rw [World.setCells, size_setCells b r]; simp [World.setCell]
theorem made37 (n : Nat) (hn : n ≤ 1048576) : ∃ Z : Array Value, Z.size = n * 44 ∧ ∀ w, (Instr.makeSlice 37 (.int .i64 n) (.int .i64 n)).run Try.prog w = .ok (.slice (some ⟨w.heap.size, 0, none⟩) n n) (w.alloc (.cells Z 45)) := by
  obtain ⟨i, z, hi, hz, hs, hb⟩ : ∃ i z, Try.prog.info? 45 = some i ∧ i.zero = some z ∧ i.size = 44 ∧ i.bytes = 80 := by
    have h : (Try.prog.info? 45).map (fun i => (i.zero.isSome, i.size, i.bytes)) = some (true, 44, 80) := by kernel_rfl
    cases hq : Try.prog.info? 45 with
    | none => simp [hq] at h
    | some i =>
      simp [hq] at h
      obtain ⟨z, hz⟩ := Option.isSome_iff_exists.1 h.1
      exact ⟨i, z, rfl, hz, h.2.1, h.2.2⟩
  refine ⟨madeCells z.cells (n * 44), size_madeCells _ _, fun w => ?_⟩
  have := run_make (P := Try.prog) w 37 45 i z Try.underlying37 hi hz .i64 .i64 n n (by omega) (by omega) (by rw [hb]; omega) (by omega)
  rw [hs] at this
  simpa using this

set_option maxHeartbeats 2000000 in
theorem ring (a : Option Addr) (b off n cap : Nat) (es : Nat → Ent) (hok : ∀ j, j < n → (es j).Ok) (ha : ∀ j, j < n → a = some ⟨b, off, none⟩) (w : World)
    (hm : ∀ j, j < n → w.rangeAt b (off + j * 41) (es j).cells) (hn : n ≤ 1048576) :
    Calls Try.prog 6 #[.slice a n cap] w fun e w' => ∃ be bk, e = .returned (.pointer (some ⟨bk, 0, none⟩)) ∧ Below w.heap.size w w' ∧ w.heap.size ≤ bk ∧ w.heap.size ≤ be ∧ be ≠ bk ∧
      w'.heap[bk]? = some (.cells #[.int .i32 0, .int .u32 0, .int .u32 0, .int .u32 0, .int .i32 0, .int .i32 0, .slice (some ⟨be, 0, none⟩) n n] 60) ∧ ∀ j, j < n → w'.rangeAt be (j * 44) (es j).entry := by
  obtain ⟨Z, hZ, hmk⟩ := made37 n hn
  go_enter Try.func6, Try.ntmps6
  go_wp2_with fail
  clear hmk
  go_loopw [4] (fun i wr => ∃ k : Nat, k ≤ n ∧ i = .int .i64 k ∧ Below w.heap.size w wr ∧ w.heap.size < wr.heap.size ∧ wr.there w.heap.size 0 (n * 44) ∧ ∀ j, j < k → wr.rangeAt w.heap.size (j * 44) (es j).entry) (fun i _ => n - (intOf i).toNat)
  case atStart => exact ⟨0, Nat.zero_le _, rfl, (Below.refl _ _).alloc (Nat.le_refl _) _, by simp, fun j hj => by
    rw [cell_of_row _ _ _ Z 45 (0, 0) (heap_alloc_new w _), frozen_of_row _ _ _ Z 45 (heap_alloc_new w _)]
    exact ⟨by rw [Array.getElem?_eq_getElem (by omega)]; rfl, rfl⟩, fun j hj => by omega⟩
  case round =>
    obtain ⟨k, hk, rfl, hbel, hsz, hth, hent⟩ := hrel
    by_cases hlt : k < n
    · obtain rfl := ha k hlt
      have hi1 : (0 : Int) ≤ (k : Int) := by omega
      have hi2 : (k : Int) < (n : Int) := by omega
      go_wp2_with fail
      have hE := hok k hlt
      have hoks := hok
      obtain ⟨r1, r2, r3, hbw⟩ := hE.read (hm k hlt)
      have hbr : b < wr.heap.size := Nat.lt_of_lt_of_le hbw hbel.size
      have r1' := range_below hbel hbw r1
      have r2' := range_below hbel hbw r2
      have r3' := hbel.cell (p := ⟨b, off + k * 41 + 40, none⟩) hbw
      rw [r3] at r3'
      have s1 : (Try.prog.info? 24).map (·.size) = some (es k).bs.length := by rw [hE.b]; exact Try.size24
      have s2 : (Try.prog.info? 25).map (·.size) = some (es k).ids.length := by rw [hE.i]; exact Try.size25
      refine (fun (rest : ∀ (bk : Nat) (W5 : World), wr.heap.size ≤ bk → Below wr.heap.size wr W5 → W5.rangeAt bk 0 ((es k).bs ++ (es k).ids) → (?Prest : Nat → World → Prop) bk W5) => ?main) ?rest
      case main =>
        have hS0 : Below wr.heap.size wr wr.drew := (Below.refl _ _).drew
        refine wp_region_held_drew (S := fun w' => Below wr.heap.size wr w') (by kernel_rfl) hS0 (fun hHeld => ?_)
        refine wpAnyH_take (i := 0) (oi := ⟨some 15, .move (.tmp 0), _, _, _, Option.none⟩) (v := .slice (some ⟨b, off, none⟩) n cap) rfl (by kernel_rfl) (by kernel_rfl) (by kernel_rfl) (fun _ _ _ h => h) (Or.inl ⟨by rfl, fun w' hS => ?_⟩) hHeld ?_
        · go_simp
        simp only [Act.put, List.setIfInBounds_toArray, List.set_cons_zero, List.set_cons_succ]
        refine wpAnyH_take (i := 1) (oi := ⟨some 16, .move (.tmp 4), _, _, _, Option.none⟩) (v := .int .i64 k) rfl (by kernel_rfl) (by kernel_rfl) (by kernel_rfl) (fun _ _ _ h => h) (Or.inl ⟨by rfl, fun w' hS => ?_⟩) hHeld ?_
        · go_simp
        simp only [Act.put, List.setIfInBounds_toArray, List.set_cons_zero, List.set_cons_succ]
        refine wpAnyH_take (i := 2) (oi := ⟨some 17, .indexAddr 22 (.tmp 15) (.tmp 16), _, _, _, Option.none⟩) (v := .pointer (some ⟨b, off + k * 41, none⟩)) rfl (by kernel_rfl) (by kernel_rfl) (by kernel_rfl) (fun _ _ _ h => h) (Or.inl ⟨by rfl, fun w' hS => ?_⟩) hHeld ?_
        · go_simp
        simp only [Act.put, List.setIfInBounds_toArray, List.set_cons_zero, List.set_cons_succ]
        refine wpAnyH_take (i := 3) (oi := ⟨some 18, .fieldAddr 27 (.tmp 17) 0, _, _, _, Option.none⟩) (v := .pointer (some ⟨b, off + k * 41, none⟩)) rfl (by kernel_rfl) (by kernel_rfl) (by kernel_rfl) (fun _ _ _ h => h) (Or.inl ⟨by rfl, fun w' hS => ?_⟩) hHeld ?_
        · go_simp
        simp only [Act.put, List.setIfInBounds_toArray, List.set_cons_zero, List.set_cons_succ]
        refine wpAnyH_take (i := 4) (oi := ⟨some 19, .load 24 (.tmp 18), _, _, _, Option.none⟩) (v := .agg ((es k).bs).toArray) rfl (by kernel_rfl) (by kernel_rfl) (by kernel_rfl) (fun _ _ _ h => h) ?_ hHeld ?_
        · exact yieldsIf_load_mid (by rfl) 24 (.tmp 18) (by rfl) b (off + k * 41) (by rfl) ((es k).bs) _ (fun w' hS => range_below hS hbr r1') Try.underlying24 (by rfl) s1
        simp only [Act.put, List.setIfInBounds_toArray, List.set_cons_zero, List.set_cons_succ]
        refine wpAnyH_take (i := 5) (oi := ⟨some 20, .move (.tmp 0), _, _, _, Option.none⟩) (v := .slice (some ⟨b, off, none⟩) n cap) rfl (by kernel_rfl) (by kernel_rfl) (by kernel_rfl) (fun _ _ _ h => h) (Or.inl ⟨by rfl, fun w' hS => ?_⟩) hHeld ?_
        · go_simp
        simp only [Act.put, List.setIfInBounds_toArray, List.set_cons_zero, List.set_cons_succ]
        refine wpAnyH_take (i := 6) (oi := ⟨some 21, .move (.tmp 4), _, _, _, Option.none⟩) (v := .int .i64 k) rfl (by kernel_rfl) (by kernel_rfl) (by kernel_rfl) (fun _ _ _ h => h) (Or.inl ⟨by rfl, fun w' hS => ?_⟩) hHeld ?_
        · go_simp
        simp only [Act.put, List.setIfInBounds_toArray, List.set_cons_zero, List.set_cons_succ]
        refine wpAnyH_take (i := 7) (oi := ⟨some 22, .indexAddr 22 (.tmp 20) (.tmp 21), _, _, _, Option.none⟩) (v := .pointer (some ⟨b, off + k * 41, none⟩)) rfl (by kernel_rfl) (by kernel_rfl) (by kernel_rfl) (fun _ _ _ h => h) (Or.inl ⟨by rfl, fun w' hS => ?_⟩) hHeld ?_
        · go_simp
        simp only [Act.put, List.setIfInBounds_toArray, List.set_cons_zero, List.set_cons_succ]
        refine wpAnyH_take (i := 8) (oi := ⟨some 23, .fieldAddr 27 (.tmp 22) 1, _, _, _, Option.none⟩) (v := .pointer (some ⟨b, off + k * 41 + 32, none⟩)) rfl (by kernel_rfl) (by kernel_rfl) (by kernel_rfl) (fun _ _ _ h => h) (Or.inl ⟨by rfl, fun w' hS => ?_⟩) hHeld ?_
        · go_simp
        simp only [Act.put, List.setIfInBounds_toArray, List.set_cons_zero, List.set_cons_succ]
        refine wpAnyH_take (i := 9) (oi := ⟨some 24, .load 25 (.tmp 23), _, _, _, Option.none⟩) (v := .agg ((es k).ids).toArray) rfl (by kernel_rfl) (by kernel_rfl) (by kernel_rfl) (fun _ _ _ h => h) ?_ hHeld ?_
        · exact yieldsIf_load_mid (by rfl) 25 (.tmp 23) (by rfl) b (off + k * 41 + 32) (by rfl) ((es k).ids) _ (fun w' hS => range_below hS hbr r2') Try.underlying25 (by rfl) s2
        simp only [Act.put, List.setIfInBounds_toArray, List.set_cons_zero, List.set_cons_succ]
        have zK : ((es k).bs ++ (es k).ids).toArray.size = 40 := by simp [hE.b, hE.i]
        have sK : (Try.prog.info? 35).map (·.size) = some ((es k).bs ++ (es k).ids).toArray.size := by rw [zK]; exact Try.size35
        have oK : ((es k).bs ++ (es k).ids).toArray.all (·.oneCell') = true := all_oneCell_toArray (fun v hv => (hE.keyByte v hv).one)
        refine wpAnyH_ready (rs := [10, 11]) (by kernel_rfl) (by simp) ?_
        refine AllReadyH.cons (o := ⟨some 25, .call { callee := .value (.func 10), args := #[.tmp 19, .tmp 24], argTypes := #[24, 33] }, _, _, _, Option.none⟩) rfl (fun K hK => ?_) (AllReadyH.cons (o := ⟨some 5, .alloc 35, _, _, _, Option.none⟩) rfl (fun K hK => ?_) AllReadyH.nil)
        · rw [if_pos (by rfl)]
          go_wp2_with fail
          refine (newKey _ _ hE.b hE.i hE.bb hE.ib _).mono ?_
          rintro e w1 ⟨rfl, hb1⟩
          have hB1 : Below wr.heap.size wr w1 := hHeld.trans hb1
          refine hK.out _ _ hB1 (fun hHeld => ?_)
          clear hK K
          refine wpAnyH_ready (rs := [11]) (by kernel_rfl) (by simp) (AllReadyH.cons (o := ⟨some 5, .alloc 35, _, _, _, Option.none⟩) rfl (fun K hK => ?_) AllReadyH.nil)
          rw [if_pos (by rfl)]
          go_wp2_with fail
          refine hK.out _ _ (hB1.alloc hB1.size _) (fun hHeld => ?_)
          clear hK K
          refine wpAnyH_ready (rs := [12]) (by kernel_rfl) (by simp) (AllReadyH.cons (o := ⟨Option.none, .store 35 (.tmp 5) (.tmp 25), _, _, _, Option.none⟩) rfl (fun K hK => ?_) AllReadyH.nil)
          rw [if_pos (by rfl)]
          have hg := heap_alloc_new w1 (.cells #[.int .u8 0, .int .u8 0, .int .u8 0, .int .u8 0, .int .u8 0, .int .u8 0, .int .u8 0, .int .u8 0, .int .u8 0, .int .u8 0, .int .u8 0, .int .u8 0, .int .u8 0, .int .u8 0, .int .u8 0, .int .u8 0, .int .u8 0, .int .u8 0, .int .u8 0, .int .u8 0, .int .u8 0, .int .u8 0, .int .u8 0, .int .u8 0, .int .u8 0, .int .u8 0, .int .u8 0, .int .u8 0, .int .u8 0, .int .u8 0, .int .u8 0, .int .u8 0, .int .u8 0, .int .u8 0, .int .u8 0, .int .u8 0, .int .u8 0, .int .u8 0, .int .u8 0, .int .u8 0] 35)
          refine wp_store_row 35 (.tmp 5) (.tmp 25) (by rfl) (w1.heap.size) ((es k).bs ++ (es k).ids).toArray (by rfl) (by rfl) 35 _ hg sK (by rw [zK]; rfl) oK ?_
          have hk5 := range_setRow (cs := ((es k).bs ++ (es k).ids).toArray) hg
          have hB5 := below_setRow hHeld (w1.heap.size) ((es k).bs ++ (es k).ids).toArray hB1.size
          refine hK.out _ _ hB5 (fun hHeld5 => ?_)
          clear hK K hg hHeld5 hHeld
  
          refine wpAnyH_done (by kernel_rfl) ?_ _
          have hbk : wr.heap.size ≤ w1.heap.size := hB1.size
          clear hb1 hB1
          generalize World.setRow _ w1.heap.size _ = W5 at hk5 hB5 ⊢
          generalize w1.heap.size = bk at *
          exact rest bk W5 hbk hB5 hk5
        · rw [if_pos (by rfl)]
          go_wp2_with fail
          refine hK.out _ _ (hHeld.alloc (Nat.le_refl _) _) (fun hHeld => ?_)
          clear hK K
          refine wpAnyH_ready (rs := [10]) (by kernel_rfl) (by simp) (AllReadyH.cons (o := ⟨some 25, .call { callee := .value (.func 10), args := #[.tmp 19, .tmp 24], argTypes := #[24, 33] }, _, _, _, Option.none⟩) rfl (fun K hK => ?_) AllReadyH.nil)
          rw [if_pos (by rfl)]
          go_wp2_with fail
          refine (newKey _ _ hE.b hE.i hE.bb hE.ib _).mono ?_
          rintro e w1 ⟨rfl, hb1⟩
          have hB1 : Below wr.heap.size wr w1 := hHeld.trans (hb1.mono (by simp))
          refine hK.out _ _ hB1 (fun hHeld => ?_)
          clear hK K
          refine wpAnyH_ready (rs := [12]) (by kernel_rfl) (by simp) (AllReadyH.cons (o := ⟨Option.none, .store 35 (.tmp 5) (.tmp 25), _, _, _, Option.none⟩) rfl (fun K hK => ?_) AllReadyH.nil)
          rw [if_pos (by rfl)]
          have hg := (hb1.block wr.heap.size (by simp)).trans (heap_alloc_new wr.drew _)
          refine wp_store_row 35 (.tmp 5) (.tmp 25) (by rfl) (wr.heap.size) ((es k).bs ++ (es k).ids).toArray (by rfl) (by rfl) 35 _ hg sK (by rw [zK]; rfl) oK ?_
          have hk5 := range_setRow (cs := ((es k).bs ++ (es k).ids).toArray) hg
          have hB5 := below_setRow hHeld (wr.heap.size) ((es k).bs ++ (es k).ids).toArray (Nat.le_refl _)
          refine hK.out _ _ hB5 (fun hHeld5 => ?_)
          clear hK K hg hHeld5 hHeld
  
          refine wpAnyH_done (by kernel_rfl) ?_ _
          clear hb1 hB1
          generalize World.setRow _ wr.heap.size _ = W5 at hk5 hB5 ⊢
          exact rest wr.heap.size W5 (Nat.le_refl _) hB5 hk5
      case rest =>
        intro bk W5 hbk hB5 hk5
        go_wp2_with fail
        simp only [Act.put]
        have hbk0 : bk ≠ w.heap.size := by omega
        have hbw0 : b ≠ w.heap.size := by omega
        have c3 : W5.cell? ⟨b, off + k * 41 + 40, none⟩ = some (.string (es k).st) := (hB5.cell (p := ⟨b, off + k * 41 + 40, none⟩) hbr).trans r3'
        have hent5 : ∀ j, j < k → W5.rangeAt w.heap.size (j * 44) (es j).entry := fun j hj => range_below hB5 hsz (hent j hj)
        have hth5 := there_below hB5 hsz hth
        have hbel5 : Below w.heap.size w W5 := hbel.trans (hB5.mono (Nat.le_of_lt hsz))
        have hsz5 : w.heap.size < W5.heap.size := Nat.lt_of_lt_of_le hsz hB5.size
        have zE := hE.entry
        have zEa : (es k).entry.toArray.size = 44 := by simp [zE]
        have sE : (Try.prog.info? 45).map (·.size) = some (es k).entry.toArray.size := by rw [zEa]; exact Try.size45
        have sK : (Try.prog.info? 35).map (·.size) = some ((es k).bs ++ (es k).ids).length := by rw [List.length_append, hE.b, hE.i]; exact Try.size35
        have hbuild : ∀ w', (Instr.build 45 #[(0, .agg ((es k).bs ++ (es k).ids).toArray), (1, .string (es k).st)]).run Try.prog w' = .ok (.agg (es k).entry.toArray) w' := fun w' => by
          rw [run_build45 _ _ (by simp [hE.b, hE.i])]
          simp [Ent.entry, Ent.key]
        have hwr : W5.drew.there w.heap.size (k * 44) 44 := (World.there_drew _ _ _ _).2 (there_mid hth5 (Nat.zero_le _) (by omega))
        clear r1' r2' r1 r2 r3 r3' hm hok hth hent hbel hB5
        refine wp_region_held_drew (S := fun w' => w'.rangeAt bk 0 ((es k).bs ++ (es k).ids) ∧ w'.cell? ⟨b, off + k * 41 + 40, none⟩ = some (.string (es k).st)) (by kernel_rfl) ⟨(World.rangeAt_drew _ _ _ _).2 hk5, by simpa using c3⟩ (fun hHeld => ?_)
        refine wpAnyH_take (i := 0) (oi := ⟨some 26, .move (.tmp 3), _, _, _, Option.none⟩) (v := .slice (some ⟨w.heap.size, 0, none⟩) n n) rfl (by kernel_rfl) (by kernel_rfl) (by kernel_rfl) (fun _ _ _ h => h) (Or.inl ⟨by rfl, fun w' hS => ?_⟩) hHeld ?_
        · go_simp
        simp only [Act.put, List.setIfInBounds_toArray, List.set_cons_zero, List.set_cons_succ]
        refine wpAnyH_take (i := 1) (oi := ⟨some 27, .move (.tmp 4), _, _, _, Option.none⟩) (v := .int .i64 k) rfl (by kernel_rfl) (by kernel_rfl) (by kernel_rfl) (fun _ _ _ h => h) (Or.inl ⟨by rfl, fun w' hS => ?_⟩) hHeld ?_
        · go_simp
        simp only [Act.put, List.setIfInBounds_toArray, List.set_cons_zero, List.set_cons_succ]
        refine wpAnyH_take (i := 2) (oi := ⟨some 28, .load 35 (.tmp 5), _, _, _, Option.none⟩) (v := .agg (((es k).bs ++ (es k).ids)).toArray) rfl (by kernel_rfl) (by kernel_rfl) (by kernel_rfl) (fun _ _ _ h => h) ?_ hHeld ?_
        · exact yieldsIf_load_mid (by rfl) 35 (.tmp 5) (by rfl) bk (0) (by rfl) (((es k).bs ++ (es k).ids)) _ (fun w' hS => hS.1) Try.underlying35 (by rfl) sK
        simp only [Act.put, List.setIfInBounds_toArray, List.set_cons_zero, List.set_cons_succ]
        refine wpAnyH_take (i := 3) (oi := ⟨some 29, .move (.tmp 0), _, _, _, Option.none⟩) (v := .slice (some ⟨b, off, none⟩) n cap) rfl (by kernel_rfl) (by kernel_rfl) (by kernel_rfl) (fun _ _ _ h => h) (Or.inl ⟨by rfl, fun w' hS => ?_⟩) hHeld ?_
        · go_simp
        simp only [Act.put, List.setIfInBounds_toArray, List.set_cons_zero, List.set_cons_succ]
        refine wpAnyH_take (i := 4) (oi := ⟨some 30, .move (.tmp 4), _, _, _, Option.none⟩) (v := .int .i64 k) rfl (by kernel_rfl) (by kernel_rfl) (by kernel_rfl) (fun _ _ _ h => h) (Or.inl ⟨by rfl, fun w' hS => ?_⟩) hHeld ?_
        · go_simp
        simp only [Act.put, List.setIfInBounds_toArray, List.set_cons_zero, List.set_cons_succ]
        refine wpAnyH_take (i := 5) (oi := ⟨some 31, .indexAddr 22 (.tmp 29) (.tmp 30), _, _, _, Option.none⟩) (v := .pointer (some ⟨b, off + k * 41, none⟩)) rfl (by kernel_rfl) (by kernel_rfl) (by kernel_rfl) (fun _ _ _ h => h) (Or.inl ⟨by rfl, fun w' hS => ?_⟩) hHeld ?_
        · go_simp
        simp only [Act.put, List.setIfInBounds_toArray, List.set_cons_zero, List.set_cons_succ]
        refine wpAnyH_take (i := 6) (oi := ⟨some 32, .fieldAddr 27 (.tmp 31) 2, _, _, _, Option.none⟩) (v := .pointer (some ⟨b, off + k * 41 + 40, none⟩)) rfl (by kernel_rfl) (by kernel_rfl) (by kernel_rfl) (fun _ _ _ h => h) (Or.inl ⟨by rfl, fun w' hS => ?_⟩) hHeld ?_
        · go_simp
        simp only [Act.put, List.setIfInBounds_toArray, List.set_cons_zero, List.set_cons_succ]
        refine wpAnyH_take (i := 7) (oi := ⟨some 33, .load 9 (.tmp 32), _, _, _, Option.none⟩) (v := .string (es k).st) rfl (by kernel_rfl) (by kernel_rfl) (by kernel_rfl) (fun _ _ _ h => h) (Or.inl ⟨by rfl, fun w' hS => ?_⟩) hHeld ?_
        · (have hS2 := hS.2; clear hS; go_simp)
        simp only [Act.put, List.setIfInBounds_toArray, List.set_cons_zero, List.set_cons_succ]
        refine wpAnyH_take (i := 8) (oi := ⟨some 34, .build 45 #[(0, .tmp 28), (1, .tmp 33)], _, _, _, Option.none⟩) (v := .agg (es k).entry.toArray) rfl (by kernel_rfl) (by kernel_rfl) (by kernel_rfl) (fun _ _ _ h => h) (Or.inl ⟨by rfl, fun w' hS => ?_⟩) hHeld ?_
        · exact exec_build2 rfl rfl rfl (hbuild w')
        simp only [Act.put, List.setIfInBounds_toArray, List.set_cons_zero, List.set_cons_succ]
        refine wpAnyH_take (i := 9) (oi := ⟨some 35, .indexAddr 37 (.tmp 26) (.tmp 27), _, _, _, Option.none⟩) (v := .pointer (some ⟨w.heap.size, k * 44, none⟩)) rfl (by kernel_rfl) (by kernel_rfl) (by kernel_rfl) (fun _ _ _ h => h) (Or.inl ⟨by rfl, fun w' hS => ?_⟩) hHeld ?_
        · go_simp
        simp only [Act.put, List.setIfInBounds_toArray, List.set_cons_zero, List.set_cons_succ]
        refine wpAnyH_ready (rs := [10]) (by kernel_rfl) (by simp) (AllReadyH.cons (o := ⟨Option.none, .store 45 (.tmp 35) (.tmp 34), _, _, _, Option.none⟩) rfl (fun K hK => ?_) AllReadyH.nil)
        rw [if_pos (by rfl)]
        refine wp_store_mid 45 (.tmp 35) (.tmp 34) (by rfl) w.heap.size (k * 44) (es k).entry.toArray (by rfl) (by rfl) (by rw [zEa]; exact hwr) sE (all_oneCell_toArray hE.entryOne) ?_
        refine hK.out _ _ ⟨World.rangeAt_setCells_apart hHeld.1 _ _ _ (Or.inl hbk0), by rw [World.cell?_setCells_out _ _ _ _ _ (fun h _ => absurd h hbw0)]; exact hHeld.2⟩ (fun _ => ?_)
        clear hK K hHeld
        refine wpAnyH_done (by kernel_rfl) ?_ _
        simp only [Act.put]
        have hin : (W5.drew.setCells w.heap.size (k * 44) (es k).entry).rangeAt w.heap.size (k * 44) (es k).entry := World.rangeAt_setCells_same _ _ _ _ (by rw [zE]; exact hwr)
        have hold : ∀ j, j < k → (W5.drew.setCells w.heap.size (k * 44) (es k).entry).rangeAt w.heap.size (j * 44) (es j).entry := fun j hj =>
          World.rangeAt_setCells_apart ((World.rangeAt_drew _ _ _ _).2 (hent5 j hj)) _ _ _ (Or.inr (Or.inl (by rw [(hoks j (by omega)).entry]; omega)))
        have hbel6 := below_setCells w.heap.size (Nat.le_refl _) (es k).entry (k * 44) (hbel5.drew)
        have hth6 := World.there_setCells ((World.there_drew _ _ _ _).2 hth5) w.heap.size (k * 44) (es k).entry
        have hsz6 : w.heap.size < (W5.drew.setCells w.heap.size (k * 44) (es k).entry).heap.size := by rw [size_setCells]; exact hsz5
        (try simp only [List.toList_toArray])
        generalize W5.drew.setCells w.heap.size (k * 44) (es k).entry = W6 at *
        clear hbuild hk5 hent5 hth5 hbel5 hsz5 c3 hwr
        go_wp2
        go_roundw
        case rel => exact ⟨k + 1, by omega, by go_num, hbel6, hsz6, hth6, fun j hj => by
          by_cases h : j < k
          · exact hold j h
          · rw [show j = k by omega]; exact hin⟩
        case measure => simp [intOf]; omega
    · have hk' : k = n := by omega
      subst hk'
      clear hm hok ha
      go_wp2_with (go_at_call 11; refine (newKeyring _ _ _ _).mono ?_; rintro e w' ⟨rfl, rfl⟩)
      go_ret
      refine ⟨w.heap.size, wr.heap.size, rfl, hbel.alloc (Nat.le_of_lt hsz) _, Nat.le_of_lt hsz, Nat.le_refl _, by omega, heap_alloc_new wr _, fun j hj => World.rangeAt_alloc (hent j hj) _⟩
end Go.Proofs.Qxb6631221a
