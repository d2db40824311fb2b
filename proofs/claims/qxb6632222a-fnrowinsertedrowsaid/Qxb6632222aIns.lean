/-
  FnRowInsertedRow: the walk.
-/
import Derived.Test.Qxb6632222aSplit
import Derived.Test.Qxb6632222aBytesB
import Derived.OwnWalk
namespace Go.Proofs.Qxb6632222a
open Go.RowKit
set_option linter.unusedSimpArgs false
attribute [local go_sem] eqNN eqSN neNN neSN

theorem Try.info22 : (Try.prog.info? 22).map (fun i => (i.zero, i.size, i.bytes)) = some (some (.slice none 0 0), 1, 24) := by kernel_rfl

/-- The rows with X put in at k. -/
def insR (T : Tb) (X : Sl) (k : Nat) : Nat → Sl := fun j => if j < k then T.r j else if j = k then X else T.r (j - 1)
def insT (T : Tb) (X : Sl) (k g : Nat) : Tb := ⟨some ⟨g, 0, none⟩, T.n + 1, T.n + 1, g, 0, insR T X k⟩
/-- The first m of them, as values. -/
def insV (T : Tb) (X : Sl) (k m : Nat) : List Value := (List.range m).map fun j => (insR T X k j).v
theorem insV_succ (T : Tb) (X : Sl) (k m : Nat) : insV T X k m ++ [(insR T X k m).v] = insV T X k (m + 1) := by simp [insV, List.range_succ]
theorem insR_lt (T : Tb) (X : Sl) {k j : Nat} (h : j < k) : insR T X k j = T.r j := by simp [insR, h]
theorem insR_at (T : Tb) (X : Sl) (k : Nat) : insR T X k k = X := by simp [insR]
theorem insR_gt (T : Tb) (X : Sl) {k j : Nat} (h : k ≤ j) : insR T X k (j + 1) = T.r j := by
  have h1 : ¬ j + 1 < k := by omega
  have h2 : ¬ j + 1 = k := by omega
  simp [insR, h1, h2]
theorem insT_lies {T : Tb} {X : Sl} {k g B : Nat} {w : World} (hT : T.Lies w) (hX : X.Lies w) (hk : k ≤ T.n) (hm : T.n + 1 ≤ maxLen)
    (h : w.ownsRow B 22 1 (.slice (some ⟨g, 0, none⟩) (T.n + 1) (T.n + 1)) (T.n + 1) (insV T X k (T.n + 1))) : (insT T X k g).Lies w := by
  refine ⟨fun _ _ => rfl, fun j hj => ?_, fun j hj => ?_, hm⟩
  · have hj' : j < T.n + 1 := hj
    obtain ⟨_, ⟨h0, _⟩ | ⟨g', cap', cur, hv, _, hrow, _, _, hsz, htk⟩⟩ := h
    · cases h0
    · cases hv
      show w.cell? ⟨g, 0 + j, none⟩ = some (insR T X k j).v
      rw [cell_of_row _ _ _ _ _ _ hrow, Nat.zero_add]
      have e := congrArg (fun l : List Value => l[j]?) htk
      simp only [Nat.mul_one] at e
      rw [List.getElem?_take_of_lt hj'] at e
      rw [← Array.getElem?_toList, e]
      simp [insV, hj']
  · have hj' : j < T.n + 1 := hj
    show (insR T X k j).Lies w
    by_cases h1 : j < k
    · rw [insR_lt T X h1]; exact hT.row j (by omega)
    · by_cases h2 : j = k
      · subst h2; rw [insR_at]; exact hX
      · obtain ⟨i, rfl⟩ : ∃ i, j = i + 1 := ⟨j - 1, by omega⟩
        rw [insR_gt T X (by omega)]; exact hT.row i (by omega)

theorem heap2_old (w : World) (A B : Obj) : ((w.alloc A).alloc B).heap[w.heap.size]? = some A := by
  rw [heap_alloc_old _ _ (by simp)]
  exact heap_alloc_new w A
theorem heap2_new (w : World) (A B : Obj) : ((w.alloc A).alloc B).heap[w.heap.size + 1]? = some B := by
  have h := heap_alloc_new (w.alloc A) B
  rw [World.size_alloc] at h
  exact h
theorem below2 (w : World) (A B : Obj) : Below w.heap.size w ((w.alloc A).alloc B) := (below1 w A).alloc (by simp) B

theorem ins_cases (T : Tb) (X : Sl) (k : Nat) (nm : ByteArray) (hk : k ≤ T.n) :
    (∃ j, j < k ∧ (T.r j).Bears nm ∧ ∀ i, i < j → ¬ (T.r i).Bears nm) ∨ ((∀ i, i < k → ¬ (T.r i).Bears nm) ∧ X.Bears nm) ∨
    (¬ X.Bears nm ∧ ∃ j, k ≤ j ∧ j < T.n ∧ (T.r j).Bears nm ∧ ∀ i, i < j → ¬ (T.r i).Bears nm) ∨ ((∀ i, i < T.n → ¬ (T.r i).Bears nm) ∧ ¬ X.Bears nm) := by
  rcases least (fun j => (T.r j).Bears nm) T.n with h | ⟨j, hj, hp, hi⟩
  · by_cases hx : X.Bears nm
    · exact Or.inr (Or.inl ⟨fun i hi => h i (by omega), hx⟩)
    · exact Or.inr (Or.inr (Or.inr ⟨h, hx⟩))
  · by_cases hjk : j < k
    · exact Or.inl ⟨j, hjk, hp, hi⟩
    · by_cases hx : X.Bears nm
      · exact Or.inr (Or.inl ⟨fun i hi' => hi i (by omega), hx⟩)
      · exact Or.inr (Or.inr (Or.inl ⟨hx, j, by omega, hj, hp, hi⟩))

set_option maxHeartbeats 8000000 in
set_option maxRecDepth 100000 in
theorem ins_walk (ti te al st na : ByteArray) (H Q X : Sl) (T : Tb) (kk : Int) (w : World) (hH : H.Lies w) (hQ : Q.Lies w) (hX : X.Lies w) (hT : T.Lies w) (hcap : T.n ≤ T.cap) :
    Calls Try.prog 4 #[.string ti, .slice H.a H.n H.cap, .slice T.a T.n T.cap, .string te, .string al, .string st, .slice Q.a Q.n Q.cap, .int .i64 kk, .slice X.a X.n X.cap, .string na] w fun e w' => e = .returned (.bool true) ∧ Below w.heap.size w w' := by
  obtain ⟨i0, hi0, hz0, hz1, hz2⟩ := info_parts Try.info22
  go_enter Try.func4, Try.ntmps4
  go_wp2_with fail
  refine (bytes9 ti te al st na H.a T.a Q.a X.a H.n H.cap H.b H.off T.n T.cap T.b T.off Q.n Q.cap Q.b Q.off X.n X.cap X.b X.off H.s Q.s X.s T.r kk w ⟨hH.here, hH.cell⟩ ⟨hT.here, hT.cell, hT.row⟩ ⟨hQ.here, hQ.cell⟩ ⟨hX.here, hX.cell⟩ hH.max hT.max hQ.max hX.max).mono ?_
  rintro e w ⟨⟨r1, rfl⟩, rfl⟩
  cases r1
  · go_wp2
    exact bodyPost_ret (v := .bool true) (by simp [results, Try.results4, go_sem]) rfl ⟨rfl, Below.refl _ _⟩
  go_wp2_with fail
  refine (tooBigC ti te al st na H.a T.a Q.a X.a H.n H.cap H.b H.off T.n T.cap T.b T.off Q.n Q.cap Q.b Q.off X.n X.cap X.b X.off H.s Q.s X.s T.r w ⟨hH.here, hH.cell⟩ ⟨hT.here, hT.cell, hT.row⟩ ⟨hQ.here, hQ.cell⟩ ⟨hX.here, hX.cell⟩ hH.max hT.max hQ.max hX.max).mono ?_
  rintro e w ⟨⟨r2, rfl, hsm⟩, rfl⟩
  cases r2
  rotate_left
  · go_wp2
    exact bodyPost_ret (v := .bool true) (by simp [results, Try.results4, go_sem]) rfl ⟨rfl, Below.refl _ _⟩
  have hn20 : T.n ≤ 1048576 := hsm rfl
  clear hsm
  by_cases k0 : kk < 0
  · have g : decide (kk < 0) = true := by simpa using k0
    go_wp2
    exact bodyPost_ret (v := .bool true) (by simp [results, Try.results4, go_sem]) rfl ⟨rfl, Below.refl _ _⟩
  obtain ⟨k, rfl⟩ : ∃ k : Nat, kk = k := ⟨kk.toNat, by omega⟩
  have g0 : decide ((k : Int) < 0) = false := by simp
  by_cases k1 : (T.n : Int) < (k : Int)
  · go_wp2
    exact bodyPost_ret (v := .bool true) (by simp [results, Try.results4, go_sem]) rfl ⟨rfl, Below.refl _ _⟩
  have hk : k ≤ T.n := by omega
  have cl := fun w => cutL T.a T.n T.cap k w hk hcap
  have hB1 : Below w.heap.size w (w.alloc (.cells (viewA ti H.a H.n H.cap (.slice T.a T.n T.cap) te al st Q.a Q.n Q.cap) 27)) := below1 _ _
  have hV0 := heap_alloc_new w (.cells (viewA ti H.a H.n H.cap (.slice T.a T.n T.cap) te al st Q.a Q.n Q.cap) 27)
  unfold viewA at hB1 hV0
  obtain ⟨g, hg⟩ : ∃ g, g = (w.alloc (.cells (viewA ti H.a H.n H.cap (.slice T.a T.n T.cap) te al st Q.a Q.n Q.cap) 27)).heap.size := ⟨_, rfl⟩
  unfold viewA at hg
  go_wp2_with (at_make; refine wpList_make_own _ rfl _ _ 23 rfl g 22 i0 (.slice none 0 0) 1 Try.underlying23 hi0 hz0 hz1 _ _ _ (T.n + 1) rfl rfl (by omega) ?b2 ?b3 (Nat.le_of_eq hg) ?_)
  case b2 => rw [hz2]; omega
  case b3 => unfold maxLen; omega
  intro w0 hown0 hgrow0
  have hWs : (w.alloc (.cells (viewA ti H.a H.n H.cap (.slice T.a T.n T.cap) te al st Q.a Q.n Q.cap) 27)).heap.size = w.heap.size + 1 := World.size_alloc _ _
  unfold viewA at hWs
  generalize w.alloc _ = Wv at *
  subst hg
  rw [← hWs] at hown0 ⊢
  clear hWs
  have hTv := hT.below hB1
  have hXv := hX.below hB1 hX.lt
  have l0v : w.heap.size < Wv.heap.size := (Array.getElem?_eq_some_iff.1 hV0).1
  have hBa : Below Wv.heap.size Wv w0 := (Below.refl _ _).grown hgrow0 (Nat.le_refl _) (fun q h => by cases h)
  go_wp2
  go_loopw [22, 23] (fun ins i wr => ∃ m : Nat, m ≤ k ∧ ins = .slice (some ⟨Wv.heap.size, 0, none⟩) m (T.n + 1) ∧ i = .int .i64 m ∧ wr.ownsRow Wv.heap.size 22 1 (.slice (some ⟨Wv.heap.size, 0, none⟩) m (T.n + 1)) m (insV T X k m) ∧ Below Wv.heap.size Wv wr) (fun _ i _ => k - (intOf i).toNat)
  case atStart => exact ⟨0, Nat.zero_le _, rfl, rfl, hown0, hBa⟩
  case round =>
    obtain ⟨m, hm, rfl, rfl, hown, hbel⟩ := hrel
    by_cases hlt : m < k
    · have hTr := hTv.below hbel
      have ha := hTr.here m (by omega)
      have hcr : wr.cell? ⟨T.b, T.off + m, none⟩ = some (.slice (T.r m).a (T.r m).n (T.r m).cap) := hTr.cell m (by omega)
      have l0 : (0 : Int) ≤ (m : Int) := by omega
      have l1 : (m : Int) < (k : Int) := by omega
      have l2 : (m : Int) < (T.n : Int) := by omega
      rw [ha]
      go_wp2_with (at_builtin; refine wpList_append_fits _ rfl (.tmp 77) (.tmp 82) 23 rfl Wv.heap.size 22 i0 1 Try.underlying23 hi0 hz1 Wv.heap.size m (T.n + 1) _ rfl (hown.alloc _) ⟨wr.heap.size, 0, none⟩ 1 1 [.slice (T.r m).a (T.r m).n (T.r m).cap] rfl rfl (by intro t u ht; match t, ht with | 0, ht => simp at ht; subst ht; simp [Addr.add]) (by intro u hu; simp at hu; subst hu; rfl) (by omega) ?_; intro w1 hown1 hgrow1)
      go_roundw
      case rel => exact ⟨m + 1, by omega, rfl, by go_num, by rw [← insV_succ, insR_lt T X hlt]; exact hown1, (hbel.alloc hbel.size _).grown hgrow1 (by simp; have := hbel.size; omega) (fun q hq => by cases hq; exact Nat.le_refl _)⟩
      case measure => simp [intOf]; omega
    · obtain rfl : m = k := by omega
      have l1 : ¬ (m : Int) < (m : Int) := by omega
      go_wp2_with (at_builtin; refine wpList_append_fits _ rfl (.tmp 84) (.tmp 86) 23 rfl Wv.heap.size 22 i0 1 Try.underlying23 hi0 hz1 Wv.heap.size m (T.n + 1) _ rfl (hown.alloc _) ⟨wr.heap.size, 0, none⟩ 1 1 [.slice X.a X.n X.cap] rfl rfl (by intro t u ht; match t, ht with | 0, ht => simp at ht; subst ht; simp [Addr.add]) (by intro u hu; simp at hu; subst hu; rfl) (by omega) ?_; intro w1 hown1 hgrow1)
      have hown2 : w1.ownsRow Wv.heap.size 22 1 (.slice (some ⟨Wv.heap.size, 0, none⟩) (m + 1) (T.n + 1)) (m + 1) (insV T X m (m + 1)) := by rw [← insV_succ, insR_at]; exact hown1
      have hbel2 : Below Wv.heap.size Wv w1 := (hbel.alloc hbel.size _).grown hgrow1 (by simp; have := hbel.size; omega) (fun q hq => by cases hq; exact Nat.le_refl _)
      clear hown hown1 hgrow1 hbel
      go_wp2
      go_loopw [22, 24] (fun ins i wr => ∃ j : Nat, m ≤ j ∧ j ≤ T.n ∧ ins = .slice (some ⟨Wv.heap.size, 0, none⟩) (j + 1) (T.n + 1) ∧ i = .int .i64 j ∧ wr.ownsRow Wv.heap.size 22 1 (.slice (some ⟨Wv.heap.size, 0, none⟩) (j + 1) (T.n + 1)) (j + 1) (insV T X m (j + 1)) ∧ Below Wv.heap.size Wv wr) (fun _ i _ => T.n - (intOf i).toNat)
      case atStart => exact ⟨m, Nat.le_refl _, hk, rfl, rfl, hown2, hbel2⟩
      case round =>
        clear hown2 hbel2
        obtain ⟨j, hmj, hjn, rfl, rfl, hown, hbel⟩ := hrel
        by_cases hlt : j < T.n
        · have hTr := hTv.below hbel
          have ha := hTr.here j (by omega)
          have hcr : wr.cell? ⟨T.b, T.off + j, none⟩ = some (.slice (T.r j).a (T.r j).n (T.r j).cap) := hTr.cell j (by omega)
          have l0 : (0 : Int) ≤ (j : Int) := by omega
          have l2 : (j : Int) < (T.n : Int) := by omega
          rw [ha]
          go_wp2_with (at_builtin; refine wpList_append_fits _ rfl (.tmp 95) (.tmp 100) 23 rfl Wv.heap.size 22 i0 1 Try.underlying23 hi0 hz1 Wv.heap.size (j + 1) (T.n + 1) _ rfl (hown.alloc _) ⟨wr.heap.size, 0, none⟩ 1 1 [.slice (T.r j).a (T.r j).n (T.r j).cap] rfl rfl (by intro t u ht; match t, ht with | 0, ht => simp at ht; subst ht; simp [Addr.add]) (by intro u hu; simp at hu; subst hu; rfl) (by omega) ?_; intro w1 hown1 hgrow1)
          go_roundw
          case rel => exact ⟨j + 1, by omega, by omega, rfl, by go_num, by rw [← insV_succ, insR_gt T X hmj]; exact hown1, (hbel.alloc hbel.size _).grown hgrow1 (by simp; have := hbel.size; omega) (fun q hq => by cases hq; exact Nat.le_refl _)⟩
          case measure => simp [intOf]; omega
        · obtain rfl : j = T.n := by omega
          have l2 : ¬ (T.n : Int) < (T.n : Int) := by omega
          have hTr := hTv.below hbel
          have hXr := hXv.below hbel hXv.lt
          have hIr := insT_lies (B := Wv.heap.size) hTr hXr hk (by unfold maxLen; omega) hown
          have hBr := hB1.trans (hbel.mono hB1.size)
          have hVr := (hbel.block _ l0v).trans hV0
          have l0r : w.heap.size < wr.heap.size := Nat.lt_of_lt_of_le l0v hbel.size
          clear hown hbel hTr hXr
          obtain ⟨c0, c1, c2, c3, c4, c5, c6⟩ := cells7 hVr
          have hB5 : Below w.heap.size w ((wr.alloc (.cells (viewA ti H.a H.n H.cap (.slice (some ⟨Wv.heap.size, 0, none⟩) (T.n + 1) (T.n + 1)) te al st Q.a Q.n Q.cap) 27)).alloc (.cells (viewA ⟨#[]⟩ none 0 0 (.slice T.a m T.cap) ⟨#[]⟩ ⟨#[]⟩ ⟨#[]⟩ none 0 0) 27)) := (hBr.alloc hBr.size _).alloc (by simp; have := hBr.size; omega) _
          have hVA := heap2_old wr (.cells (viewA ti H.a H.n H.cap (.slice (some ⟨Wv.heap.size, 0, none⟩) (T.n + 1) (T.n + 1)) te al st Q.a Q.n Q.cap) 27) (.cells (viewA ⟨#[]⟩ none 0 0 (.slice T.a m T.cap) ⟨#[]⟩ ⟨#[]⟩ ⟨#[]⟩ none 0 0) 27)
          have hVP := heap2_new wr (.cells (viewA ti H.a H.n H.cap (.slice (some ⟨Wv.heap.size, 0, none⟩) (T.n + 1) (T.n + 1)) te al st Q.a Q.n Q.cap) 27) (.cells (viewA ⟨#[]⟩ none 0 0 (.slice T.a m T.cap) ⟨#[]⟩ ⟨#[]⟩ ⟨#[]⟩ none 0 0) 27)
          have hI5 := hIr.below (below2 wr (.cells (viewA ti H.a H.n H.cap (.slice (some ⟨Wv.heap.size, 0, none⟩) (T.n + 1) (T.n + 1)) te al st Q.a Q.n Q.cap) 27) (.cells (viewA ⟨#[]⟩ none 0 0 (.slice T.a m T.cap) ⟨#[]⟩ ⟨#[]⟩ ⟨#[]⟩ none 0 0) 27))
          unfold viewA at hB5 hVA hVP hI5
          go_wp2_with fail
          clear c0 c1 c2 c3 c4 c5 c6 cl hIr
          generalize World.alloc _ _ = W5 at hB5 hVA hVP hI5 ⊢
          have lA : wr.heap.size < W5.heap.size := (Array.getElem?_eq_some_iff.1 hVA).1
          have lP : wr.heap.size + 1 < W5.heap.size := (Array.getElem?_eq_some_iff.1 hVP).1
          have hT5 := hT.below hB5
          rcases ins_cases T X m na hk with ⟨j0, hj, ⟨qz, qnm⟩, hno⟩ | ⟨hno, ⟨qz, qnm⟩⟩ | ⟨hnx, j0, hkj, hj, ⟨qz, qnm⟩, hno⟩ | ⟨hno, hnx⟩
          · have hv : (T.r j0).v = .slice (some ⟨(T.r j0).b, (T.r j0).off, none⟩) (T.r j0).n (T.r j0).cap := by rw [Sl.v, (hT.row j0 (by omega)).here 0 qz]
            refine (row_first ti te al st na H.a Q.a H.n H.cap Q.n Q.cap T W5 hT5 j0 (by omega) ⟨qz, qnm⟩ hno).mono ?_
            rintro e W2 ⟨he, hb⟩
            rw [hv] at he
            subst he
            have hB2 := hB5.trans (hb.mono hB5.size)
            have hT2 := hT5.below hb
            have hI2 := hI5.below hb
            have hVA := (hb.block _ lA).trans hVA
            have hVP := (hb.block _ lP).trans hVP
            have lP := Nat.lt_of_lt_of_le lP hb.size
            clear hb
            obtain ⟨c0, c1, c2, c3, c4, c5, c6⟩ := cells7 hVA
            go_wp2_with fail
            clear c0 c1 c2 c3 c4 c5 c6
            refine (row_first ti te al st na H.a Q.a H.n H.cap Q.n Q.cap (insT T X m Wv.heap.size) W2 hI2 j0 (by show j0 < T.n + 1; omega) (by show (insR T X m j0).Bears na; rw [insR_lt T X hj]; exact ⟨qz, qnm⟩) (fun i hi => by show ¬ (insR T X m i).Bears na; rw [insR_lt T X (by omega)]; exact hno i hi)).mono ?_
            rintro e W3 ⟨he, hb⟩
            rw [(show ((insT T X m Wv.heap.size).r j0).v = .slice (some ⟨(T.r j0).b, (T.r j0).off, none⟩) (T.r j0).n (T.r j0).cap from (by show (insR T X m j0).v = _; rw [insR_lt T X hj]; exact hv))] at he
            subst he
            have hB3 := hB2.trans (hb.mono hB2.size)
            have hT3 := hT2.below hb
            have hVP := (hb.block _ lP).trans hVP
            clear hb
            obtain ⟨c0, c1, c2, c3, c4, c5, c6⟩ := cells7 hVP
            go_wp2_with fail
            clear c0 c1 c2 c3 c4 c5 c6
            refine (row_first ⟨#[]⟩ ⟨#[]⟩ ⟨#[]⟩ ⟨#[]⟩ na none none 0 0 0 0 (T.upto m) W3 (hT3.upto hk) j0 hj ⟨qz, qnm⟩ hno).mono ?_
            rintro e W4 ⟨he, hb⟩
            rw [(show ((T.upto m).r j0).v = _ from hv)] at he
            subst he
            have hB4 := hB3.trans (hb.mono hB3.size)
            clear hb hVA hVP lA lP
            have hT4 := hT.below hB4
            have hX4 := hX.below hB4 hX.lt
            obtain ⟨h1, h2, h3⟩ := hT4.row j0 (by omega)
            go_wp2_with fail
            refine (same_some _ _ _ _ _ _ W4 (fun _ _ => rfl) h2 h3).mono ?_
            rintro e W6 ⟨rfl, hb⟩
            have hB6 := hB4.trans (hb.mono hB4.size)
            obtain ⟨g1, g2, g3⟩ := (hT.below hB6).row j0 (by omega)
            go_wp2_with fail
            refine (same_some _ _ _ _ _ _ W6 (fun _ _ => rfl) g2 g3).mono ?_
            rintro e W7 ⟨rfl, hb⟩
            have hB7 := hB6.trans (hb.mono hB6.size)
            go_wp2
            exact bodyPost_ret (v := .bool true) (by simp [results, Try.results4, go_sem]) rfl ⟨rfl, hB7⟩
          · have hvx : X.v = .slice (some ⟨X.b, X.off, none⟩) X.n X.cap := by rw [Sl.v, hX.here 0 qz]
            have hxa : X.a = some ⟨X.b, X.off, none⟩ := hX.here 0 qz
            refine (row_any ti te al st na H.a Q.a H.n H.cap Q.n Q.cap T W5 hT5).mono ?_
            rintro e W2 ⟨⟨v, rfl⟩, hb⟩
            have hB2 := hB5.trans (hb.mono hB5.size)
            have hT2 := hT5.below hb
            have hI2 := hI5.below hb
            have hVA := (hb.block _ lA).trans hVA
            have hVP := (hb.block _ lP).trans hVP
            have lP := Nat.lt_of_lt_of_le lP hb.size
            clear hb
            obtain ⟨c0, c1, c2, c3, c4, c5, c6⟩ := cells7 hVA
            go_wp2_with fail
            clear c0 c1 c2 c3 c4 c5 c6
            refine (row_first ti te al st na H.a Q.a H.n H.cap Q.n Q.cap (insT T X m Wv.heap.size) W2 hI2 m (by show m < T.n + 1; omega) (by show (insR T X m m).Bears na; rw [insR_at]; exact ⟨qz, qnm⟩) (fun i hi => by show ¬ (insR T X m i).Bears na; rw [insR_lt T X hi]; exact hno i hi)).mono ?_
            rintro e W3 ⟨he, hb⟩
            rw [(show ((insT T X m Wv.heap.size).r m).v = .slice (some ⟨X.b, X.off, none⟩) X.n X.cap from (by show (insR T X m m).v = _; rw [insR_at]; exact hvx))] at he
            subst he
            have hB3 := hB2.trans (hb.mono hB2.size)
            have hT3 := hT2.below hb
            have hVP := (hb.block _ lP).trans hVP
            clear hb
            obtain ⟨c0, c1, c2, c3, c4, c5, c6⟩ := cells7 hVP
            go_wp2_with fail
            clear c0 c1 c2 c3 c4 c5 c6
            refine (row_none ⟨#[]⟩ ⟨#[]⟩ ⟨#[]⟩ ⟨#[]⟩ na none none 0 0 0 0 (T.upto m) W3 (hT3.upto hk) hno).mono ?_
            rintro e W4 ⟨rfl, hb⟩
            have hB4 := hB3.trans (hb.mono hB3.size)
            clear hb hVA hVP lA lP
            have hT4 := hT.below hB4
            have hX4 := hX.below hB4 hX.lt
            obtain ⟨h1, h2, h3⟩ := hX4
            have hs := h2 0 qz
            rw [Nat.add_zero] at hs
            have hz' : (0 : Int) < (X.n : Int) := by omega
            have hne := str_eq (x := X.s 0) (y := na) qnm
            try rw [hxa]
            go_wp2_with fail
            refine (same_some _ _ _ _ _ _ W4 (fun _ _ => rfl) h2 h3).mono ?_
            rintro e W6 ⟨rfl, hb⟩
            have hB6 := hB4.trans (hb.mono hB4.size)
            go_wp2
            exact bodyPost_ret (v := .bool true) (by simp [results, Try.results4, go_sem]) rfl ⟨rfl, hB6⟩
          · have hv : (T.r j0).v = .slice (some ⟨(T.r j0).b, (T.r j0).off, none⟩) (T.r j0).n (T.r j0).cap := by rw [Sl.v, (hT.row j0 (by omega)).here 0 qz]
            refine (row_first ti te al st na H.a Q.a H.n H.cap Q.n Q.cap T W5 hT5 j0 hj ⟨qz, qnm⟩ hno).mono ?_
            rintro e W2 ⟨he, hb⟩
            rw [hv] at he
            subst he
            have hB2 := hB5.trans (hb.mono hB5.size)
            have hT2 := hT5.below hb
            have hI2 := hI5.below hb
            have hVA := (hb.block _ lA).trans hVA
            have hVP := (hb.block _ lP).trans hVP
            have lP := Nat.lt_of_lt_of_le lP hb.size
            clear hb
            obtain ⟨c0, c1, c2, c3, c4, c5, c6⟩ := cells7 hVA
            go_wp2_with fail
            clear c0 c1 c2 c3 c4 c5 c6
            refine (row_first ti te al st na H.a Q.a H.n H.cap Q.n Q.cap (insT T X m Wv.heap.size) W2 hI2 (j0 + 1) (by show j0 + 1 < T.n + 1; omega) (by show (insR T X m (j0 + 1)).Bears na; rw [insR_gt T X hkj]; exact ⟨qz, qnm⟩) (fun i hi => by
                show ¬ (insR T X m i).Bears na
                by_cases a1 : i < m
                · rw [insR_lt T X a1]; exact hno i (by omega)
                · by_cases a2 : i = m
                  · rw [a2, insR_at]; exact hnx
                  · obtain ⟨q, rfl⟩ : ∃ q, i = q + 1 := ⟨i - 1, by omega⟩
                    rw [insR_gt T X (by omega)]; exact hno q (by omega))).mono ?_
            rintro e W3 ⟨he, hb⟩
            rw [(show ((insT T X m Wv.heap.size).r (j0 + 1)).v = .slice (some ⟨(T.r j0).b, (T.r j0).off, none⟩) (T.r j0).n (T.r j0).cap from (by show (insR T X m (j0 + 1)).v = _; rw [insR_gt T X hkj]; exact hv))] at he
            subst he
            have hB3 := hB2.trans (hb.mono hB2.size)
            have hT3 := hT2.below hb
            have hVP := (hb.block _ lP).trans hVP
            clear hb
            obtain ⟨c0, c1, c2, c3, c4, c5, c6⟩ := cells7 hVP
            go_wp2_with fail
            clear c0 c1 c2 c3 c4 c5 c6
            refine (row_none ⟨#[]⟩ ⟨#[]⟩ ⟨#[]⟩ ⟨#[]⟩ na none none 0 0 0 0 (T.upto m) W3 (hT3.upto hk) (fun j hj => hno j (by have : j < m := hj; omega))).mono ?_
            rintro e W4 ⟨rfl, hb⟩
            have hB4 := hB3.trans (hb.mono hB3.size)
            clear hb hVA hVP lA lP
            have hT4 := hT.below hB4
            have hX4 := hX.below hB4 hX.lt
            obtain ⟨h1, h2, h3⟩ := hT4.row j0 (by omega)
            unfold Sl.Bears at hnx
            by_cases hz : 0 < X.n
            · have hxa : X.a = some ⟨X.b, X.off, none⟩ := hX.here 0 hz
              have hs := hX4.cell 0 hz
              rw [Nat.add_zero] at hs
              have hz' : (0 : Int) < (X.n : Int) := by omega
              have hne := str_ne (x := X.s 0) (y := na) fun h => hnx ⟨hz, h⟩
              try rw [hxa]
              go_wp2_with fail
              refine (same_some _ _ _ _ _ _ W4 (fun _ _ => rfl) h2 h3).mono ?_
              rintro e W6 ⟨rfl, hb⟩
              have hB6 := hB4.trans (hb.mono hB4.size)
              go_wp2
              exact bodyPost_ret (v := .bool true) (by simp [results, Try.results4, go_sem]) rfl ⟨rfl, hB6⟩
            · have hz' : decide ((0 : Int) < (X.n : Int)) = false := by simpa using (by omega : X.n = 0)
              go_wp2_with fail
              refine (same_some _ _ _ _ _ _ W4 (fun _ _ => rfl) h2 h3).mono ?_
              rintro e W6 ⟨rfl, hb⟩
              have hB6 := hB4.trans (hb.mono hB4.size)
              go_wp2
              exact bodyPost_ret (v := .bool true) (by simp [results, Try.results4, go_sem]) rfl ⟨rfl, hB6⟩
          · refine (row_none ti te al st na H.a Q.a H.n H.cap Q.n Q.cap T W5 hT5 hno).mono ?_
            rintro e W2 ⟨rfl, hb⟩
            have hB2 := hB5.trans (hb.mono hB5.size)
            have hT2 := hT5.below hb
            have hI2 := hI5.below hb
            have hVA := (hb.block _ lA).trans hVA
            have hVP := (hb.block _ lP).trans hVP
            have lP := Nat.lt_of_lt_of_le lP hb.size
            clear hb
            obtain ⟨c0, c1, c2, c3, c4, c5, c6⟩ := cells7 hVA
            go_wp2_with fail
            clear c0 c1 c2 c3 c4 c5 c6
            refine (row_none ti te al st na H.a Q.a H.n H.cap Q.n Q.cap (insT T X m Wv.heap.size) W2 hI2 (fun i hi => by
                show ¬ (insR T X m i).Bears na
                by_cases a1 : i < m
                · rw [insR_lt T X a1]; exact hno i (by omega)
                · by_cases a2 : i = m
                  · rw [a2, insR_at]; exact hnx
                  · obtain ⟨q, rfl⟩ : ∃ q, i = q + 1 := ⟨i - 1, by omega⟩
                    rw [insR_gt T X (by omega)]; exact hno q (by have : q + 1 < T.n + 1 := hi; omega))).mono ?_
            rintro e W3 ⟨rfl, hb⟩
            have hB3 := hB2.trans (hb.mono hB2.size)
            have hT3 := hT2.below hb
            have hVP := (hb.block _ lP).trans hVP
            clear hb
            obtain ⟨c0, c1, c2, c3, c4, c5, c6⟩ := cells7 hVP
            go_wp2_with fail
            clear c0 c1 c2 c3 c4 c5 c6
            refine (row_none ⟨#[]⟩ ⟨#[]⟩ ⟨#[]⟩ ⟨#[]⟩ na none none 0 0 0 0 (T.upto m) W3 (hT3.upto hk) (fun j hj => hno j (by have : j < m := hj; omega))).mono ?_
            rintro e W4 ⟨rfl, hb⟩
            have hB4 := hB3.trans (hb.mono hB3.size)
            clear hb hVA hVP lA lP
            have hT4 := hT.below hB4
            have hX4 := hX.below hB4 hX.lt
            unfold Sl.Bears at hnx
            by_cases hz : 0 < X.n
            · have hxa : X.a = some ⟨X.b, X.off, none⟩ := hX.here 0 hz
              have hs := hX4.cell 0 hz
              rw [Nat.add_zero] at hs
              have hz' : (0 : Int) < (X.n : Int) := by omega
              have hne := str_ne (x := X.s 0) (y := na) fun h => hnx ⟨hz, h⟩
              try rw [hxa]
              go_wp2_with fail
              refine (same_nil W4).mono ?_
              rintro e W6 ⟨rfl, hb⟩
              have hB6 := hB4.trans (hb.mono hB4.size)
              go_wp2
              exact bodyPost_ret (v := .bool true) (by simp [results, Try.results4, go_sem]) rfl ⟨rfl, hB6⟩
            · have hz' : decide ((0 : Int) < (X.n : Int)) = false := by simpa using (by omega : X.n = 0)
              go_wp2_with fail
              refine (same_nil W4).mono ?_
              rintro e W6 ⟨rfl, hb⟩
              have hB6 := hB4.trans (hb.mono hB4.size)
              go_wp2
              exact bodyPost_ret (v := .bool true) (by simp [results, Try.results4, go_sem]) rfl ⟨rfl, hB6⟩
end Go.Proofs.Qxb6632222a
