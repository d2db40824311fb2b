/-
  The walk of FnKeysConcatOverAnyCut: it answers true; nothing that was there has turned.
-/
import Derived.Test.Qxb6631221aPriv
namespace Go.Proofs.Qxb6631221a
open Go.RowKit
set_option linter.unusedSimpArgs false

set_option maxHeartbeats 2000000 in
theorem cat_walk (a : Option Addr) (b off n cap : Nat) (c : Int) (es : Nat → Ent) (hok : ∀ j, j < n → (es j).Ok) (ha : ∀ j, j < n → a = some ⟨b, off, none⟩) (w : World)
    (hm : ∀ j, j < n → w.rangeAt b (off + j * 41) (es j).cells) (hnc : n ≤ cap) (hcm : cap ≤ maxLen) :
    Calls Try.prog 3 #[.slice a n cap, .int .i64 c] w fun e w' => e = .returned (.bool true) ∧ Below w.heap.size w w' := by
  have hB := bytes5 a b off n cap c es hok ha w hm (by omega)
  have hmb : ∀ {W : World}, Below w.heap.size w W → ∀ j, j < n → W.rangeAt b (off + j * 41) (es j).cells := fun hW j hj => range_below hW ((hok j hj).read (hm j hj)).2.2.2 (hm j hj)
  unfold maxLen at hcm
  go_enter Try.func3, Try.ntmps3
  go_wp2_with fail
  refine hB.mono ?_
  rintro e w0 ⟨⟨r, rfl, hr⟩, hw0⟩
  rw [hw0]
  clear hB hw0 w0
  cases r
  · go_wp2
    go_ret
    exact ⟨rfl, Below.refl _ _⟩
  have hn := hr rfl
  clear hr
  go_wp2_with fail
  go_loop [5, 6] (fun m i => ∃ k : Nat, k ≤ n ∧ i = .int .i64 k ∧ ∃ z : Int, m = .int .i64 z) (fun _ i => n - (intOf i).toNat)
  case atStart => exact ⟨0, Nat.zero_le _, rfl, _, rfl⟩
  case round =>
    obtain ⟨k, hk, rfl, z, rfl⟩ := hrel
    by_cases hlt : k < n
    · obtain rfl := ha k hlt
      obtain ⟨r1, r2, r3, hbw⟩ := (hok k hlt).read (hm k hlt)
      clear r1 r2 hm hok ha hmb
      go_wp2
      all_goals first
        | (go_ret; exact ⟨rfl, Below.refl _ _⟩)
        | (go_round
           case rel => exact ⟨k + 1, by omega, by go_num, _, rfl⟩
           case measure => simp [intOf]; omega)
    · clear hk
      by_cases hc0 : c < 0
      · go_wp2
        go_ret
        exact ⟨rfl, Below.refl _ _⟩
      by_cases hc1 : (n : Int) < c
      · go_wp2
        go_ret
        exact ⟨rfl, Below.refl _ _⟩
      obtain ⟨c, rfl⟩ := Int.eq_ofNat_of_zero_le (show 0 ≤ c by omega)
      have hcn : c ≤ n := by omega
      go_wp2_with fail
      refine (ringOf a b off n cap es hok ha _ hm hn).mono ?_
      rintro e w1 ⟨be, bk, rfl, hb1, hR⟩
      go_wp2_with fail
      refine (keysOf bk be n es hok _ hR hn).mono ?_
      rintro e w2 ⟨bq, rfl, hb2, hbq, _, hkeys⟩
      have hb02 : Below w.heap.size w w2 := hb1.trans (hb2.mono hb1.size)
      go_wp2_with fail
      refine (ringOf a b off c cap es (fun j hj => hok j (by omega)) (fun j hj => ha j (by omega)) _ (fun j hj => hmb hb02 j (by omega)) (by omega)).mono ?_
      rintro e w3 ⟨be2, bk2, rfl, hb3, hR2⟩
      go_wp2_with fail
      refine (keysOf bk2 be2 c es (fun j hj => hok j (by omega)) _ hR2 (by omega)).mono ?_
      rintro e w4 ⟨bl, rfl, hb4, hbl, _, hkl⟩
      have hb24 : Below w2.heap.size w2 w4 := hb3.trans (hb4.mono hb3.size)
      have hb04 : Below w.heap.size w w4 := hb02.trans (hb24.mono hb02.size)
      have hkeys4 : ∀ j, j < n → w4.rangeAt bq (j * 40) (es j).key := fun j hj => range_below hb24 (range_lt (hkeys j hj) (by rw [(hok j hj).key]; omega)) (hkeys j hj)
      clear hb3 hb4 hb24 hkeys hR hR2 hb02 hb1 hb2
      have hsl : ∃ a' : Option Addr, (∀ W, (Instr.slice 22 (.slice a n cap) (some (.int .i64 c)) none none).run Try.prog W = .ok (.slice a' (n - c) (cap - c)) W) ∧ ∀ j, j < n - c → a' = some ⟨b, off + c * 41, none⟩ := by
        refine ⟨if cap = c then a else a.map (·.add (c * 41)), fun W => ?_, fun j hj => ?_⟩
        · rw [run_slice_l (P := Try.prog) (w := W) (t := 22) (a := a) (len := n) (cap := cap) (by kernel_rfl) .i64 c (by omega) (by omega)]
          have he : (sizeOf (Try.prog.elem 22)).run Try.prog W = .ok 41 W := Try.sizeOf27 W
          rw [he]
          simp [sliced, Result.andThen]
        · rw [if_neg (by omega), ha j (by omega)]
          simp [Addr.add_mid]
      obtain ⟨a', hsl, ha'⟩ := hsl
      go_wp2_with fail
      clear hsl
      have ho2 : ∀ j, j < n - c → (es (c + j)).Ok := fun j hj => hok (c + j) (by omega)
      refine (ringOf a' b (off + c * 41) (n - c) (cap - c) (fun j => es (c + j)) ho2 ha' _ (fun j hj => by have := hmb hb04 (c + j) (by omega); rw [show off + (c + j) * 41 = off + c * 41 + j * 41 by omega] at this; exact this) (by omega)).mono ?_
      rintro e w5 ⟨be3, bk3, rfl, hb5, hR3⟩
      go_wp2_with fail
      refine (keysOf bk3 be3 (n - c) (fun j => es (c + j)) ho2 _ hR3 (by omega)).mono ?_
      rintro e w6 ⟨br, rfl, hb6, hbr, _, hkr⟩
      have hb46 : Below w4.heap.size w4 w6 := hb5.trans (hb6.mono hb5.size)
      have hb06 : Below w.heap.size w w6 := hb04.trans (hb46.mono hb04.size)
      have hkeys6 : ∀ j, j < n → w6.rangeAt bq (j * 40) (es j).key := fun j hj => range_below hb46 (range_lt (hkeys4 j hj) (by rw [(hok j hj).key]; omega)) (hkeys4 j hj)
      have hkl6 : ∀ j, j < c → w6.rangeAt bl (j * 40) (es j).key := fun j hj => range_below hb46 (range_lt (hkl j hj) (by rw [(hok j (by omega)).key]; omega)) (hkl j hj)
      clear hb5 hb6 hb46 hkeys4 hkl hR3 hb04
      go_wp2_with fail
      refine (matchesTrue bq a b off n cap es hok ha _ (hmb hb06) hkeys6 hn).mono ?_
      rintro e w7 ⟨rfl, hb7⟩
      have hb07 : Below w.heap.size w w7 := hb06.trans (hb7.mono hb06.size)
      have hkeys7 : ∀ j, j < n → w7.rangeAt bq (j * 40) (es j).key := fun j hj => range_below hb7 (range_lt (hkeys6 j hj) (by rw [(hok j hj).key]; omega)) (hkeys6 j hj)
      have hkl7 : ∀ j, j < c → w7.rangeAt bl (j * 40) (es j).key := fun j hj => range_below hb7 (range_lt (hkl6 j hj) (by rw [(hok j (by omega)).key]; omega)) (hkl6 j hj)
      have hkr7 : ∀ j, j < n - c → w7.rangeAt br (j * 40) (es (c + j)).key := fun j hj => range_below hb7 (range_lt (hkr j hj) (by rw [(ho2 j hj).key]; omega)) (hkr j hj)
      clear hb7 hkeys6 hkl6 hkr hb06 hm hmb ha ha'
      have q2 : ((((n - c : Nat) : Int)) != (n : Int) - (c : Int)) = false := by simp; omega
      go_wp2_with fail
      clear q2
      go_loopw [10] (fun i wr => ∃ k : Nat, k ≤ c ∧ i = .int .i64 k ∧ Below w7.heap.size w7 wr) (fun i _ => c - (intOf i).toNat)
      case atStart => exact ⟨0, Nat.zero_le _, rfl, Below.refl _ _⟩
      case round =>
        obtain ⟨k, hk, rfl, hbel⟩ := hrel
        by_cases hlt : k < c
        · have hE := hok k (by omega)
          have hi1 : (0 : Int) ≤ (k : Int) := by omega
          have hi2 : (k : Int) < (c : Int) := by omega
          have hi3 : (k : Int) < (n : Int) := by omega
          have rl : wr.rangeAt bl (k * 40) (es k).key := range_below hbel (range_lt (hkl7 k hlt) (by rw [hE.key]; omega)) (hkl7 k hlt)
          have rq : wr.rangeAt bq (k * 40) (es k).key := range_below hbel (range_lt (hkeys7 k (by omega)) (by rw [hE.key]; omega)) (hkeys7 k (by omega))
          have sK : (Try.prog.info? 35).map (·.size) = some (es k).key.length := by rw [hE.key]; exact Try.size35
          clear hok ho2 hkl7 hkeys7 hkr7
          go_wp2_with fail
          refine wp_region_held_drew (S := fun w' => w' = wr.drew) (by kernel_rfl) rfl (fun hHeld => ?_)
          refine wpAnyH_take (i := 0) (oi := ⟨some 76, .move (.tmp 8), _, _, _, Option.none⟩) (v := .slice (some ⟨bl, 0, none⟩) c c) rfl (by kernel_rfl) (by kernel_rfl) (by kernel_rfl) (fun _ _ _ h => h) (Or.inl ⟨by rfl, fun w' hS => ?_⟩) hHeld ?_
          · go_simp
          simp only [Act.put, List.setIfInBounds_toArray, List.set_cons_zero, List.set_cons_succ]
          refine wpAnyH_take (i := 1) (oi := ⟨some 77, .move (.tmp 10), _, _, _, Option.none⟩) (v := .int .i64 k) rfl (by kernel_rfl) (by kernel_rfl) (by kernel_rfl) (fun _ _ _ h => h) (Or.inl ⟨by rfl, fun w' hS => ?_⟩) hHeld ?_
          · go_simp
          simp only [Act.put, List.setIfInBounds_toArray, List.set_cons_zero, List.set_cons_succ]
          refine wpAnyH_take (i := 2) (oi := ⟨some 78, .indexAddr 28 (.tmp 76) (.tmp 77), _, _, _, Option.none⟩) (v := .pointer (some ⟨bl, k * 40, none⟩)) rfl (by kernel_rfl) (by kernel_rfl) (by kernel_rfl) (fun _ _ _ h => h) (Or.inl ⟨by rfl, fun w' hS => ?_⟩) hHeld ?_
          · go_simp
          simp only [Act.put, List.setIfInBounds_toArray, List.set_cons_zero, List.set_cons_succ]
          refine wpAnyH_take (i := 3) (oi := ⟨some 79, .load 35 (.tmp 78), _, _, _, Option.none⟩) (v := .agg ((es k).key).toArray) rfl (by kernel_rfl) (by kernel_rfl) (by kernel_rfl) (fun _ _ _ h => h) ?_ hHeld ?_
          · exact yieldsIf_load_mid (by rfl) 35 (.tmp 78) (by rfl) bl (k * 40) (by rfl) ((es k).key) _ (fun w' hS => (World.rangeAt_drew _ _ _ _).2 rl |> fun h => by rw [hS]; exact h) Try.underlying35 (by rfl) sK
          simp only [Act.put, List.setIfInBounds_toArray, List.set_cons_zero, List.set_cons_succ]
          refine wpAnyH_take (i := 4) (oi := ⟨some 80, .move (.tmp 7), _, _, _, Option.none⟩) (v := .slice (some ⟨bq, 0, none⟩) n n) rfl (by kernel_rfl) (by kernel_rfl) (by kernel_rfl) (fun _ _ _ h => h) (Or.inl ⟨by rfl, fun w' hS => ?_⟩) hHeld ?_
          · go_simp
          simp only [Act.put, List.setIfInBounds_toArray, List.set_cons_zero, List.set_cons_succ]
          refine wpAnyH_take (i := 5) (oi := ⟨some 81, .move (.tmp 10), _, _, _, Option.none⟩) (v := .int .i64 k) rfl (by kernel_rfl) (by kernel_rfl) (by kernel_rfl) (fun _ _ _ h => h) (Or.inl ⟨by rfl, fun w' hS => ?_⟩) hHeld ?_
          · go_simp
          simp only [Act.put, List.setIfInBounds_toArray, List.set_cons_zero, List.set_cons_succ]
          refine wpAnyH_take (i := 6) (oi := ⟨some 82, .indexAddr 28 (.tmp 80) (.tmp 81), _, _, _, Option.none⟩) (v := .pointer (some ⟨bq, k * 40, none⟩)) rfl (by kernel_rfl) (by kernel_rfl) (by kernel_rfl) (fun _ _ _ h => h) (Or.inl ⟨by rfl, fun w' hS => ?_⟩) hHeld ?_
          · go_simp
          simp only [Act.put, List.setIfInBounds_toArray, List.set_cons_zero, List.set_cons_succ]
          refine wpAnyH_take (i := 7) (oi := ⟨some 83, .load 35 (.tmp 82), _, _, _, Option.none⟩) (v := .agg ((es k).key).toArray) rfl (by kernel_rfl) (by kernel_rfl) (by kernel_rfl) (fun _ _ _ h => h) ?_ hHeld ?_
          · exact yieldsIf_load_mid (by rfl) 35 (.tmp 82) (by rfl) bq (k * 40) (by rfl) ((es k).key) _ (fun w' hS => (World.rangeAt_drew _ _ _ _).2 rq |> fun h => by rw [hS]; exact h) Try.underlying35 (by rfl) sK
          simp only [Act.put, List.setIfInBounds_toArray, List.set_cons_zero, List.set_cons_succ]
          refine wpAnyH_take (i := 8) (oi := ⟨some 84, .binOp .neq 35 (.tmp 79) (.tmp 83) 35, _, _, _, Option.none⟩) (v := .bool false) rfl (by kernel_rfl) (by kernel_rfl) (by kernel_rfl) (fun _ _ _ h => h) (Or.inl ⟨by rfl, fun w' hS => ?_⟩) hHeld ?_
          · (clear hS; have h1 := neq35 (es k).key hE.key hE.keyByte; have h2 := equal35 9997 (es k).key hE.key hE.keyByte; go_simp)
          simp only [Act.put, List.setIfInBounds_toArray, List.set_cons_zero, List.set_cons_succ]
          refine wpAnyH_done (by kernel_rfl) ?_ _
          clear hHeld
          go_wp2
          go_roundw
          case rel => exact ⟨k + 1, by omega, by go_num, hbel.drew⟩
          case measure => simp [intOf]; omega
        · have hb7r : Below w.heap.size w wr := hb07.trans (hbel.mono hb07.size)
          have hkeys8 : ∀ j, j < n → wr.rangeAt bq (j * 40) (es j).key := fun j hj => range_below hbel (range_lt (hkeys7 j hj) (by rw [(hok j hj).key]; omega)) (hkeys7 j hj)
          have hkr8 : ∀ j, j < n - c → wr.rangeAt br (j * 40) (es (c + j)).key := fun j hj => range_below hbel (range_lt (hkr7 j hj) (by rw [(ho2 j hj).key]; omega)) (hkr7 j hj)
          clear hkeys7 hkl7 hkr7 hbel hb07
          obtain ⟨w8, h8⟩ : ∃ x, x = wr := ⟨_, rfl⟩
          subst h8
          go_wp2_with fail
          go_loopw [11] (fun i wt => ∃ k : Nat, k ≤ n - c ∧ i = .int .i64 (c + k) ∧ Below w8.heap.size w8 wt) (fun i _ => n - (intOf i).toNat)
          case atStart => exact ⟨0, Nat.zero_le _, by simp, Below.refl _ _⟩
          case round =>
            obtain ⟨k, hk, rfl, hbel⟩ := hrel
            by_cases hlt : k < n - c
            · have hE := hok (c + k) (by omega)
              have hi1 : (0 : Int) ≤ (k : Int) := by omega
              have hi2 : (k : Int) < ((n - c : Nat) : Int) := by omega
              have hi3 : (c : Int) + (k : Int) < (n : Int) := by omega
              have hi4 : (0 : Int) ≤ (c : Int) + (k : Int) := by omega
              have rl : wr.rangeAt br (k * 40) (es (c + k)).key := range_below hbel (range_lt (hkr8 k hlt) (by rw [hE.key]; omega)) (hkr8 k hlt)
              have rq : wr.rangeAt bq ((c + k) * 40) (es (c + k)).key := range_below hbel (range_lt (hkeys8 (c + k) (by omega)) (by rw [hE.key]; omega)) (hkeys8 (c + k) (by omega))
              have sK : (Try.prog.info? 35).map (·.size) = some (es (c + k)).key.length := by rw [hE.key]; exact Try.size35
              clear hok ho2 hkeys8 hkr8
              go_wp2_with fail
              refine wp_region_held_drew (S := fun w' => w' = wr.drew) (by kernel_rfl) rfl (fun hHeld => ?_)
              refine wpAnyH_take (i := 0) (oi := ⟨some 92, .move (.tmp 9), _, _, _, Option.none⟩) (v := .slice (some ⟨br, 0, none⟩) (n - c) (n - c)) rfl (by kernel_rfl) (by kernel_rfl) (by kernel_rfl) (fun _ _ _ h => h) (Or.inl ⟨by rfl, fun w' hS => ?_⟩) hHeld ?_
              · go_simp
              simp only [Act.put, List.setIfInBounds_toArray, List.set_cons_zero, List.set_cons_succ]
              refine wpAnyH_take (i := 1) (oi := ⟨some 93, .move (.tmp 11), _, _, _, Option.none⟩) (v := .int .i64 (c + k)) rfl (by kernel_rfl) (by kernel_rfl) (by kernel_rfl) (fun _ _ _ h => h) (Or.inl ⟨by rfl, fun w' hS => ?_⟩) hHeld ?_
              · go_simp
              simp only [Act.put, List.setIfInBounds_toArray, List.set_cons_zero, List.set_cons_succ]
              refine wpAnyH_take (i := 2) (oi := ⟨some 94, .move (.tmp 1), _, _, _, Option.none⟩) (v := .int .i64 c) rfl (by kernel_rfl) (by kernel_rfl) (by kernel_rfl) (fun _ _ _ h => h) (Or.inl ⟨by rfl, fun w' hS => ?_⟩) hHeld ?_
              · go_simp
              simp only [Act.put, List.setIfInBounds_toArray, List.set_cons_zero, List.set_cons_succ]
              refine wpAnyH_take (i := 3) (oi := ⟨some 95, .binOp .sub 3 (.tmp 93) (.tmp 94) 3, _, _, _, Option.none⟩) (v := .int .i64 k) rfl (by kernel_rfl) (by kernel_rfl) (by kernel_rfl) (fun _ _ _ h => h) (Or.inl ⟨by rfl, fun w' hS => ?_⟩) hHeld ?_
              · (have e1 : (c : Int) + (k : Int) - (c : Int) = k := (by omega); have e2 : IntKind.i64.wrap (k : Int) = k := (by rw [IntKind.wrap_i64]; omega); go_simp)
              simp only [Act.put, List.setIfInBounds_toArray, List.set_cons_zero, List.set_cons_succ]
              refine wpAnyH_take (i := 4) (oi := ⟨some 96, .indexAddr 28 (.tmp 92) (.tmp 95), _, _, _, Option.none⟩) (v := .pointer (some ⟨br, k * 40, none⟩)) rfl (by kernel_rfl) (by kernel_rfl) (by kernel_rfl) (fun _ _ _ h => h) (Or.inl ⟨by rfl, fun w' hS => ?_⟩) hHeld ?_
              · go_simp
              simp only [Act.put, List.setIfInBounds_toArray, List.set_cons_zero, List.set_cons_succ]
              refine wpAnyH_take (i := 5) (oi := ⟨some 97, .load 35 (.tmp 96), _, _, _, Option.none⟩) (v := .agg ((es (c + k)).key).toArray) rfl (by kernel_rfl) (by kernel_rfl) (by kernel_rfl) (fun _ _ _ h => h) ?_ hHeld ?_
              · exact yieldsIf_load_mid (by rfl) 35 (.tmp 96) (by rfl) br (k * 40) (by rfl) ((es (c + k)).key) _ (fun w' hS => (World.rangeAt_drew _ _ _ _).2 rl |> fun h => by rw [hS]; exact h) Try.underlying35 (by rfl) sK
              simp only [Act.put, List.setIfInBounds_toArray, List.set_cons_zero, List.set_cons_succ]
              refine wpAnyH_take (i := 6) (oi := ⟨some 98, .move (.tmp 7), _, _, _, Option.none⟩) (v := .slice (some ⟨bq, 0, none⟩) n n) rfl (by kernel_rfl) (by kernel_rfl) (by kernel_rfl) (fun _ _ _ h => h) (Or.inl ⟨by rfl, fun w' hS => ?_⟩) hHeld ?_
              · go_simp
              simp only [Act.put, List.setIfInBounds_toArray, List.set_cons_zero, List.set_cons_succ]
              refine wpAnyH_take (i := 7) (oi := ⟨some 99, .move (.tmp 11), _, _, _, Option.none⟩) (v := .int .i64 (c + k)) rfl (by kernel_rfl) (by kernel_rfl) (by kernel_rfl) (fun _ _ _ h => h) (Or.inl ⟨by rfl, fun w' hS => ?_⟩) hHeld ?_
              · go_simp
              simp only [Act.put, List.setIfInBounds_toArray, List.set_cons_zero, List.set_cons_succ]
              refine wpAnyH_take (i := 8) (oi := ⟨some 100, .indexAddr 28 (.tmp 98) (.tmp 99), _, _, _, Option.none⟩) (v := .pointer (some ⟨bq, (c + k) * 40, none⟩)) rfl (by kernel_rfl) (by kernel_rfl) (by kernel_rfl) (fun _ _ _ h => h) (Or.inl ⟨by rfl, fun w' hS => ?_⟩) hHeld ?_
              · go_simp
              simp only [Act.put, List.setIfInBounds_toArray, List.set_cons_zero, List.set_cons_succ]
              refine wpAnyH_take (i := 9) (oi := ⟨some 101, .load 35 (.tmp 100), _, _, _, Option.none⟩) (v := .agg ((es (c + k)).key).toArray) rfl (by kernel_rfl) (by kernel_rfl) (by kernel_rfl) (fun _ _ _ h => h) ?_ hHeld ?_
              · exact yieldsIf_load_mid (by rfl) 35 (.tmp 100) (by rfl) bq ((c + k) * 40) (by rfl) ((es (c + k)).key) _ (fun w' hS => (World.rangeAt_drew _ _ _ _).2 rq |> fun h => by rw [hS]; exact h) Try.underlying35 (by rfl) sK
              simp only [Act.put, List.setIfInBounds_toArray, List.set_cons_zero, List.set_cons_succ]
              refine wpAnyH_take (i := 10) (oi := ⟨some 102, .binOp .neq 35 (.tmp 97) (.tmp 101) 35, _, _, _, Option.none⟩) (v := .bool false) rfl (by kernel_rfl) (by kernel_rfl) (by kernel_rfl) (fun _ _ _ h => h) (Or.inl ⟨by rfl, fun w' hS => ?_⟩) hHeld ?_
              · (clear hS; have h1 := neq35 (es (c + k)).key hE.key hE.keyByte; have h2 := equal35 9997 (es (c + k)).key hE.key hE.keyByte; go_simp)
              simp only [Act.put, List.setIfInBounds_toArray, List.set_cons_zero, List.set_cons_succ]
              refine wpAnyH_done (by kernel_rfl) ?_ _
              clear hHeld
              go_wp2
              go_roundw
              case rel => exact ⟨k + 1, by omega, by go_num, hbel.drew⟩
              case measure => simp [intOf]; omega
            · clear hok ho2 hkeys8 hkr8
              go_wp2
              go_ret
              exact ⟨rfl, hb7r.trans (hbel.mono hb7r.size)⟩
end Go.Proofs.Qxb6631221a
