/-
  zzMatches, where the keys match: it answers true.
-/
import Derived.Test.Qxb6631221aKeys
import Derived.Deep.RegionHeld3
namespace Go.Proofs.Qxb6631221a
open Go.RowKit
set_option linter.unusedSimpArgs false

theorem equal24 (l : List Value) (hl : l.length = 32) (hx : ∀ v ∈ l, IsByte v) (w : World) : (Op.equalIn 10000 24 (.agg l.toArray) (.agg l.toArray)).run Try.prog w = .ok true w :=
  equal_array 9998 24 32 l.toArray w Try.underlying24 (by simpa using hl) (by simpa using hx)
theorem equal33 (l : List Value) (hl : l.length = 8) (hx : ∀ v ∈ l, IsByte v) (w : World) : (Op.equalIn 10000 33 (.agg l.toArray) (.agg l.toArray)).run Try.prog w = .ok true w :=
  equal_array 9998 33 8 l.toArray w Try.underlying33 (by simpa using hl) (by simpa using hx)

set_option maxHeartbeats 2000000 in
theorem matchesTrue (bq : Nat) (a : Option Addr) (b off n cap : Nat) (es : Nat → Ent) (hok : ∀ j, j < n → (es j).Ok) (ha : ∀ j, j < n → a = some ⟨b, off, none⟩) (w : World)
    (hm : ∀ j, j < n → w.rangeAt b (off + j * 41) (es j).cells) (hkm : ∀ j, j < n → w.rangeAt bq (j * 40) (es j).key) (hn : n ≤ 1048576) :
    Calls Try.prog 8 #[.slice (some ⟨bq, 0, none⟩) n n, .slice a n cap] w fun e w' => e = .returned (.bool true) ∧ Below w.heap.size w w' := by
  go_enter Try.func8, Try.ntmps8
  go_wp2_with fail
  go_loopw [5] (fun i wr => ∃ k : Nat, k ≤ n ∧ i = .int .i64 k ∧ Below w.heap.size w wr) (fun i _ => n - (intOf i).toNat)
  case atStart => exact ⟨0, Nat.zero_le _, rfl, Below.refl _ _⟩
  case round =>
    obtain ⟨k, hk, rfl, hbel⟩ := hrel
    by_cases hlt : k < n
    · obtain rfl := ha k hlt
      have hE := hok k hlt
      have hi1 : (0 : Int) ≤ (k : Int) := by omega
      have hi2 : (k : Int) < (n : Int) := by omega
      obtain ⟨r1, r2, r3, hbw⟩ := hE.read (hm k hlt)
      have hbqw : bq < w.heap.size := range_lt (hkm k hlt) (by rw [hE.key]; omega)
      have hbr : b < wr.heap.size := Nat.lt_of_lt_of_le hbw hbel.size
      have hbqr : bq < wr.heap.size := Nat.lt_of_lt_of_le hbqw hbel.size
      replace r1 := range_below hbel hbw r1
      replace r2 := range_below hbel hbw r2
      have rk : wr.rangeAt bq (k * 40) ((es k).bs ++ (es k).ids) := range_below hbel hbqw (hkm k hlt)
      have s1 : (Try.prog.info? 24).map (·.size) = some (es k).bs.length := by rw [hE.b]; exact Try.size24
      have s2 : (Try.prog.info? 25).map (·.size) = some (es k).ids.length := by rw [hE.i]; exact Try.size25
      have sK : (Try.prog.info? 35).map (·.size) = some ((es k).bs ++ (es k).ids).length := by rw [List.length_append, hE.b, hE.i]; exact Try.size35
      clear r3 hm hkm hok ha
      go_wp2_with fail
      refine wp_region_held_drew (S := fun w' => Below wr.heap.size wr w') (by kernel_rfl) ((Below.refl _ _).drew) (fun hHeld => ?_)
      refine wpAnyH_take (i := 0) (oi := ⟨some 17, .move (.tmp 0), _, _, _, Option.none⟩) (v := .slice (some ⟨bq, 0, none⟩) n n) rfl (by kernel_rfl) (by kernel_rfl) (by kernel_rfl) (fun _ _ _ h => h) (Or.inl ⟨by rfl, fun w' hS => ?_⟩) hHeld ?_
      · go_simp
      simp only [Act.put, List.setIfInBounds_toArray, List.set_cons_zero, List.set_cons_succ]
      refine wpAnyH_take (i := 1) (oi := ⟨some 18, .move (.tmp 5), _, _, _, Option.none⟩) (v := .int .i64 k) rfl (by kernel_rfl) (by kernel_rfl) (by kernel_rfl) (fun _ _ _ h => h) (Or.inl ⟨by rfl, fun w' hS => ?_⟩) hHeld ?_
      · go_simp
      simp only [Act.put, List.setIfInBounds_toArray, List.set_cons_zero, List.set_cons_succ]
      refine wpAnyH_take (i := 2) (oi := ⟨some 19, .indexAddr 28 (.tmp 17) (.tmp 18), _, _, _, Option.none⟩) (v := .pointer (some ⟨bq, k * 40, none⟩)) rfl (by kernel_rfl) (by kernel_rfl) (by kernel_rfl) (fun _ _ _ h => h) (Or.inl ⟨by rfl, fun w' hS => ?_⟩) hHeld ?_
      · go_simp
      simp only [Act.put, List.setIfInBounds_toArray, List.set_cons_zero, List.set_cons_succ]
      refine wpAnyH_take (i := 3) (oi := ⟨some 20, .load 35 (.tmp 19), _, _, _, Option.none⟩) (v := .agg (((es k).bs ++ (es k).ids)).toArray) rfl (by kernel_rfl) (by kernel_rfl) (by kernel_rfl) (fun _ _ _ h => h) ?_ hHeld ?_
      · exact yieldsIf_load_mid (by rfl) 35 (.tmp 19) (by rfl) bq (k * 40) (by rfl) (((es k).bs ++ (es k).ids)) _ (fun w' hS => range_below hS hbqr rk) Try.underlying35 (by rfl) sK
      simp only [Act.put, List.setIfInBounds_toArray, List.set_cons_zero, List.set_cons_succ]
      refine wpAnyH_take (i := 5) (oi := ⟨some 22, .move (.tmp 1), _, _, _, Option.none⟩) (v := .slice (some ⟨b, off, none⟩) n cap) rfl (by kernel_rfl) (by kernel_rfl) (by kernel_rfl) (fun _ _ _ h => h) (Or.inl ⟨by rfl, fun w' hS => ?_⟩) hHeld ?_
      · go_simp
      simp only [Act.put, List.setIfInBounds_toArray, List.set_cons_zero, List.set_cons_succ]
      refine wpAnyH_take (i := 6) (oi := ⟨some 23, .move (.tmp 5), _, _, _, Option.none⟩) (v := .int .i64 k) rfl (by kernel_rfl) (by kernel_rfl) (by kernel_rfl) (fun _ _ _ h => h) (Or.inl ⟨by rfl, fun w' hS => ?_⟩) hHeld ?_
      · go_simp
      simp only [Act.put, List.setIfInBounds_toArray, List.set_cons_zero, List.set_cons_succ]
      refine wpAnyH_take (i := 7) (oi := ⟨some 24, .indexAddr 22 (.tmp 22) (.tmp 23), _, _, _, Option.none⟩) (v := .pointer (some ⟨b, off + k * 41, none⟩)) rfl (by kernel_rfl) (by kernel_rfl) (by kernel_rfl) (fun _ _ _ h => h) (Or.inl ⟨by rfl, fun w' hS => ?_⟩) hHeld ?_
      · go_simp
      simp only [Act.put, List.setIfInBounds_toArray, List.set_cons_zero, List.set_cons_succ]
      refine wpAnyH_take (i := 8) (oi := ⟨some 25, .fieldAddr 27 (.tmp 24) 0, _, _, _, Option.none⟩) (v := .pointer (some ⟨b, off + k * 41, none⟩)) rfl (by kernel_rfl) (by kernel_rfl) (by kernel_rfl) (fun _ _ _ h => h) (Or.inl ⟨by rfl, fun w' hS => ?_⟩) hHeld ?_
      · go_simp
      simp only [Act.put, List.setIfInBounds_toArray, List.set_cons_zero, List.set_cons_succ]
      refine wpAnyH_take (i := 9) (oi := ⟨some 26, .load 24 (.tmp 25), _, _, _, Option.none⟩) (v := .agg ((es k).bs).toArray) rfl (by kernel_rfl) (by kernel_rfl) (by kernel_rfl) (fun _ _ _ h => h) ?_ hHeld ?_
      · exact yieldsIf_load_mid (by rfl) 24 (.tmp 25) (by rfl) b (off + k * 41) (by rfl) ((es k).bs) _ (fun w' hS => range_below hS hbr r1) Try.underlying24 (by rfl) s1
      simp only [Act.put, List.setIfInBounds_toArray, List.set_cons_zero, List.set_cons_succ]
      refine wpAnyH_ready (rs := [4]) (by kernel_rfl) (by simp) (AllReadyH.cons (o := ⟨some 21, .call { callee := .value (.func 14), args := #[.tmp 20], argTypes := #[35] }, _, _, _, Option.none⟩) rfl (fun K hK => ?_) AllReadyH.nil)
      rw [if_pos (by rfl)]
      go_wp2_with fail
      refine (keyBytes _ _ hE.b hE.i hE.bb _).mono ?_
      rintro e w1 ⟨rfl, hb1⟩
      have hB1 : Below wr.heap.size wr w1 := hHeld.trans hb1
      refine hK.out _ _ hB1 (fun hHeld => ?_)
      clear hK K
      refine wpAnyH_take (i := 10) (oi := ⟨some 27, .binOp .neq 24 (.tmp 21) (.tmp 26) 24, _, _, _, Option.none⟩) (v := .bool false) rfl (by kernel_rfl) (by kernel_rfl) (by kernel_rfl) (fun _ _ _ h => h) (Or.inl ⟨by rfl, fun w' hS => ?_⟩) hHeld ?_
      · (have h1 := neq24 (es k).bs hE.b hE.bb; have h2 := equal24 (es k).bs hE.b hE.bb; go_simp)
      simp only [Act.put, List.setIfInBounds_toArray, List.set_cons_zero, List.set_cons_succ]
      refine wpAnyH_done (by kernel_rfl) ?_ _
      clear hHeld hb1
      have hbel0 := hbel
      replace hbel : Below w.heap.size w w1 := hbel.trans (hB1.mono hbel.size)
      replace hbr : b < w1.heap.size := Nat.lt_of_lt_of_le hbw hbel.size
      replace hbqr : bq < w1.heap.size := Nat.lt_of_lt_of_le hbqw hbel.size
      replace r2 := range_below hB1 (Nat.lt_of_lt_of_le hbw (hbel0.size)) r2
      replace rk := range_below hB1 (Nat.lt_of_lt_of_le hbqw (hbel0.size)) rk
      clear hB1 r1 hbel0
      go_wp2_with fail
      refine wp_region_held_drew (S := fun w' => Below w1.heap.size w1 w') (by kernel_rfl) ((Below.refl _ _).drew) (fun hHeld => ?_)
      refine wpAnyH_take (i := 0) (oi := ⟨some 28, .move (.tmp 0), _, _, _, Option.none⟩) (v := .slice (some ⟨bq, 0, none⟩) n n) rfl (by kernel_rfl) (by kernel_rfl) (by kernel_rfl) (fun _ _ _ h => h) (Or.inl ⟨by rfl, fun w' hS => ?_⟩) hHeld ?_
      · go_simp
      simp only [Act.put, List.setIfInBounds_toArray, List.set_cons_zero, List.set_cons_succ]
      refine wpAnyH_take (i := 1) (oi := ⟨some 29, .move (.tmp 5), _, _, _, Option.none⟩) (v := .int .i64 k) rfl (by kernel_rfl) (by kernel_rfl) (by kernel_rfl) (fun _ _ _ h => h) (Or.inl ⟨by rfl, fun w' hS => ?_⟩) hHeld ?_
      · go_simp
      simp only [Act.put, List.setIfInBounds_toArray, List.set_cons_zero, List.set_cons_succ]
      refine wpAnyH_take (i := 2) (oi := ⟨some 30, .indexAddr 28 (.tmp 28) (.tmp 29), _, _, _, Option.none⟩) (v := .pointer (some ⟨bq, k * 40, none⟩)) rfl (by kernel_rfl) (by kernel_rfl) (by kernel_rfl) (fun _ _ _ h => h) (Or.inl ⟨by rfl, fun w' hS => ?_⟩) hHeld ?_
      · go_simp
      simp only [Act.put, List.setIfInBounds_toArray, List.set_cons_zero, List.set_cons_succ]
      refine wpAnyH_take (i := 3) (oi := ⟨some 31, .load 35 (.tmp 30), _, _, _, Option.none⟩) (v := .agg (((es k).bs ++ (es k).ids)).toArray) rfl (by kernel_rfl) (by kernel_rfl) (by kernel_rfl) (fun _ _ _ h => h) ?_ hHeld ?_
      · exact yieldsIf_load_mid (by rfl) 35 (.tmp 30) (by rfl) bq (k * 40) (by rfl) (((es k).bs ++ (es k).ids)) _ (fun w' hS => range_below hS hbqr rk) Try.underlying35 (by rfl) sK
      simp only [Act.put, List.setIfInBounds_toArray, List.set_cons_zero, List.set_cons_succ]
      refine wpAnyH_take (i := 5) (oi := ⟨some 33, .move (.tmp 1), _, _, _, Option.none⟩) (v := .slice (some ⟨b, off, none⟩) n cap) rfl (by kernel_rfl) (by kernel_rfl) (by kernel_rfl) (fun _ _ _ h => h) (Or.inl ⟨by rfl, fun w' hS => ?_⟩) hHeld ?_
      · go_simp
      simp only [Act.put, List.setIfInBounds_toArray, List.set_cons_zero, List.set_cons_succ]
      refine wpAnyH_take (i := 6) (oi := ⟨some 34, .move (.tmp 5), _, _, _, Option.none⟩) (v := .int .i64 k) rfl (by kernel_rfl) (by kernel_rfl) (by kernel_rfl) (fun _ _ _ h => h) (Or.inl ⟨by rfl, fun w' hS => ?_⟩) hHeld ?_
      · go_simp
      simp only [Act.put, List.setIfInBounds_toArray, List.set_cons_zero, List.set_cons_succ]
      refine wpAnyH_take (i := 7) (oi := ⟨some 35, .indexAddr 22 (.tmp 33) (.tmp 34), _, _, _, Option.none⟩) (v := .pointer (some ⟨b, off + k * 41, none⟩)) rfl (by kernel_rfl) (by kernel_rfl) (by kernel_rfl) (fun _ _ _ h => h) (Or.inl ⟨by rfl, fun w' hS => ?_⟩) hHeld ?_
      · go_simp
      simp only [Act.put, List.setIfInBounds_toArray, List.set_cons_zero, List.set_cons_succ]
      refine wpAnyH_take (i := 8) (oi := ⟨some 36, .fieldAddr 27 (.tmp 35) 1, _, _, _, Option.none⟩) (v := .pointer (some ⟨b, off + k * 41 + 32, none⟩)) rfl (by kernel_rfl) (by kernel_rfl) (by kernel_rfl) (fun _ _ _ h => h) (Or.inl ⟨by rfl, fun w' hS => ?_⟩) hHeld ?_
      · go_simp
      simp only [Act.put, List.setIfInBounds_toArray, List.set_cons_zero, List.set_cons_succ]
      refine wpAnyH_take (i := 9) (oi := ⟨some 37, .load 25 (.tmp 36), _, _, _, Option.none⟩) (v := .agg ((es k).ids).toArray) rfl (by kernel_rfl) (by kernel_rfl) (by kernel_rfl) (fun _ _ _ h => h) ?_ hHeld ?_
      · exact yieldsIf_load_mid (by rfl) 25 (.tmp 36) (by rfl) b (off + k * 41 + 32) (by rfl) ((es k).ids) _ (fun w' hS => range_below hS hbr r2) Try.underlying25 (by rfl) s2
      simp only [Act.put, List.setIfInBounds_toArray, List.set_cons_zero, List.set_cons_succ]
      refine wpAnyH_ready (rs := [4]) (by kernel_rfl) (by simp) (AllReadyH.cons (o := ⟨some 32, .call { callee := .value (.func 15), args := #[.tmp 31], argTypes := #[35] }, _, _, _, Option.none⟩) rfl (fun K hK => ?_) AllReadyH.nil)
      rw [if_pos (by rfl)]
      go_wp2_with fail
      refine (keyID _ _ hE.b hE.i hE.ib _).mono ?_
      rintro e w2 ⟨rfl, hb1⟩
      have hB1 : Below w1.heap.size w1 w2 := hHeld.trans hb1
      refine hK.out _ _ hB1 (fun hHeld => ?_)
      clear hK K
      refine wpAnyH_take (i := 10) (oi := ⟨some 38, .binOp .neq 33 (.tmp 32) (.tmp 37) 33, _, _, _, Option.none⟩) (v := .bool false) rfl (by kernel_rfl) (by kernel_rfl) (by kernel_rfl) (fun _ _ _ h => h) (Or.inl ⟨by rfl, fun w' hS => ?_⟩) hHeld ?_
      · (have h1 := neq33 (es k).ids hE.i hE.ib; have h2 := equal33 (es k).ids hE.i hE.ib; go_simp)
      simp only [Act.put, List.setIfInBounds_toArray, List.set_cons_zero, List.set_cons_succ]
      refine wpAnyH_done (by kernel_rfl) ?_ _
      clear hHeld hb1
      replace hbel : Below w.heap.size w w2 := hbel.trans (hB1.mono hbel.size)
      go_wp2
      go_roundw
      case rel => exact ⟨k + 1, by omega, by go_num, hbel⟩
      case measure => simp [intOf]; omega
    · clear hm hkm hok ha
      go_wp2
      go_ret
      exact ⟨rfl, hbel⟩
end Go.Proofs.Qxb6631221a
