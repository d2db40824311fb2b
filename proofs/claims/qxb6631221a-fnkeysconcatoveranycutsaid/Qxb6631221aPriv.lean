/-
  The walk of FnKeysReturnsAPrivateCopy: it answers true; nothing that was there has turned.
-/
import Derived.Test.Qxb6631221aBytes
namespace Go.Proofs.Qxb6631221a
open Go.RowKit
set_option linter.unusedSimpArgs false

theorem IsRing.below {w W : World} {bk be n : Nat} {es : Nat → Ent} (h : IsRing w bk be n es) (hok : ∀ j, j < n → (es j).Ok) (hb : Below w.heap.size w W) : IsRing W bk be n es :=
  ⟨(hb.block bk (Array.getElem?_eq_some_iff.1 h.row).1).trans h.row, h.ne, fun j hj => range_below hb (range_lt (h.ents j hj) (by rw [(hok j hj).entry]; omega)) (h.ents j hj)⟩

/-- zzRing, as its callers want it. -/
theorem ringOf (a : Option Addr) (b off n cap : Nat) (es : Nat → Ent) (hok : ∀ j, j < n → (es j).Ok) (ha : ∀ j, j < n → a = some ⟨b, off, none⟩) (w : World)
    (hm : ∀ j, j < n → w.rangeAt b (off + j * 41) (es j).cells) (hn : n ≤ 1048576) :
    Calls Try.prog 6 #[.slice a n cap] w fun e w' => ∃ be bk, e = .returned (.pointer (some ⟨bk, 0, none⟩)) ∧ Below w.heap.size w w' ∧ IsRing w' bk be n es :=
  (ring a b off n cap es hok ha w hm hn).mono fun _ _ ⟨be, bk, h1, h2, _, _, h5, h6, h7⟩ => ⟨be, bk, h1, h2, ⟨h6, h5, h7⟩⟩

theorem z40_one : (#[.int .u8 0, .int .u8 0, .int .u8 0, .int .u8 0, .int .u8 0, .int .u8 0, .int .u8 0, .int .u8 0, .int .u8 0, .int .u8 0, .int .u8 0, .int .u8 0, .int .u8 0, .int .u8 0, .int .u8 0, .int .u8 0, .int .u8 0, .int .u8 0, .int .u8 0, .int .u8 0, .int .u8 0, .int .u8 0, .int .u8 0, .int .u8 0, .int .u8 0, .int .u8 0, .int .u8 0, .int .u8 0, .int .u8 0, .int .u8 0, .int .u8 0, .int .u8 0, .int .u8 0, .int .u8 0, .int .u8 0, .int .u8 0, .int .u8 0, .int .u8 0, .int .u8 0, .int .u8 0] : Array Value).all (·.oneCell') = true := all_oneCell_toArray (cs := List.replicate 40 (.int .u8 0)) (fun v hv => by rw [List.eq_of_mem_replicate hv]; rfl)

set_option maxHeartbeats 2000000 in
theorem priv_walk (a : Option Addr) (b off n cap : Nat) (es : Nat → Ent) (hok : ∀ j, j < n → (es j).Ok) (ha : ∀ j, j < n → a = some ⟨b, off, none⟩) (w : World)
    (hm : ∀ j, j < n → w.rangeAt b (off + j * 41) (es j).cells) (hnm : n ≤ maxLen) :
    Calls Try.prog 4 #[.slice a n cap] w fun e w' => e = .returned (.bool true) ∧ Below w.heap.size w w' := by
  have hB := bytes9 a b off n cap es hok ha w hm hnm
  have hmb : ∀ {W : World}, Below w.heap.size w W → ∀ j, j < n → W.rangeAt b (off + j * 41) (es j).cells := fun hW j hj => range_below hW ((hok j hj).read (hm j hj)).2.2.2 (hm j hj)
  unfold maxLen at hnm
  go_enter Try.func4, Try.ntmps4
  go_wp2_with fail
  refine hB.mono ?_
  rintro e w0 ⟨⟨r, rfl, hr⟩, hw0⟩
  rw [hw0]
  clear hB hw0 w0
  cases r
  · go_wp2
    go_ret
    exact ⟨rfl, Below.refl _ _⟩
  have hn := hr rfl
  clear hr
  go_wp2_with fail
  go_loop [3, 4] (fun m i => ∃ k : Nat, k ≤ n ∧ i = .int .i64 k ∧ ∃ z : Int, m = .int .i64 z) (fun _ i => n - (intOf i).toNat)
  case atStart => exact ⟨0, Nat.zero_le _, rfl, _, rfl⟩
  case round =>
    obtain ⟨k, hk, rfl, z, rfl⟩ := hrel
    by_cases hlt : k < n
    · obtain rfl := ha k hlt
      obtain ⟨r1, r2, r3, hbw⟩ := (hok k hlt).read (hm k hlt)
      clear r1 r2 hm hok ha hmb
      go_wp2
      all_goals first
        | (go_ret; exact ⟨rfl, Below.refl _ _⟩)
        | (go_round
           case rel => exact ⟨k + 1, by omega, by go_num, _, rfl⟩
           case measure => simp [intOf]; omega)
    · clear hk
      go_wp2_with fail
      refine (ringOf a b off n cap es hok ha _ hm hn).mono ?_
      rintro e w1 ⟨be, bk, rfl, hb1, hR⟩
      go_wp2_with fail
      refine (keysOf bk be n es hok _ hR hn).mono ?_
      rintro e w2 ⟨bq, rfl, hb2, hbq, hth, hkeys⟩
      have hb02 : Below w.heap.size w w2 := hb1.trans (hb2.mono hb1.size)
      go_wp2_with fail
      refine (matchesTrue bq a b off n cap es hok ha _ (hmb hb02) hkeys hn).mono ?_
      rintro e w3 ⟨rfl, hb3⟩
      have hb03 : Below w1.heap.size w1 w3 := hb2.trans (hb3.mono hb2.size)
      have hth3 : w3.there bq 0 (n * 40) := fun j hj => there_below hb3 (World.block_lt_of_cell? w2 _ (Option.isSome_iff_exists.1 (hth j hj).1).choose_spec) (fun i hi => hth i hi) j hj
      clear hkeys hth hb3 hb2 hb02
      go_wp2_with fail
      go_loopw [7] (fun i wr => ∃ k : Nat, k ≤ n ∧ i = .int .i64 k ∧ Below w1.heap.size w1 wr ∧ wr.there bq 0 (n * 40)) (fun i _ => n - (intOf i).toNat)
      case atStart => exact ⟨0, Nat.zero_le _, rfl, hb03, hth3⟩
      case round =>
        obtain ⟨k, hk, rfl, hbel, hthr⟩ := hrel
        by_cases hlt : k < n
        · have hi1 : (0 : Int) ≤ (k : Int) := by omega
          have hi2 : (k : Int) < (n : Int) := by omega
          have hw : wr.there bq (k * 40) 40 := there_mid hthr (Nat.zero_le _) (by omega)
          clear hm hok ha hmb hR
          go_wp2_with ((with_reducible refine at_op (.store 35 (.tmp 46) (.tmp 45)) ?_ ?_); (rfl); go_must (refine wpList_store_mid rfl 35 (.tmp 46) (.tmp 45) rfl bq (k * 40) #[.int .u8 0, .int .u8 0, .int .u8 0, .int .u8 0, .int .u8 0, .int .u8 0, .int .u8 0, .int .u8 0, .int .u8 0, .int .u8 0, .int .u8 0, .int .u8 0, .int .u8 0, .int .u8 0, .int .u8 0, .int .u8 0, .int .u8 0, .int .u8 0, .int .u8 0, .int .u8 0, .int .u8 0, .int .u8 0, .int .u8 0, .int .u8 0, .int .u8 0, .int .u8 0, .int .u8 0, .int .u8 0, .int .u8 0, .int .u8 0, .int .u8 0, .int .u8 0, .int .u8 0, .int .u8 0, .int .u8 0, .int .u8 0, .int .u8 0, .int .u8 0, .int .u8 0, .int .u8 0] rfl rfl hw Try.size35 z40_one ?_))
          go_roundw
          case rel => exact ⟨k + 1, by omega, by go_num, below_setCells bq hbq _ _ hbel, World.there_setCells hthr _ _ _⟩
          case measure => simp [intOf]; omega
        · have hb0r : Below w.heap.size w wr := hb1.trans (hbel.mono hb1.size)
          go_wp2_with fail
          refine (keysOf bk be n es hok _ (hR.below hok hbel) hn).mono ?_
          rintro e w4 ⟨bq2, rfl, hb4, hbq2, hth4, hkeys4⟩
          have hb04 : Below w.heap.size w w4 := hb0r.trans (hb4.mono hb0r.size)
          go_wp2_with fail
          refine (matchesTrue bq2 a b off n cap es hok ha _ (hmb hb04) hkeys4 hn).mono ?_
          rintro e w5 ⟨rfl, hb5⟩
          go_wp2
          go_ret
          exact ⟨rfl, hb04.trans (hb5.mono hb04.size)⟩
end Go.Proofs.Qxb6631221a
