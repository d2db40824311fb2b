/-
  The two guards on length: each answers a bool and turns nothing; true: no more than 1<<20 entries.
-/
import Derived.Test.Qxb6631221aMatch
namespace Go.Proofs.Qxb6631221a
open Go.RowKit
set_option linter.unusedSimpArgs false

/-- A bool came back; true: no more than 1<<20 entries. -/
def Ans (n : Nat) (e : Ending) : Prop := ∃ r, e = .returned (.bool r) ∧ (r = true → n ≤ 1048576)
theorem Ans.no (n : Nat) : Ans n (.returned (.bool false)) := ⟨false, rfl, fun h => by cases h⟩
theorem Ans.yes {n : Nat} (h : n ≤ 1048576) : Ans n (.returned (.bool true)) := ⟨true, rfl, fun _ => h⟩

set_option maxHeartbeats 1000000 in
theorem bytes5 (a : Option Addr) (b off n cap : Nat) (c : Int) (es : Nat → Ent) (hok : ∀ j, j < n → (es j).Ok) (ha : ∀ j, j < n → a = some ⟨b, off, none⟩) (w : World)
    (hm : ∀ j, j < n → w.rangeAt b (off + j * 41) (es j).cells) (hnm : n ≤ maxLen) :
    Calls Try.prog 5 #[.slice a n cap, .int .i64 c] w fun e w' => Ans n e ∧ w' = w := by
  unfold maxLen at hnm
  by_cases hn : (n : Int) ≤ 1048576
  · go_enter Try.func5, Try.ntmps5
    go_wp2_with fail
    go_loop [5, 6] (fun m i => ∃ k : Nat, k ≤ n ∧ i = .int .i64 k ∧ ∃ z : Int, m = .int .i64 z) (fun _ i => n - (intOf i).toNat)
    case atStart => exact ⟨0, Nat.zero_le _, rfl, _, rfl⟩
    case round =>
      obtain ⟨k, hk, rfl, z, rfl⟩ := hrel
      by_cases hlt : k < n
      · obtain rfl := ha k hlt
        have hE := hok k hlt
        obtain ⟨r1, r2, r3, hbw⟩ := hE.read (hm k hlt)
        clear r1 r2 hm hok ha hE
        go_wp2
        all_goals first
          | (go_ret; exact ⟨Ans.no _, rfl⟩)
          | (go_round
             case rel => exact ⟨k + 1, by omega, by go_num, _, rfl⟩
             case measure => simp [intOf]; omega)
      · clear hm hok ha
        go_wp2
        go_ret
        exact ⟨Ans.yes (by omega), rfl⟩
  · go_enter Try.func5, Try.ntmps5
    go_wp2
    go_ret
    exact ⟨Ans.no _, rfl⟩

set_option maxHeartbeats 1000000 in
theorem bytes9 (a : Option Addr) (b off n cap : Nat) (es : Nat → Ent) (hok : ∀ j, j < n → (es j).Ok) (ha : ∀ j, j < n → a = some ⟨b, off, none⟩) (w : World)
    (hm : ∀ j, j < n → w.rangeAt b (off + j * 41) (es j).cells) (hnm : n ≤ maxLen) :
    Calls Try.prog 9 #[.slice a n cap] w fun e w' => Ans n e ∧ w' = w := by
  unfold maxLen at hnm
  by_cases hn : (n : Int) ≤ 1048576
  · go_enter Try.func9, Try.ntmps9
    go_wp2_with fail
    go_loop [3, 4] (fun m i => ∃ k : Nat, k ≤ n ∧ i = .int .i64 k ∧ ∃ z : Int, m = .int .i64 z) (fun _ i => n - (intOf i).toNat)
    case atStart => exact ⟨0, Nat.zero_le _, rfl, _, rfl⟩
    case round =>
      obtain ⟨k, hk, rfl, z, rfl⟩ := hrel
      by_cases hlt : k < n
      · obtain rfl := ha k hlt
        have hE := hok k hlt
        obtain ⟨r1, r2, r3, hbw⟩ := hE.read (hm k hlt)
        clear r1 r2 hm hok ha hE
        go_wp2
        all_goals first
          | (go_ret; exact ⟨Ans.no _, rfl⟩)
          | (go_round
             case rel => exact ⟨k + 1, by omega, by go_num, _, rfl⟩
             case measure => simp [intOf]; omega)
      · clear hm hok ha
        go_wp2
        go_ret
        exact ⟨Ans.yes (by omega), rfl⟩
  · go_enter Try.func9, Try.ntmps9
    go_wp2
    go_ret
    exact ⟨Ans.no _, rfl⟩
end Go.Proofs.Qxb6631221a
