/-
  zzClockSearch: the same minute, found by trying every one.
-/
import Derived.Test.Qxb6631293aFmtClock
namespace Go.Proofs.Qxb6631293aFmt
open Go.RowKit
set_option linter.unusedSimpArgs false

theorem minute_of {z : Nat → Int} {p k : Nat} (hk : k < 1440) (h0 : z p = 48 + (k : Int) / 60 / 10) (h1 : z (p + 1) = 48 + (k : Int) / 60 % 10) (h2 : z (p + 2) = 58) (h3 : z (p + 3) = 48 + (k : Int) % 60 / 10) (h4 : z (p + 4) = 48 + (k : Int) % 10) : Clk z p ∧ minute z p = k := by
  refine ⟨⟨h2, ⟨?_, ?_⟩, ⟨?_, ?_⟩, ⟨?_, ?_⟩, ⟨?_, ?_⟩, ?_, ?_⟩, ?_⟩ <;> (try unfold minute) <;> omega
theorem of_minute {z : Nat → Int} {p k : Nat} (h : Clk z p ∧ minute z p = k) : z p = 48 + (k : Int) / 60 / 10 ∧ z (p + 1) = 48 + (k : Int) / 60 % 10 ∧ z (p + 2) = 58 ∧ z (p + 3) = 48 + (k : Int) % 60 / 10 ∧ z (p + 4) = 48 + (k : Int) % 10 := by
  obtain ⟨⟨h2, ⟨a0, b0⟩, ⟨a1, b1⟩, ⟨a3, b3⟩, ⟨a4, b4⟩, hh, hm⟩, he⟩ := h
  unfold minute at he
  refine ⟨?_, ?_, h2, ?_, ?_⟩ <;> omega
theorem minute_lt {z : Nat → Int} {p : Nat} (h : Clk z p) : 0 ≤ minute z p ∧ minute z p < 1440 := by
  obtain ⟨h2, ⟨a0, b0⟩, ⟨a1, b1⟩, ⟨a3, b3⟩, ⟨a4, b4⟩, hh, hm⟩ := h
  unfold minute
  omega

set_option maxHeartbeats 2000000 in
set_option maxRecDepth 100000 in
theorem searchC (b off cap p : Nat) (z : Nat → Int) (w : World) (hp : p + 5 ≤ 11) (hl : Lies w b off 11 z) :
    Calls Tryf.prog 6 #[.slice (some ⟨b, off, none⟩) 11 cap, .int .i64 p] w fun e w' => e = .returned (cmA z p) ∧ w' = w := by
  have c0 := hl p (by omega)
  have c1 := hl (p + 1) (by omega)
  have c2 := hl (p + 2) (by omega)
  have c3 := hl (p + 3) (by omega)
  have c4 := hl (p + 4) (by omega)
  have i0 : (0 : Int) ≤ (p : Int) := by omega
  have i1 : (p : Int) < 11 := by omega
  go_enter Tryf.func6, Tryf.ntmps6
  go_wp2
  go_loop [6] (fun i => ∃ k : Nat, k ≤ 1440 ∧ i = .int .i64 k ∧ ∀ j : Nat, j < k → ¬ (Clk z p ∧ minute z p = j)) (fun i => 1440 - (intOf i).toNat)
  case atStart => exact ⟨0, Nat.zero_le _, rfl, fun j hj => by omega⟩
  case round =>
    obtain ⟨k, hk, rfl, hall⟩ := hrel
    by_cases hlt : k < 1440
    · have j1 : (k : Int) < 1440 := by omega
      have next : ¬ (Clk z p ∧ minute z p = k) → ∀ j : Nat, j < k + 1 → ¬ (Clk z p ∧ minute z p = j) := fun hno j hj h => by
        by_cases e : j = k
        · subst e; exact hno h
        · exact hall j (by omega) h
      go_wp2
      case roundEnd => exact ⟨⟨k + 1, by omega, by simp, next fun h => by have := of_minute h; simp_all⟩, by simp [intOf]; omega⟩
      case roundEnd => exact ⟨⟨k + 1, by omega, by simp, next fun h => by have := of_minute h; simp_all⟩, by simp [intOf]; omega⟩
      case roundEnd => exact ⟨⟨k + 1, by omega, by simp, next fun h => by have := of_minute h; simp_all⟩, by simp [intOf]; omega⟩
      case roundEnd => exact ⟨⟨k + 1, by omega, by simp, next fun h => by have := of_minute h; simp_all⟩, by simp [intOf]; omega⟩
      case roundEnd => exact ⟨⟨k + 1, by omega, by simp, next fun h => by have := of_minute h; simp_all⟩, by simp [intOf]; omega⟩
      rename_i h0 h1 h2 h3 h4 _
      have hm := minute_of (by omega) h0 h1 h2 h3 (by simpa using h4)
      exact bodyPost_ret (v := .tuple #[.int .i64 k, .bool true]) (by simp [results, Tryf.results6, go_sem]) rfl ⟨by rw [cm_yes hm.1, hm.2], rfl⟩
    · have hn : ¬ Clk z p := fun h => by
        obtain ⟨l0, l1⟩ := minute_lt h
        exact hall (minute z p).toNat (by omega) ⟨h, by omega⟩
      have j1 : ¬ (k : Int) < 1440 := by omega
      go_wp2
      exact bodyPost_ret (v := .tuple #[.int .i64 0, .bool false]) (by simp [results, Tryf.results6, go_sem]) rfl ⟨by rw [cm_no hn], rfl⟩
end Go.Proofs.Qxb6631293aFmt
