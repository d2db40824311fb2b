/-
  What the reading of a slice of strings, and of a slice of such slices, says of memory.
-/
import Derived.Test.Qxb6632222aRow
import Derived.ProofKit
import Derived.OpenShut
import Derived.Deep.Slices
namespace Go.Proofs.Qxb6632222a
open Go.ChangeShapes Go.WideShapes Go.ChangeAt Go.RowKit Go.Deep

section
variable {H : Type} {enc : TypeId × Value → H} {W : World} {sp : Nat → Bool}

theorem Try.cells9 : Try.prog.cellsOf 9 = 1 := by kernel_rfl
theorem Try.cells22 : Try.prog.cellsOf 22 = 1 := by kernel_rfl

/-- One cell read. -/
theorem cell_one {W : World} {a : Addr} {v : Value} (h : W.cells? 0 a 1 = some [v]) : W.cell? a = some v := by
  obtain ⟨_, hlen, hcell⟩ := World.cells?_some h
  have := hcell 0 (by omega)
  simpa [Addr.add] using this

theorem add_cell {W : World} {x : Addr} {j : Nat} {v : Value} (h : W.cell? (x.add (j * 1)) = some v) (hs : x.spot = none) : W.cell? ⟨x.block, x.off + j, none⟩ = some v := by
  obtain ⟨b, o, s⟩ := x
  simp at hs
  subst hs
  rw [Nat.mul_one] at h
  unfold Addr.add at h
  split at h
  · rename_i e; subst e; exact h
  · exact h

theorem open_sl {fuel : Nat} {cs : List Value} {x : DataW H × List MemPlace} (h : DataW.trod enc Try.prog W 0 sp true fuel 22 cs = some x) :
    ∃ s : Sl, cs = [s.v] ∧ s.Lies W ∧ s.n ≤ s.cap := by
  rcases open_slice Try.underlying22 h with ⟨rfl, _⟩ | ⟨x, n, cap, m, k, D, Pl, rfl, _, hl, hm, hmm, _, hel⟩
  · exact ⟨⟨none, 0, 0, 0, 0, fun _ => ByteArray.empty⟩, rfl, ⟨fun j hj => absurd hj (Nat.not_lt_zero _), fun j hj => absurd hj (Nat.not_lt_zero _), Nat.zero_le _⟩, Nat.le_refl _⟩
  · have hnm : n ≤ m := by rw [hmm]; split <;> omega
    rw [Try.cells9] at hel
    have hall : ∀ j, j < n → ∃ s : ByteArray, W.cell? (x.add (j * 1)) = some (.string s) := by
      intro j hj
      obtain ⟨cs', h1, h2⟩ := hel j (by omega)
      obtain ⟨s, hs, _, _⟩ := DataW.trod_string Try.underlying9 h2
      rw [hs] at h1
      exact ⟨s, cell_one h1⟩
    have hsp : 0 < n → x.spot = none := by
      intro h0
      obtain ⟨s, hs⟩ := hall 0 h0
      simpa [Addr.add] using World.cell?_spot hs
    have hch : ∃ s : Nat → ByteArray, ∀ j, j < n → W.cell? (x.add (j * 1)) = some (.string (s j)) := by
      classical
      refine ⟨fun j => if h : j < n then Classical.choose (hall j h) else ByteArray.empty, fun j hj => ?_⟩
      simp only [dif_pos hj]
      exact Classical.choose_spec (hall j hj)
    obtain ⟨s, hs⟩ := hch
    refine ⟨⟨some x, n, cap, x.block, x.off, s⟩, rfl, ⟨fun j hj => ?_, fun j hj => ?_, Nat.le_trans hl hm⟩, hl⟩
    · have h0 : 0 < n := Nat.lt_of_le_of_lt (Nat.zero_le _) hj
      have e := hsp h0
      obtain ⟨b, o, q⟩ := x
      simp at e
      subst e
      rfl
    · have hj' : j < n := hj
      exact add_cell (hs j hj) (hsp (by omega))

theorem open_tb {fuel : Nat} {cs : List Value} {x : DataW H × List MemPlace} (h : DataW.trod enc Try.prog W 0 sp true fuel 23 cs = some x) :
    ∃ T : Tb, cs = [T.v] ∧ T.Lies W ∧ T.n ≤ T.cap ∧ T.cap ≤ maxLen := by
  rcases open_slice Try.underlying23 h with ⟨rfl, _⟩ | ⟨x, n, cap, m, k, D, Pl, rfl, _, hl, hm, hmm, _, hel⟩
  · exact ⟨⟨none, 0, 0, 0, 0, fun _ => ⟨none, 0, 0, 0, 0, fun _ => ByteArray.empty⟩⟩, rfl, ⟨fun j hj => absurd hj (Nat.not_lt_zero _), fun j hj => absurd hj (Nat.not_lt_zero _), fun j hj => absurd hj (Nat.not_lt_zero _), Nat.zero_le _⟩, Nat.le_refl _, Nat.zero_le _⟩
  · have hnm : n ≤ m := by rw [hmm]; split <;> omega
    rw [Try.cells22] at hel
    have hall : ∀ j, j < n → ∃ s : Sl, W.cell? (x.add (j * 1)) = some s.v ∧ s.Lies W := by
      intro j hj
      obtain ⟨cs', h1, h2⟩ := hel j (by omega)
      obtain ⟨s, hs, hlies, _⟩ := open_sl h2
      rw [hs] at h1
      exact ⟨s, cell_one h1, hlies⟩
    have hsp : 0 < n → x.spot = none := by
      intro h0
      obtain ⟨s, hs, _⟩ := hall 0 h0
      simpa [Addr.add] using World.cell?_spot hs
    have hch : ∃ s : Nat → Sl, ∀ j, j < n → W.cell? (x.add (j * 1)) = some (s j).v ∧ (s j).Lies W := by
      classical
      refine ⟨fun j => if h : j < n then Classical.choose (hall j h) else ⟨none, 0, 0, 0, 0, fun _ => ByteArray.empty⟩, fun j hj => ?_⟩
      simp only [dif_pos hj]
      exact Classical.choose_spec (hall j hj)
    obtain ⟨s, hs⟩ := hch
    refine ⟨⟨some x, n, cap, x.block, x.off, s⟩, rfl, ⟨fun j hj => ?_, fun j hj => ?_, fun j hj => (hs j hj).2, Nat.le_trans hl hm⟩, hl, hm⟩
    · have h0 : 0 < n := Nat.lt_of_le_of_lt (Nat.zero_le _) hj
      have e := hsp h0
      obtain ⟨b, o, q⟩ := x
      simp at e
      subst e
      rfl
    · have hj' : j < n := hj
      exact add_cell (hs j hj).1 (hsp (by omega))

/-- An argument that is a slice of strings. -/
theorem arg_sl {v : Value} {d : DataW H} {ps : List MemPlace} (h : DataW.Trod enc Try.prog W 0 sp true 22 v d ps) (hv : ∃ a n cap, v = .slice a n cap) : ∃ s : Sl, v = .slice s.a s.n s.cap ∧ s.Lies W ∧ s.n ≤ s.cap := by
  obtain ⟨a, n, cap, rfl⟩ := hv
  obtain ⟨fuel, hf⟩ := h
  obtain ⟨s, hs, h1, h2⟩ := open_sl hf
  refine ⟨s, ?_, h1, h2⟩
  simpa [Value.cells, Sl.v] using hs
theorem arg_tb {v : Value} {d : DataW H} {ps : List MemPlace} (h : DataW.Trod enc Try.prog W 0 sp true 23 v d ps) (hv : ∃ a n cap, v = .slice a n cap) : ∃ T : Tb, v = .slice T.a T.n T.cap ∧ T.Lies W ∧ T.n ≤ T.cap ∧ T.cap ≤ maxLen := by
  obtain ⟨a, n, cap, rfl⟩ := hv
  obtain ⟨fuel, hf⟩ := h
  obtain ⟨T, hs, h1, h2, h3⟩ := open_tb hf
  refine ⟨T, ?_, h1, h2, h3⟩
  simpa [Value.cells, Tb.v] using hs
end
end Go.Proofs.Qxb6632222a
