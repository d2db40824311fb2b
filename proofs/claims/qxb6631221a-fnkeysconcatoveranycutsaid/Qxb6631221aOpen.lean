/-
  What the reading of es (a slice of structs of arrays) says of memory.
-/
import Derived.Test.Qxb6631221aRing
import Derived.ProofKit
import Derived.OpenShut
import Derived.Deep.Slices
namespace Go.Proofs.Qxb6631221a
open Go.ChangeShapes Go.WideShapes Go.ChangeAt Go.RowKit Go.Deep

section
variable {H : Type} {enc : TypeId × Value → H} {W : World} {sp : Nat → Bool}

theorem Try.cells24 : Try.prog.cellsOf 24 = 32 := by kernel_rfl
theorem Try.cells25 : Try.prog.cellsOf 25 = 8 := by kernel_rfl
theorem Try.cells27 : Try.prog.cellsOf 27 = 41 := by kernel_rfl
theorem Try.cells9 : Try.prog.cellsOf 9 = 1 := by kernel_rfl

/-- An array of bytes: so many cells, a byte each. -/
theorem open_bytes {t n fuel : Nat} {cs : List Value} {x : DataW H × List MemPlace} (ht : Try.prog.underlying t = some (.array n 5)) (hc : Try.prog.cellsOf t = n)
    (h : DataW.trod enc Try.prog W 0 sp true fuel t cs = some x) : cs.length = n ∧ ∀ v ∈ cs, IsByte v := by
  obtain ⟨xs, m, rfl, rfl, hl, hxs, he⟩ := DataW.trod_array ht h
  rw [hc] at hl
  refine ⟨hl, fun v hv => ?_⟩
  obtain ⟨i, hi, rfl⟩ := List.mem_iff_getElem.1 hv
  have := he i (by omega)
  rw [cells5, Nat.mul_one, List.getElem?_eq_getElem (by omega)] at this
  obtain ⟨z, hz, _, _⟩ := DataW.trod_int Try.underlying5 this
  have e : (cs.drop i).take 1 = [cs[i]] := by rw [List.drop_eq_getElem_cons hi]; rfl
  rw [e] at hz
  exact ⟨z, by simpa using hz⟩

/-- One entry. -/
theorem open_ent {fuel : Nat} {cs : List Value} {x : DataW H × List MemPlace} (h : DataW.trod enc Try.prog W 0 sp true fuel 27 cs = some x) : ∃ e : Ent, e.Ok ∧ cs = e.cells := by
  obtain ⟨xs, n, rfl, rfl, hl, hxs, hf⟩ := DataW.trod_struct Try.underlying27 h
  rw [Try.cells27] at hl
  have hsz : xs.length = 3 := hxs
  have f0 : DataW.trod enc Try.prog W 0 sp true n 24 ((cs.drop 0).take (Try.prog.cellsOf 24)) = xs[0]? := hf 0 _ rfl
  have f1 : DataW.trod enc Try.prog W 0 sp true n 25 ((cs.drop 32).take (Try.prog.cellsOf 25)) = xs[1]? := hf 1 _ rfl
  have f2 : DataW.trod enc Try.prog W 0 sp true n 9 ((cs.drop 40).take (Try.prog.cellsOf 9)) = xs[2]? := hf 2 _ rfl
  rw [List.getElem?_eq_getElem (by omega)] at f0 f1 f2
  rw [Try.cells24] at f0
  rw [Try.cells25] at f1
  rw [Try.cells9] at f2
  obtain ⟨l0, b0⟩ := open_bytes Try.underlying24 Try.cells24 f0
  obtain ⟨l1, b1⟩ := open_bytes Try.underlying25 Try.cells25 f1
  obtain ⟨s, hs, _, _⟩ := DataW.trod_string Try.underlying9 f2
  refine ⟨⟨_, _, s⟩, ⟨l0, l1, b0, b1⟩, ?_⟩
  show cs = (cs.drop 0).take 32 ++ (cs.drop 32).take 8 ++ [.string s]
  rw [← hs, List.drop_zero]
  have e1 : cs.take 32 ++ (cs.drop 32).take 8 = cs.take 40 := by rw [← List.take_add]
  rw [e1]
  have e2 : (cs.drop 40).take 1 = cs.drop 40 := List.take_of_length_le (by simp; omega)
  rw [e2, List.take_append_drop]

/-- es, as the walks want it. -/
theorem open_es {a : Option Addr} {n cap : Nat} {d : DataW H} {ps : List MemPlace} (h : DataW.Trod enc Try.prog W 0 sp true 22 (.slice a n cap) d ps) :
    ∃ (b off : Nat) (es : Nat → Ent), n ≤ cap ∧ cap ≤ maxLen ∧ (∀ j, j < n → (es j).Ok) ∧ (∀ j, j < n → a = some ⟨b, off, none⟩) ∧ ∀ j, j < n → W.rangeAt b (off + j * 41) (es j).cells := by
  obtain ⟨fuel, hf⟩ := h
  rcases open_slice Try.underlying22 hf with ⟨hcs, _⟩ | ⟨x, len, cap', m, k, D, Pl, hcs, _, hl, hm, hmm, _, hel⟩
  · simp [Value.cells] at hcs
    obtain ⟨rfl, rfl, rfl⟩ := hcs
    exact ⟨0, 0, fun _ => ⟨[], [], ByteArray.empty⟩, Nat.le_refl _, Nat.zero_le _, fun j hj => by omega, fun j hj => by omega, fun j hj => by omega⟩
  · simp [Value.cells] at hcs
    obtain ⟨rfl, rfl, rfl⟩ := hcs
    have hnm : n ≤ m := by rw [hmm]; split <;> omega
    rw [Try.cells27] at hel
    have hsp : 0 < n → x.spot = none := by
      intro h0
      obtain ⟨cs', h1, h2⟩ := hel 0 (by omega)
      obtain ⟨_, hlen, hcell⟩ := World.cells?_some h1
      have h0 := hcell 0 (by omega)
      rw [List.getElem?_eq_getElem (by omega)] at h0
      have := World.cell?_spot h0
      simpa [Addr.add] using this
    obtain ⟨b, o, s⟩ := x
    have hall : ∀ j, j < n → ∃ e : Ent, e.Ok ∧ W.rangeAt b (o + j * 41) e.cells := by
      intro j hj
      obtain ⟨cs', h1, h2⟩ := hel j (by omega)
      obtain ⟨e, he, rfl⟩ := open_ent h2
      obtain ⟨_, hlen, hcell⟩ := World.cells?_some h1
      have hs := hsp (by omega)
      simp at hs
      subst hs
      refine ⟨e, he, fun i v hi => ?_⟩
      have hi' := (List.getElem?_eq_some_iff.1 hi).1
      have := hcell i (by omega)
      rw [hi, Addr.add_mid, Addr.add_mid] at this
      exact this
    have hch : ∃ es : Nat → Ent, ∀ j, j < n → (es j).Ok ∧ W.rangeAt b (o + j * 41) (es j).cells := by
      classical
      refine ⟨fun j => if h : j < n then Classical.choose (hall j h) else ⟨[], [], ByteArray.empty⟩, fun j hj => ?_⟩
      simp only [dif_pos hj]
      exact Classical.choose_spec (hall j hj)
    obtain ⟨es, hes⟩ := hch
    exact ⟨b, o, es, hl, hm, fun j hj => (hes j hj).1, fun j hj => by have := hsp (by omega); simp at this; rw [this], fun j hj => (hes j hj).2⟩
end
end Go.Proofs.Qxb6631221a
