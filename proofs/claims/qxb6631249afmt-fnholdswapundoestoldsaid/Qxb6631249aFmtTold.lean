/-
  fmt's two texts, told: neither is empty. What a struct argument's reading says.
-/
import Derived.Test.Qxb6631249aFmtScript
import Derived.ProofKit
import Derived.Stop.JoinedAt
import Derived.Stop.Texts
import Derived.Stop.JoinedTold
import Derived.Stop.FmtTextKit
import Derived.SizedLaws
import Derived.Lib.SmallJoins
namespace Go.Proofs.Qxb6631249aFmt
open Go.ChangeShapes Go.WideShapes Go.ChangeAt Go.RowKit Go.Kit Go.Joins
open Go.ChangeMaps (open_string shut_string)
open Go.Extern.Stop Go.Stop Go.Extern

theorem Tryf.own : ownKnob Tryf.prog.godebug = none := by kernel_rfl
theorem Tryf.laidOut0 : laidOutB Tryf.prog = true := by kernel_rfl
theorem t1_parse : (FmtText.parse [115, 101, 116, 116, 105, 110, 103, 115, 32, 119, 104, 111, 115, 101, 32, 112, 97, 116, 104, 115, 32, 104, 111, 108, 100, 32, 109, 111, 114, 101, 32, 116, 104, 97, 110, 32, 37, 100, 32, 98, 121, 116, 101, 115]).map FmtText.glue = some [.lit [115, 101, 116, 116, 105, 110, 103, 115, 32, 119, 104, 111, 115, 101, 32, 112, 97, 116, 104, 115, 32, 104, 111, 108, 100, 32, 109, 111, 114, 101, 32, 116, 104, 97, 110, 32], .verb {} 100, .lit [32, 98, 121, 116, 101, 115]] := by rfl
theorem t2_parse : (FmtText.parse [109, 111, 114, 101, 32, 116, 104, 97, 110, 32, 37, 100, 32, 37, 115]).map FmtText.glue = some [.lit [109, 111, 114, 101, 32, 116, 104, 97, 110, 32], .verb {} 100, .lit [32], .verb {} 115] := by rfl
def text1 (n : Int) : List UInt8 := [115, 101, 116, 116, 105, 110, 103, 115, 32, 119, 104, 111, 115, 101, 32, 112, 97, 116, 104, 115, 32, 104, 111, 108, 100, 32, 109, 111, 114, 101, 32, 116, 104, 97, 110, 32] ++ (Lib.itoa n ++ [32, 98, 121, 116, 101, 115])
def text2 (n : Int) (u : List UInt8) : List UInt8 := [109, 111, 114, 101, 32, 116, 104, 97, 110, 32] ++ (Lib.itoa n ++ ([32] ++ u))
theorem t1_text (n : Int) (hw : (Lit.int .i64 n).wf = true) : FmtText.text "fmt.Sprintf" (Tryf.read1 n) = some (text1 n) := by
  have hi := FmtText.operand_int_at (sh := Tryf.shape3) (k := .i64) rfl rfl n hw
  rw [Tryf.read1, FmtText.text_sprintf_glued t1_parse (FmtText.operands_cons hi FmtText.operands_nil)]
  simp [FmtText.render, FmtText.printArg_d _ _ hw, text1]
theorem t2_text (n : Int) (u : List UInt8) (hs : u.length < 2 ^ 64) (hw : (Lit.int .i64 n).wf = true) : FmtText.text "fmt.Sprintf" (Tryf.read2 n u) = some (text2 n u) := by
  have hi := FmtText.operand_int_at (sh := Tryf.shape3) (k := .i64) rfl rfl n hw
  have hn := FmtText.operand_str_at (sh := Tryf.shape9) rfl rfl u hs
  rw [Tryf.read2, FmtText.text_sprintf_glued t2_parse (FmtText.operands_cons hi (FmtText.operands_cons hn FmtText.operands_nil))]
  simp [FmtText.render, FmtText.printArg_d _ _ hw, FmtText.printArg_s_str, text2]

theorem full_told (F : Interp) (unit : ByteArray) (lim : Wt) (hu : (Lit.int .i64 lim.u).wf = true) (hp : (Lit.int .i64 lim.p).wf = true) (hl : unit.data.toList.length < 2 ^ 47) : Full F.told unit lim := by
  have e1 := FmtText.itoa_length_le hu
  have e2 := FmtText.itoa_length_le hp
  have h2 := told_string F (t2_text lim.u unit.data.toList (by omega) hu) (by simp only [text2, List.length_append, List.length_cons, List.length_nil]; omega)
  have h1 := told_string F (t1_text lim.p hp) (by simp only [text1, List.length_append, List.length_cons, List.length_nil]; omega)
  constructor
  · rw [ByteArray.toList_eq, txt2, textOf_list, h2]; rfl
  · rw [ByteArray.toList_eq, txt1, textOf_list, h1]; rfl

theorem inR {x : Int} (h : (Lit.int .i64 x).wf = true) : InR x := by
  simp [Lit.wf, IntKind.min, IntKind.max, IntKind.signed, IntKind.bits] at h
  exact ⟨by omega, by omega⟩

theorem Tryf.cells23 : Tryf.prog.cellsOf 23 = 3 := by kernel_rfl
/-- A weight that came in. -/
theorem open_W {H : Type} {enc : TypeId × Value → H} {W : World} {sp : Nat → Bool} {base : Nat} {v : Value} {d : DataW H} {ps : List MemPlace} (hv : Value.okWide Tryf.prog W .any base 23 v)
    (h : DataW.Trod enc Tryf.prog W 0 sp true 23 v d ps) : ∃ x : Wt, v = .agg x.a ∧ (Lit.int .i64 x.u).wf = true ∧ (Lit.int .i64 x.s).wf = true ∧ (Lit.int .i64 x.p).wf = true := by
  obtain ⟨c0, c1, c2, y0, y1, y2, m, rfl, _, _, g0, g1, g2⟩ := open_agg3 Tryf.underlying23 (by kernel_rfl) Tryf.cells23 hv h
  obtain ⟨u, e0, _, wu⟩ := DataW.trod_int Tryf.underlying3 g0
  obtain ⟨s, e1, _, ws⟩ := DataW.trod_int Tryf.underlying3 g1
  obtain ⟨p, e2, _, wp⟩ := DataW.trod_int Tryf.underlying3 g2
  simp at e0 e1 e2
  subst e0 e1 e2
  exact ⟨⟨u, s, p⟩, rfl, wu, ws, wp⟩

theorem Tryf.laidOut : laidOutB Tryf.pinned.checked.prog = true := by kernel_rfl
theorem Tryf.stops : Tryf.pinned.checked.prog.stops = ["fmt.Sprintf"] := by kernel_rfl
theorem Tryf.stopKnobs : Tryf.pinned.checked.prog.stopKnobs = [] := by kernel_rfl
theorem Tryf.quiet (os : Os) : Stop.quiet Tryf.pinned.checked.prog os := by
  intro k hk
  rw [Tryf.stopKnobs] at hk
  cases hk
end Go.Proofs.Qxb6631249aFmt
