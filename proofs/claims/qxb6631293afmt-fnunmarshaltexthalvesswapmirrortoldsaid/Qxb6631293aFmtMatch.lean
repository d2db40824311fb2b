/-
  FnUnmarshalTextMatchesClockSearch: the walk.
-/
import Derived.Test.Qxb6631293aFmtSmall
namespace Go.Proofs.Qxb6631293aFmt
open Go.RowKit Go.Extern.Stop Go.Stop Go.Extern
set_option linter.unusedSimpArgs false

theorem searchB (b off cap p : Nat) (z : Nat → Int) (w : World) (o : Bool) (h : decide (Clk z p) = o) (hp : p + 5 ≤ 11) (hl : Lies w b off 11 z) :
    Calls Tryf.prog 6 #[.slice (some ⟨b, off, none⟩) 11 cap, .int .i64 p] w fun e w' => e = .returned (.tuple #[.int .i64 (cmI z p), .bool o]) ∧ w' = w := by
  subst h
  exact searchC b off cap p z w hp hl

theorem Txt.lies {w : World} {a : Option Addr} {n cap : Nat} {z : Nat → Int} (h : Txt w a n cap z) (hn : 0 < n) : ∃ b off, a = some ⟨b, off, none⟩ ∧ Lies w b off n z := by
  rcases h with ⟨_, rfl, _⟩ | ⟨⟨b, off, spot⟩, rfl, hc⟩
  · omega
  · have h0 := hc 0 hn
    have hs : spot = none := by simpa [Addr.add] using World.cell?_spot h0
    subst hs
    refine ⟨b, off, rfl, fun j hj => ?_⟩
    have := hc j hj
    unfold Addr.add at this
    split at this
    · rename_i e; subst e; exact this
    · exact this

set_option maxHeartbeats 2000000 in
set_option maxRecDepth 100000 in
theorem match_out (s e : Int) (a : Option Addr) (n cap : Nat) (w : World) (h : 1048576 < (n : Int) ∨ s < 0 ∨ 1439 < s ∨ e < 0 ∨ 1439 < e) :
    Calls Tryf.prog 3 #[.int .i64 s, .int .i64 e, .slice a n cap] w fun x w' => x = .returned (.bool true) ∧ Below w.heap.size w w' := by
  by_cases hbig : 1048576 < (n : Int)
  · go_enter Tryf.func3, Tryf.ntmps3
    go_wp2_with fail
    refine (bytes5_big s e _ _ _ w (by omega)).mono ?_
    rintro x w ⟨rfl, rfl⟩
    go_wp2
    exact bodyPost_ret (v := .bool true) (by simp [results, Tryf.results3, go_sem]) rfl ⟨rfl, Below.refl _ _⟩
  · by_cases h1 : s < 0
    · have g1 : decide (s < 0) = true := by simpa using h1
      go_enter Tryf.func3, Tryf.ntmps3
      go_wp2_with fail
      refine (bytes5_ok s e _ _ _ w (by omega)).mono ?_
      rintro x w ⟨rfl, rfl⟩
      go_wp2
      exact bodyPost_ret (v := .bool true) (by simp [results, Tryf.results3, go_sem]) rfl ⟨rfl, Below.refl _ _⟩
    · have g1 : decide (s < 0) = false := by simpa using h1
      by_cases h2 : 1439 < s
      · have g2 : decide (1439 < s) = true := by simpa using h2
        go_enter Tryf.func3, Tryf.ntmps3
        go_wp2_with fail
        refine (bytes5_ok s e _ _ _ w (by omega)).mono ?_
        rintro x w ⟨rfl, rfl⟩
        go_wp2
        exact bodyPost_ret (v := .bool true) (by simp [results, Tryf.results3, go_sem]) rfl ⟨rfl, Below.refl _ _⟩
      · have g2 : decide (1439 < s) = false := by simpa using h2
        by_cases h3 : e < 0
        · have g3 : decide (e < 0) = true := by simpa using h3
          go_enter Tryf.func3, Tryf.ntmps3
          go_wp2_with fail
          refine (bytes5_ok s e _ _ _ w (by omega)).mono ?_
          rintro x w ⟨rfl, rfl⟩
          go_wp2
          exact bodyPost_ret (v := .bool true) (by simp [results, Tryf.results3, go_sem]) rfl ⟨rfl, Below.refl _ _⟩
        · have g3 : decide (e < 0) = false := by simpa using h3
          have h4 : 1439 < e := by omega
          go_enter Tryf.func3, Tryf.ntmps3
          go_wp2_with fail
          refine (bytes5_ok s e _ _ _ w (by omega)).mono ?_
          rintro x w ⟨rfl, rfl⟩
          go_wp2
          exact bodyPost_ret (v := .bool true) (by simp [results, Tryf.results3, go_sem]) rfl ⟨rfl, Below.refl _ _⟩

set_option maxHeartbeats 2000000 in
set_option maxRecDepth 100000 in
theorem match_len (F : Interp) (s e : Int) (z : Nat → Int) (w : World) (hF : F.answers w.tape) (h1 : ¬ s < 0) (h2 : ¬ 1439 < s) (h3 : ¬ e < 0) (h4 : ¬ 1439 < e) (a : Option Addr) (n cap : Nat) (hbig : ¬ 1048576 < (n : Int)) (ht : Txt w a n cap z) (hn : n ≠ 11) :
    Calls Tryf.prog 3 #[.int .i64 s, .int .i64 e, .slice a n cap] w fun x w' => x = .returned (.bool true) ∧ Below w.heap.size w w' := by
  have g1 : decide (s < 0) = false := by simpa using h1
  have g2 : decide (1439 < s) = false := by simpa using h2
  have g3 : decide (e < 0) = false := by simpa using h3
  have g4 : decide (1439 < e) = false := by simpa using h4
  have hne : ((n : Int) == 11) = false := by simpa using (by omega : (n : Int) ≠ 11)
  have hne' : decide ((n : Int) = 11) = false := by simpa using (by omega : (n : Int) ≠ 11)
  go_enter Tryf.func3, Tryf.ntmps3
  go_wp2_with fail
  refine (bytes5_ok s e _ _ _ w (by omega)).mono ?_
  rintro x w ⟨rfl, rfl⟩
  go_wp2_with fail
  refine (newC s e w).mono ?_
  rintro x W1 ⟨rfl, hB1, hW1⟩
  have hF1 : F.answers W1.tape := by rw [hB1.tape]; exact hF
  go_wp2_with fail
  refine (unm_len F w.heap.size n cap a z W1 hF1 (ht.below hB1 ht.lt) hn).mono ?_
  rintro x W2 ⟨⟨ae, rfl⟩, hb⟩
  have hW2 : Win W2 w.heap.size s e := (hb.block _ (Array.getElem?_eq_some_iff.1 hW1).1).trans hW1
  have hB2 := hB1.trans (hb.mono hB1.size)
  clear hb hB1 hW1
  go_wp2_with fail
  refine (startC w.heap.size s e W2 hW2).mono ?_
  rintro x W2 ⟨rfl, rfl⟩
  go_wp2_with fail
  refine (endC w.heap.size s e W2 hW2).mono ?_
  rintro x W2 ⟨rfl, rfl⟩
  go_wp2
  exact bodyPost_ret (v := .bool true) (by simp [results, Tryf.results3, go_sem]) rfl ⟨rfl, hB2⟩

set_option maxHeartbeats 2000000 in
set_option maxRecDepth 100000 in
theorem match_dash (F : Interp) (s e : Int) (z : Nat → Int) (w : World) (hF : F.answers w.tape) (h1 : ¬ s < 0) (h2 : ¬ 1439 < s) (h3 : ¬ e < 0) (h4 : ¬ 1439 < e) (b off cap : Nat) (hl : Lies w b off 11 z) (hz : z 5 ≠ 45) :
    Calls Tryf.prog 3 #[.int .i64 s, .int .i64 e, .slice (some ⟨b, off, none⟩) 11 cap] w fun x w' => x = .returned (.bool true) ∧ Below w.heap.size w w' := by
  have g1 : decide (s < 0) = false := by simpa using h1
  have g2 : decide (1439 < s) = false := by simpa using h2
  have g3 : decide (e < 0) = false := by simpa using h3
  have g4 : decide (1439 < e) = false := by simpa using h4
  have hbig : ¬ 1048576 < ((11 : Nat) : Int) := by omega
  have hbw : b < w.heap.size := World.block_lt_of_cell? w _ (hl 0 (by omega))
  have c5 := hl 5 (by omega)
  have hne : (z 5 == 45) = false := by simpa using hz
  go_enter Tryf.func3, Tryf.ntmps3
  go_wp2_with fail
  refine (bytes5_ok s e _ _ _ w (by omega)).mono ?_
  rintro x w ⟨rfl, rfl⟩
  go_wp2_with fail
  refine (newC s e w).mono ?_
  rintro x W1 ⟨rfl, hB1, hW1⟩
  have hF1 : F.answers W1.tape := by rw [hB1.tape]; exact hF
  go_wp2_with fail
  refine (unm_dash F w.heap.size b off cap z W1 hF1 (hl.below hB1 hbw) hz).mono ?_
  rintro x W2 ⟨⟨ae, rfl⟩, hb⟩
  have hW2 : Win W2 w.heap.size s e := (hb.block _ (Array.getElem?_eq_some_iff.1 hW1).1).trans hW1
  have hB2 := hB1.trans (hb.mono hB1.size)
  clear hb hB1 hW1
  go_wp2_with fail
  refine (startC w.heap.size s e W2 hW2).mono ?_
  rintro x W2 ⟨rfl, rfl⟩
  go_wp2_with fail
  refine (endC w.heap.size s e W2 hW2).mono ?_
  rintro x W2 ⟨rfl, rfl⟩
  go_wp2
  exact bodyPost_ret (v := .bool true) (by simp [results, Tryf.results3, go_sem]) rfl ⟨rfl, hB2⟩

set_option maxHeartbeats 2000000 in
set_option maxRecDepth 100000 in
theorem match_first (F : Interp) (s e : Int) (z : Nat → Int) (w : World) (hF : F.answers w.tape) (h1 : ¬ s < 0) (h2 : ¬ 1439 < s) (h3 : ¬ e < 0) (h4 : ¬ 1439 < e) (b off cap : Nat) (hl : Lies w b off 11 z) (hcap : 11 ≤ cap) (hz : z 5 = 45) (o6 : Bool) (k0 : decide (Clk z 0) = false) (k6 : decide (Clk z 6) = o6) :
    Calls Tryf.prog 3 #[.int .i64 s, .int .i64 e, .slice (some ⟨b, off, none⟩) 11 cap] w fun x w' => x = .returned (.bool true) ∧ Below w.heap.size w w' := by
  have g1 : decide (s < 0) = false := by simpa using h1
  have g2 : decide (1439 < s) = false := by simpa using h2
  have g3 : decide (e < 0) = false := by simpa using h3
  have g4 : decide (1439 < e) = false := by simpa using h4
  have hbig : ¬ 1048576 < ((11 : Nat) : Int) := by omega
  have hbw : b < w.heap.size := World.block_lt_of_cell? w _ (hl 0 (by omega))
  have c5 := hl 5 (by omega)
  have hne : (z 5 == 45) = true := by simpa using hz
  go_enter Tryf.func3, Tryf.ntmps3
  go_wp2_with fail
  refine (bytes5_ok s e _ _ _ w (by omega)).mono ?_
  rintro x w ⟨rfl, rfl⟩
  go_wp2_with fail
  refine (searchB b off cap 0 z w _ k0 (by omega) hl).mono ?_
  rintro x w ⟨rfl, rfl⟩
  go_wp2_with fail
  refine (searchB b off cap 6 z w _ k6 (by omega) hl).mono ?_
  rintro x w ⟨rfl, rfl⟩
  go_wp2_with fail
  refine (newC s e w).mono ?_
  rintro x W1 ⟨rfl, hB1, hW1⟩
  have hF1 : F.answers W1.tape := by rw [hB1.tape]; exact hF
  go_wp2_with fail
  refine (unm_first F w.heap.size b off cap z W1 o6 hF1 (hl.below hB1 hbw) hcap hz k0 k6).mono ?_
  rintro x W2 ⟨⟨ae, rfl⟩, hb⟩
  have hW2 : Win W2 w.heap.size s e := (hb.block _ (Array.getElem?_eq_some_iff.1 hW1).1).trans hW1
  have hB2 := hB1.trans (hb.mono hB1.size)
  clear hb hB1 hW1
  go_wp2_with fail
  refine (startC w.heap.size s e W2 hW2).mono ?_
  rintro x W2 ⟨rfl, rfl⟩
  go_wp2_with fail
  refine (endC w.heap.size s e W2 hW2).mono ?_
  rintro x W2 ⟨rfl, rfl⟩
  go_wp2
  exact bodyPost_ret (v := .bool true) (by simp [results, Tryf.results3, go_sem]) rfl ⟨rfl, hB2⟩

set_option maxHeartbeats 2000000 in
set_option maxRecDepth 100000 in
theorem match_second (F : Interp) (s e : Int) (z : Nat → Int) (w : World) (hF : F.answers w.tape) (h1 : ¬ s < 0) (h2 : ¬ 1439 < s) (h3 : ¬ e < 0) (h4 : ¬ 1439 < e) (b off cap : Nat) (hl : Lies w b off 11 z) (hcap : 11 ≤ cap) (hz : z 5 = 45) (k0 : decide (Clk z 0) = true) (k6 : decide (Clk z 6) = false) :
    Calls Tryf.prog 3 #[.int .i64 s, .int .i64 e, .slice (some ⟨b, off, none⟩) 11 cap] w fun x w' => x = .returned (.bool true) ∧ Below w.heap.size w w' := by
  have g1 : decide (s < 0) = false := by simpa using h1
  have g2 : decide (1439 < s) = false := by simpa using h2
  have g3 : decide (e < 0) = false := by simpa using h3
  have g4 : decide (1439 < e) = false := by simpa using h4
  have hbig : ¬ 1048576 < ((11 : Nat) : Int) := by omega
  have hbw : b < w.heap.size := World.block_lt_of_cell? w _ (hl 0 (by omega))
  have c5 := hl 5 (by omega)
  have hne : (z 5 == 45) = true := by simpa using hz
  go_enter Tryf.func3, Tryf.ntmps3
  go_wp2_with fail
  refine (bytes5_ok s e _ _ _ w (by omega)).mono ?_
  rintro x w ⟨rfl, rfl⟩
  go_wp2_with fail
  refine (searchB b off cap 0 z w _ k0 (by omega) hl).mono ?_
  rintro x w ⟨rfl, rfl⟩
  go_wp2_with fail
  refine (searchB b off cap 6 z w _ k6 (by omega) hl).mono ?_
  rintro x w ⟨rfl, rfl⟩
  go_wp2_with fail
  refine (newC s e w).mono ?_
  rintro x W1 ⟨rfl, hB1, hW1⟩
  have hF1 : F.answers W1.tape := by rw [hB1.tape]; exact hF
  go_wp2_with fail
  refine (unm_second F w.heap.size b off cap z W1 hF1 (hl.below hB1 hbw) hcap hz k0 k6).mono ?_
  rintro x W2 ⟨⟨ae, rfl⟩, hb⟩
  have hW2 : Win W2 w.heap.size s e := (hb.block _ (Array.getElem?_eq_some_iff.1 hW1).1).trans hW1
  have hB2 := hB1.trans (hb.mono hB1.size)
  clear hb hB1 hW1
  go_wp2_with fail
  refine (startC w.heap.size s e W2 hW2).mono ?_
  rintro x W2 ⟨rfl, rfl⟩
  go_wp2_with fail
  refine (endC w.heap.size s e W2 hW2).mono ?_
  rintro x W2 ⟨rfl, rfl⟩
  go_wp2
  exact bodyPost_ret (v := .bool true) (by simp [results, Tryf.results3, go_sem]) rfl ⟨rfl, hB2⟩

set_option maxHeartbeats 2000000 in
set_option maxRecDepth 100000 in
theorem match_yes (F : Interp) (s e : Int) (z : Nat → Int) (w : World) (hF : F.answers w.tape) (h1 : ¬ s < 0) (h2 : ¬ 1439 < s) (h3 : ¬ e < 0) (h4 : ¬ 1439 < e) (b off cap : Nat) (hl : Lies w b off 11 z) (hcap : 11 ≤ cap) (hz : z 5 = 45) (k0 : decide (Clk z 0) = true) (k6 : decide (Clk z 6) = true) :
    Calls Tryf.prog 3 #[.int .i64 s, .int .i64 e, .slice (some ⟨b, off, none⟩) 11 cap] w fun x w' => x = .returned (.bool true) ∧ Below w.heap.size w w' := by
  have g1 : decide (s < 0) = false := by simpa using h1
  have g2 : decide (1439 < s) = false := by simpa using h2
  have g3 : decide (e < 0) = false := by simpa using h3
  have g4 : decide (1439 < e) = false := by simpa using h4
  have hbig : ¬ 1048576 < ((11 : Nat) : Int) := by omega
  have hbw : b < w.heap.size := World.block_lt_of_cell? w _ (hl 0 (by omega))
  have c5 := hl 5 (by omega)
  have hne : (z 5 == 45) = true := by simpa using hz
  go_enter Tryf.func3, Tryf.ntmps3
  go_wp2_with fail
  refine (bytes5_ok s e _ _ _ w (by omega)).mono ?_
  rintro x w ⟨rfl, rfl⟩
  go_wp2_with fail
  refine (searchB b off cap 0 z w _ k0 (by omega) hl).mono ?_
  rintro x w ⟨rfl, rfl⟩
  go_wp2_with fail
  refine (searchB b off cap 6 z w _ k6 (by omega) hl).mono ?_
  rintro x w ⟨rfl, rfl⟩
  go_wp2_with fail
  refine (newC s e w).mono ?_
  rintro x W1 ⟨rfl, hB1, hW1⟩
  have hF1 : F.answers W1.tape := by rw [hB1.tape]; exact hF
  go_wp2_with fail
  refine (unm_yes F w.heap.size b off cap z s e W1 hF1 (hl.below hB1 hbw) hcap hz k0 k6 hW1).mono ?_
  rintro x W2 ⟨rfl, hb, hW2⟩
  have hB2 := hB1.trans hb
  clear hb hB1 hW1
  go_wp2_with fail
  refine (startC w.heap.size (cmI z 0) (cmI z 6) W2 hW2).mono ?_
  rintro x W2 ⟨rfl, rfl⟩
  go_wp2_with fail
  refine (endC w.heap.size (cmI z 0) (cmI z 6) W2 hW2).mono ?_
  rintro x W2 ⟨rfl, rfl⟩
  go_wp2
  exact bodyPost_ret (v := .bool true) (by simp [results, Tryf.results3, go_sem]) rfl ⟨rfl, hB2⟩

theorem match_walk (F : Interp) (s e : Int) (z : Nat → Int) (w : World) (hF : F.answers w.tape) (a : Option Addr) (n cap : Nat) (hcap : n ≤ cap) (ht : Txt w a n cap z) :
    Calls Tryf.prog 3 #[.int .i64 s, .int .i64 e, .slice a n cap] w fun x w' => x = .returned (.bool true) ∧ Below w.heap.size w w' := by
  by_cases ho : 1048576 < (n : Int) ∨ s < 0 ∨ 1439 < s ∨ e < 0 ∨ 1439 < e
  · exact match_out s e a n cap w ho
  · have hbig : ¬ 1048576 < (n : Int) := by omega
    have h1 : ¬ s < 0 := by omega
    have h2 : ¬ 1439 < s := by omega
    have h3 : ¬ e < 0 := by omega
    have h4 : ¬ 1439 < e := by omega
    by_cases hn : n = 11
    · subst hn
      obtain ⟨b, off, rfl, hl⟩ := ht.lies (by omega)
      by_cases hz : z 5 = 45
      · cases k0 : decide (Clk z 0) with
        | false => exact match_first F s e z w hF h1 h2 h3 h4 b off cap hl hcap hz _ k0 rfl
        | true =>
          cases k6 : decide (Clk z 6) with
          | false => exact match_second F s e z w hF h1 h2 h3 h4 b off cap hl hcap hz k0 k6
          | true => exact match_yes F s e z w hF h1 h2 h3 h4 b off cap hl hcap hz k0 k6
      · exact match_dash F s e z w hF h1 h2 h3 h4 b off cap hl hz
    · exact match_len F s e z w hF h1 h2 h3 h4 a n cap hbig ht hn
end Go.Proofs.Qxb6631293aFmt
