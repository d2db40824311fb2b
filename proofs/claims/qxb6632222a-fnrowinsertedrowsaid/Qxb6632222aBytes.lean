/-
  The length guards: each answers some bool and touches nothing.
-/
import Derived.Test.Qxb6632222aKit
namespace Go.Proofs.Qxb6632222a
open Go.RowKit
set_option linter.unusedSimpArgs false

set_option maxHeartbeats 8000000 in
set_option maxRecDepth 100000 in
theorem bytes5 (ti te al st na : ByteArray) (ah ar aq : Option Addr) (nh caph bh offh nr capr br offr nq capq bq offq : Nat) (sh sq : Nat → ByteArray) (r : Nat → Sl) (kk : Int) (w : World)
    (hh : (∀ j, j < nh → ah = some ⟨bh, offh, none⟩) ∧ ∀ j, j < nh → w.cell? ⟨bh, offh + j, none⟩ = some (.string (sh j)))
    (hr : (∀ j, j < nr → ar = some ⟨br, offr, none⟩) ∧ (∀ j, j < nr → w.cell? ⟨br, offr + j, none⟩ = some (r j).v) ∧ ∀ j, j < nr → (r j).Lies w)
    (hq : (∀ j, j < nq → aq = some ⟨bq, offq, none⟩) ∧ ∀ j, j < nq → w.cell? ⟨bq, offq + j, none⟩ = some (.string (sq j))) (mh : nh ≤ maxLen) (mr : nr ≤ maxLen) (mq : nq ≤ maxLen) :
    Calls Try.prog 5 #[.string ti, .slice ah nh caph, .slice ar nr capr, .string te, .string al, .string st, .slice aq nq capq, .string na, .int .i64 kk] w fun e w' => AnsB e ∧ w' = w := by
  unfold maxLen at mh mr mq
  go_enter Try.func5, Try.ntmps5
  go_wp2
  all_goals try (go_ret; exact ⟨AnsB.mk _, rfl⟩)
  go_loop [19, 20] (fun m i => ∃ k : Nat, k ≤ nh ∧ i = .int .i64 k ∧ ∃ z : Int, m = .int .i64 z) (fun _ i => nh - (intOf i).toNat)
  case atStart => exact ⟨0, Nat.zero_le _, rfl, _, rfl⟩
  case round =>
    obtain ⟨k, hk, rfl, z, rfl⟩ := hrel
    by_cases hlt : k < nh
    · obtain rfl := hh.1 k hlt
      have hc := hh.2 k hlt
      have l0 : (0 : Int) ≤ (k : Int) := by omega
      have l1 : (k : Int) < (nh : Int) := by omega
      go_wp2
      all_goals first
        | (go_ret; exact ⟨AnsB.mk _, rfl⟩)
        | (go_round
           case rel => exact ⟨k + 1, by omega, by go_num, _, rfl⟩
           case measure => simp [intOf]; omega)
    · have l1 : ¬ (k : Int) < (nh : Int) := by omega
      go_wp2
      all_goals try (go_ret; exact ⟨AnsB.mk _, rfl⟩)
      go_loop [19, 21] (fun m i => ∃ k : Nat, k ≤ nr ∧ i = .int .i64 k ∧ ∃ z : Int, m = .int .i64 z) (fun _ i => nr - (intOf i).toNat)
      case atStart => exact ⟨0, Nat.zero_le _, rfl, _, rfl⟩
      case round =>
        obtain ⟨k, hk, rfl, z, rfl⟩ := hrel
        by_cases hlt : k < nr
        · obtain rfl := hr.1 k hlt
          have hcr : w.cell? ⟨br, offr + k, none⟩ = some (.slice (r k).a (r k).n (r k).cap) := hr.2.1 k hlt
          have hrow := hr.2.2 k hlt
          obtain ⟨hhr, hcc, hm⟩ := hrow
          clear hr
          generalize (r k).a = ra at *
          generalize (r k).n = rn at *
          generalize (r k).cap = rcap at *
          generalize (r k).b = rb at *
          generalize (r k).off = ro at *
          generalize (r k).s = rs at *
          unfold maxLen at hm
          have l0 : (0 : Int) ≤ (k : Int) := by omega
          have l1 : (k : Int) < (nr : Int) := by omega
          go_wp2
          all_goals try (go_ret; exact ⟨AnsB.mk _, rfl⟩)
          go_loop [19, 22] (fun m i => ∃ j : Nat, j ≤ rn ∧ i = .int .i64 j ∧ ∃ z : Int, m = .int .i64 z) (fun _ i => rn - (intOf i).toNat)
          case atStart => exact ⟨0, Nat.zero_le _, rfl, _, rfl⟩
          case round =>
            obtain ⟨j, hj, rfl, z', rfl⟩ := hrel
            by_cases hlt' : j < rn
            · obtain rfl := hhr j hlt'
              have hc := hcc j hlt'
              have l2 : (0 : Int) ≤ (j : Int) := by omega
              have l3 : (j : Int) < (rn : Int) := by omega
              go_wp2
              all_goals first
                | (go_ret; exact ⟨AnsB.mk _, rfl⟩)
                | (go_round
                   case rel => exact ⟨j + 1, by omega, by go_num, _, rfl⟩
                   case measure => simp [intOf]; omega)
            · have l3 : ¬ (j : Int) < (rn : Int) := by omega
              go_wp2
              go_round
              case rel => exact ⟨k + 1, by omega, by go_num, _, rfl⟩
              case measure => simp [intOf]; omega
        · have l1 : ¬ (k : Int) < (nr : Int) := by omega
          go_wp2
          all_goals try (go_ret; exact ⟨AnsB.mk _, rfl⟩)
          go_loop [19, 23] (fun m i => ∃ k : Nat, k ≤ nq ∧ i = .int .i64 k ∧ ∃ z : Int, m = .int .i64 z) (fun _ i => nq - (intOf i).toNat)
          case atStart => exact ⟨0, Nat.zero_le _, rfl, _, rfl⟩
          case round =>
            obtain ⟨k, hk, rfl, z, rfl⟩ := hrel
            by_cases hlt : k < nq
            · obtain rfl := hq.1 k hlt
              have hc := hq.2 k hlt
              have l0 : (0 : Int) ≤ (k : Int) := by omega
              have l1 : (k : Int) < (nq : Int) := by omega
              go_wp2
              all_goals first
                | (go_ret; exact ⟨AnsB.mk _, rfl⟩)
                | (go_round
                   case rel => exact ⟨k + 1, by omega, by go_num, _, rfl⟩
                   case measure => simp [intOf]; omega)
            · have l1 : ¬ (k : Int) < (nq : Int) := by omega
              go_wp2
              all_goals (go_ret; exact ⟨AnsB.mk _, rfl⟩)
end Go.Proofs.Qxb6632222a
