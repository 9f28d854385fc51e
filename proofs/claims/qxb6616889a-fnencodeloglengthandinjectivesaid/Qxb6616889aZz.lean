/-
  zzBytes of the first law. By an AI agent.
-/
import Derived.Test.Qxb6616889aAdd
import Derived.WalkKit
import Derived.WalkSpells
namespace Go.Proofs.Qxb6616889a
open Go.RowKit
set_option linter.unusedVariables false
set_option linter.unusedSimpArgs false

/-- It answers one bool and leaves the world. -/
def BoolPost (w : World) (e : Ending) (w' : World) : Prop := ∃ b, e = .returned (.bool b) ∧ w' = w
theorem bp_any (w : World) (b : Bool) : BoolPost w (.returned (.bool b)) w := ⟨b, rfl, rfl⟩

set_option maxHeartbeats 8000000 in
set_option maxRecDepth 100000 in
theorem zz15_any (S S0 : Nat → Prop) (w : World) (v0 v1 v2 : Value) (i j : Int) (ps : List Int) (cs : List Cp) (es : List En) (hv0 : SliceOf S0 v0 1 (EByte w) ps) (hv1 : SliceOf S v1 67 (ECp S w) cs) (hv2 : SliceOf S v2 3 (EEn S w) es) :
    Calls Try.prog 15 #[v0, v1, v2, .int .i64 i, .int .i64 j] w (BoolPost w) := by
  have HV1 := hv1; have HV2 := hv2
  obtain ⟨ap, pc, rfl, _, hp1, hp2, _⟩ := hv0
  obtain ⟨ao, c, rfl, _, hc1, hc2, _⟩ := hv1
  obtain ⟨ao2, c2, rfl, _, hd1, hd2, _⟩ := hv2
  have HV1 : Hid (SliceOf S (.slice ao cs.length c) 67 (ECp S w) cs) := HV1
  have HV2 : Hid (SliceOf S (.slice ao2 es.length c2) 3 (EEn S w) es) := HV2
  go_enter Try.func15, Try.ntmps15
  go_wp2
  any_goals (go_ret; exact bp_any _ _)
  go_loop [11, 12] (fun z i => ∃ (k : Nat) (s : Int), k ≤ cs.length ∧ i = .int .i64 k ∧ 0 ≤ s ∧ s ≤ 1048576 ∧ z = .int .i64 s) (fun _ i => cs.length - (intOf i).toNat)
  case atStart => exact ⟨0, _, Nat.zero_le _, rfl, by omega, by omega, rfl⟩
  case round =>
    obtain ⟨k, s, hk, rfl, hs0, hs1, rfl⟩ := hrel
    by_cases hlt : k < cs.length
    · obtain ⟨b, o, x, rfl, hSb, hy, hcp⟩ := slice_at HV1.out hlt
      obtain ⟨qo, qc, hq, hqm⟩ := cp_quorum hcp
      clear hy hcp
      have hk1 : (k : Int) < (cs.length : Int) := by omega
      go_wp2
      any_goals (go_ret; exact bp_any _ _)
      go_round
      case rel => exact ⟨k + 1, _, by omega, by go_num, by omega, by omega, rfl⟩
      case measure => simp [intOf]; omega
    · obtain rfl : k = cs.length := by omega
      clear hlt HV1
      go_wp2
      any_goals (go_ret; exact bp_any _ _)
      go_loop [11, 13] (fun z i => ∃ (k : Nat) (s : Int), k ≤ es.length ∧ i = .int .i64 k ∧ 0 ≤ s ∧ s ≤ 1048576 ∧ z = .int .i64 s) (fun _ i => es.length - (intOf i).toNat)
      case atStart => exact ⟨0, _, Nat.zero_le _, rfl, by omega, by omega, rfl⟩
      case round =>
        obtain ⟨k, s, hk, rfl, hs0, hs1, rfl⟩ := hrel
        by_cases hlt : k < es.length
        · obtain ⟨b, o, x, rfl, hSb, hy, hcp⟩ := slice_at HV2.out hlt
          obtain ⟨o1, k1, o2, k2, o3, k3, d1, d2, d3, m1, m2, m3⟩ := en_heads hcp
          clear hy hcp
          have hk1 : (k : Int) < (es.length : Int) := by omega
          go_wp2
          any_goals (go_ret; exact bp_any _ _)
          go_loop [11, 14] (fun z i => ∃ (j : Nat) (s : Int), j ≤ x.reqs.length ∧ i = .int .i64 j ∧ 0 ≤ s ∧ s ≤ 1048576 ∧ z = .int .i64 s) (fun _ i => x.reqs.length - (intOf i).toNat)
          case atStart => exact ⟨0, _, Nat.zero_le _, rfl, by omega, by omega, rfl⟩
          case round =>
            obtain ⟨j, s, hj, rfl, hs0, hs1, rfl⟩ := hrel
            by_cases hjl : j < x.reqs.length
            · have hj1 : (j : Int) < (x.reqs.length : Int) := by omega
              go_wp2
              any_goals (go_ret; exact bp_any _ _)
              go_round
              case rel => exact ⟨j + 1, _, by omega, by go_num, by omega, by omega, rfl⟩
              case measure => simp [intOf]; omega
            · obtain rfl : j = x.reqs.length := by omega
              clear hjl
              go_wp2
              any_goals (go_ret; exact bp_any _ _)
              go_loop [11, 15] (fun z i => ∃ (j : Nat) (s : Int), j ≤ x.macs.length ∧ i = .int .i64 j ∧ 0 ≤ s ∧ s ≤ 1048576 ∧ z = .int .i64 s) (fun _ i => x.macs.length - (intOf i).toNat)
              case atStart => exact ⟨0, _, Nat.zero_le _, rfl, by omega, by omega, rfl⟩
              case round =>
                obtain ⟨j, s, hj, rfl, hs0, hs1, rfl⟩ := hrel
                by_cases hjl : j < x.macs.length
                · have hj1 : (j : Int) < (x.macs.length : Int) := by omega
                  go_wp2
                  any_goals (go_ret; exact bp_any _ _)
                  go_round
                  case rel => exact ⟨j + 1, _, by omega, by go_num, by omega, by omega, rfl⟩
                  case measure => simp [intOf]; omega
                · obtain rfl : j = x.macs.length := by omega
                  clear hjl
                  go_wp2
                  go_round
                  case rel => exact ⟨k + 1, _, by omega, by go_num, by omega, by omega, rfl⟩
                  case measure => simp [intOf]; omega
        · obtain rfl : k = es.length := by omega
          clear hlt HV2
          go_wp2
          go_ret
          exact bp_any _ _
end Go.Proofs.Qxb6616889a
