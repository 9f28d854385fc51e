/-
  zzBytes of the second law. By an AI agent.
-/
import Derived.Test.Qxb6616889aZz
import Derived.WalkKit
import Derived.WalkSpells
namespace Go.Proofs.Qxb6616889a
open Go.RowKit
set_option linter.unusedVariables false
set_option linter.unusedSimpArgs false

set_option maxHeartbeats 16000000 in
set_option maxRecDepth 100000 in
theorem zz20_any (S : Nat → Prop) (w : World) (v1 v2 v3 v4 : Value) (cs : List Cp) (es : List En) (cs2 : List Cp) (es2 : List En) (hv1 : SliceOf S v1 67 (ECp S w) cs) (hv2 : SliceOf S v2 3 (EEn S w) es) (hv3 : SliceOf S v3 67 (ECp S w) cs2) (hv4 : SliceOf S v4 3 (EEn S w) es2) :
    Calls Try.prog 20 #[v1, v2, v3, v4] w (BoolPost w) := by
  have HV1 := hv1; have HV2 := hv2; have HV3 := hv3; have HV4 := hv4
  obtain ⟨ao, c, rfl, _, hc1, hc2, _⟩ := hv1
  obtain ⟨ao2, c2, rfl, _, hd1, hd2, _⟩ := hv2
  obtain ⟨ao3, c3, rfl, _, he1, he2, _⟩ := hv3
  obtain ⟨ao4, c4, rfl, _, hf1, hf2, _⟩ := hv4
  have HV1 : Hid (SliceOf S (.slice ao cs.length c) 67 (ECp S w) cs) := HV1
  have HV2 : Hid (SliceOf S (.slice ao2 es.length c2) 3 (EEn S w) es) := HV2
  have HV3 : Hid (SliceOf S (.slice ao3 cs2.length c3) 67 (ECp S w) cs2) := HV3
  have HV4 : Hid (SliceOf S (.slice ao4 es2.length c4) 3 (EEn S w) es2) := HV4
  go_enter Try.func20, Try.ntmps20
  go_wp2
  any_goals (go_ret; exact bp_any _ _)
  go_loop [9, 10] (fun z i => ∃ (k : Nat) (s : Int), k ≤ cs.length ∧ i = .int .i64 k ∧ 0 ≤ s ∧ s ≤ 1048576 ∧ z = .int .i64 s) (fun _ i => cs.length - (intOf i).toNat)
  case atStart => exact ⟨0, _, Nat.zero_le _, rfl, by omega, by omega, rfl⟩
  case round =>
    obtain ⟨k, s, hk, rfl, hs0, hs1, rfl⟩ := hrel
    by_cases hlt : k < cs.length
    · obtain ⟨b, o, x, rfl, hSb, hy, hcp⟩ := slice_at HV1.out hlt
      obtain ⟨qo, qc, hq, hqm⟩ := cp_quorum hcp
      clear hy hcp
      have hk1 : (k : Int) < (cs.length : Int) := by omega
      go_wp2
      any_goals (go_ret; exact bp_any _ _)
      go_round
      case rel => exact ⟨k + 1, _, by omega, by go_num, by omega, by omega, rfl⟩
      case measure => simp [intOf]; omega
    · obtain rfl : k = cs.length := by omega
      clear hlt HV1
      go_wp2
      any_goals (go_ret; exact bp_any _ _)
      go_loop [9, 11] (fun z i => ∃ (k : Nat) (s : Int), k ≤ es.length ∧ i = .int .i64 k ∧ 0 ≤ s ∧ s ≤ 1048576 ∧ z = .int .i64 s) (fun _ i => es.length - (intOf i).toNat)
      case atStart => exact ⟨0, _, Nat.zero_le _, rfl, by omega, by omega, rfl⟩
      case round =>
        obtain ⟨k, s, hk, rfl, hs0, hs1, rfl⟩ := hrel
        by_cases hlt : k < es.length
        · obtain ⟨b, o, x, rfl, hSb, hy, hcp⟩ := slice_at HV2.out hlt
          obtain ⟨o1, k1, o2, k2, o3, k3, d1, d2, d3, m1, m2, m3⟩ := en_heads hcp
          clear hy hcp
          have hk1 : (k : Int) < (es.length : Int) := by omega
          go_wp2
          any_goals (go_ret; exact bp_any _ _)
          go_loop [9, 12] (fun z i => ∃ (j : Nat) (s : Int), j ≤ x.reqs.length ∧ i = .int .i64 j ∧ 0 ≤ s ∧ s ≤ 1048576 ∧ z = .int .i64 s) (fun _ i => x.reqs.length - (intOf i).toNat)
          case atStart => exact ⟨0, _, Nat.zero_le _, rfl, by omega, by omega, rfl⟩
          case round =>
            obtain ⟨j, s, hj, rfl, hs0, hs1, rfl⟩ := hrel
            by_cases hjl : j < x.reqs.length
            · have hj1 : (j : Int) < (x.reqs.length : Int) := by omega
              go_wp2
              any_goals (go_ret; exact bp_any _ _)
              go_round
              case rel => exact ⟨j + 1, _, by omega, by go_num, by omega, by omega, rfl⟩
              case measure => simp [intOf]; omega
            · obtain rfl : j = x.reqs.length := by omega
              clear hjl
              go_wp2
              any_goals (go_ret; exact bp_any _ _)
              go_loop [9, 13] (fun z i => ∃ (j : Nat) (s : Int), j ≤ x.macs.length ∧ i = .int .i64 j ∧ 0 ≤ s ∧ s ≤ 1048576 ∧ z = .int .i64 s) (fun _ i => x.macs.length - (intOf i).toNat)
              case atStart => exact ⟨0, _, Nat.zero_le _, rfl, by omega, by omega, rfl⟩
              case round =>
                obtain ⟨j, s, hj, rfl, hs0, hs1, rfl⟩ := hrel
                by_cases hjl : j < x.macs.length
                · have hj1 : (j : Int) < (x.macs.length : Int) := by omega
                  go_wp2
                  any_goals (go_ret; exact bp_any _ _)
                  go_round
                  case rel => exact ⟨j + 1, _, by omega, by go_num, by omega, by omega, rfl⟩
                  case measure => simp [intOf]; omega
                · obtain rfl : j = x.macs.length := by omega
                  clear hjl
                  go_wp2
                  go_round
                  case rel => exact ⟨k + 1, _, by omega, by go_num, by omega, by omega, rfl⟩
                  case measure => simp [intOf]; omega
        · obtain rfl : k = es.length := by omega
          clear hlt HV2
          go_wp2
          any_goals (go_ret; exact bp_any _ _)
          go_loop [9, 14] (fun z i => ∃ (k : Nat) (s : Int), k ≤ cs2.length ∧ i = .int .i64 k ∧ 0 ≤ s ∧ s ≤ 1048576 ∧ z = .int .i64 s) (fun _ i => cs2.length - (intOf i).toNat)
          case atStart => exact ⟨0, _, Nat.zero_le _, rfl, by omega, by omega, rfl⟩
          case round =>
            obtain ⟨k, s, hk, rfl, hs0, hs1, rfl⟩ := hrel
            by_cases hlt : k < cs2.length
            · obtain ⟨b, o, x, rfl, hSb, hy, hcp⟩ := slice_at HV3.out hlt
              obtain ⟨qo, qc, hq, hqm⟩ := cp_quorum hcp
              clear hy hcp
              have hk1 : (k : Int) < (cs2.length : Int) := by omega
              go_wp2
              any_goals (go_ret; exact bp_any _ _)
              go_round
              case rel => exact ⟨k + 1, _, by omega, by go_num, by omega, by omega, rfl⟩
              case measure => simp [intOf]; omega
            · obtain rfl : k = cs2.length := by omega
              clear hlt HV3
              go_wp2
              any_goals (go_ret; exact bp_any _ _)
              go_loop [9, 15] (fun z i => ∃ (k : Nat) (s : Int), k ≤ es2.length ∧ i = .int .i64 k ∧ 0 ≤ s ∧ s ≤ 1048576 ∧ z = .int .i64 s) (fun _ i => es2.length - (intOf i).toNat)
              case atStart => exact ⟨0, _, Nat.zero_le _, rfl, by omega, by omega, rfl⟩
              case round =>
                obtain ⟨k, s, hk, rfl, hs0, hs1, rfl⟩ := hrel
                by_cases hlt : k < es2.length
                · obtain ⟨b, o, x, rfl, hSb, hy, hcp⟩ := slice_at HV4.out hlt
                  obtain ⟨o1, k1, o2, k2, o3, k3, d1, d2, d3, m1, m2, m3⟩ := en_heads hcp
                  clear hy hcp
                  have hk1 : (k : Int) < (es2.length : Int) := by omega
                  go_wp2
                  any_goals (go_ret; exact bp_any _ _)
                  go_loop [9, 16] (fun z i => ∃ (j : Nat) (s : Int), j ≤ x.reqs.length ∧ i = .int .i64 j ∧ 0 ≤ s ∧ s ≤ 1048576 ∧ z = .int .i64 s) (fun _ i => x.reqs.length - (intOf i).toNat)
                  case atStart => exact ⟨0, _, Nat.zero_le _, rfl, by omega, by omega, rfl⟩
                  case round =>
                    obtain ⟨j, s, hj, rfl, hs0, hs1, rfl⟩ := hrel
                    by_cases hjl : j < x.reqs.length
                    · have hj1 : (j : Int) < (x.reqs.length : Int) := by omega
                      go_wp2
                      any_goals (go_ret; exact bp_any _ _)
                      go_round
                      case rel => exact ⟨j + 1, _, by omega, by go_num, by omega, by omega, rfl⟩
                      case measure => simp [intOf]; omega
                    · obtain rfl : j = x.reqs.length := by omega
                      clear hjl
                      go_wp2
                      any_goals (go_ret; exact bp_any _ _)
                      go_loop [9, 17] (fun z i => ∃ (j : Nat) (s : Int), j ≤ x.macs.length ∧ i = .int .i64 j ∧ 0 ≤ s ∧ s ≤ 1048576 ∧ z = .int .i64 s) (fun _ i => x.macs.length - (intOf i).toNat)
                      case atStart => exact ⟨0, _, Nat.zero_le _, rfl, by omega, by omega, rfl⟩
                      case round =>
                        obtain ⟨j, s, hj, rfl, hs0, hs1, rfl⟩ := hrel
                        by_cases hjl : j < x.macs.length
                        · have hj1 : (j : Int) < (x.macs.length : Int) := by omega
                          go_wp2
                          any_goals (go_ret; exact bp_any _ _)
                          go_round
                          case rel => exact ⟨j + 1, _, by omega, by go_num, by omega, by omega, rfl⟩
                          case measure => simp [intOf]; omega
                        · obtain rfl : j = x.macs.length := by omega
                          clear hjl
                          go_wp2
                          go_round
                          case rel => exact ⟨k + 1, _, by omega, by go_num, by omega, by omega, rfl⟩
                          case measure => simp [intOf]; omega
                · obtain rfl : k = es2.length := by omega
                  clear hlt HV4
                  go_wp2
                  go_ret
                  exact bp_any _ _
end Go.Proofs.Qxb6616889a
