/-
  encodedLogLen. By an AI agent.
-/
import Derived.Test.Qxb6616889aHas
import Derived.WalkKit
import Derived.WalkSpells
import Derived.WalkSmall
import Derived.Deep.QuietTactic
import Derived.BigQuiet
namespace Go.Proofs.Qxb6616889a
open Go.RowKit
set_option linter.unusedVariables false
set_option linter.unusedSimpArgs false

theorem ret_int {k : IntKind} {a b : Int} (h : a = b) : Ending.returned (.int k a) = .returned (.int k b) := by rw [h]

set_option maxHeartbeats 4000000 in
set_option maxRecDepth 100000 in
theorem len_any (w : World) (v1 v2 : Value) (cs : List Cp) (es : List En) (hv1 : HasC w v1 cs) (hv2 : HasE w v2 es) (hs : Small cs es) :
    Calls Try.prog 21 #[v1, v2] w fun e w' => e = .returned (.int .i64 ((encLog cs es).length : Nat)) ∧ Below w.heap.size w w' := by
  have o1 := cps_ok hv1
  have o2 := ens_ok hv2
  have t1 := encCps_le o1
  have t2 := encEns_le o2
  have t3 := sumC_len cs
  have t4 := sumE_len es
  have t5 := encLog_length cs es
  unfold Small at hs
  have HV1 : Hid (HasC w v1 cs) := hv1
  have HV2 : Hid (HasE w v2 es) := hv2
  have HO1 : Hid (∀ c ∈ cs, c.ok) := o1
  have HO2 : Hid (∀ e ∈ es, e.ok) := o2
  have HL : Hid ((encLog cs es).length = 8 + (encCps cs).length + (encEns es).length) := t5
  obtain ⟨LC, hLC⟩ : ∃ n, n = (encCps cs).length := ⟨_, rfl⟩
  obtain ⟨LE, hLE⟩ : ∃ n, n = (encEns es).length := ⟨_, rfl⟩
  have HLC : Hid (LC = (encCps cs).length) := hLC
  have HLE : Hid (LE = (encEns es).length) := hLE
  have b1 : LC ≤ 1048576 := by omega
  have b2 : LE ≤ 1048576 := by omega
  have b3 : cs.length ≤ 1048576 := by omega
  have b4 : es.length ≤ 1048576 := by omega
  clear o1 o2 t1 t2 t3 t4 t5 hs hLC hLE
  obtain ⟨ao, c, rfl, _, hc1, hc2, _⟩ := hv1
  obtain ⟨ao2, c2, rfl, _, hd1, hd2, _⟩ := hv2
  go_enter Try.func21, Try.ntmps21
  go_wp2
  go_loop [5, 6] (fun n i => ∃ k : Nat, k ≤ cs.length ∧ i = .int .i64 k ∧ n = .int .i64 (8 + ((encCps (cs.take k)).length : Nat))) (fun _ i => cs.length - (intOf i).toNat)
  case atStart => exact ⟨0, Nat.zero_le _, rfl, by simp [encCps]⟩
  case round =>
    obtain ⟨k, hk, rfl, rfl⟩ := hrel
    have hle := encCps_take_le cs k
    rw [← HLC.out] at hle
    by_cases hlt : k < cs.length
    · obtain ⟨b, o, x, rfl, hSb, hy, hcp⟩ := slice_at HV1.out hlt
      obtain ⟨qo, qc, hq, hqm⟩ := cp_quorum hcp
      have hx := encCp_length x (HO1.out x (List.mem_of_getElem? hy))
      have hle2 := encCps_take_le cs (k + 1)
      rw [← HLC.out, encCps_succ hy, List.length_append] at hle2
      have HN : Hid ((encCps (cs.take (k + 1))).length = (encCps (cs.take k)).length + (84 + 4 * x.q.length)) := by show _ = _; rw [encCps_succ hy, List.length_append, hx]
      generalize (encCps (cs.take k)).length = s at *
      have hqs : s + (84 + 4 * x.q.length) ≤ 1048576 := by omega
      have hk1 : (k : Int) < (cs.length : Int) := by omega
      clear hy hcp hx hle2
      go_wp2
      go_round
      case rel => exact ⟨k + 1, by omega, by go_num, by rw [HN.out]; congr 1; omega⟩
      case measure => simp [intOf]; omega
    · obtain rfl : k = cs.length := by omega
      rw [List.take_length, ← HLC.out]
      clear HV1 hle
      go_wp2
      go_loopw [5, 7] (fun n i wr => ∃ k : Nat, k ≤ es.length ∧ i = .int .i64 k ∧ n = .int .i64 (8 + (LC : Int) + ((encEns (es.take k)).length : Nat)) ∧ Below w.heap.size w wr) (fun _ i _ => es.length - (intOf i).toNat)
      case atStart => exact ⟨0, Nat.zero_le _, rfl, by simp [encEns], Below.refl _ _⟩
      case round =>
        obtain ⟨k, hk, rfl, rfl, hbel⟩ := hrel
        have hle := encEns_take_le es k
        rw [← HLE.out] at hle
        by_cases hlt : k < es.length
        · obtain ⟨b, o, x, rfl, hSb, hy, hcp⟩ := slice_at (HV2.out.keep hbel) hlt
          obtain ⟨o1, k1, o2, k2, o3, k3, d1, d2, d3, m1, m2, m3⟩ := en_heads hcp
          have hx := encEn_length x (HO2.out x (List.mem_of_getElem? hy))
          have hle2 := encEns_take_le es (k + 1)
          rw [← HLE.out, encEns_succ hy, List.length_append] at hle2
          have HN : Hid ((encEns (es.take (k + 1))).length = (encEns (es.take k)).length + (12 + 32 * x.reqs.length + 4 * x.q.length + 32 * x.macs.length)) := by show _ = _; rw [encEns_succ hy, List.length_append, hx]
          generalize (encEns (es.take k)).length = s at *
          have hqs : s + (12 + 32 * x.reqs.length + 4 * x.q.length + 32 * x.macs.length) ≤ 1048576 := by omega
          have hk0 : (0 : Int) ≤ (k : Int) := by omega
          have hk1 : (k : Int) < (es.length : Int) := by omega
          have q1 : (x.reqs.length : Int) ≤ 1048576 := by omega
          have q2 : (x.q.length : Int) ≤ 1048576 := by omega
          have q3 : (x.macs.length : Int) ≤ 1048576 := by omega
          have q4 : (s : Int) ≤ 1048576 := by omega
          have q5 : (LC : Int) ≤ 1048576 := by omega
          clear hy hcp hx hle2
          go_wp2_with fail
          go_quiet (fail)
          go_wp2
          go_roundw
          case rel => exact ⟨k + 1, by omega, by go_num, by rw [HN.out]; go_num, below_drewN hbel _⟩
          case measure => simp [intOf]; omega
        · obtain rfl : k = es.length := by omega
          rw [List.take_length, ← HLE.out]
          have HF : Hid (8 + (LC : Int) + (LE : Int) = ((encLog cs es).length : Nat)) := by show _ = _; rw [HL.out, ← HLC.out, ← HLE.out]; omega
          clear HV2 hle
          go_wp2
          go_ret
          exact ⟨ret_int HF.out, hbel⟩
end Go.Proofs.Qxb6616889a
