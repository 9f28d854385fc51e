/-
  addLogBytes. By an AI agent.
-/
import Derived.Test.Qxb6616889aMem
import Derived.WalkKit
import Derived.WalkSpells
namespace Go.Proofs.Qxb6616889a
open Go.RowKit
set_option linter.unusedVariables false
set_option linter.unusedSimpArgs false

def costC (c : Cp) : Nat := 104 + 8 * c.q.length
def costE (e : En) : Nat := 72 + 32 * e.reqs.length + 8 * e.q.length + 32 * e.macs.length
def sumC (cs : List Cp) : Nat := (cs.map costC).sum
def sumE (es : List En) : Nat := (es.map costE).sum
theorem take_snoc' {α : Type} {l : List α} {k : Nat} {x : α} (h : l[k]? = some x) : l.take (k + 1) = l.take k ++ [x] := by
  obtain ⟨hk, rfl⟩ := List.getElem?_eq_some_iff.1 h
  exact List.take_succ_eq_append_getElem hk
theorem sumC_succ {cs : List Cp} {k : Nat} {c : Cp} (h : cs[k]? = some c) : sumC (cs.take (k + 1)) = sumC (cs.take k) + costC c := by
  rw [take_snoc' h]; simp [sumC]
theorem sumE_succ {es : List En} {k : Nat} {e : En} (h : es[k]? = some e) : sumE (es.take (k + 1)) = sumE (es.take k) + costE e := by
  rw [take_snoc' h]; simp [sumE]

theorem slice_at {α : Type} {S : Nat → Prop} {n c k size : Nat} {ao : Option Addr} {E : Nat → Nat → α → Prop} {xs : List α} (h : SliceOf S (.slice ao n c) size E xs) (hk : k < xs.length) : ∃ b o x, ao = some ⟨b, o, none⟩ ∧ S b ∧ xs[k]? = some x ∧ E b (o + k * size) x := by
  obtain ⟨ao', c', hv, _, _, _, h4⟩ := h
  obtain ⟨b, o, e1, e2, e3⟩ := h4 (by omega)
  cases hv
  exact ⟨b, o, xs[k], e1, e2, List.getElem?_eq_getElem hk, e3 k _ (List.getElem?_eq_getElem hk)⟩
/-- The quorum's header of a checkpoint; its length. -/
theorem cp_quorum {S : Nat → Prop} {w : World} {b o : Nat} {c : Cp} (h : ECp S w b o c) : ∃ qo qc, w.cell? ⟨b, o + 66, none⟩ = some (.slice qo c.q.length qc) ∧ c.q.length ≤ 9223372036854775807 := by
  obtain ⟨hk, qv, hr, hq⟩ := h
  obtain ⟨_, _, _, _, c5⟩ := cp_cells hk hr
  obtain ⟨qo, qc, rfl, _, h1, h2, _⟩ := hq
  exact ⟨qo, qc, c5, by omega⟩
theorem en_heads {S : Nat → Prop} {w : World} {b o : Nat} {e : En} (h : EEn S w b o e) : ∃ o1 c1 o2 c2 o3 c3, w.cell? ⟨b, o, none⟩ = some (.slice o1 e.reqs.length c1) ∧ w.cell? ⟨b, o + 1, none⟩ = some (.slice o2 e.q.length c2) ∧ w.cell? ⟨b, o + 2, none⟩ = some (.slice o3 e.macs.length c3) ∧
    e.reqs.length ≤ 9223372036854775807 ∧ e.q.length ≤ 9223372036854775807 ∧ e.macs.length ≤ 9223372036854775807 := by
  obtain ⟨v1, v2, v3, hr, h1, h2, h3⟩ := h
  have c1 := hr 0 v1 rfl; have c2 := hr 1 v2 rfl; have c3 := hr 2 v3 rfl
  obtain ⟨o1, k1, rfl, _, a1, b1, _⟩ := h1
  obtain ⟨o2, k2, rfl, _, a2, b2, _⟩ := h2
  obtain ⟨o3, k3, rfl, _, a3, b3, _⟩ := h3
  exact ⟨o1, k1, o2, k2, o3, k3, c1, c2, c3, by omega, by omega, by omega⟩

/-- What addLogBytes says. -/
def AddPost (w : World) (t : Int) (cs : List Cp) (es : List En) (e : Ending) (w' : World) : Prop :=
  ∃ t' ok, e = .returned (.tuple #[.int .i64 t', .bool ok]) ∧ w' = w ∧ (ok = true → t' = t + (sumC cs + sumE es : Nat) ∧ t' ≤ 1048576 ∧ cs.length ≤ 1048576 ∧ es.length ≤ 1048576)
theorem add_no (w : World) (t : Int) (cs : List Cp) (es : List En) (t' : Int) : AddPost w t cs es (.returned (.tuple #[.int .i64 t', .bool false])) w := ⟨t', false, rfl, rfl, fun h => by cases h⟩
theorem add_yes (w : World) (t : Int) (cs : List Cp) (es : List En) (t' : Int) (h : t' = t + (sumC cs + sumE es : Nat) ∧ t' ≤ 1048576 ∧ cs.length ≤ 1048576 ∧ es.length ≤ 1048576) : AddPost w t cs es (.returned (.tuple #[.int .i64 t', .bool true])) w := ⟨t', true, rfl, rfl, fun _ => h⟩

set_option maxHeartbeats 4000000 in
theorem add_any (S : Nat → Prop) (w : World) (t : Int) (v1 v2 : Value) (cs : List Cp) (es : List En) (ht : 0 ≤ t) (hv1 : SliceOf S v1 67 (ECp S w) cs) (hv2 : SliceOf S v2 3 (EEn S w) es) :
    Calls Try.prog 16 #[.int .i64 t, v1, v2] w (AddPost w t cs es) := by
  have HV1 := hv1; have HV2 := hv2
  obtain ⟨ao, c, rfl, _, hc1, hc2, _⟩ := hv1
  obtain ⟨ao2, c2, rfl, _, hd1, hd2, _⟩ := hv2
  have HV1 : Hid (SliceOf S (.slice ao cs.length c) 67 (ECp S w) cs) := HV1
  have HV2 : Hid (SliceOf S (.slice ao2 es.length c2) 3 (EEn S w) es) := HV2
  by_cases g1 : 1048576 < t
  · clear HV1 HV2
    go_enter Try.func16, Try.ntmps16
    go_wp2
    go_ret2
    exact add_no _ _ _ _ _
  by_cases g2 : 1048576 < cs.length
  · have g2' : (1048576 : Int) < (cs.length : Int) := by omega
    clear HV1 HV2
    go_enter Try.func16, Try.ntmps16
    go_wp2
    go_ret2
    exact add_no _ _ _ _ _
  by_cases g3 : 1048576 < es.length
  · have g3' : (1048576 : Int) < (es.length : Int) := by omega
    have g2' : ¬ (1048576 : Int) < (cs.length : Int) := by omega
    clear HV1 HV2
    go_enter Try.func16, Try.ntmps16
    go_wp2
    go_ret2
    exact add_no _ _ _ _ _
  have g2' : ¬ (1048576 : Int) < (cs.length : Int) := by omega
  have g3' : ¬ (1048576 : Int) < (es.length : Int) := by omega
  go_enter Try.func16, Try.ntmps16
  go_wp2
  go_loop [0, 8] (fun s i => ∃ k : Nat, k ≤ cs.length ∧ i = .int .i64 k ∧ t + (sumC (cs.take k) : Nat) ≤ 1048576 ∧ s = .int .i64 (t + (sumC (cs.take k) : Nat))) (fun _ i => cs.length - (intOf i).toNat)
  case atStart => exact ⟨0, Nat.zero_le _, rfl, by simp [sumC]; omega, by simp [sumC]⟩
  case round =>
    obtain ⟨k, hk, rfl, hle, rfl⟩ := hrel
    by_cases hlt : k < cs.length
    · obtain ⟨b, o, x, rfl, hSb, hy, hcp⟩ := slice_at HV1.out hlt
      obtain ⟨qo, qc, hq, hqm⟩ := cp_quorum hcp
      have HSu : Hid (sumC (cs.take (k + 1)) = sumC (cs.take k) + costC x) := sumC_succ hy
      generalize hs : sumC (cs.take k) = s at *
      have HS0 : Hid (sumC (cs.take k) = s) := hs
      clear hs hy hcp
      have hk1 : (k : Int) < (cs.length : Int) := by omega
      by_cases q1 : 1048576 < x.q.length
      · have q1' : (1048576 : Int) < (x.q.length : Int) := by omega
        go_wp2
        go_ret2
        exact add_no _ _ _ _ _
      have q1' : ¬ (1048576 : Int) < (x.q.length : Int) := by omega
      by_cases q2 : 1048576 < t + ((s : Int) + (104 + 8 * (x.q.length : Int)))
      · have q2' : 1048576 < t + (s : Int) + (104 + 8 * (x.q.length : Int)) := by omega
        go_wp2
        go_ret2
        exact add_no _ _ _ _ _
      · have q2' : ¬ 1048576 < t + (s : Int) + (104 + 8 * (x.q.length : Int)) := by omega
        go_wp2
        go_round
        case rel => exact ⟨k + 1, by omega, by go_num, by rw [HSu.out]; unfold costC; omega, by rw [HSu.out]; unfold costC; congr 1; omega⟩
        case measure => simp [intOf]; omega
    · obtain rfl : k = cs.length := by omega
      rw [List.take_length] at hle ⊢
      clear HV1
      have HC0 : ∃ s, s = sumC cs := ⟨_, rfl⟩
      obtain ⟨s, hs⟩ := HC0
      have HS : Hid (s = sumC cs) := hs
      rw [← hs] at hle ⊢
      clear hs
      go_wp2
      go_loop [0, 10] (fun q i => ∃ k : Nat, k ≤ es.length ∧ i = .int .i64 k ∧ t + (s : Nat) + (sumE (es.take k) : Nat) ≤ 1048576 ∧ q = .int .i64 (t + (s : Nat) + (sumE (es.take k) : Nat))) (fun _ i => es.length - (intOf i).toNat)
      case atStart => exact ⟨0, Nat.zero_le _, rfl, by simp [sumE]; omega, by simp [sumE]⟩
      case round =>
        obtain ⟨k, hk, rfl, hle2, rfl⟩ := hrel
        by_cases hlt : k < es.length
        · obtain ⟨b, o, x, rfl, hSb, hy, hcp⟩ := slice_at HV2.out hlt
          obtain ⟨o1, k1, o2, k2, o3, k3, d1, d2, d3, m1, m2, m3⟩ := en_heads hcp
          have HSu : Hid (sumE (es.take (k + 1)) = sumE (es.take k) + costE x) := sumE_succ hy
          generalize hs2 : sumE (es.take k) = s2 at *
          clear hs2 hy hcp
          have hk1 : (k : Int) < (es.length : Int) := by omega
          by_cases q1 : (1048576 : Int) < (x.reqs.length : Int)
          · go_wp2
            go_ret2
            exact add_no _ _ _ _ _
          by_cases q2 : (1048576 : Int) < (x.q.length : Int)
          · go_wp2
            go_ret2
            exact add_no _ _ _ _ _
          by_cases q3 : (1048576 : Int) < (x.macs.length : Int)
          · go_wp2
            go_ret2
            exact add_no _ _ _ _ _
          by_cases q4 : 1048576 < t + (s : Int) + (s2 : Int) + (72 + 32 * (x.reqs.length : Int) + 8 * (x.q.length : Int) + 32 * (x.macs.length : Int))
          · go_wp2
            go_ret2
            exact add_no _ _ _ _ _
          · go_wp2
            go_round
            case rel => exact ⟨k + 1, by omega, by go_num, by rw [HSu.out]; unfold costE; omega, by rw [HSu.out]; unfold costE; congr 1; omega⟩
            case measure => simp [intOf]; omega
        · obtain rfl : k = es.length := by omega
          rw [List.take_length] at hle2 ⊢
          obtain ⟨s2, hs2⟩ : ∃ s2, s2 = sumE es := ⟨_, rfl⟩
          have HF : Hid (t + (s : Nat) + (s2 : Nat) = t + (sumC cs + sumE es : Nat)) := by show _ = _; rw [← HS.out, ← hs2]; omega
          rw [← hs2] at hle2 ⊢
          clear HV2 hs2
          go_wp2
          go_ret2
          exact add_yes _ _ _ _ _ ⟨HF.out, by omega, by omega, by omega⟩
end Go.Proofs.Qxb6616889a
