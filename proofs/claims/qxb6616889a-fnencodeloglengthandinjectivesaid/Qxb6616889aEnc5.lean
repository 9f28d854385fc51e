/-
  encodeCheckpointSummary, encodeEntry. By an AI agent.
-/
import Derived.Test.Qxb6616889aEnc4
import Derived.WalkKit
import Derived.OwnWalk
namespace Go.Proofs.Qxb6616889a
open Go.RowKit
set_option linter.unusedVariables false
set_option linter.unusedSimpArgs false

set_option maxHeartbeats 4000000 in
theorem encCp_any (S : Nat → Prop) (B x : Nat) (w : World) (bs : List Int) (b o : Nat) (c : Cp) (hE : EncAt B x w bs) (hb : S b) (hcp : ECp S w b o c) (hS : ∀ b, S b → b < B ∧ b ≠ x) (hlim : bs.length + 84 + 4 * c.q.length ≤ 1073741824) :
    Calls Try.prog 32 #[.pointer (some ⟨B, 0, none⟩), .pointer (some ⟨b, o, none⟩)] w fun e w' => e = .returned (.tuple #[]) ∧ EncAt B x w' (bs ++ encCp c) ∧ Near B x w w' := by
  obtain ⟨hk, qv, hr, hq⟩ := hcp
  have HK : Hid c.ok := hk
  have HR : Hid (w.rangeAt b o (cpCells c qv)) := hr
  have HQ : Hid (SliceOf S qv 1 (EInt w) c.q) := hq
  have HS : Hid (∀ b, S b → b < B ∧ b ≠ x) := hS
  obtain ⟨⟨hd1, _⟩, ⟨hd2, _⟩, s1, s2, s3, s4⟩ := hk
  obtain ⟨c1, _, _, _, _⟩ := cp_cells HK hr
  clear hr hq hS
  have HD1 : Hid (c.dig.length = 32) := hd1
  have HD2 : Hid (c.hist.length = 32) := hd2
  have l1 : (bs ++ be8 c.seq).length ≤ 1073741824 := by simp only [List.length_append, be8_length]; omega
  have l2 : ((bs ++ be8 c.seq) ++ c.dig).length ≤ 1073741824 := by simp only [List.length_append, be8_length]; omega
  have l3 : (((bs ++ be8 c.seq) ++ c.dig) ++ be8 c.size).length ≤ 1073741824 := by simp only [List.length_append, be8_length]; omega
  have l4 : ((((bs ++ be8 c.seq) ++ c.dig) ++ be8 c.size) ++ c.hist).length + 4 + 4 * c.q.length ≤ 1073741824 := by simp only [List.length_append, be8_length]; omega
  have HL1 : Hid ((bs ++ be8 c.seq).length ≤ 1073741824) := l1
  have HL2 : Hid (((bs ++ be8 c.seq) ++ c.dig).length ≤ 1073741824) := l2
  have HL3 : Hid ((((bs ++ be8 c.seq) ++ c.dig) ++ be8 c.size).length ≤ 1073741824) := l3
  have HL4 : Hid (((((bs ++ be8 c.seq) ++ c.dig) ++ be8 c.size) ++ c.hist).length + 4 + 4 * c.q.length ≤ 1073741824) := l4
  have HFin : Hid (((((bs ++ be8 c.seq) ++ c.dig) ++ be8 c.size) ++ c.hist) ++ encIds c.q = bs ++ encCp c) := by show _ = _; simp [encCp]
  clear l1 l2 l3 l4 hd1 hd2
  go_enter Try.func32, Try.ntmps32
  go_wp2_with fail
  refine (u64_any B x _ _ bs hE s1 s2 (by omega)).mono ?_
  rintro e w1 ⟨rfl, hE1, hN1⟩
  have k1 : Hid (Keeps S w w1) := hN1.keeps HS.out
  obtain ⟨_, r1, _, _, _⟩ := cp_cells HK (k1.out.range hb HR.out)
  clear c1
  go_wp2_with fail
  refine (fixed32 B x _ _ c.dig b (o + 1) 32 hE1 r1 HD1.out HL1.out).mono ?_
  rintro e w2 ⟨rfl, hE2, hN2⟩
  have k2 : Hid (Keeps S w w2) := k1.out.trans (hN2.keeps HS.out)
  obtain ⟨_, _, c2, _, _⟩ := cp_cells HK (k2.out.range hb HR.out)
  clear r1 hE1
  go_wp2_with fail
  refine (u64_any B x _ _ _ hE2 s3 s4 HL2.out).mono ?_
  rintro e w3 ⟨rfl, hE3, hN3⟩
  have k3 : Hid (Keeps S w w3) := k2.out.trans (hN3.keeps HS.out)
  obtain ⟨_, _, _, r3, _⟩ := cp_cells HK (k3.out.range hb HR.out)
  clear c2 hE2
  go_wp2_with fail
  refine (fixed32 B x _ _ c.hist b (o + 34) 32 hE3 r3 HD2.out HL3.out).mono ?_
  rintro e w4 ⟨rfl, hE4, hN4⟩
  have k4 : Hid (Keeps S w w4) := k3.out.trans (hN4.keeps HS.out)
  obtain ⟨_, _, _, _, c4⟩ := cp_cells HK (k4.out.range hb HR.out)
  have HQ4 : Hid (SliceOf S qv 1 (EInt w4) c.q) := ints_keep k4.out HQ.out
  have hqv := HQ.out
  obtain ⟨ao, cc, rfl, _, _, _, _⟩ := hqv
  clear r3 hE3
  go_wp2_with fail
  refine (ids_any S B x _ _ c.q _ hE4 HQ4.out HS.out HL4.out).mono ?_
  rintro e w5 ⟨rfl, hE5, hN5⟩
  rw [HFin.out] at hE5
  go_wp2
  go_end0
  exact ⟨rfl, hE5, hN1.trans (hN2.trans (hN3.trans (hN4.trans hN5)))⟩

set_option maxHeartbeats 4000000 in
theorem encEn_any (S : Nat → Prop) (B x : Nat) (w : World) (bs : List Int) (b o : Nat) (en : En) (hE : EncAt B x w bs) (hb : S b) (hen : EEn S w b o en) (hS : ∀ b, S b → b < B ∧ b ≠ x) (hlim : bs.length + 12 + 32 * en.reqs.length + 4 * en.q.length + 32 * en.macs.length ≤ 1073741824) :
    Calls Try.prog 33 #[.pointer (some ⟨B, 0, none⟩), .pointer (some ⟨b, o, none⟩)] w fun e w' => e = .returned (.tuple #[]) ∧ EncAt B x w' (bs ++ encEn en) ∧ Near B x w w' := by
  have hok := en_ok hen
  obtain ⟨v1, v2, v3, hr, hv1, hv2, hv3⟩ := hen
  have HS : Hid (∀ b, S b → b < B ∧ b ≠ x) := hS
  have HR : Hid (w.rangeAt b o [v1, v2, v3]) := hr
  have HV1 : Hid (SliceOf S v1 32 (EDig w) en.reqs) := hv1
  have HV2 : Hid (SliceOf S v2 1 (EInt w) en.q) := hv2
  have HV3 : Hid (SliceOf S v3 32 (EDig w) en.macs) := hv3
  have H1 : Hid (∀ d ∈ en.reqs, d.length = 32) := fun d hd => (hok.1 d hd).1
  have H3 : Hid (∀ d ∈ en.macs, d.length = 32) := fun d hd => (hok.2 d hd).1
  have e1 := encDs_length en.reqs H1.out
  have e2 := encIds_length en.q
  have l1 : bs.length + 4 + 32 * en.reqs.length ≤ 1073741824 := by omega
  have l2 : (bs ++ encDs en.reqs).length + 4 + 4 * en.q.length ≤ 1073741824 := by simp only [List.length_append]; omega
  have l3 : ((bs ++ encDs en.reqs) ++ encIds en.q).length + 4 + 32 * en.macs.length ≤ 1073741824 := by simp only [List.length_append]; omega
  have HL1 : Hid (bs.length + 4 + 32 * en.reqs.length ≤ 1073741824) := l1
  have HL2 : Hid ((bs ++ encDs en.reqs).length + 4 + 4 * en.q.length ≤ 1073741824) := l2
  have HL3 : Hid (((bs ++ encDs en.reqs) ++ encIds en.q).length + 4 + 32 * en.macs.length ≤ 1073741824) := l3
  have HFin : Hid (((bs ++ encDs en.reqs) ++ encIds en.q) ++ encDs en.macs = bs ++ encEn en) := by show _ = _; simp [encEn]
  have c1 : w.cell? ⟨b, o, none⟩ = some v1 := hr 0 v1 rfl
  obtain ⟨ao1, cc1, rfl, _, _, _, _⟩ := hv1
  obtain ⟨ao2, cc2, rfl, _, _, _, _⟩ := hv2
  obtain ⟨ao3, cc3, rfl, _, _, _, _⟩ := hv3
  clear hr hS hok l1 l2 l3 e1 e2 hlim
  go_enter Try.func33, Try.ntmps33
  go_wp2_with fail
  refine (digests_any S B x _ bs en.reqs _ hE HV1.out H1.out HS.out HL1.out).mono ?_
  rintro e w1 ⟨rfl, hE1, hN1⟩
  have k1 : Hid (Keeps S w w1) := hN1.keeps HS.out
  have c2 : w1.cell? ⟨b, o + 1, none⟩ = some (.slice ao2 en.q.length cc2) := (k1.out.range hb HR.out) 1 _ rfl
  have HV2' : Hid (SliceOf S (.slice ao2 en.q.length cc2) 1 (EInt w1) en.q) := ints_keep k1.out HV2.out
  clear c1
  go_wp2_with fail
  refine (ids_any S B x _ _ en.q _ hE1 HV2'.out HS.out HL2.out).mono ?_
  rintro e w2 ⟨rfl, hE2, hN2⟩
  have k2 : Hid (Keeps S w w2) := k1.out.trans (hN2.keeps HS.out)
  have c3 : w2.cell? ⟨b, o + 2, none⟩ = some (.slice ao3 en.macs.length cc3) := (k2.out.range hb HR.out) 2 _ rfl
  have HV3' : Hid (SliceOf S (.slice ao3 en.macs.length cc3) 32 (EDig w2) en.macs) := digs_keep k2.out HV3.out
  clear c2 hE1
  go_wp2_with fail
  refine (macs_any S B x _ _ en.macs _ hE2 HV3'.out H3.out HS.out HL3.out).mono ?_
  rintro e w3 ⟨rfl, hE3, hN3⟩
  rw [HFin.out] at hE3
  go_wp2
  go_end0
  exact ⟨rfl, hE3, hN1.trans (hN2.trans hN3)⟩
end Go.Proofs.Qxb6616889a
