/-
  encodeLog, ZZencodeLog. By an AI agent.
-/
import Derived.Test.Qxb6616889aEnc5
import Derived.WalkKit
import Derived.OwnWalk
namespace Go.Proofs.Qxb6616889a
open Go.RowKit
set_option linter.unusedVariables false
set_option linter.unusedSimpArgs false

theorem encCps_succ {cs : List Cp} {k : Nat} {c : Cp} (h : cs[k]? = some c) : encCps (cs.take (k + 1)) = encCps (cs.take k) ++ encCp c := by
  rw [take_snoc h]; simp [encCps]
theorem encCps_take_le (cs : List Cp) (k : Nat) : (encCps (cs.take k)).length ≤ (encCps cs).length := by
  have : encCps cs = encCps (cs.take k) ++ encCps (cs.drop k) := by
    unfold encCps; rw [← List.flatMap_append, List.take_append_drop]
  rw [this]; simp
theorem encEns_succ {cs : List En} {k : Nat} {c : En} (h : cs[k]? = some c) : encEns (cs.take (k + 1)) = encEns (cs.take k) ++ encEn c := by
  rw [take_snoc h]; simp [encEns]
theorem encEns_take_le (cs : List En) (k : Nat) : (encEns (cs.take k)).length ≤ (encEns cs).length := by
  have : encEns cs = encEns (cs.take k) ++ encEns (cs.drop k) := by
    unfold encEns; rw [← List.flatMap_append, List.take_append_drop]
  rw [this]; simp
theorem encLog_length (cs : List Cp) (es : List En) : (encLog cs es).length = 8 + (encCps cs).length + (encEns es).length := by
  simp only [encLog, List.length_append, cnt4_length]; omega

theorem cps_at {S : Nat → Prop} {w : World} {n c k : Nat} {ao : Option Addr} {cs : List Cp} (h : SliceOf S (.slice ao n c) 67 (ECp S w) cs) (hk : k < cs.length) : ∃ b o x, ao = some ⟨b, o, none⟩ ∧ S b ∧ cs[k]? = some x ∧ ECp S w b (o + k * 67) x := by
  obtain ⟨ao', c', hv, _, _, _, h4⟩ := h
  obtain ⟨b, o, e1, e2, e3⟩ := h4 (by omega)
  cases hv
  exact ⟨b, o, cs[k], e1, e2, List.getElem?_eq_getElem hk, e3 k _ (List.getElem?_eq_getElem hk)⟩
theorem ens_at {S : Nat → Prop} {w : World} {n c k : Nat} {ao : Option Addr} {es : List En} (h : SliceOf S (.slice ao n c) 3 (EEn S w) es) (hk : k < es.length) : ∃ b o x, ao = some ⟨b, o, none⟩ ∧ S b ∧ es[k]? = some x ∧ EEn S w b (o + k * 3) x := by
  obtain ⟨ao', c', hv, _, _, _, h4⟩ := h
  obtain ⟨b, o, e1, e2, e3⟩ := h4 (by omega)
  cases hv
  exact ⟨b, o, es[k], e1, e2, List.getElem?_eq_getElem hk, e3 k _ (List.getElem?_eq_getElem hk)⟩

set_option maxHeartbeats 4000000 in
theorem encodeLog_any (S : Nat → Prop) (B x : Nat) (w : World) (bs : List Int) (lb : Nat) (cs : List Cp) (es : List En) (hE : EncAt B x w bs) (hlog : LogAt S w lb cs es) (hS : ∀ b, S b → b < B ∧ b ≠ x) (hlim : bs.length + (encLog cs es).length ≤ 1073741824) (hlc : cs.length ≤ 1048576) (hle : es.length ≤ 1048576) :
    Calls Try.prog 25 #[.pointer (some ⟨B, 0, none⟩), .pointer (some ⟨lb, 0, none⟩)] w fun e w' => e = .returned (.tuple #[]) ∧ EncAt B x w' (bs ++ encLog cs es) ∧ Near B x w w' := by
  obtain ⟨hSl, v1, v2, c1, c2, hv1, hv2⟩ := hlog
  rw [encLog_length] at hlim
  have HS : Hid (∀ b, S b → b < B ∧ b ≠ x) := hS
  have HV1 : Hid (SliceOf S v1 67 (ECp S w) cs) := hv1
  have HV2 : Hid (SliceOf S v2 3 (EEn S w) es) := hv2
  have HC1 : Hid (w.cell? ⟨lb, 0, none⟩ = some v1) := c1
  have HC2 : Hid (w.cell? ⟨lb, 1, none⟩ = some v2) := c2
  obtain ⟨ao1, cc1, rfl, _, _, _, _⟩ := hv1
  obtain ⟨ao2, cc2, rfl, _, _, _, _⟩ := hv2
  clear hS c2
  go_enter Try.func25, Try.ntmps25
  go_wp2_with fail
  refine (u32_any B x _ _ bs hE (by omega) (by omega) (by omega)).mono ?_
  rintro e w1 ⟨rfl, hE1, hN1⟩
  have c1' : w1.cell? ⟨lb, 0, none⟩ = some (.slice ao1 cs.length cc1) := ((hN1.keeps HS.out).cell hSl 0).trans HC1.out
  clear c1
  go_wp2_with fail
  go_loopw [19] (fun i wr => ∃ k : Nat, k ≤ cs.length ∧ i = .int .i64 k ∧ EncAt B x wr (bs ++ (cnt4 cs ++ encCps (cs.take k))) ∧ Near B x w wr) (fun i _ => cs.length - (intOf i).toNat)
  case atStart => exact ⟨0, Nat.zero_le _, rfl, by simpa [cnt4, encCps] using hE1, hN1⟩
  case round =>
    obtain ⟨k, hk, rfl, hEr, hNr⟩ := hrel
    clear hE hE1 hN1 c1'
    have hc : wr.cell? ⟨lb, 0, none⟩ = some (.slice ao1 cs.length cc1) := ((hNr.keeps HS.out).cell hSl 0).trans HC1.out
    by_cases hlt : k < cs.length
    · obtain ⟨b, o, c, rfl, hSb, hy, hcp⟩ := cps_at HV1.out hlt
      have HP : Hid (ECp S wr b (o + k * 67) c) := cp_keep (hNr.keeps HS.out) hSb hcp
      have hlen := encCp_length c hcp.1
      have hle1 := encCps_take_le cs (k + 1)
      rw [encCps_succ hy, List.length_append] at hle1
      have HLn : Hid ((bs ++ (cnt4 cs ++ encCps (cs.take k))).length + 84 + 4 * c.q.length ≤ 1073741824) := by
        show _ ≤ _; simp only [List.length_append, cnt4_length]; omega
      have HE : Hid (EncAt B x wr (bs ++ (cnt4 cs ++ encCps (cs.take k)))) := hEr
      have HF : Hid (bs ++ (cnt4 cs ++ encCps (cs.take (k + 1))) = (bs ++ (cnt4 cs ++ encCps (cs.take k))) ++ encCp c) := by show _ = _; rw [encCps_succ hy]; simp
      clear hy hcp hEr hlen hle1
      go_wp2_with (go_at_call 32; refine (encCp_any S B x _ _ b (o + k * 67) c HE.out hSb HP.out HS.out HLn.out).mono ?_; rintro e w2 ⟨rfl, hE2, hN2⟩)
      go_roundw
      case rel => exact ⟨k + 1, by omega, by go_num, by rw [HF.out]; exact hE2, hNr.trans hN2⟩
      case measure => simp [intOf]; omega
    · obtain rfl : k = cs.length := by omega
      rw [List.take_length] at hEr
      have hc2 : wr.cell? ⟨lb, 1, none⟩ = some (.slice ao2 es.length cc2) := ((hNr.keeps HS.out).cell hSl 1).trans HC2.out
      have HL2 : Hid ((bs ++ (cnt4 cs ++ encCps cs)).length ≤ 1073741824) := by
        show _ ≤ _; simp only [List.length_append, cnt4_length]; omega
      clear hc
      go_wp2_with fail
      refine (u32_any B x _ _ _ hEr (by omega) (by omega) HL2.out).mono ?_
      rintro e w2 ⟨rfl, hE2, hN2⟩
      have hc2' : w2.cell? ⟨lb, 1, none⟩ = some (.slice ao2 es.length cc2) := (((hNr.trans hN2).keeps HS.out).cell hSl 1).trans HC2.out
      clear hc2 hEr
      go_wp2_with fail
      go_loopw [44] (fun i wq => ∃ k : Nat, k ≤ es.length ∧ i = .int .i64 k ∧ EncAt B x wq (bs ++ (cnt4 cs ++ (encCps cs ++ (cnt4 es ++ encEns (es.take k))))) ∧ Near B x w wq) (fun i _ => es.length - (intOf i).toNat)
      case atStart => exact ⟨0, Nat.zero_le _, rfl, by simpa [cnt4, encEns] using hE2, hNr.trans hN2⟩
      case round =>
        obtain ⟨k, hk, rfl, hEr, hNq⟩ := hrel
        clear hE2 hN2 hc2' hNr
        have hc : wr.cell? ⟨lb, 1, none⟩ = some (.slice ao2 es.length cc2) := ((hNq.keeps HS.out).cell hSl 1).trans HC2.out
        by_cases hlt : k < es.length
        · obtain ⟨b, o, c, rfl, hSb, hy, hcp⟩ := ens_at HV2.out hlt
          have HP : Hid (EEn S wr b (o + k * 3) c) := en_keep (hNq.keeps HS.out) hSb hcp
          have hlen := encEn_length c (en_ok hcp)
          have hle1 := encEns_take_le es (k + 1)
          rw [encEns_succ hy, List.length_append] at hle1
          have HLn : Hid ((bs ++ (cnt4 cs ++ (encCps cs ++ (cnt4 es ++ encEns (es.take k))))).length + 12 + 32 * c.reqs.length + 4 * c.q.length + 32 * c.macs.length ≤ 1073741824) := by
            show _ ≤ _; simp only [List.length_append, cnt4_length]; omega
          have HE : Hid (EncAt B x wr (bs ++ (cnt4 cs ++ (encCps cs ++ (cnt4 es ++ encEns (es.take k)))))) := hEr
          have HF : Hid (bs ++ (cnt4 cs ++ (encCps cs ++ (cnt4 es ++ encEns (es.take (k + 1))))) = (bs ++ (cnt4 cs ++ (encCps cs ++ (cnt4 es ++ encEns (es.take k))))) ++ encEn c) := by show _ = _; rw [encEns_succ hy]; simp
          clear hy hcp hEr hlen hle1
          go_wp2_with (go_at_call 33; refine (encEn_any S B x _ _ b (o + k * 3) c HE.out hSb HP.out HS.out HLn.out).mono ?_; rintro e w2 ⟨rfl, hE2, hN2⟩)
          go_roundw
          case rel => exact ⟨k + 1, by omega, by go_num, by rw [HF.out]; exact hE2, hNq.trans hN2⟩
          case measure => simp [intOf]; omega
        · obtain rfl : k = es.length := by omega
          rw [List.take_length] at hEr
          have HE : Hid (EncAt B x wr (bs ++ encLog cs es)) := hEr
          clear hEr hc
          go_wp2
          go_end0
          exact ⟨rfl, HE.out, hNq⟩

set_option maxHeartbeats 4000000 in
theorem zzEncodeLog_any (S : Nat → Prop) (x : Nat) (w : World) (bs : List Int) (sv : Value) (lb : Nat) (cs : List Cp) (es : List En) (hown : w.ownsRow 0 5 1 sv bs.length (u8s bs)) (hx : ∀ g, sv.ownBlock = some g → g = x) (hlog : LogAt S w lb cs es) (hS : ∀ b, S b → b < w.heap.size ∧ b ≠ x) (hlim : bs.length + (encLog cs es).length ≤ 1073741824) (hlc : cs.length ≤ 1048576) (hle : es.length ≤ 1048576) :
    Calls Try.prog 17 #[sv, .pointer (some ⟨lb, 0, none⟩)] w fun e w' => ∃ sv', e = .returned sv' ∧ w'.ownsRow 0 5 1 sv' (bs ++ encLog cs es).length (u8s (bs ++ encLog cs es)) ∧ (∀ g, sv'.ownBlock = some g → g = x ∨ w.heap.size < g) ∧ Near w.heap.size x w w' := by
  have hform : ∃ ao c, sv = .slice ao bs.length c := by
    rcases hown.2 with ⟨rfl, h0⟩ | ⟨g, cap, cur, rfl, _⟩
    · exact ⟨none, 0, by rw [h0]⟩
    · exact ⟨_, _, rfl⟩
  obtain ⟨ao, c, rfl⟩ := hform
  have hE0 : EncAt w.heap.size x (w.alloc (.cells #[.slice ao bs.length c] 49)) bs :=
    ⟨_, heap_alloc_new w _, hown.alloc _, fun g hg => ⟨by have := (hown.lt g hg).2; omega, Or.inl (hx g hg)⟩⟩
  have hb0 : Below w.heap.size w (w.alloc (.cells #[.slice ao bs.length c] 49)) := (Below.refl _ _).alloc (Nat.le_refl _) _
  have hlog' := log_keep (Below.keeps hb0 (fun b hb => (hS b hb).1)) hlog
  have HO : Hid (EncAt w.heap.size x (w.alloc (.cells #[.slice ao bs.length c] 49)) bs) := hE0
  have HLg : Hid (LogAt S (w.alloc (.cells #[.slice ao bs.length c] 49)) lb cs es) := hlog'
  have HB : Hid (Below w.heap.size w (w.alloc (.cells #[.slice ao bs.length c] 49))) := hb0
  have HS : Hid (∀ b, S b → b < w.heap.size ∧ b ≠ x) := hS
  clear hE0 hb0 hlog' hlog hown hx hS
  go_enter Try.func17, Try.ntmps17
  go_wp2_with fail
  refine (encodeLog_any S w.heap.size x _ bs lb cs es HO.out HLg.out HS.out hlim hlc hle).mono ?_
  rintro e w1 ⟨rfl, ⟨sv', hb1, hown1, hg1⟩, hN1⟩
  have hc1 := box_cell hb1
  have HR : Hid (w1.ownsRow 0 5 1 sv' (bs ++ encLog cs es).length (u8s (bs ++ encLog cs es)) ∧ (∀ g, sv'.ownBlock = some g → g = x ∨ w.heap.size < g) ∧ Near w.heap.size x w w1) :=
    ⟨hown1, fun g hg => (hg1 g hg).2, (Near.of_below HB.out).trans hN1⟩
  clear hb1 hown1 hg1
  go_wp2
  go_ret
  exact ⟨_, rfl, HR.out⟩
end Go.Proofs.Qxb6616889a
