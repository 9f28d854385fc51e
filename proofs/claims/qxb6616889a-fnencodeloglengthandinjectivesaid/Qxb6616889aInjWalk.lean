/-
  THE WALK OF FnEncodeLogLengthAndInjective. By an AI agent.
-/
import Derived.Test.Qxb6616889aInjPlain
import Derived.Test.Qxb6616889aZzTwo
import Derived.Test.Qxb6616889aLen
import Derived.Test.Qxb6616889aSame3
import Derived.WalkKit
import Derived.WalkSpells
import Derived.OwnWalk
import Derived.Deep.RegionHeld3
import Derived.Deep.DrawnRows
namespace Go.Proofs.Qxb6616889a
open Go.RowKit
set_option linter.unusedVariables false
set_option linter.unusedSimpArgs false
attribute [local go_sem ↓] Go.wp_at_zero Go.wp_at_succ

theorem enc_nilL (w : World) (lo lb : Nat) (cs : List Cp) (es : List En) (L : List Int) (hL : encLog cs es = L) (h : LogAt (fun b => lo ≤ b ∧ b < w.heap.size) w lb cs es) (hs : Small cs es) :
    Calls Try.prog 17 #[.slice none 0 0, .pointer (some ⟨lb, 0, none⟩)] w fun e w' => ∃ g cap, e = .returned (.slice (some ⟨g, 0, none⟩) L.length cap) ∧ Below w.heap.size w w' ∧ Has w' (.slice (some ⟨g, 0, none⟩) L.length cap) L := by
  subst hL; exact enc_nil w lo lb cs es h hs
theorem len_L (w : World) (v1 v2 : Value) (cs : List Cp) (es : List En) (L : List Int) (hL : encLog cs es = L) (hv1 : HasC w v1 cs) (hv2 : HasE w v2 es) (hs : Small cs es) :
    Calls Try.prog 21 #[v1, v2] w fun e w' => e = .returned (.int .i64 (L.length : Nat)) ∧ Below w.heap.size w w' := by
  subst hL; exact len_any w v1 v2 cs es hv1 hv2 hs
theorem equal_B (w : World) (v1 v2 : Value) (xs ys : List Int) (b : Bool) (hb : eqB xs ys = b) (h1 : Has w v1 xs) (h2 : Has w v2 ys) :
    Calls Try.prog 13 #[v1, v2] w fun e w' => e = .returned (.bool b) ∧ Below w.heap.size w w' := by
  subst hb; exact equal_any _ w v1 v2 xs ys h1 h2 (fun _ h => h)
theorem same_B (w : World) (v1 v2 v3 v4 : Value) (cs : List Cp) (es : List En) (cs2 : List Cp) (es2 : List En) (b : Bool) (hb : slB cs es cs2 es2 = b) (hv1 : HasC w v1 cs) (hv2 : HasE w v2 es) (hv3 : HasC w v3 cs2) (hv4 : HasE w v4 es2) :
    Calls Try.prog 22 #[v1, v2, v3, v4] w fun e w' => e = .returned (.bool b) ∧ Below w.heap.size w w' := by
  subst hb; exact sameLog_any w v1 v2 v3 v4 cs es cs2 es2 hv1 hv2 hv3 hv4
theorem len_smallL {cs : List Cp} {es : List En} {L : List Int} (hL : encLog cs es = L) (hs : Small cs es) (h1 : ∀ c ∈ cs, c.ok) (h2 : ∀ e ∈ es, e.ok) : L.length ≤ 9000000 := by
  subst hL
  have := encLog_length cs es; have := encCps_le h1; have := encEns_le h2
  unfold Small at hs; omega
theorem fitC {cs : List Cp} {es : List En} (hs : Small cs es) (h : ∀ c ∈ cs, c.ok) : ∀ c ∈ cs, c.fit := fun c hc => ⟨h c hc, by have := sumC_mem hc; unfold costC at this; unfold Small at hs; omega⟩
theorem fitE {cs : List Cp} {es : List En} (hs : Small cs es) (h : ∀ e ∈ es, e.ok) : ∀ e ∈ es, e.fit := fun c hc => ⟨h c hc, by have := sumE_mem hc; unfold costE at this; unfold Small at hs; omega, by have := sumE_mem hc; unfold costE at this; unfold Small at hs; omega, by have := sumE_mem hc; unfold costE at this; unfold Small at hs; omega⟩
/-- THE PLAIN LAW: the encodings are one if and only if the logs are. -/
theorem inj_plain {cs cs2 : List Cp} {es es2 : List En} (s1 : Small cs es) (s2 : Small cs2 es2) (h1 : ∀ c ∈ cs, c.ok) (h2 : ∀ c ∈ cs2, c.ok) (k1 : ∀ e ∈ es, e.ok) (k2 : ∀ e ∈ es2, e.ok) :
    eqB (encLog cs es) (encLog cs2 es2) = slB cs es cs2 es2 := by
  have a1 := sumC_len cs; have a2 := sumC_len cs2; have a3 := sumE_len es; have a4 := sumE_len es2
  have u1 := s1; have u2 := s2; unfold Small at u1 u2
  by_cases h : SameLog cs es cs2 es2
  · rw [slB_yes h.1 h.2, enc_of_same h, eqB_self]
  · rw [eqB_ne (fun he => h (same_of_enc (fitC s1 h1) (fitC s2 h2) (fitE s1 k1) (fitE s2 k2) (by omega) (by omega) (by omega) (by omega) he))]
    by_cases hc : cs.map normC = cs2.map normC
    · exact (slB_noE (fun he => h ⟨hc, he⟩)).symm
    · exact (slB_noC hc).symm

set_option maxHeartbeats 16000000 in
set_option maxRecDepth 100000 in
theorem walk7 (w : World) (ac : Option Addr) (cc : Nat) (cs : List Cp) (ae : Option Addr) (ec : Nat) (es : List En) (ac2 : Option Addr) (cc2 : Nat) (cs2 : List Cp) (ae2 : Option Addr) (ec2 : Nat) (es2 : List En)
    (h1 : HasC w (.slice ac cs.length cc) cs) (h2 : HasE w (.slice ae es.length ec) es) (h3 : HasC w (.slice ac2 cs2.length cc2) cs2) (h4 : HasE w (.slice ae2 es2.length ec2) es2) :
    Calls Try.prog 7 #[.slice ac cs.length cc, .slice ae es.length ec, .slice ac2 cs2.length cc2, .slice ae2 es2.length ec2] w fun e w' => e = .returned (.bool true) ∧ Below w.heap.size w w' := by
  have HC1 : Hid (HasC w (.slice ac cs.length cc) cs) := h1
  have HE1 : Hid (HasE w (.slice ae es.length ec) es) := h2
  have HC2 : Hid (HasC w (.slice ac2 cs2.length cc2) cs2) := h3
  have HE2 : Hid (HasE w (.slice ae2 es2.length ec2) es2) := h4
  clear h1 h2 h3 h4
  go_enter Try.func7, Try.ntmps7
  go_wp2_with fail
  refine (zz20_any (fun b => b < w.heap.size) w _ _ _ _ cs es cs2 es2 HC1.out HE1.out HC2.out HE2.out).mono ?_
  rintro e w1 ⟨b0, rfl, hw1⟩
  have hw1' := hw1.symm
  subst hw1'
  cases b0 with
  | false =>
    go_wp2
    go_ret
    exact ⟨rfl, Below.refl _ _⟩
  | true =>
    go_wp2_with fail
    refine (add_any (fun b => b < w.heap.size) w 0 _ _ cs es (by omega) HC1.out HE1.out).mono ?_
    rintro e w1 ⟨t1, ok, rfl, hw1, hok⟩
    have hw1' := hw1.symm
    subst hw1'
    cases ok with
    | false =>
      clear hok
      go_wp2
      go_ret
      exact ⟨rfl, Below.refl _ _⟩
    | true =>
      obtain ⟨e1, e2, e3, e4⟩ := hok rfl
      have HS1 : Hid (Small cs es) := by show sumC cs + sumE es ≤ 1048576; omega
      have ht0 : (0 : Int) ≤ t1 := by omega
      clear hok e1 e3 e4
      go_wp2_with fail
      refine (add_any (fun b => b < w.heap.size) w t1 _ _ cs2 es2 ht0 HC2.out HE2.out).mono ?_
      rintro e w1 ⟨t2, ok, rfl, hw1, hok⟩
      have hw1' := hw1.symm
      subst hw1'
      cases ok with
      | false =>
        clear hok
        go_wp2
        go_ret
        exact ⟨rfl, Below.refl _ _⟩
      | true =>
        obtain ⟨f1, f2, f3, f4⟩ := hok rfl
        have HS2 : Hid (Small cs2 es2) := by show sumC cs2 + sumE es2 ≤ 1048576; omega
        clear hok f1 f2 f3 f4 e2 ht0
        obtain ⟨L1, hL1⟩ : ∃ L, encLog cs es = L := ⟨_, rfl⟩
        obtain ⟨L2, hL2⟩ : ∃ L, encLog cs2 es2 = L := ⟨_, rfl⟩
        have HL1 : Hid (encLog cs es = L1) := hL1
        have HL2 : Hid (encLog cs2 es2 = L2) := hL2
        have hpl : eqB L1 L2 = slB cs es cs2 es2 := by
          rw [← hL1, ← hL2]
          exact inj_plain HS1.out HS2.out (cps_ok HC1.out) (cps_ok HC2.out) (ens_ok HE1.out) (ens_ok HE2.out)
        obtain ⟨bb, hbb⟩ : ∃ b, slB cs es cs2 es2 = b := ⟨_, rfl⟩
        have HB1 : Hid (eqB L1 L2 = bb) := hpl.trans hbb
        have HB2 : Hid (slB cs es cs2 es2 = bb) := hbb
        have m1 : L1.length ≤ 9000000 := len_smallL hL1 HS1.out (cps_ok HC1.out) (ens_ok HE1.out)
        have m2 : L2.length ≤ 9000000 := len_smallL hL2 HS2.out (cps_ok HC2.out) (ens_ok HE2.out)
        clear hL1 hL2 hpl hbb
        go_wp2_with fail
        refine (toLog_has w _ _ cs es HC1.out HE1.out HS1.out).mono ?_
        rintro e w2 ⟨lb2, rfl, b2, lg2⟩
        have B2 : Hid (Below w.heap.size w w2) := b2
        have G2 : Hid (LogAt (fun b => w.heap.size ≤ b ∧ b < w2.heap.size) w2 lb2 cs es) := lg2
        clear b2 lg2
        go_wp2_with fail
        refine (enc_nilL w2 w.heap.size lb2 cs es L1 HL1.out G2.out HS1.out).mono ?_
        rintro e w3 ⟨g3, c3, rfl, b3, h3⟩
        have B3 : Hid (Below w.heap.size w w3) := B2.out.trans (b3.mono B2.out.size)
        have V3 : Hid (Has w3 (.slice (some ⟨g3, 0, none⟩) L1.length c3) L1) := h3
        clear b3 h3 B2 G2
        go_wp2_with fail
        refine (toLog_has w3 _ _ cs2 es2 (HC2.out.keep B3.out) (HE2.out.keep B3.out) HS2.out).mono ?_
        rintro e w4 ⟨lb4, rfl, b4, lg4⟩
        have B4 : Hid (Below w3.heap.size w3 w4) := b4
        have G4 : Hid (LogAt (fun b => w3.heap.size ≤ b ∧ b < w4.heap.size) w4 lb4 cs2 es2) := lg4
        clear b4 lg4
        go_wp2_with fail
        refine (enc_nilL w4 w3.heap.size lb4 cs2 es2 L2 HL2.out G4.out HS2.out).mono ?_
        rintro e w5 ⟨g5, c5, rfl, b5, h5⟩
        have D5 : Hid (Below w3.heap.size w3 w5) := B4.out.trans (b5.mono B4.out.size)
        have B5 : Hid (Below w.heap.size w w5) := B3.out.trans (D5.out.mono B3.out.size)
        have V5 : Hid (Has w5 (.slice (some ⟨g3, 0, none⟩) L1.length c3) L1) := V3.out.keep D5.out
        have U5 : Hid (Has w5 (.slice (some ⟨g5, 0, none⟩) L2.length c5) L2) := h5
        clear b5 h5 B4 G4 D5 B3 V3
        go_wp2_with fail
        refine (len_L w5 _ _ cs es L1 HL1.out (HC1.out.keep B5.out) (HE1.out.keep B5.out) HS1.out).mono ?_
        rintro e w6 ⟨rfl, b6⟩
        have B6 : Hid (Below w.heap.size w w6) := B5.out.trans (b6.mono B5.out.size)
        have V6 : Hid (Has w6 (.slice (some ⟨g3, 0, none⟩) L1.length c3) L1) := V5.out.keep b6
        have U6 : Hid (Has w6 (.slice (some ⟨g5, 0, none⟩) L2.length c5) L2) := U5.out.keep b6
        clear b6 B5 V5 U5
        go_wp2_with fail
        refine (len_L w6 _ _ cs2 es2 L2 HL2.out (HC2.out.keep B6.out) (HE2.out.keep B6.out) HS2.out).mono ?_
        rintro e w7 ⟨rfl, b7⟩
        have B7 : Hid (Below w.heap.size w w7) := B6.out.trans (b7.mono B6.out.size)
        have V7 : Hid (Has w7 (.slice (some ⟨g3, 0, none⟩) L1.length c3) L1) := V6.out.keep b7
        have U7 : Hid (Has w7 (.slice (some ⟨g5, 0, none⟩) L2.length c5) L2) := U6.out.keep b7
        clear b7 B6 V6 U6
        go_wp2_with fail
        refine (equal_B w7 _ _ L1 L2 bb HB1.out V7.out U7.out).mono ?_
        rintro e w8 ⟨rfl, b8⟩
        have B8 : Hid (Below w.heap.size w w8) := B7.out.trans (b8.mono B7.out.size)
        clear b8 B7 V7 U7
        go_wp2_with fail
        refine (same_B w8 _ _ _ _ cs es cs2 es2 bb HB2.out (HC1.out.keep B8.out) (HE1.out.keep B8.out) (HC2.out.keep B8.out) (HE2.out.keep B8.out)).mono ?_
        rintro e w9 ⟨rfl, b9⟩
        have B9 : Hid (Below w.heap.size w w9) := B8.out.trans (b9.mono B8.out.size)
        clear b9 B8 HB1 HB2
        cases bb with
        | false =>
          go_wp2
          go_ret
          exact ⟨rfl, B9.out⟩
        | true =>
          go_wp2
          go_ret
          exact ⟨rfl, B9.out⟩
end Go.Proofs.Qxb6616889a
