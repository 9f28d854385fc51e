/-
  THE WALK OF FnEncodeLogSplitsAtAnyCut. By an AI agent.
-/
import Derived.Test.Qxb6616889aCutPlain
import Derived.WalkKit
import Derived.WalkSpells
import Derived.OwnWalk
import Derived.Deep.RegionHeld3
import Derived.Deep.DrawnRows
namespace Go.Proofs.Qxb6616889a
open Go.RowKit
set_option linter.unusedVariables false
set_option linter.unusedSimpArgs false
attribute [local go_sem ↓] Go.wp_at_zero Go.wp_at_succ

theorem enc_nil_as (w : World) (lo lb : Nat) (cs : List Cp) (es : List En) (L : List Int) (hL : encLog cs es = L) (h : LogAt (fun b => lo ≤ b ∧ b < w.heap.size) w lb cs es) (hs : Small cs es) :
    Calls Try.prog 17 #[.slice none 0 0, .pointer (some ⟨lb, 0, none⟩)] w fun e w' => ∃ g cap, e = .returned (.slice (some ⟨g, 0, none⟩) L.length cap) ∧ Below w.heap.size w w' ∧ Has w' (.slice (some ⟨g, 0, none⟩) L.length cap) L := by
  subst hL; exact enc_nil w lo lb cs es h hs
theorem enc_own_as (w0 w1 w : World) (sv : Value) (ps : List Int) (lb : Nat) (cs : List Cp) (es : List En) (L : List Int) (hL : ps ++ encLog cs es = L) (hown : w1.ownsRow w0.heap.size 5 1 sv ps.length (u8s ps)) (hb : Below w1.heap.size w1 w) (hb0 : Below w0.heap.size w0 w1) (h : LogAt (fun b => w1.heap.size ≤ b ∧ b < w.heap.size) w lb cs es) (hs : ps.length + (sumC cs + sumE es) ≤ 1048576) :
    Calls Try.prog 17 #[sv, .pointer (some ⟨lb, 0, none⟩)] w fun e w' => ∃ g cap, e = .returned (.slice (some ⟨g, 0, none⟩) L.length cap) ∧ Below w0.heap.size w0 w' ∧ Has w' (.slice (some ⟨g, 0, none⟩) L.length cap) L := by
  subst hL; exact enc_own w0 w1 w sv ps lb cs es hown hb hb0 h hs
theorem concat_as (w : World) (v1 v2 : Value) (xs ys L : List Int) (hL : xs ++ ys = L) (h1 : Has w v1 xs) (h2 : Has w v2 ys) (hlen : xs.length ≤ 1073741824) (hlen2 : ys.length ≤ 1073741824) :
    Calls Try.prog 12 #[v1, v2] w fun e w' => ∃ o c, e = .returned (.slice o L.length c) ∧ Below w.heap.size w w' ∧ Has w' (.slice o L.length c) L := by
  subst hL; exact concat_has w v1 v2 xs ys h1 h2 hlen hlen2
theorem bcut_h {w : World} {ao : Option Addr} {n c : Nat} {xs : List Int} (hv : Has w (.slice ao n c) xs) (h : Nat) (hi : Int) (hh : hi = h) (hn : h ≤ xs.length) (m : Nat) (hm : h = m) (ys : List Int) (hy : xs.take h = ys) :
    ∃ o' c', (∀ w, (Instr.slice 25 (.slice ao n c) none (some (.int .i64 hi)) none).run Try.prog w = .ok (.slice o' m c') w) ∧ Has w (.slice o' m c') ys := by
  subst hm; subst hy; exact cut_h 25 5 hv Try.underlying25 Try.elem25 Try.cell5 h hi hh hn
theorem bcut_l {w : World} {ao : Option Addr} {n c : Nat} {xs : List Int} (hv : Has w (.slice ao n c) xs) (l : Nat) (li : Int) (hl : li = l) (hn : l ≤ xs.length) (m : Nat) (hm : xs.length - l = m) (ys : List Int) (hy : xs.drop l = ys) :
    ∃ o' c', (∀ w, (Instr.slice 25 (.slice ao n c) (some (.int .i64 li)) none none).run Try.prog w = .ok (.slice o' m c') w) ∧ Has w (.slice o' m c') ys := by
  subst hm; subst hy; exact cut_l 25 5 hv Try.underlying25 Try.elem25 Try.cell5 l li hl hn
theorem bcut_lh {w : World} {ao : Option Addr} {n c : Nat} {xs : List Int} (hv : Has w (.slice ao n c) xs) (l h : Nat) (li hi : Int) (hl : li = l) (hh : hi = h) (hlh : l ≤ h) (hn : h ≤ xs.length) (m : Nat) (hm : h - l = m) (ys : List Int) (hy : (xs.take h).drop l = ys) :
    ∃ o' c', (∀ w, (Instr.slice 25 (.slice ao n c) (some (.int .i64 li)) (some (.int .i64 hi)) none).run Try.prog w = .ok (.slice o' m c') w) ∧ Has w (.slice o' m c') ys := by
  subst hm; subst hy; exact cut_lh 25 5 hv Try.underlying25 Try.elem25 Try.cell5 l h li hi hl hh hlh hn
/-- What the walk is told of the four parts' encodings. -/
structure Parts (ps : List Int) (cs : List Cp) (es : List En) (a b : Nat) (LW LA LB LC LD : List Int) : Prop where
  W : ps ++ encLog cs es = LW
  A : encLog (cs.take a) [] = LA
  B : encLog (cs.drop a) [] = LB
  C : encLog [] (es.take b) = LC
  D : encLog [] (es.drop b) = LD
theorem wu32 {n : Int} (h0 : 0 ≤ n) (h1 : n ≤ 4294967295) : IntKind.u32.wrap n = n := by rw [IntKind.wrap_u32]; omega
theorem wi64 {n : Int} (h0 : 0 ≤ n) (h1 : n ≤ 4294967295) : IntKind.i64.wrap n = n := by rw [IntKind.wrap_i64]; omega
theorem len_small {cs : List Cp} {es : List En} {L : List Int} (hL : encLog cs es = L) (hs : Small cs es) (h1 : ∀ c ∈ cs, c.ok) (h2 : ∀ e ∈ es, e.ok) : L.length ≤ 9000000 := by
  subst hL
  have := encLog_length cs es; have := encCps_le h1; have := encEns_le h2
  unfold Small at hs; omega
theorem cpsok_take {w : World} {v : Value} {cs : List Cp} (h : HasC w v cs) {a : Nat} : ∀ c ∈ cs.take a, c.ok := fun c hc => cps_ok h c (List.mem_of_mem_take hc)
theorem cpsok_drop {w : World} {v : Value} {cs : List Cp} (h : HasC w v cs) {a : Nat} : ∀ c ∈ cs.drop a, c.ok := fun c hc => cps_ok h c (List.mem_of_mem_drop hc)
theorem ensok_take {w : World} {v : Value} {es : List En} (h : HasE w v es) {a : Nat} : ∀ c ∈ es.take a, c.ok := fun c hc => ens_ok h c (List.mem_of_mem_take hc)
theorem ensok_drop {w : World} {v : Value} {es : List En} (h : HasE w v es) {a : Nat} : ∀ c ∈ es.drop a, c.ok := fun c hc => ens_ok h c (List.mem_of_mem_drop hc)
/-- The growing wanted bytes. -/
structure Wants (ps x1 x2 x3 x4 : List Int) (n m : Int) (M1 M2 M3 M4 M5 LW : List Int) : Prop where
  m1 : ps ++ be4 n = M1
  m2 : M1 ++ x1 = M2
  m3 : M2 ++ x2 = M3
  m4 : M3 ++ be4 m = M4
  m5 : M4 ++ x3 = M5
  m6 : M5 ++ x4 = LW
  l0 : ps.length ≤ 1073741824
  l1 : M1.length ≤ 1073741824
  l2 : M2.length ≤ 1073741824
  l3 : M3.length ≤ 1073741824
  l4 : M4.length ≤ 1073741824
  l5 : M5.length ≤ 1073741824
  k2 : x1.length ≤ 1073741824
  k3 : x2.length ≤ 1073741824
  k5 : x3.length ≤ 1073741824
  k6 : x4.length ≤ 1073741824
theorem wants_of {ps x1 x2 x3 x4 : List Int} {n m : Int} {LW : List Int} (h : (((((ps ++ be4 n) ++ x1) ++ x2) ++ be4 m) ++ x3) ++ x4 = LW) (hl : LW.length ≤ 1073741824) :
    ∃ M1 M2 M3 M4 M5, Wants ps x1 x2 x3 x4 n m M1 M2 M3 M4 M5 LW := by
  have e := congrArg List.length h
  simp only [List.length_append, be4_length] at e
  refine ⟨_, _, _, _, _, ⟨rfl, rfl, rfl, rfl, rfl, h, ?_, ?_, ?_, ?_, ?_, ?_, ?_, ?_, ?_, ?_⟩⟩ <;> (try simp only [List.length_append, be4_length]) <;> omega
theorem Has.drew {w : World} {v : Value} {xs : List Int} (h : Has w v xs) : Has w.drew v xs := h
/-- The two worlds' heaps: below the first one's size all is as it was (the draw counts for nothing). -/
theorem below_drew' {B : Nat} {w w2 : World} (h : Below B w.drew w2) : Below B w w2 := ⟨h.os, h.tape, h.output, h.size, h.block⟩

set_option maxHeartbeats 16000000 in
set_option maxRecDepth 100000 in
theorem walk6 (w : World) (ap : Option Addr) (pc : Nat) (ps : List Int) (ac : Option Addr) (cc : Nat) (cs : List Cp) (ae : Option Addr) (ec : Nat) (es : List En) (i j : Int)
    (h0 : Has w (.slice ap ps.length pc) ps) (h1 : HasC w (.slice ac cs.length cc) cs) (h2 : HasE w (.slice ae es.length ec) es) :
    Calls Try.prog 6 #[.slice ap ps.length pc, .slice ac cs.length cc, .slice ae es.length ec, .int .i64 i, .int .i64 j] w fun e w' => e = .returned (.bool true) ∧ Below w.heap.size w w' := by
  have HP : Hid (Has w (.slice ap ps.length pc) ps) := h0
  have HCS : Hid (HasC w (.slice ac cs.length cc) cs) := h1
  have HES : Hid (HasE w (.slice ae es.length ec) es) := h2
  have hpl : ps.length ≤ 9223372036854775807 := by obtain ⟨_, _, e, _, a1, a2, _⟩ := h0; omega
  have hcl : cs.length ≤ 9223372036854775807 := by obtain ⟨_, _, e, _, a1, a2, _⟩ := h1; omega
  have hel : es.length ≤ 9223372036854775807 := by obtain ⟨_, _, e, _, a1, a2, _⟩ := h2; omega
  clear h0 h1 h2
  go_enter Try.func6, Try.ntmps6
  go_wp2_with fail
  refine (zz15_any (fun b => b < w.heap.size) (fun b => b < w.heap.size) w _ _ _ _ _ ps cs es HP.out HCS.out HES.out).mono ?_
  rintro e w1 ⟨b0, rfl, hw1⟩
  have hw1' := hw1.symm
  subst hw1'
  cases b0 with
  | false =>
    go_wp2
    go_ret
    exact ⟨rfl, Below.refl _ _⟩
  | true =>
    go_wp2_with fail
    refine (add_any (fun b => b < w.heap.size) w ps.length _ _ cs es (by omega) HCS.out HES.out).mono ?_
    rintro e w1 ⟨t', ok, rfl, hw1, hok⟩
    have hw1' := hw1.symm
    subst hw1'
    cases ok with
    | false =>
      clear hok
      go_wp2
      go_ret
      exact ⟨rfl, Below.refl _ _⟩
    | true =>
      obtain ⟨e1, e2, e3, e4⟩ := hok rfl
      have HSm : Hid (ps.length + (sumC cs + sumE es) ≤ 1048576) := by show _ ≤ _; omega
      have g1 : ps.length ≤ 1048576 := by have := HSm.out; omega
      clear hok e1 e2 hpl hcl hel
      by_cases c1 : i < 0
      · go_wp2
        go_ret
        exact ⟨rfl, Below.refl _ _⟩
      by_cases c2 : (cs.length : Int) < i
      · go_wp2
        go_ret
        exact ⟨rfl, Below.refl _ _⟩
      by_cases c3 : j < 0
      · go_wp2
        go_ret
        exact ⟨rfl, Below.refl _ _⟩
      by_cases c4 : (es.length : Int) < j
      · go_wp2
        go_ret
        exact ⟨rfl, Below.refl _ _⟩
      obtain ⟨a, rfl⟩ := Int.eq_ofNat_of_zero_le (show 0 ≤ i by omega)
      obtain ⟨b, rfl⟩ := Int.eq_ofNat_of_zero_le (show 0 ≤ j by omega)
      have ha : a ≤ cs.length := by omega
      have hbb : b ≤ es.length := by omega
      have ha' : (a : Int) ≤ (cs.length : Int) := by omega
      have hb' : (b : Int) ≤ (es.length : Int) := by omega
      clear c1 c2 c3 c4
      obtain ⟨oA, cA, runA, sA⟩ := cut_h 33 54 HCS.out Try.underlying33 Try.elem33 Try.cell54 a (a : Int) rfl ha
      obtain ⟨oB, cB, runB, sB⟩ := cut_l 33 54 HCS.out Try.underlying33 Try.elem33 Try.cell54 a (a : Int) rfl ha
      obtain ⟨oC, cC, runC, sC⟩ := cut_h 34 57 HES.out Try.underlying34 Try.elem34 Try.cell57 b (b : Int) rfl hbb
      obtain ⟨oD, cD, runD, sD⟩ := cut_l 34 57 HES.out Try.underlying34 Try.elem34 Try.cell57 b (b : Int) rfl hbb
      have HA : Hid (HasC w (.slice oA a cA) (cs.take a)) := sA
      have HB : Hid (HasC w (.slice oB (cs.length - a) cB) (cs.drop a)) := sB
      have HC : Hid (HasE w (.slice oC b cC) (es.take b)) := sC
      have HD : Hid (HasE w (.slice oD (es.length - b) cD) (es.drop b)) := sD
      have HSmall : Hid (Small cs es) := by show sumC cs + sumE es ≤ 1048576; have := HSm.out; omega
      clear sA sB sC sD
      obtain ⟨LW, LA, LB, LC, LD, hPt⟩ : ∃ LW LA LB LC LD, Parts ps cs es a b LW LA LB LC LD := ⟨_, _, _, _, _, rfl, rfl, rfl, rfl, rfl⟩
      have HPt : Hid (Parts ps cs es a b LW LA LB LC LD) := hPt
      have n1 : (cs.take a).length = a := by simp; omega
      have n2 : (cs.drop a).length = cs.length - a := by simp
      have n3 : (es.take b).length = b := by simp; omega
      have n4 : (es.drop b).length = es.length - b := by simp
      have HlA : Hid (8 ≤ LA.length ∧ LA.take 4 = be4 (a : Int) ∧ LA.drop (LA.length - 4) = be4 0 ∧ (LA.take (LA.length - 4)).drop 4 = encCps (cs.take a)) := by
        show _ ∧ _; rw [← hPt.A]; exact ⟨by rw [len_left]; omega, by rw [left_head, n1], left_tail _, left_mid _⟩
      have HlB : Hid (8 ≤ LB.length ∧ LB.take 4 = be4 ((cs.length : Int) - (a : Int)) ∧ LB.drop (LB.length - 4) = be4 0 ∧ (LB.take (LB.length - 4)).drop 4 = encCps (cs.drop a)) := by
        show _ ∧ _; rw [← hPt.B]; exact ⟨by rw [len_left]; omega, by rw [left_head, n2, Int.ofNat_sub ha], left_tail _, left_mid _⟩
      have HlC : Hid (8 ≤ LC.length ∧ LC.take 4 = be4 0 ∧ (LC.take 8).drop 4 = be4 (b : Int) ∧ LC.drop 8 = encEns (es.take b)) := by
        show _ ∧ _; rw [← hPt.C]; exact ⟨by rw [len_right]; omega, right_head _, by rw [right_count, n3], right_rest _⟩
      have HlD : Hid (8 ≤ LD.length ∧ LD.take 4 = be4 0 ∧ (LD.take 8).drop 4 = be4 ((es.length : Int) - (b : Int)) ∧ LD.drop 8 = encEns (es.drop b)) := by
        show _ ∧ _; rw [← hPt.D]; exact ⟨by rw [len_right]; omega, right_head _, by rw [right_count, n4, Int.ofNat_sub hbb], right_rest _⟩
      have hmA : LA.length ≤ 9000000 := len_small hPt.A (HSmall.out.left a) (cpsok_take HCS.out) (fun e he => by cases he)
      have hmB : LB.length ≤ 9000000 := len_small hPt.B (HSmall.out.leftD a) (cpsok_drop HCS.out) (fun e he => by cases he)
      have hmC : LC.length ≤ 9000000 := len_small hPt.C (HSmall.out.right b) (fun e he => by cases he) (ensok_take HES.out)
      have hmD : LD.length ≤ 9000000 := len_small hPt.D (HSmall.out.rightD b) (fun e he => by cases he) (ensok_drop HES.out)
      have HFin : Hid ((((((ps ++ be4 (cs.length : Int)) ++ encCps (cs.take a)) ++ encCps (cs.drop a)) ++ be4 (es.length : Int)) ++ encEns (es.take b)) ++ encEns (es.drop b) = LW) := by
        show _ = _; rw [← hPt.W]; exact (cut_whole ps cs es a b).symm
      have HLW : Hid (LW.length ≤ 1073741824) := by
        show _ ≤ _
        rw [← HPt.out.W, List.length_append]
        have := len_small rfl HSmall.out (cps_ok HCS.out) (ens_ok HES.out)
        omega
      have ha0 : (0 : Int) ≤ (a : Int) := by omega
      have hb0 : (0 : Int) ≤ (b : Int) := by omega
      have hlA8 : (8 : Int) ≤ (LA.length : Int) := by have := HlA.out.1; omega
      have hlB8 : (8 : Int) ≤ (LB.length : Int) := by have := HlB.out.1; omega
      have hlC8 : (8 : Int) ≤ (LC.length : Int) := by have := HlC.out.1; omega
      have hlD8 : (8 : Int) ≤ (LD.length : Int) := by have := HlD.out.1; omega
      clear hPt n1 n2 n3 n4
      go_wp2_with fail
      refine (clone_has w _ ps HP.out g1).mono ?_
      rintro e w1 ⟨sv, rfl, b1, own1⟩
      have B1 : Hid (Below w.heap.size w w1) := b1
      have O1 : Hid (w1.ownsRow w.heap.size 5 1 sv ps.length (u8s ps)) := own1
      clear b1 own1
      go_wp2_with fail
      refine (toLog_has w1 _ _ cs es (HCS.out.keep B1.out) (HES.out.keep B1.out) HSmall.out).mono ?_
      rintro e w2 ⟨lb2, rfl, b2, lg2⟩
      have B2 : Hid (Below w1.heap.size w1 w2) := b2
      have L2 : Hid (LogAt (fun b => w1.heap.size ≤ b ∧ b < w2.heap.size) w2 lb2 cs es) := lg2
      clear b2 lg2
      go_wp2_with fail
      refine (enc_own_as w w1 w2 sv ps lb2 cs es LW HPt.out.W O1.out B2.out B1.out L2.out HSm.out).mono ?_
      rintro e w3 ⟨g3, c3, rfl, b3, h3⟩
      have B3 : Hid (Below w.heap.size w w3) := b3
      have HW3 : Hid (Has w3 (.slice (some ⟨g3, 0, none⟩) LW.length c3) LW) := h3
      clear b3 h3 B1 B2 O1 L2
      have BW3 : Hid (Below w.heap.size w w3) := B3
      have HP3 : Hid (Has w3 (.slice ap ps.length pc) ps) := HP.out.keep BW3.out
      go_wp2_with fail
      refine (toLog_has w3 _ _ (cs.take a) [] (HA.out.keep BW3.out) (HasE.nil _) (HSmall.out.left a)).mono ?_
      rintro e w4 ⟨lb4, rfl, b4, lg4⟩
      have B4 : Hid (Below w3.heap.size w3 w4) := b4
      have L4 : Hid (LogAt (fun b => w3.heap.size ≤ b ∧ b < w4.heap.size) w4 lb4 (cs.take a) []) := lg4
      clear b4 lg4
      go_wp2_with fail
      refine (enc_nil_as w4 w3.heap.size lb4 (cs.take a) [] LA HPt.out.A L4.out (HSmall.out.left a)).mono ?_
      rintro e w5 ⟨g5, c5, rfl, b5, h5⟩
      have D5 : Hid (Below w3.heap.size w3 w5) := B4.out.trans (b5.mono B4.out.size)
      have BW5 : Hid (Below w.heap.size w w5) := BW3.out.trans (D5.out.mono BW3.out.size)
      have VA5 : Hid (Has w5 (.slice (some ⟨g5, 0, none⟩) LA.length c5) LA) := h5
      have HW5 : Hid (Has w5 (.slice (some ⟨g3, 0, none⟩) LW.length c3) LW) := HW3.out.keep D5.out
      have HP5 : Hid (Has w5 (.slice ap ps.length pc) ps) := HP3.out.keep D5.out
      clear b5 h5 B4 L4 D5 BW3 HA runA HW3 HP3
      go_wp2_with fail
      refine (toLog_has w5 _ _ (cs.drop a) [] (HB.out.keep BW5.out) (HasE.nil _) (HSmall.out.leftD a)).mono ?_
      rintro e w6 ⟨lb6, rfl, b6, lg6⟩
      have B6 : Hid (Below w5.heap.size w5 w6) := b6
      have L6 : Hid (LogAt (fun b => w5.heap.size ≤ b ∧ b < w6.heap.size) w6 lb6 (cs.drop a) []) := lg6
      clear b6 lg6
      go_wp2_with fail
      refine (enc_nil_as w6 w5.heap.size lb6 (cs.drop a) [] LB HPt.out.B L6.out (HSmall.out.leftD a)).mono ?_
      rintro e w7 ⟨g7, c7, rfl, b7, h7⟩
      have D7 : Hid (Below w5.heap.size w5 w7) := B6.out.trans (b7.mono B6.out.size)
      have BW7 : Hid (Below w.heap.size w w7) := BW5.out.trans (D7.out.mono BW5.out.size)
      have VB7 : Hid (Has w7 (.slice (some ⟨g7, 0, none⟩) LB.length c7) LB) := h7
      have HW7 : Hid (Has w7 (.slice (some ⟨g3, 0, none⟩) LW.length c3) LW) := HW5.out.keep D7.out
      have HP7 : Hid (Has w7 (.slice ap ps.length pc) ps) := HP5.out.keep D7.out
      have VA7 : Hid (Has w7 (.slice (some ⟨g5, 0, none⟩) LA.length c5) LA) := VA5.out.keep D7.out
      clear b7 h7 B6 L6 D7 BW5 HB runB HW5 HP5 VA5
      go_wp2_with fail
      refine (toLog_has w7 _ _ [] (es.take b) (HasC.nil _) (HC.out.keep BW7.out) (HSmall.out.right b)).mono ?_
      rintro e w8 ⟨lb8, rfl, b8, lg8⟩
      have B8 : Hid (Below w7.heap.size w7 w8) := b8
      have L8 : Hid (LogAt (fun b => w7.heap.size ≤ b ∧ b < w8.heap.size) w8 lb8 [] (es.take b)) := lg8
      clear b8 lg8
      go_wp2_with fail
      refine (enc_nil_as w8 w7.heap.size lb8 [] (es.take b) LC HPt.out.C L8.out (HSmall.out.right b)).mono ?_
      rintro e w9 ⟨g9, c9, rfl, b9, h9⟩
      have D9 : Hid (Below w7.heap.size w7 w9) := B8.out.trans (b9.mono B8.out.size)
      have BW9 : Hid (Below w.heap.size w w9) := BW7.out.trans (D9.out.mono BW7.out.size)
      have VC9 : Hid (Has w9 (.slice (some ⟨g9, 0, none⟩) LC.length c9) LC) := h9
      have HW9 : Hid (Has w9 (.slice (some ⟨g3, 0, none⟩) LW.length c3) LW) := HW7.out.keep D9.out
      have HP9 : Hid (Has w9 (.slice ap ps.length pc) ps) := HP7.out.keep D9.out
      have VA9 : Hid (Has w9 (.slice (some ⟨g5, 0, none⟩) LA.length c5) LA) := VA7.out.keep D9.out
      have VB9 : Hid (Has w9 (.slice (some ⟨g7, 0, none⟩) LB.length c7) LB) := VB7.out.keep D9.out
      clear b9 h9 B8 L8 D9 BW7 HC runC HW7 HP7 VA7 VB7
      go_wp2_with fail
      refine (toLog_has w9 _ _ [] (es.drop b) (HasC.nil _) (HD.out.keep BW9.out) (HSmall.out.rightD b)).mono ?_
      rintro e w10 ⟨lb10, rfl, b10, lg10⟩
      have B10 : Hid (Below w9.heap.size w9 w10) := b10
      have L10 : Hid (LogAt (fun b => w9.heap.size ≤ b ∧ b < w10.heap.size) w10 lb10 [] (es.drop b)) := lg10
      clear b10 lg10
      go_wp2_with fail
      refine (enc_nil_as w10 w9.heap.size lb10 [] (es.drop b) LD HPt.out.D L10.out (HSmall.out.rightD b)).mono ?_
      rintro e w11 ⟨g11, c11, rfl, b11, h11⟩
      have D11 : Hid (Below w9.heap.size w9 w11) := B10.out.trans (b11.mono B10.out.size)
      have BW11 : Hid (Below w.heap.size w w11) := BW9.out.trans (D11.out.mono BW9.out.size)
      have VD11 : Hid (Has w11 (.slice (some ⟨g11, 0, none⟩) LD.length c11) LD) := h11
      have HW11 : Hid (Has w11 (.slice (some ⟨g3, 0, none⟩) LW.length c3) LW) := HW9.out.keep D11.out
      have HP11 : Hid (Has w11 (.slice ap ps.length pc) ps) := HP9.out.keep D11.out
      have VA11 : Hid (Has w11 (.slice (some ⟨g5, 0, none⟩) LA.length c5) LA) := VA9.out.keep D11.out
      have VB11 : Hid (Has w11 (.slice (some ⟨g7, 0, none⟩) LB.length c7) LB) := VB9.out.keep D11.out
      have VC11 : Hid (Has w11 (.slice (some ⟨g9, 0, none⟩) LC.length c9) LC) := VC9.out.keep D11.out
      clear b11 h11 B10 L10 D11 BW9 HD runD HW9 HP9 VA9 VB9 VC9
      go_wp2_with fail
      refine (be32_has 0 w11 (by omega) (by omega)).mono ?_
      rintro e w12 ⟨o12, rfl, b12, h12⟩
      have BW12 : Hid (Below w.heap.size w w12) := BW11.out.trans (b12.mono BW11.out.size)
      have HW12 : Hid (Has w12 (.slice (some ⟨g3, 0, none⟩) LW.length c3) LW) := HW11.out.keep b12
      have HP12 : Hid (Has w12 (.slice ap ps.length pc) ps) := HP11.out.keep b12
      have VA12 : Hid (Has w12 (.slice (some ⟨g5, 0, none⟩) LA.length c5) LA) := VA11.out.keep b12
      have VB12 : Hid (Has w12 (.slice (some ⟨g7, 0, none⟩) LB.length c7) LB) := VB11.out.keep b12
      have VC12 : Hid (Has w12 (.slice (some ⟨g9, 0, none⟩) LC.length c9) LC) := VC11.out.keep b12
      have VD12 : Hid (Has w12 (.slice (some ⟨g11, 0, none⟩) LD.length c11) LD) := VD11.out.keep b12
      have Z12 : Hid (Has w12 (.slice o12 4 4) (be4 0)) := h12
      clear b12 h12 BW11 HW11 HP11 VA11 VB11 VC11 VD11
      obtain ⟨oA4, cA4, runA4, sA4⟩ := bcut_h VA12.out 4 4 rfl (by have := HlA.out.1; omega) 4 rfl _ HlA.out.2.1
      have KA412 : Hid (Has w12 (.slice oA4 4 cA4) (be4 (a : Int))) := sA4
      clear sA4
      obtain ⟨oA5, cA5, runA5, sA5⟩ := bcut_l VA12.out (LA.length - 4) ((LA.length : Int) - 4) (by have := HlA.out.1; omega) (by omega) 4 (by have := HlA.out.1; omega) _ HlA.out.2.2.1
      have KA512 : Hid (Has w12 (.slice oA5 4 cA5) (be4 0)) := sA5
      clear sA5
      have tok1 : True := trivial
      have tok2 : True := trivial
      have q1 : IntKind.u32.wrap (a : Int) = (a : Int) := wu32 (by omega) (by omega)
      have q2 : IntKind.i64.wrap ((LA.length : Int) - 4) = (LA.length : Int) - 4 := wi64 (by omega) (by omega)
      go_wp2_with fail
      go_region_held3 (fun _ => True) (trivial) (first | (go_at_call 19; have _t := tok1; refine (be32_has (a : Int) w12.drew (by omega) (by omega)).mono ?_; rintro e w13 ⟨o13, rfl, b13, h13⟩; have BW13 : Hid (Below w.heap.size w w13) := BW12.out.trans ((below_drew' b13).mono BW12.out.size); have HW13 : Hid (Has w13 (.slice (some ⟨g3, 0, none⟩) LW.length c3) LW) := HW12.out.keep (below_drew' b13); have HP13 : Hid (Has w13 (.slice ap ps.length pc) ps) := HP12.out.keep (below_drew' b13); have VA13 : Hid (Has w13 (.slice (some ⟨g5, 0, none⟩) LA.length c5) LA) := VA12.out.keep (below_drew' b13); have VB13 : Hid (Has w13 (.slice (some ⟨g7, 0, none⟩) LB.length c7) LB) := VB12.out.keep (below_drew' b13); have VC13 : Hid (Has w13 (.slice (some ⟨g9, 0, none⟩) LC.length c9) LC) := VC12.out.keep (below_drew' b13); have VD13 : Hid (Has w13 (.slice (some ⟨g11, 0, none⟩) LD.length c11) LD) := VD12.out.keep (below_drew' b13); have Z13 : Hid (Has w13 (.slice o12 4 4) (be4 0)) := Z12.out.keep (below_drew' b13); have KA413 : Hid (Has w13 (.slice oA4 4 cA4) (be4 (a : Int))) := KA412.out.keep (below_drew' b13); have KA513 : Hid (Has w13 (.slice oA5 4 cA5) (be4 0)) := KA512.out.keep (below_drew' b13); have Q13 : Hid (Has w13 (.slice o13 4 4) (be4 (a : Int))) := h13; clear b13 h13 BW12 HW12 HP12 VA12 VB12 VC12 VD12 Z12 KA412 KA512 tok1) | (go_at_call 13; have _t := tok2; refine (equal_has w13 _ _ _ _ KA413.out Q13.out rfl).mono ?_; rintro e w14 ⟨rfl, b14⟩; have BW14 : Hid (Below w.heap.size w w14) := BW13.out.trans (b14.mono BW13.out.size); have HW14 : Hid (Has w14 (.slice (some ⟨g3, 0, none⟩) LW.length c3) LW) := HW13.out.keep b14; have HP14 : Hid (Has w14 (.slice ap ps.length pc) ps) := HP13.out.keep b14; have VA14 : Hid (Has w14 (.slice (some ⟨g5, 0, none⟩) LA.length c5) LA) := VA13.out.keep b14; have VB14 : Hid (Has w14 (.slice (some ⟨g7, 0, none⟩) LB.length c7) LB) := VB13.out.keep b14; have VC14 : Hid (Has w14 (.slice (some ⟨g9, 0, none⟩) LC.length c9) LC) := VC13.out.keep b14; have VD14 : Hid (Has w14 (.slice (some ⟨g11, 0, none⟩) LD.length c11) LD) := VD13.out.keep b14; have Z14 : Hid (Has w14 (.slice o12 4 4) (be4 0)) := Z13.out.keep b14; have KA414 : Hid (Has w14 (.slice oA4 4 cA4) (be4 (a : Int))) := KA413.out.keep b14; have KA514 : Hid (Has w14 (.slice oA5 4 cA5) (be4 0)) := KA513.out.keep b14; have Q14 : Hid (Has w14 (.slice o13 4 4) (be4 (a : Int))) := Q13.out.keep b14; clear b14 BW13 HW13 HP13 VA13 VB13 VC13 VD13 Z13 KA413 KA513 Q13 tok2) | (go_at_call 13; refine (equal_has w14 _ _ _ _ KA514.out Z14.out rfl).mono ?_; rintro e w15 ⟨rfl, b15⟩; have BW15 : Hid (Below w.heap.size w w15) := BW14.out.trans (b15.mono BW14.out.size); have HW15 : Hid (Has w15 (.slice (some ⟨g3, 0, none⟩) LW.length c3) LW) := HW14.out.keep b15; have HP15 : Hid (Has w15 (.slice ap ps.length pc) ps) := HP14.out.keep b15; have VA15 : Hid (Has w15 (.slice (some ⟨g5, 0, none⟩) LA.length c5) LA) := VA14.out.keep b15; have VB15 : Hid (Has w15 (.slice (some ⟨g7, 0, none⟩) LB.length c7) LB) := VB14.out.keep b15; have VC15 : Hid (Has w15 (.slice (some ⟨g9, 0, none⟩) LC.length c9) LC) := VC14.out.keep b15; have VD15 : Hid (Has w15 (.slice (some ⟨g11, 0, none⟩) LD.length c11) LD) := VD14.out.keep b15; have Z15 : Hid (Has w15 (.slice o12 4 4) (be4 0)) := Z14.out.keep b15; have KA415 : Hid (Has w15 (.slice oA4 4 cA4) (be4 (a : Int))) := KA414.out.keep b15; have KA515 : Hid (Has w15 (.slice oA5 4 cA5) (be4 0)) := KA514.out.keep b15; have Q15 : Hid (Has w15 (.slice o13 4 4) (be4 (a : Int))) := Q14.out.keep b15; clear b15 BW14 HW14 HP14 VA14 VB14 VC14 VD14 Z14 KA414 KA514 Q14))
      clear KA415 KA515 Q15
      clear runA4 runA5 q1 q2
      obtain ⟨oB4, cB4, runB4, sB4⟩ := bcut_h VB15.out 4 4 rfl (by have := HlB.out.1; omega) 4 rfl _ HlB.out.2.1
      have KB415 : Hid (Has w15 (.slice oB4 4 cB4) (be4 ((cs.length : Int) - (a : Int)))) := sB4
      clear sB4
      obtain ⟨oB5, cB5, runB5, sB5⟩ := bcut_l VB15.out (LB.length - 4) ((LB.length : Int) - 4) (by have := HlB.out.1; omega) (by omega) 4 (by have := HlB.out.1; omega) _ HlB.out.2.2.1
      have KB515 : Hid (Has w15 (.slice oB5 4 cB5) (be4 0)) := sB5
      clear sB5
      have tok1 : True := trivial
      have tok2 : True := trivial
      have q1 : IntKind.u32.wrap ((cs.length : Int) - (a : Int)) = ((cs.length : Int) - (a : Int)) := wu32 (by omega) (by omega)
      have q2 : IntKind.i64.wrap ((LB.length : Int) - 4) = (LB.length : Int) - 4 := wi64 (by omega) (by omega)
      have q3 : IntKind.i64.wrap ((cs.length : Int) - (a : Int)) = ((cs.length : Int) - (a : Int)) := wi64 (by omega) (by omega)
      go_wp2_with fail
      go_region_held3 (fun _ => True) (trivial) (first | (go_at_call 19; have _t := tok1; refine (be32_has ((cs.length : Int) - (a : Int)) w15.drew (by omega) (by omega)).mono ?_; rintro e w16 ⟨o16, rfl, b16, h16⟩; have BW16 : Hid (Below w.heap.size w w16) := BW15.out.trans ((below_drew' b16).mono BW15.out.size); have HW16 : Hid (Has w16 (.slice (some ⟨g3, 0, none⟩) LW.length c3) LW) := HW15.out.keep (below_drew' b16); have HP16 : Hid (Has w16 (.slice ap ps.length pc) ps) := HP15.out.keep (below_drew' b16); have VA16 : Hid (Has w16 (.slice (some ⟨g5, 0, none⟩) LA.length c5) LA) := VA15.out.keep (below_drew' b16); have VB16 : Hid (Has w16 (.slice (some ⟨g7, 0, none⟩) LB.length c7) LB) := VB15.out.keep (below_drew' b16); have VC16 : Hid (Has w16 (.slice (some ⟨g9, 0, none⟩) LC.length c9) LC) := VC15.out.keep (below_drew' b16); have VD16 : Hid (Has w16 (.slice (some ⟨g11, 0, none⟩) LD.length c11) LD) := VD15.out.keep (below_drew' b16); have Z16 : Hid (Has w16 (.slice o12 4 4) (be4 0)) := Z15.out.keep (below_drew' b16); have KB416 : Hid (Has w16 (.slice oB4 4 cB4) (be4 ((cs.length : Int) - (a : Int)))) := KB415.out.keep (below_drew' b16); have KB516 : Hid (Has w16 (.slice oB5 4 cB5) (be4 0)) := KB515.out.keep (below_drew' b16); have Q16 : Hid (Has w16 (.slice o16 4 4) (be4 ((cs.length : Int) - (a : Int)))) := h16; clear b16 h16 BW15 HW15 HP15 VA15 VB15 VC15 VD15 Z15 KB415 KB515 tok1) | (go_at_call 13; have _t := tok2; refine (equal_has w16 _ _ _ _ KB416.out Q16.out rfl).mono ?_; rintro e w17 ⟨rfl, b17⟩; have BW17 : Hid (Below w.heap.size w w17) := BW16.out.trans (b17.mono BW16.out.size); have HW17 : Hid (Has w17 (.slice (some ⟨g3, 0, none⟩) LW.length c3) LW) := HW16.out.keep b17; have HP17 : Hid (Has w17 (.slice ap ps.length pc) ps) := HP16.out.keep b17; have VA17 : Hid (Has w17 (.slice (some ⟨g5, 0, none⟩) LA.length c5) LA) := VA16.out.keep b17; have VB17 : Hid (Has w17 (.slice (some ⟨g7, 0, none⟩) LB.length c7) LB) := VB16.out.keep b17; have VC17 : Hid (Has w17 (.slice (some ⟨g9, 0, none⟩) LC.length c9) LC) := VC16.out.keep b17; have VD17 : Hid (Has w17 (.slice (some ⟨g11, 0, none⟩) LD.length c11) LD) := VD16.out.keep b17; have Z17 : Hid (Has w17 (.slice o12 4 4) (be4 0)) := Z16.out.keep b17; have KB417 : Hid (Has w17 (.slice oB4 4 cB4) (be4 ((cs.length : Int) - (a : Int)))) := KB416.out.keep b17; have KB517 : Hid (Has w17 (.slice oB5 4 cB5) (be4 0)) := KB516.out.keep b17; have Q17 : Hid (Has w17 (.slice o16 4 4) (be4 ((cs.length : Int) - (a : Int)))) := Q16.out.keep b17; clear b17 BW16 HW16 HP16 VA16 VB16 VC16 VD16 Z16 KB416 KB516 Q16 tok2) | (go_at_call 13; refine (equal_has w17 _ _ _ _ KB517.out Z17.out rfl).mono ?_; rintro e w18 ⟨rfl, b18⟩; have BW18 : Hid (Below w.heap.size w w18) := BW17.out.trans (b18.mono BW17.out.size); have HW18 : Hid (Has w18 (.slice (some ⟨g3, 0, none⟩) LW.length c3) LW) := HW17.out.keep b18; have HP18 : Hid (Has w18 (.slice ap ps.length pc) ps) := HP17.out.keep b18; have VA18 : Hid (Has w18 (.slice (some ⟨g5, 0, none⟩) LA.length c5) LA) := VA17.out.keep b18; have VB18 : Hid (Has w18 (.slice (some ⟨g7, 0, none⟩) LB.length c7) LB) := VB17.out.keep b18; have VC18 : Hid (Has w18 (.slice (some ⟨g9, 0, none⟩) LC.length c9) LC) := VC17.out.keep b18; have VD18 : Hid (Has w18 (.slice (some ⟨g11, 0, none⟩) LD.length c11) LD) := VD17.out.keep b18; have Z18 : Hid (Has w18 (.slice o12 4 4) (be4 0)) := Z17.out.keep b18; have KB418 : Hid (Has w18 (.slice oB4 4 cB4) (be4 ((cs.length : Int) - (a : Int)))) := KB417.out.keep b18; have KB518 : Hid (Has w18 (.slice oB5 4 cB5) (be4 0)) := KB517.out.keep b18; have Q18 : Hid (Has w18 (.slice o16 4 4) (be4 ((cs.length : Int) - (a : Int)))) := Q17.out.keep b18; clear b18 BW17 HW17 HP17 VA17 VB17 VC17 VD17 Z17 KB417 KB517 Q17))
      clear KB418 KB518 Q18
      clear runB4 runB5 q1 q2 q3
      obtain ⟨oC4, cC4, runC4, sC4⟩ := bcut_h VC18.out 4 4 rfl (by have := HlC.out.1; omega) 4 rfl _ HlC.out.2.1
      have KC418 : Hid (Has w18 (.slice oC4 4 cC4) (be4 0)) := sC4
      clear sC4
      obtain ⟨oC5, cC5, runC5, sC5⟩ := bcut_lh VC18.out 4 8 4 8 rfl rfl (by omega) HlC.out.1 4 rfl _ HlC.out.2.2.1
      have KC518 : Hid (Has w18 (.slice oC5 4 cC5) (be4 (b : Int))) := sC5
      clear sC5
      have tok1 : True := trivial
      have q1 : IntKind.u32.wrap (b : Int) = (b : Int) := wu32 (by omega) (by omega)
      go_wp2_with fail
      go_region_held3 (fun _ => True) (trivial) (first | (go_at_call 13; have _t := tok1; refine (equal_has w18.drew _ _ _ _ KC418.out Z18.out rfl).mono ?_; rintro e w19 ⟨rfl, b19⟩; have BW19 : Hid (Below w.heap.size w w19) := BW18.out.trans ((below_drew' b19).mono BW18.out.size); have HW19 : Hid (Has w19 (.slice (some ⟨g3, 0, none⟩) LW.length c3) LW) := HW18.out.keep (below_drew' b19); have HP19 : Hid (Has w19 (.slice ap ps.length pc) ps) := HP18.out.keep (below_drew' b19); have VA19 : Hid (Has w19 (.slice (some ⟨g5, 0, none⟩) LA.length c5) LA) := VA18.out.keep (below_drew' b19); have VB19 : Hid (Has w19 (.slice (some ⟨g7, 0, none⟩) LB.length c7) LB) := VB18.out.keep (below_drew' b19); have VC19 : Hid (Has w19 (.slice (some ⟨g9, 0, none⟩) LC.length c9) LC) := VC18.out.keep (below_drew' b19); have VD19 : Hid (Has w19 (.slice (some ⟨g11, 0, none⟩) LD.length c11) LD) := VD18.out.keep (below_drew' b19); have Z19 : Hid (Has w19 (.slice o12 4 4) (be4 0)) := Z18.out.keep (below_drew' b19); have KC419 : Hid (Has w19 (.slice oC4 4 cC4) (be4 0)) := KC418.out.keep (below_drew' b19); have KC519 : Hid (Has w19 (.slice oC5 4 cC5) (be4 (b : Int))) := KC518.out.keep (below_drew' b19); clear b19 BW18 HW18 HP18 VA18 VB18 VC18 VD18 Z18 KC418 KC518 tok1) | (go_at_call 19; refine (be32_has (b : Int) w19 (by omega) (by omega)).mono ?_; rintro e w20 ⟨o20, rfl, b20, h20⟩; have BW20 : Hid (Below w.heap.size w w20) := BW19.out.trans (b20.mono BW19.out.size); have HW20 : Hid (Has w20 (.slice (some ⟨g3, 0, none⟩) LW.length c3) LW) := HW19.out.keep b20; have HP20 : Hid (Has w20 (.slice ap ps.length pc) ps) := HP19.out.keep b20; have VA20 : Hid (Has w20 (.slice (some ⟨g5, 0, none⟩) LA.length c5) LA) := VA19.out.keep b20; have VB20 : Hid (Has w20 (.slice (some ⟨g7, 0, none⟩) LB.length c7) LB) := VB19.out.keep b20; have VC20 : Hid (Has w20 (.slice (some ⟨g9, 0, none⟩) LC.length c9) LC) := VC19.out.keep b20; have VD20 : Hid (Has w20 (.slice (some ⟨g11, 0, none⟩) LD.length c11) LD) := VD19.out.keep b20; have Z20 : Hid (Has w20 (.slice o12 4 4) (be4 0)) := Z19.out.keep b20; have KC420 : Hid (Has w20 (.slice oC4 4 cC4) (be4 0)) := KC419.out.keep b20; have KC520 : Hid (Has w20 (.slice oC5 4 cC5) (be4 (b : Int))) := KC519.out.keep b20; have Q20 : Hid (Has w20 (.slice o20 4 4) (be4 (b : Int))) := h20; clear b20 h20 BW19 HW19 HP19 VA19 VB19 VC19 VD19 Z19 KC419 KC519) | (go_at_call 13; refine (equal_has w20 _ _ _ _ KC520.out Q20.out rfl).mono ?_; rintro e w21 ⟨rfl, b21⟩; have BW21 : Hid (Below w.heap.size w w21) := BW20.out.trans (b21.mono BW20.out.size); have HW21 : Hid (Has w21 (.slice (some ⟨g3, 0, none⟩) LW.length c3) LW) := HW20.out.keep b21; have HP21 : Hid (Has w21 (.slice ap ps.length pc) ps) := HP20.out.keep b21; have VA21 : Hid (Has w21 (.slice (some ⟨g5, 0, none⟩) LA.length c5) LA) := VA20.out.keep b21; have VB21 : Hid (Has w21 (.slice (some ⟨g7, 0, none⟩) LB.length c7) LB) := VB20.out.keep b21; have VC21 : Hid (Has w21 (.slice (some ⟨g9, 0, none⟩) LC.length c9) LC) := VC20.out.keep b21; have VD21 : Hid (Has w21 (.slice (some ⟨g11, 0, none⟩) LD.length c11) LD) := VD20.out.keep b21; have Z21 : Hid (Has w21 (.slice o12 4 4) (be4 0)) := Z20.out.keep b21; have KC421 : Hid (Has w21 (.slice oC4 4 cC4) (be4 0)) := KC420.out.keep b21; have KC521 : Hid (Has w21 (.slice oC5 4 cC5) (be4 (b : Int))) := KC520.out.keep b21; have Q21 : Hid (Has w21 (.slice o20 4 4) (be4 (b : Int))) := Q20.out.keep b21; clear b21 BW20 HW20 HP20 VA20 VB20 VC20 VD20 Z20 KC420 KC520 Q20))
      clear KC421 KC521 Q21
      clear runC4 runC5 q1
      obtain ⟨oD4, cD4, runD4, sD4⟩ := bcut_h VD21.out 4 4 rfl (by have := HlD.out.1; omega) 4 rfl _ HlD.out.2.1
      have KD421 : Hid (Has w21 (.slice oD4 4 cD4) (be4 0)) := sD4
      clear sD4
      obtain ⟨oD5, cD5, runD5, sD5⟩ := bcut_lh VD21.out 4 8 4 8 rfl rfl (by omega) HlD.out.1 4 rfl _ HlD.out.2.2.1
      have KD521 : Hid (Has w21 (.slice oD5 4 cD5) (be4 ((es.length : Int) - (b : Int)))) := sD5
      clear sD5
      have tok1 : True := trivial
      have q1 : IntKind.u32.wrap ((es.length : Int) - (b : Int)) = ((es.length : Int) - (b : Int)) := wu32 (by omega) (by omega)
      have q3 : IntKind.i64.wrap ((es.length : Int) - (b : Int)) = ((es.length : Int) - (b : Int)) := wi64 (by omega) (by omega)
      go_wp2_with fail
      go_region_held3 (fun _ => True) (trivial) (first | (go_at_call 13; have _t := tok1; refine (equal_has w21.drew _ _ _ _ KD421.out Z21.out rfl).mono ?_; rintro e w22 ⟨rfl, b22⟩; have BW22 : Hid (Below w.heap.size w w22) := BW21.out.trans ((below_drew' b22).mono BW21.out.size); have HW22 : Hid (Has w22 (.slice (some ⟨g3, 0, none⟩) LW.length c3) LW) := HW21.out.keep (below_drew' b22); have HP22 : Hid (Has w22 (.slice ap ps.length pc) ps) := HP21.out.keep (below_drew' b22); have VA22 : Hid (Has w22 (.slice (some ⟨g5, 0, none⟩) LA.length c5) LA) := VA21.out.keep (below_drew' b22); have VB22 : Hid (Has w22 (.slice (some ⟨g7, 0, none⟩) LB.length c7) LB) := VB21.out.keep (below_drew' b22); have VC22 : Hid (Has w22 (.slice (some ⟨g9, 0, none⟩) LC.length c9) LC) := VC21.out.keep (below_drew' b22); have VD22 : Hid (Has w22 (.slice (some ⟨g11, 0, none⟩) LD.length c11) LD) := VD21.out.keep (below_drew' b22); have Z22 : Hid (Has w22 (.slice o12 4 4) (be4 0)) := Z21.out.keep (below_drew' b22); have KD422 : Hid (Has w22 (.slice oD4 4 cD4) (be4 0)) := KD421.out.keep (below_drew' b22); have KD522 : Hid (Has w22 (.slice oD5 4 cD5) (be4 ((es.length : Int) - (b : Int)))) := KD521.out.keep (below_drew' b22); clear b22 BW21 HW21 HP21 VA21 VB21 VC21 VD21 Z21 KD421 KD521 tok1) | (go_at_call 19; refine (be32_has ((es.length : Int) - (b : Int)) w22 (by omega) (by omega)).mono ?_; rintro e w23 ⟨o23, rfl, b23, h23⟩; have BW23 : Hid (Below w.heap.size w w23) := BW22.out.trans (b23.mono BW22.out.size); have HW23 : Hid (Has w23 (.slice (some ⟨g3, 0, none⟩) LW.length c3) LW) := HW22.out.keep b23; have HP23 : Hid (Has w23 (.slice ap ps.length pc) ps) := HP22.out.keep b23; have VA23 : Hid (Has w23 (.slice (some ⟨g5, 0, none⟩) LA.length c5) LA) := VA22.out.keep b23; have VB23 : Hid (Has w23 (.slice (some ⟨g7, 0, none⟩) LB.length c7) LB) := VB22.out.keep b23; have VC23 : Hid (Has w23 (.slice (some ⟨g9, 0, none⟩) LC.length c9) LC) := VC22.out.keep b23; have VD23 : Hid (Has w23 (.slice (some ⟨g11, 0, none⟩) LD.length c11) LD) := VD22.out.keep b23; have Z23 : Hid (Has w23 (.slice o12 4 4) (be4 0)) := Z22.out.keep b23; have KD423 : Hid (Has w23 (.slice oD4 4 cD4) (be4 0)) := KD422.out.keep b23; have KD523 : Hid (Has w23 (.slice oD5 4 cD5) (be4 ((es.length : Int) - (b : Int)))) := KD522.out.keep b23; have Q23 : Hid (Has w23 (.slice o23 4 4) (be4 ((es.length : Int) - (b : Int)))) := h23; clear b23 h23 BW22 HW22 HP22 VA22 VB22 VC22 VD22 Z22 KD422 KD522) | (go_at_call 13; refine (equal_has w23 _ _ _ _ KD523.out Q23.out rfl).mono ?_; rintro e w24 ⟨rfl, b24⟩; have BW24 : Hid (Below w.heap.size w w24) := BW23.out.trans (b24.mono BW23.out.size); have HW24 : Hid (Has w24 (.slice (some ⟨g3, 0, none⟩) LW.length c3) LW) := HW23.out.keep b24; have HP24 : Hid (Has w24 (.slice ap ps.length pc) ps) := HP23.out.keep b24; have VA24 : Hid (Has w24 (.slice (some ⟨g5, 0, none⟩) LA.length c5) LA) := VA23.out.keep b24; have VB24 : Hid (Has w24 (.slice (some ⟨g7, 0, none⟩) LB.length c7) LB) := VB23.out.keep b24; have VC24 : Hid (Has w24 (.slice (some ⟨g9, 0, none⟩) LC.length c9) LC) := VC23.out.keep b24; have VD24 : Hid (Has w24 (.slice (some ⟨g11, 0, none⟩) LD.length c11) LD) := VD23.out.keep b24; have Z24 : Hid (Has w24 (.slice o12 4 4) (be4 0)) := Z23.out.keep b24; have KD424 : Hid (Has w24 (.slice oD4 4 cD4) (be4 0)) := KD423.out.keep b24; have KD524 : Hid (Has w24 (.slice oD5 4 cD5) (be4 ((es.length : Int) - (b : Int)))) := KD523.out.keep b24; have Q24 : Hid (Has w24 (.slice o23 4 4) (be4 ((es.length : Int) - (b : Int)))) := Q23.out.keep b24; clear b24 BW23 HW23 HP23 VA23 VB23 VC23 VD23 Z23 KD423 KD523 Q23))
      clear KD424 KD524 Q24
      clear runD4 runD5 q1 q3
      obtain ⟨M1, M2, M3, M4, M5, hWt⟩ : ∃ M1 M2 M3 M4 M5, Wants ps (encCps (cs.take a)) (encCps (cs.drop a)) (encEns (es.take b)) (encEns (es.drop b)) (cs.length : Int) (es.length : Int) M1 M2 M3 M4 M5 LW := wants_of HFin.out HLW.out
      have HWt : Hid (Wants ps (encCps (cs.take a)) (encCps (cs.drop a)) (encEns (es.take b)) (encEns (es.drop b)) (cs.length : Int) (es.length : Int) M1 M2 M3 M4 M5 LW) := hWt
      clear hWt HFin
      go_wp2_with fail
      refine (be32_has (cs.length : Int) w24 (by omega) (by omega)).mono ?_
      rintro e w25 ⟨o25, rfl, b25, h25⟩
      have BW25 : Hid (Below w.heap.size w w25) := BW24.out.trans (b25.mono BW24.out.size)
      have HW25 : Hid (Has w25 (.slice (some ⟨g3, 0, none⟩) LW.length c3) LW) := HW24.out.keep b25
      have HP25 : Hid (Has w25 (.slice ap ps.length pc) ps) := HP24.out.keep b25
      have VA25 : Hid (Has w25 (.slice (some ⟨g5, 0, none⟩) LA.length c5) LA) := VA24.out.keep b25
      have VB25 : Hid (Has w25 (.slice (some ⟨g7, 0, none⟩) LB.length c7) LB) := VB24.out.keep b25
      have VC25 : Hid (Has w25 (.slice (some ⟨g9, 0, none⟩) LC.length c9) LC) := VC24.out.keep b25
      have VD25 : Hid (Has w25 (.slice (some ⟨g11, 0, none⟩) LD.length c11) LD) := VD24.out.keep b25
      have Z25 : Hid (Has w25 (.slice o12 4 4) (be4 0)) := Z24.out.keep b25
      have Q25 : Hid (Has w25 (.slice o25 4 4) (be4 (cs.length : Int))) := h25
      clear b25 h25 BW24 HW24 HP24 VA24 VB24 VC24 VD24 Z24
      go_wp2_with fail
      refine (concat_as w25 _ _ ps _ M1 HWt.out.m1 HP25.out Q25.out HWt.out.l0 (by simp [be4])).mono ?_
      rintro e w26 ⟨o26, c26, rfl, b26, h26⟩
      have BW26 : Hid (Below w.heap.size w w26) := BW25.out.trans (b26.mono BW25.out.size)
      have HW26 : Hid (Has w26 (.slice (some ⟨g3, 0, none⟩) LW.length c3) LW) := HW25.out.keep b26
      have HP26 : Hid (Has w26 (.slice ap ps.length pc) ps) := HP25.out.keep b26
      have VA26 : Hid (Has w26 (.slice (some ⟨g5, 0, none⟩) LA.length c5) LA) := VA25.out.keep b26
      have VB26 : Hid (Has w26 (.slice (some ⟨g7, 0, none⟩) LB.length c7) LB) := VB25.out.keep b26
      have VC26 : Hid (Has w26 (.slice (some ⟨g9, 0, none⟩) LC.length c9) LC) := VC25.out.keep b26
      have VD26 : Hid (Has w26 (.slice (some ⟨g11, 0, none⟩) LD.length c11) LD) := VD25.out.keep b26
      have Z26 : Hid (Has w26 (.slice o12 4 4) (be4 0)) := Z25.out.keep b26
      have Q26 : Hid (Has w26 (.slice o25 4 4) (be4 (cs.length : Int))) := Q25.out.keep b26
      have N26 : Hid (Has w26 (.slice o26 M1.length c26) M1) := h26
      clear b26 h26 BW25 HW25 HP25 VA25 VB25 VC25 VD25 Z25 Q25
      clear HP26 Q26
      obtain ⟨mA, hmAx⟩ : ∃ m, LA.length - 4 - 4 = m := ⟨_, rfl⟩
      obtain ⟨oA6, cA6, runA6, sA6⟩ := bcut_lh VA26.out 4 (LA.length - 4) 4 ((LA.length : Int) - 4) rfl (by have := HlA.out.1; omega) (by have := HlA.out.1; omega) (by omega) mA hmAx _ HlA.out.2.2.2
      have KA626 : Hid (Has w26 (.slice oA6 mA cA6) (encCps (cs.take a))) := sA6
      clear sA6
      clear hmAx
      go_wp2_with fail
      refine (concat_as w26 _ _ M1 _ M2 HWt.out.m2 N26.out KA626.out HWt.out.l1 HWt.out.k2).mono ?_
      rintro e w27 ⟨o27, c27, rfl, b27, h27⟩
      have BW27 : Hid (Below w.heap.size w w27) := BW26.out.trans (b27.mono BW26.out.size)
      have HW27 : Hid (Has w27 (.slice (some ⟨g3, 0, none⟩) LW.length c3) LW) := HW26.out.keep b27
      have VA27 : Hid (Has w27 (.slice (some ⟨g5, 0, none⟩) LA.length c5) LA) := VA26.out.keep b27
      have VB27 : Hid (Has w27 (.slice (some ⟨g7, 0, none⟩) LB.length c7) LB) := VB26.out.keep b27
      have VC27 : Hid (Has w27 (.slice (some ⟨g9, 0, none⟩) LC.length c9) LC) := VC26.out.keep b27
      have VD27 : Hid (Has w27 (.slice (some ⟨g11, 0, none⟩) LD.length c11) LD) := VD26.out.keep b27
      have Z27 : Hid (Has w27 (.slice o12 4 4) (be4 0)) := Z26.out.keep b27
      have N27 : Hid (Has w27 (.slice o26 M1.length c26) M1) := N26.out.keep b27
      have KA627 : Hid (Has w27 (.slice oA6 mA cA6) (encCps (cs.take a))) := KA626.out.keep b27
      have NN27 : Hid (Has w27 (.slice o27 M2.length c27) M2) := h27
      clear b27 h27 BW26 HW26 VA26 VB26 VC26 VD26 Z26 N26 KA626
      clear VA27 N27 KA627
      have N27 := NN27
      clear NN27 runA6
      obtain ⟨mB, hmBx⟩ : ∃ m, LB.length - 4 - 4 = m := ⟨_, rfl⟩
      obtain ⟨oB6, cB6, runB6, sB6⟩ := bcut_lh VB27.out 4 (LB.length - 4) 4 ((LB.length : Int) - 4) rfl (by have := HlB.out.1; omega) (by have := HlB.out.1; omega) (by omega) mB hmBx _ HlB.out.2.2.2
      have KB627 : Hid (Has w27 (.slice oB6 mB cB6) (encCps (cs.drop a))) := sB6
      clear sB6
      clear hmBx
      go_wp2_with fail
      refine (concat_as w27 _ _ M2 _ M3 HWt.out.m3 N27.out KB627.out HWt.out.l2 HWt.out.k3).mono ?_
      rintro e w28 ⟨o28, c28, rfl, b28, h28⟩
      have BW28 : Hid (Below w.heap.size w w28) := BW27.out.trans (b28.mono BW27.out.size)
      have HW28 : Hid (Has w28 (.slice (some ⟨g3, 0, none⟩) LW.length c3) LW) := HW27.out.keep b28
      have VB28 : Hid (Has w28 (.slice (some ⟨g7, 0, none⟩) LB.length c7) LB) := VB27.out.keep b28
      have VC28 : Hid (Has w28 (.slice (some ⟨g9, 0, none⟩) LC.length c9) LC) := VC27.out.keep b28
      have VD28 : Hid (Has w28 (.slice (some ⟨g11, 0, none⟩) LD.length c11) LD) := VD27.out.keep b28
      have Z28 : Hid (Has w28 (.slice o12 4 4) (be4 0)) := Z27.out.keep b28
      have N28 : Hid (Has w28 (.slice o27 M2.length c27) M2) := N27.out.keep b28
      have KB628 : Hid (Has w28 (.slice oB6 mB cB6) (encCps (cs.drop a))) := KB627.out.keep b28
      have NN28 : Hid (Has w28 (.slice o28 M3.length c28) M3) := h28
      clear b28 h28 BW27 HW27 VB27 VC27 VD27 Z27 N27 KB627
      clear VB28 N28 KB628
      have N28 := NN28
      clear NN28 runB6
      go_wp2_with fail
      refine (be32_has (es.length : Int) w28 (by omega) (by omega)).mono ?_
      rintro e w29 ⟨o29, rfl, b29, h29⟩
      have BW29 : Hid (Below w.heap.size w w29) := BW28.out.trans (b29.mono BW28.out.size)
      have HW29 : Hid (Has w29 (.slice (some ⟨g3, 0, none⟩) LW.length c3) LW) := HW28.out.keep b29
      have VC29 : Hid (Has w29 (.slice (some ⟨g9, 0, none⟩) LC.length c9) LC) := VC28.out.keep b29
      have VD29 : Hid (Has w29 (.slice (some ⟨g11, 0, none⟩) LD.length c11) LD) := VD28.out.keep b29
      have Z29 : Hid (Has w29 (.slice o12 4 4) (be4 0)) := Z28.out.keep b29
      have N29 : Hid (Has w29 (.slice o28 M3.length c28) M3) := N28.out.keep b29
      have Q29 : Hid (Has w29 (.slice o29 4 4) (be4 (es.length : Int))) := h29
      clear b29 h29 BW28 HW28 VC28 VD28 Z28 N28
      go_wp2_with fail
      refine (concat_as w29 _ _ M3 _ M4 HWt.out.m4 N29.out Q29.out HWt.out.l3 (by simp [be4])).mono ?_
      rintro e w30 ⟨o30, c30, rfl, b30, h30⟩
      have BW30 : Hid (Below w.heap.size w w30) := BW29.out.trans (b30.mono BW29.out.size)
      have HW30 : Hid (Has w30 (.slice (some ⟨g3, 0, none⟩) LW.length c3) LW) := HW29.out.keep b30
      have VC30 : Hid (Has w30 (.slice (some ⟨g9, 0, none⟩) LC.length c9) LC) := VC29.out.keep b30
      have VD30 : Hid (Has w30 (.slice (some ⟨g11, 0, none⟩) LD.length c11) LD) := VD29.out.keep b30
      have Z30 : Hid (Has w30 (.slice o12 4 4) (be4 0)) := Z29.out.keep b30
      have N30 : Hid (Has w30 (.slice o28 M3.length c28) M3) := N29.out.keep b30
      have Q30 : Hid (Has w30 (.slice o29 4 4) (be4 (es.length : Int))) := Q29.out.keep b30
      have NN30 : Hid (Has w30 (.slice o30 M4.length c30) M4) := h30
      clear b30 h30 BW29 HW29 VC29 VD29 Z29 N29 Q29
      clear N30 Q30
      have N30 := NN30
      clear NN30
      obtain ⟨mC, hmCx⟩ : ∃ m, LC.length - 8 = m := ⟨_, rfl⟩
      obtain ⟨oC6, cC6, runC6, sC6⟩ := bcut_l VC30.out 8 8 rfl HlC.out.1 mC hmCx _ HlC.out.2.2.2
      have KC630 : Hid (Has w30 (.slice oC6 mC cC6) (encEns (es.take b))) := sC6
      clear sC6
      clear hmCx
      go_wp2_with fail
      refine (concat_as w30 _ _ M4 _ M5 HWt.out.m5 N30.out KC630.out HWt.out.l4 HWt.out.k5).mono ?_
      rintro e w31 ⟨o31, c31, rfl, b31, h31⟩
      have BW31 : Hid (Below w.heap.size w w31) := BW30.out.trans (b31.mono BW30.out.size)
      have HW31 : Hid (Has w31 (.slice (some ⟨g3, 0, none⟩) LW.length c3) LW) := HW30.out.keep b31
      have VC31 : Hid (Has w31 (.slice (some ⟨g9, 0, none⟩) LC.length c9) LC) := VC30.out.keep b31
      have VD31 : Hid (Has w31 (.slice (some ⟨g11, 0, none⟩) LD.length c11) LD) := VD30.out.keep b31
      have Z31 : Hid (Has w31 (.slice o12 4 4) (be4 0)) := Z30.out.keep b31
      have N31 : Hid (Has w31 (.slice o30 M4.length c30) M4) := N30.out.keep b31
      have KC631 : Hid (Has w31 (.slice oC6 mC cC6) (encEns (es.take b))) := KC630.out.keep b31
      have NN31 : Hid (Has w31 (.slice o31 M5.length c31) M5) := h31
      clear b31 h31 BW30 HW30 VC30 VD30 Z30 N30 KC630
      clear VC31 N31 KC631
      have N31 := NN31
      clear NN31 runC6
      obtain ⟨mD, hmDx⟩ : ∃ m, LD.length - 8 = m := ⟨_, rfl⟩
      obtain ⟨oD6, cD6, runD6, sD6⟩ := bcut_l VD31.out 8 8 rfl HlD.out.1 mD hmDx _ HlD.out.2.2.2
      have KD631 : Hid (Has w31 (.slice oD6 mD cD6) (encEns (es.drop b))) := sD6
      clear sD6
      clear hmDx
      go_wp2_with fail
      refine (concat_as w31 _ _ M5 _ LW HWt.out.m6 N31.out KD631.out HWt.out.l5 HWt.out.k6).mono ?_
      rintro e w32 ⟨o32, c32, rfl, b32, h32⟩
      have BW32 : Hid (Below w.heap.size w w32) := BW31.out.trans (b32.mono BW31.out.size)
      have HW32 : Hid (Has w32 (.slice (some ⟨g3, 0, none⟩) LW.length c3) LW) := HW31.out.keep b32
      have VD32 : Hid (Has w32 (.slice (some ⟨g11, 0, none⟩) LD.length c11) LD) := VD31.out.keep b32
      have Z32 : Hid (Has w32 (.slice o12 4 4) (be4 0)) := Z31.out.keep b32
      have N32 : Hid (Has w32 (.slice o31 M5.length c31) M5) := N31.out.keep b32
      have KD632 : Hid (Has w32 (.slice oD6 mD cD6) (encEns (es.drop b))) := KD631.out.keep b32
      have NN32 : Hid (Has w32 (.slice o32 LW.length c32) LW) := h32
      clear b32 h32 BW31 HW31 VD31 Z31 N31 KD631
      clear VD32 N32 KD632
      have N32 := NN32
      clear NN32 runD6
      go_wp2_with fail
      refine (equal_has w32 _ _ _ _ HW32.out N32.out rfl).mono ?_
      rintro e w33 ⟨rfl, b33⟩
      have BW33 : Hid (Below w.heap.size w w33) := BW32.out.trans (b33.mono BW32.out.size)
      have HW33 : Hid (Has w33 (.slice (some ⟨g3, 0, none⟩) LW.length c3) LW) := HW32.out.keep b33
      have Z33 : Hid (Has w33 (.slice o12 4 4) (be4 0)) := Z32.out.keep b33
      have N33 : Hid (Has w33 (.slice o32 LW.length c32) LW) := N32.out.keep b33
      clear b33 BW32 HW32 Z32 N32
      go_wp2
      go_ret
      exact ⟨rfl, BW33.out⟩
end Go.Proofs.Qxb6616889a
