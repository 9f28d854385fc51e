/-
  toLog: the walks. By an AI agent.
-/
import Derived.Test.Qxb6616889aToLogA
import Derived.WalkKit
import Derived.WalkSpells
import Derived.OwnWalk
import Derived.Deep.RegionHeld3
import Derived.Deep.DrawnRows
namespace Go.Proofs.Qxb6616889a
open Go.RowKit
set_option linter.unusedVariables false
set_option linter.unusedSimpArgs false
attribute [local go_sem ↓] Go.wp_at_zero Go.wp_at_succ exec_build66 exec_store66 exec_store72
attribute [local go_sem] bld67_eq ptrB_eq ptrO_eq aggL_eq

set_option maxHeartbeats 8000000 in
set_option maxRecDepth 100000 in
theorem toLog_ns (S : Nat → Prop) (w : World) (hS : ∀ b, S b → b < w.heap.size) (ae : Addr) (ec : Nat) (es : List En) (hve : SliceOf S (.slice (some ae) es.length ec) 3 (EEn S w) es) (hle : es.length ≤ 1048576) (hqe : ∀ e ∈ es, e.reqs.length ≤ 1048576 ∧ e.q.length ≤ 1048576 ∧ e.macs.length ≤ 1048576) :
    Calls Try.prog 18 #[.slice none 0 0, .slice (some ae) es.length ec] w fun e w' => ∃ lb, e = .returned (.pointer (some ⟨lb, 0, none⟩)) ∧ Below w.heap.size w w' ∧ LogAt (fun b => w.heap.size ≤ b ∧ b < w'.heap.size) w' lb [] es := by
  have hneq := fun w a n c => run_neq_slice_nil_any (P := Try.prog) w 33 54 a n c 0 0 Try.underlying33
  have hneq2 := fun w a n c => run_neq_slice_nil_any (P := Try.prog) w 34 57 a n c 0 0 Try.underlying34
  obtain ⟨i1, hi, hz0, hz1, hz2⟩ := info_parts Try.info72
  have HI1 : Hid (Try.prog.info? 72 = some i1) := hi
  have HZ10 : Hid (i1.zero = some (.agg #[.slice none 0 0, .slice none 0 0, .slice none 0 0])) := hz0
  have HZ11 : Hid (i1.size = 3) := hz1
  have HZ12 : Hid (i1.bytes * es.length ≤ 281474976710656) := by show _ ≤ _; rw [hz2]; omega
  have HVE : Hid (SliceOf S (.slice (some ae) es.length ec) 3 (EEn S w) es) := hve
  have HQE : Hid (∀ e ∈ es, e.reqs.length ≤ 1048576 ∧ e.q.length ≤ 1048576 ∧ e.macs.length ≤ 1048576) := hqe
  clear hi hz0 hz1 hz2 hve hqe
  have HH : Hid (Half w [] (w.alloc (.cells #[.slice none 0 0, .slice none 0 0] 62)) (.slice none 0 0)) := half_nil w
  go_enter Try.func18, Try.ntmps18
  have HLx : Hid (w.heap.size ≤ ((w.alloc (.cells #[.slice none 0 0, .slice none 0 0] 62))).heap.size) := HH.out.1.size
  go_wp2_with (at_make; refine wpList_make_full _ rfl _ _ 60 rfl w.heap.size 72 i1 _ 3 Try.underlying60 HI1.out HZ10.out HZ11.out .i64 .i64 _ _ es.length rfl rfl rfl rfl HZ12.out (by unfold maxLen; omega) HLx.out ?_; intro w3 hown3 hgrow3; have hcl1 := (box2_cell (box_made2 HH.out hgrow3)).2; have hfl1 := box2_free (box_made2 HH.out hgrow3) 1)
  rw [show (w.alloc (Obj.cells #[Value.slice none 0 0, Value.slice none 0 0] 62)).heap.size = w.heap.size + 1 by simp] at hown3
  have HSB : Hid (Below w.heap.size w (w3.setCell ⟨w.heap.size, 1, none⟩ (.slice (some ⟨w.heap.size + 1, 0, none⟩) es.length es.length)) ∧ (w3.setCell ⟨w.heap.size, 1, none⟩ (.slice (some ⟨w.heap.size + 1, 0, none⟩) es.length es.length)).heap[w.heap.size]? = some (.cells #[.slice none 0 0, .slice (some ⟨w.heap.size + 1, 0, none⟩) es.length es.length] 62) ∧ w.heap.size < (w.heap.size + 1) ∧ SliceOf (fun b => w.heap.size < b ∧ b < w.heap.size + 1) (.slice none 0 0) 67 (ECp (fun b => w.heap.size < b ∧ b < w.heap.size + 1) (w3.setCell ⟨w.heap.size, 1, none⟩ (.slice (some ⟨w.heap.size + 1, 0, none⟩) es.length es.length))) [] ∧ Fill 3 EEn (w.heap.size + 1) es.length es 0 (w3.setCell ⟨w.heap.size, 1, none⟩ (.slice (some ⟨w.heap.size + 1, 0, none⟩) es.length es.length)) (w3.setCell ⟨w.heap.size, 1, none⟩ (.slice (some ⟨w.heap.size + 1, 0, none⟩) es.length es.length))) := ens_start1 es HH.out hown3 hgrow3 (.slice (some ⟨w.heap.size + 1, 0, none⟩) es.length es.length)
  clear hown3 hgrow3 hcl1 hfl1 HI1 HZ10 HZ11 HZ12 HH
  go_loopw [7] (fun i wr => ∃ k : Nat, k ≤ es.length ∧ i = .int .i64 k ∧ Fill 3 EEn (w.heap.size + 1) es.length es k (w3.setCell ⟨w.heap.size, 1, none⟩ (.slice (some ⟨w.heap.size + 1, 0, none⟩) es.length es.length)) wr) (fun i _ => es.length - (intOf i).toNat)
  case atStart => exact ⟨0, Nat.zero_le _, rfl, HSB.out.2.2.2.2⟩
  case round =>
    obtain ⟨k, hk, rfl, hF⟩ := hrel
    by_cases hlt : k < es.length
    · obtain ⟨b, o, hab, hSb, en, hy, hen⟩ : ∃ b o, ae = ⟨b, o, none⟩ ∧ S b ∧ ∃ en, es[k]? = some en ∧ EEn S w b (o + k * 3) en := by
        obtain ⟨ao, c', hv, _, _, _, h4⟩ := HVE.out
        obtain ⟨b, o, e1, e2, e3⟩ := h4 (by omega)
        cases hv
        exact ⟨b, o, by simpa using e1, e2, es[k], List.getElem?_eq_getElem hlt, e3 k _ (List.getElem?_eq_getElem hlt)⟩
      subst hab
      have HF : Hid (Fill 3 EEn (w.heap.size + 1) es.length es k (w3.setCell ⟨w.heap.size, 1, none⟩ (.slice (some ⟨w.heap.size + 1, 0, none⟩) es.length es.length)) wr) := hF
      have hbw : b < w.heap.size := hS b hSb
      obtain ⟨r1, r2, r3, hr, hr1, hr2, hr3⟩ := hen
      have hgw : w.heap.size + 1 < wr.heap.size := hF.2.1
      have hwx : w.heap.size < w.heap.size + 1 := HSB.out.2.2.1
      have hbel : Below w.heap.size w wr := HSB.out.1.trans (hF.1.mono (Nat.le_of_lt hwx))
      have hLw : wr.heap[w.heap.size]? = some (.cells #[.slice none 0 0, .slice (some ⟨w.heap.size + 1, 0, none⟩) es.length es.length] 62) := (hF.1.block _ hwx).trans HSB.out.2.1
      have HT : Hid (wr.there (w.heap.size + 1) (k * 3) 3) := there_sub hF.2.2.1 (by omega)
      have HKeep : Hid (∀ w' : World, Below (w.heap.size + 1) wr w' → w'.there (w.heap.size + 1) (k * 3) 3 → w'.cell? ⟨w.heap.size, 1, none⟩ = some (.slice (some ⟨w.heap.size + 1, 0, none⟩) es.length es.length) ∧ w'.cell? ⟨b, o + k * 3, none⟩ = some r1 ∧ w'.cell? ⟨b, o + k * 3 + 1, none⟩ = some r2 ∧ w'.cell? ⟨b, o + k * 3 + 2, none⟩ = some r3 ∧ w'.there (w.heap.size + 1) (k * 3) 3) := by
        intro w' hb' ht'
        have hr' : w'.rangeAt b (o + k * 3) [r1, r2, r3] := fun j u hu => by
          rw [hb'.cell (p := ⟨b, o + k * 3 + j, none⟩) (by show b < _; omega), hbel.cell (p := ⟨b, o + k * 3 + j, none⟩) hbw]; exact hr j u hu
        exact ⟨(box2_cell ((hb'.block _ hwx).trans hLw)).2, hr' 0 r1 rfl, hr' 1 r2 rfl, hr' 2 r3 rfl, ht'⟩
      have hkeep := Below.keeps hbel hS
      have HR1 : Hid (SliceOf S r1 32 (EDig wr) en.reqs) := digs_keep hkeep hr1
      have HR2 : Hid (SliceOf S r2 1 (EInt wr) en.q) := ints_keep hkeep hr2
      have HR3 : Hid (SliceOf S r3 32 (EDig wr) en.macs) := digs_keep hkeep hr3
      have HSw : Hid (∀ b, S b → b < wr.heap.size) := fun b hb => by have := hS b hb; omega
      have HL3 : Hid (en.reqs.length ≤ 1048576 ∧ en.q.length ≤ 1048576 ∧ en.macs.length ≤ 1048576) := HQE.out en (List.mem_of_getElem? hy)
      have HY : Hid (es[k]? = some en) := hy
      obtain ⟨o1, c1, rfl, _, _, _, _⟩ := hr1
      obtain ⟨o2, c2, rfl, _, _, _, _⟩ := hr2
      obtain ⟨o3, c3, rfl, _, _, _, _⟩ := hr3
      have hk0 : (0 : Int) ≤ (k : Int) := by omega
      have hk1 : (k : Int) < (es.length : Int) := by omega
      clear hF hr HSB hLw hy hkeep
      go_wp2_with fail
      go_region_held3 (fun w' => w'.cell? ⟨w.heap.size, 1, none⟩ = some (.slice (some ⟨w.heap.size + 1, 0, none⟩) es.length es.length) ∧ w'.cell? ⟨b, o + k * 3, none⟩ = some (.slice o1 en.reqs.length c1) ∧ w'.cell? ⟨b, o + k * 3 + 1, none⟩ = some (.slice o2 en.q.length c2) ∧ w'.cell? ⟨b, o + k * 3 + 2, none⟩ = some (.slice o3 en.macs.length c3) ∧ w'.there (w.heap.size + 1) (k * 3) 3)
        (first | exact HKeep.out _ ((Below.refl _ _).drew) ((World.there_drew _ _ _ _).2 HT.out) | exact HKeep.out _ HB2.out.1 HB2.out.2 | exact HKeep.out _ HB3.out.1 HB3.out.2 | exact HKeep.out _ HB4.out.1 HB4.out.2 | exact HKeep.out _ (below_setCells HB4.out.1 (Nat.le_refl _) _ _) (World.there_setCells HB4.out.2 _ _ _))
        (first | (go_at_call 27; refine (toDigests_any S wr.drew _ en.reqs HR1.out HSw.out HL3.out.1).mono ?_; rintro e w4 ⟨x1, rfl, hb4, hq4⟩; have HB2 := held_one hb4 hgw HT.out; have HC4 : Hid (Below wr.heap.size wr w4) := below_of_drew hb4; have HX1 : Hid (SliceOf (fun b => wr.heap.size ≤ b ∧ b < w4.heap.size) x1 32 (EDig w4) en.reqs) := hq4; clear hb4; obtain ⟨p1, d1, rfl, _, _, _, _⟩ := hq4) | (go_at_call 26; refine (cloneInts_any S w4 _ en.q (ints_keep (Below.keeps HC4.out HSw.out) HR2.out) (fun b hb => Nat.lt_of_lt_of_le (HSw.out b hb) HC4.out.size) HL3.out.2.1).mono ?_; rintro e w5 ⟨x2, rfl, hb5, hq5⟩; have HB3 := held_two HB2 HC4 hb5 hgw; have HC5 := HC4.out.trans (hb5.mono HC4.out.size); have HX2 : Hid (SliceOf (fun b => w4.heap.size ≤ b ∧ b < w5.heap.size) x2 1 (EInt w5) en.q) := hq5; have HD5 : Hid (Below w4.heap.size w4 w5) := hb5; have HC5' : Hid (Below wr.heap.size wr w5) := HC5; clear hb5 HC5; obtain ⟨p2, d2, rfl, _, _, _, _⟩ := hq5) | (go_at_call 28; refine (toMACs_any S w5 _ en.macs (digs_keep (Below.keeps HC5'.out HSw.out) HR3.out) (fun b hb => Nat.lt_of_lt_of_le (HSw.out b hb) HC5'.out.size) HL3.out.2.2).mono ?_; rintro e w6 ⟨x3, rfl, hb6, hq6⟩; have HB4 := held_two HB3 HC5' hb6 hgw; have HX3 : Hid (SliceOf (fun b => w5.heap.size ≤ b ∧ b < w6.heap.size) x3 32 (EDig w6) en.macs) := hq6; have HD6 : Hid (Below w5.heap.size w5 w6) := hb6; clear hb6; obtain ⟨p3, d3, rfl, _, _, _, _⟩ := hq6; have hst6 := storeOk72 HB4.out.2 p1 p2 p3 en.reqs.length en.q.length en.macs.length d1 d2 d3; have HRound := ens_round3 HF.out hlt HY.out HC4.out HD5.out HD6.out HX1.out HX2.out HX3.out; have HRound' : Hid (Fill 3 EEn (w.heap.size + 1) es.length es (k + 1) (w3.setCell ⟨w.heap.size, 1, none⟩ (.slice (some ⟨w.heap.size + 1, 0, none⟩) es.length es.length)) (w6.setCells (w.heap.size + 1) (k * 3) [.slice p1 en.reqs.length d1, .slice p2 en.q.length d2, .slice p3 en.macs.length d3])) := HRound; clear HRound))
      go_wp2
      go_roundw
      case rel => exact ⟨k + 1, by omega, by go_num, HRound'.out⟩
      case measure => simp [intOf]; omega
    · obtain rfl : k = es.length := by omega
      have HE := end_some HSB.out.1 HSB.out.2.1 HSB.out.2.2.1 hle HSB.out.2.2.2.1 hF
      have HE' : Hid (Below w.heap.size w wr ∧ LogAt (fun b => w.heap.size ≤ b ∧ b < wr.heap.size) wr w.heap.size [] es) := HE
      clear HE hF HSB
      go_wp2
      go_ret
      exact ⟨w.heap.size, rfl, HE'.out⟩

end Go.Proofs.Qxb6616889a
