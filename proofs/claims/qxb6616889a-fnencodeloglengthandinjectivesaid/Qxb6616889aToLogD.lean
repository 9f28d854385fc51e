/-
  toLog: the walks. By an AI agent.
-/
import Derived.Test.Qxb6616889aToLogB
import Derived.Test.Qxb6616889aToLogC
import Derived.WalkKit
import Derived.WalkSpells
import Derived.OwnWalk
import Derived.Deep.RegionHeld3
import Derived.Deep.DrawnRows
namespace Go.Proofs.Qxb6616889a
open Go.RowKit
set_option linter.unusedVariables false
set_option linter.unusedSimpArgs false
attribute [local go_sem ↓] Go.wp_at_zero Go.wp_at_succ exec_build66 exec_store66 exec_store72
attribute [local go_sem] bld67_eq ptrB_eq ptrO_eq aggL_eq

set_option maxHeartbeats 8000000 in
set_option maxRecDepth 100000 in
theorem toLog_ss (S : Nat → Prop) (w : World) (hS : ∀ b, S b → b < w.heap.size) (a : Addr) (cc : Nat) (cs : List Cp) (hv : SliceOf S (.slice (some a) cs.length cc) 67 (ECp S w) cs) (hlen : cs.length ≤ 1048576) (hq : ∀ c ∈ cs, c.q.length ≤ 1048576) (ae : Addr) (ec : Nat) (es : List En) (hve : SliceOf S (.slice (some ae) es.length ec) 3 (EEn S w) es) (hle : es.length ≤ 1048576) (hqe : ∀ e ∈ es, e.reqs.length ≤ 1048576 ∧ e.q.length ≤ 1048576 ∧ e.macs.length ≤ 1048576) :
    Calls Try.prog 18 #[.slice (some a) cs.length cc, .slice (some ae) es.length ec] w fun e w' => ∃ lb, e = .returned (.pointer (some ⟨lb, 0, none⟩)) ∧ Below w.heap.size w w' ∧ LogAt (fun b => w.heap.size ≤ b ∧ b < w'.heap.size) w' lb cs es := by
  have hneq := fun w a n c => run_neq_slice_nil_any (P := Try.prog) w 33 54 a n c 0 0 Try.underlying33
  have hneq2 := fun w a n c => run_neq_slice_nil_any (P := Try.prog) w 34 57 a n c 0 0 Try.underlying34
  obtain ⟨i0, hi, hz0, hz1, hz2⟩ := info_parts Try.info66
  have HI : Hid (Try.prog.info? 66 = some i0) := hi
  have HZ0 : Hid (i0.zero = some (.agg zero67)) := hz0
  have HZ1 : Hid (i0.size = 67) := hz1
  have HZ2 : Hid (i0.bytes * cs.length ≤ 281474976710656) := by show _ ≤ _; rw [hz2]; omega
  have HV : Hid (SliceOf S (.slice (some a) cs.length cc) 67 (ECp S w) cs) := hv
  have HQ : Hid (∀ c ∈ cs, c.q.length ≤ 1048576) := hq
  clear hi hz0 hz1 hz2 hv hq
  obtain ⟨i1, hi, hz0, hz1, hz2⟩ := info_parts Try.info72
  have HI1 : Hid (Try.prog.info? 72 = some i1) := hi
  have HZ10 : Hid (i1.zero = some (.agg #[.slice none 0 0, .slice none 0 0, .slice none 0 0])) := hz0
  have HZ11 : Hid (i1.size = 3) := hz1
  have HZ12 : Hid (i1.bytes * es.length ≤ 281474976710656) := by show _ ≤ _; rw [hz2]; omega
  have HVE : Hid (SliceOf S (.slice (some ae) es.length ec) 3 (EEn S w) es) := hve
  have HQE : Hid (∀ e ∈ es, e.reqs.length ≤ 1048576 ∧ e.q.length ≤ 1048576 ∧ e.macs.length ≤ 1048576) := hqe
  clear hi hz0 hz1 hz2 hve hqe
  go_enter Try.func18, Try.ntmps18
  go_wp2_with (at_make; refine wpList_make_full _ rfl _ _ 59 rfl w.heap.size 66 i0 _ 67 Try.underlying59 HI.out HZ0.out HZ1.out .i64 .i64 _ _ cs.length rfl rfl rfl rfl HZ2.out (by unfold maxLen; omega) (by simp) ?_; intro w1 hown hgrow; have hcl := (box2_cell (box_made hgrow)).1; have hfl := box2_free (box_made hgrow) 0)
  rw [show (w.alloc (Obj.cells #[Value.slice none 0 0, Value.slice none 0 0] 62)).heap.size = w.heap.size + 1 by simp] at hown
  have HST : Hid (Below w.heap.size w (w1.setCell ⟨w.heap.size, 0, none⟩ (.slice (some ⟨w.heap.size + 1, 0, none⟩) cs.length cs.length)) ∧ (w1.setCell ⟨w.heap.size, 0, none⟩ (.slice (some ⟨w.heap.size + 1, 0, none⟩) cs.length cs.length)).heap[w.heap.size]? = some (.cells #[.slice (some ⟨w.heap.size + 1, 0, none⟩) cs.length cs.length, .slice none 0 0] 62) ∧ Fill 67 ECp (w.heap.size + 1) cs.length cs 0 (w1.setCell ⟨w.heap.size, 0, none⟩ (.slice (some ⟨w.heap.size + 1, 0, none⟩) cs.length cs.length)) (w1.setCell ⟨w.heap.size, 0, none⟩ (.slice (some ⟨w.heap.size + 1, 0, none⟩) cs.length cs.length))) := cps_start cs hown hgrow (.slice (some ⟨w.heap.size + 1, 0, none⟩) cs.length cs.length)
  clear hown hgrow hcl hfl HI HZ0 HZ1 HZ2
  go_loopw [6] (fun i wr => ∃ k : Nat, k ≤ cs.length ∧ i = .int .i64 k ∧ Fill 67 ECp (w.heap.size + 1) cs.length cs k (w1.setCell ⟨w.heap.size, 0, none⟩ (.slice (some ⟨w.heap.size + 1, 0, none⟩) cs.length cs.length)) wr) (fun i _ => cs.length - (intOf i).toNat)
  case atStart => exact ⟨0, Nat.zero_le _, rfl, HST.out.2.2⟩
  case round =>
    obtain ⟨k, hk, rfl, hF⟩ := hrel
    by_cases hlt : k < cs.length
    · obtain ⟨b, o, hab, hSb, c, hy, hcp⟩ : ∃ b o, a = ⟨b, o, none⟩ ∧ S b ∧ ∃ c, cs[k]? = some c ∧ ECp S w b (o + k * 67) c := by
        obtain ⟨ao, c', hv, _, _, _, h4⟩ := HV.out
        obtain ⟨b, o, e1, e2, e3⟩ := h4 (by omega)
        cases hv
        exact ⟨b, o, by simpa using e1, e2, cs[k], List.getElem?_eq_getElem hlt, e3 k _ (List.getElem?_eq_getElem hlt)⟩
      subst hab
      have HF : Hid (Fill 67 ECp (w.heap.size + 1) cs.length cs k (w1.setCell ⟨w.heap.size, 0, none⟩ (.slice (some ⟨w.heap.size + 1, 0, none⟩) cs.length cs.length)) wr) := hF
      have hbw : b < w.heap.size := hS b hSb
      obtain ⟨hok, qv, hr, hqs⟩ := hcp
      have hbel : Below w.heap.size w wr := HST.out.1.trans (hF.1.mono (by omega))
      have hLw : wr.heap[w.heap.size]? = some (.cells #[.slice (some ⟨w.heap.size + 1, 0, none⟩) cs.length cs.length, .slice none 0 0] 62) := (hF.1.block _ (by omega)).trans HST.out.2.1
      have hgw : w.heap.size + 1 < wr.heap.size := hF.2.1
      have HT : Hid (wr.there (w.heap.size + 1) (k * 67) 67) := there_sub hF.2.2.1 (by omega)
      have HKeep : Hid (∀ w' : World, Below (w.heap.size + 1) wr w' → w'.there (w.heap.size + 1) (k * 67) 67 → w'.cell? ⟨w.heap.size, 0, none⟩ = some (.slice (some ⟨w.heap.size + 1, 0, none⟩) cs.length cs.length) ∧ w'.cell? ⟨b, o + k * 67, none⟩ = some (.int .u64 c.seq) ∧ w'.rangeAt b (o + k * 67 + 1) (u8s c.dig) ∧ w'.cell? ⟨b, o + k * 67 + 33, none⟩ = some (.int .u64 c.size) ∧ w'.rangeAt b (o + k * 67 + 34) (u8s c.hist) ∧ w'.cell? ⟨b, o + k * 67 + 66, none⟩ = some qv ∧ w'.there (w.heap.size + 1) (k * 67) 67) := by
        intro w' hb' ht'
        have hr' : w'.rangeAt b (o + k * 67) (cpCells c qv) := fun j u hu => by
          rw [hb'.cell (p := ⟨b, o + k * 67 + j, none⟩) (by show b < _; omega), hbel.cell (p := ⟨b, o + k * 67 + j, none⟩) hbw]; exact hr j u hu
        obtain ⟨c1, c2, c3, c4, c5⟩ := cp_cells hok hr'
        exact ⟨(box2_cell ((hb'.block _ (by omega)).trans hLw)).1, c1, c2, c3, c4, c5, ht'⟩
      have HQS : Hid (SliceOf S qv 1 (EInt wr) c.q) := ints_keep (Below.keeps hbel hS) hqs
      have HSw : Hid (∀ b, S b → b < wr.heap.size) := fun b hb => by have := hS b hb; omega
      have hql : c.q.length ≤ 1048576 := HQ.out c (List.mem_of_getElem? hy)
      have HQL : Hid (c.q.length ≤ 1048576) := hql
      have HY : Hid (cs[k]? = some c) := hy
      obtain ⟨qo, qc, rfl, _, _, _, _⟩ := hqs
      have HOK : Hid c.ok := hok
      have hd1 : c.dig.length = 32 := hok.1.1
      have hd2 : c.hist.length = 32 := hok.2.1.1
      have hs5 := fun ao n c' => sized5 c.seq c.size c.dig c.hist hd1 hd2 ao n c'
      have hu51 := Try.underlying51
      have hi51 : (Try.prog.info? 51).map (·.size) = some (u8s c.dig).length := by rw [length_u8s, hd1]; exact Try.size51
      have hi51' : (Try.prog.info? 51).map (·.size) = some (u8s c.hist).length := by rw [length_u8s, hd2]; exact Try.size51
      have hk0 : (0 : Int) ≤ (k : Int) := by omega
      have hk1 : (k : Int) < (cs.length : Int) := by omega
      clear hF hr hok hql HST hLw hy
      go_wp2_with fail
      refine wp_region_noPanic ?_
      refine wp_region_held_drew (S := (fun w' => w'.cell? ⟨w.heap.size, 0, none⟩ = some (.slice (some ⟨w.heap.size + 1, 0, none⟩) cs.length cs.length) ∧ w'.cell? ⟨b, o + k * 67, none⟩ = some (.int .u64 c.seq) ∧ w'.rangeAt b (o + k * 67 + 1) (u8s c.dig) ∧ w'.cell? ⟨b, o + k * 67 + 33, none⟩ = some (.int .u64 c.size) ∧ w'.rangeAt b (o + k * 67 + 34) (u8s c.hist) ∧ w'.cell? ⟨b, o + k * 67 + 66, none⟩ = some (.slice qo c.q.length qc) ∧ w'.there (w.heap.size + 1) (k * 67) 67)) (by kernel_rfl) ?_ (fun hHeld => ?_)
      · exact HKeep.out _ ((Below.refl _ _).drew) ((World.there_drew _ _ _ _).2 HT.out)
      refine take_drop (i := 0) (v := ?_) rfl (by kernel_rfl) (by kernel_rfl) (by kernel_rfl) (fun _ _ _ h => h) (Or.inl ⟨by rfl, ?_⟩) (by assumption) ?_
      rotate_left
      · intro w hSw; (try dsimp only at hSw); go_simp; (try with_reducible rfl)
      simp only [Act.put, List.setIfInBounds_toArray, List.set_cons_zero, List.set_cons_succ]
      refine take_drop (i := 1) (v := ?_) rfl (by kernel_rfl) (by kernel_rfl) (by kernel_rfl) (fun _ _ _ h => h) (Or.inl ⟨by rfl, ?_⟩) (by assumption) ?_
      rotate_left
      · intro w hSw; (try dsimp only at hSw); go_simp; (try with_reducible rfl)
      simp only [Act.put, List.setIfInBounds_toArray, List.set_cons_zero, List.set_cons_succ]
      refine take_drop (i := 2) (v := ?_) rfl (by kernel_rfl) (by kernel_rfl) (by kernel_rfl) (fun _ _ _ h => h) (Or.inl ⟨by rfl, ?_⟩) (by assumption) ?_
      rotate_left
      · intro w hSw; (try dsimp only at hSw); go_simp; (try with_reducible rfl)
      simp only [Act.put, List.setIfInBounds_toArray, List.set_cons_zero, List.set_cons_succ]
      refine take_drop (i := 3) (v := ?_) rfl (by kernel_rfl) (by kernel_rfl) (by kernel_rfl) (fun _ _ _ h => h) (Or.inl ⟨by rfl, ?_⟩) (by assumption) ?_
      rotate_left
      · intro w hSw; (try dsimp only at hSw); go_simp; (try with_reducible rfl)
      simp only [Act.put, List.setIfInBounds_toArray, List.set_cons_zero, List.set_cons_succ]
      refine take_drop (i := 4) (v := ?_) rfl (by kernel_rfl) (by kernel_rfl) (by kernel_rfl) (fun _ _ _ h => h) (Or.inl ⟨by rfl, ?_⟩) (by assumption) ?_
      rotate_left
      · intro w hSw; (try dsimp only at hSw); go_simp; (try with_reducible rfl)
      simp only [Act.put, List.setIfInBounds_toArray, List.set_cons_zero, List.set_cons_succ]
      refine take_drop (i := 5) (v := ?_) rfl (by kernel_rfl) (by kernel_rfl) (by kernel_rfl) (fun _ _ _ h => h) (Or.inl ⟨by rfl, ?_⟩) (by assumption) ?_
      rotate_left
      · intro w hSw; (try dsimp only at hSw); go_simp; (try with_reducible rfl)
      simp only [Act.put, List.setIfInBounds_toArray, List.set_cons_zero, List.set_cons_succ]
      refine take_drop (i := 6) (v := ?_) rfl (by kernel_rfl) (by kernel_rfl) (by kernel_rfl) (fun _ _ _ h => h) (Or.inl ⟨by rfl, ?_⟩) (by assumption) ?_
      rotate_left
      · intro w hSw; (try dsimp only at hSw); go_simp; (try with_reducible rfl)
      simp only [Act.put, List.setIfInBounds_toArray, List.set_cons_zero, List.set_cons_succ]
      refine take_drop (i := 7) (v := ?_) rfl (by kernel_rfl) (by kernel_rfl) (by kernel_rfl) (fun _ _ _ h => h) (Or.inl ⟨by rfl, ?_⟩) (by assumption) ?_
      rotate_left
      · intro w hSw; (try dsimp only at hSw); go_simp; (try with_reducible rfl)
      simp only [Act.put, List.setIfInBounds_toArray, List.set_cons_zero, List.set_cons_succ]
      refine take_drop (i := 8) (v := ?_) rfl (by kernel_rfl) (by kernel_rfl) (by kernel_rfl) (fun _ _ _ h => h) (Or.inl ⟨by rfl, ?_⟩) (by assumption) ?_
      rotate_left
      · intro w hSw; (try dsimp only at hSw); go_simp; (try with_reducible rfl)
      simp only [Act.put, List.setIfInBounds_toArray, List.set_cons_zero, List.set_cons_succ]
      refine take_drop (i := 9) (v := ?_) rfl (by kernel_rfl) (by kernel_rfl) (by kernel_rfl) (fun _ _ _ h => h) (Or.inl ⟨by rfl, ?_⟩) (by assumption) ?_
      rotate_left
      · intro w hSw; (try dsimp only at hSw); go_simp; (try with_reducible rfl)
      simp only [Act.put, List.setIfInBounds_toArray, List.set_cons_zero, List.set_cons_succ]
      refine take_drop (i := 10) (v := ?_) rfl (by kernel_rfl) (by kernel_rfl) (by kernel_rfl) (fun _ _ _ h => h) (Or.inl ⟨by rfl, ?_⟩) (by assumption) ?_
      rotate_left
      · intro w hSw; (try dsimp only at hSw); go_simp; (try with_reducible rfl)
      simp only [Act.put, List.setIfInBounds_toArray, List.set_cons_zero, List.set_cons_succ]
      refine take_drop (i := 11) (v := ?_) rfl (by kernel_rfl) (by kernel_rfl) (by kernel_rfl) (fun _ _ _ h => h) (Or.inl ⟨by rfl, ?_⟩) (by assumption) ?_
      rotate_left
      · intro w hSw; (try dsimp only at hSw); go_simp; (try with_reducible rfl)
      simp only [Act.put, List.setIfInBounds_toArray, List.set_cons_zero, List.set_cons_succ]
      refine take_drop (i := 12) (v := ?_) rfl (by kernel_rfl) (by kernel_rfl) (by kernel_rfl) (fun _ _ _ h => h) (Or.inl ⟨by rfl, ?_⟩) (by assumption) ?_
      rotate_left
      · intro w hSw; (try dsimp only at hSw); go_simp; (try with_reducible rfl)
      simp only [Act.put, List.setIfInBounds_toArray, List.set_cons_zero, List.set_cons_succ]
      refine take_drop (i := 13) (v := ?_) rfl (by kernel_rfl) (by kernel_rfl) (by kernel_rfl) (fun _ _ _ h => h) (Or.inl ⟨by rfl, ?_⟩) (by assumption) ?_
      rotate_left
      · intro w hSw; (try dsimp only at hSw); go_simp; (try with_reducible rfl)
      simp only [Act.put, List.setIfInBounds_toArray, List.set_cons_zero, List.set_cons_succ]
      refine take_drop (i := 14) rfl (by kernel_rfl) (by kernel_rfl) (by kernel_rfl) (fun _ _ _ h => h) (yieldsIf_load_mid (by rfl) 51 _ rfl b (o + k * 67 + 1) rfl (u8s c.dig) _ (fun w hSw => hSw.2.2.1) hu51 rfl hi51) (by assumption) ?_
      simp only [Act.put, List.setIfInBounds_toArray, List.set_cons_zero, List.set_cons_succ]
      refine take_drop (i := 15) (v := ?_) rfl (by kernel_rfl) (by kernel_rfl) (by kernel_rfl) (fun _ _ _ h => h) (Or.inl ⟨by rfl, ?_⟩) (by assumption) ?_
      rotate_left
      · intro w hSw; (try dsimp only at hSw); go_simp; (try with_reducible rfl)
      simp only [Act.put, List.setIfInBounds_toArray, List.set_cons_zero, List.set_cons_succ]
      refine take_drop (i := 16) (v := ?_) rfl (by kernel_rfl) (by kernel_rfl) (by kernel_rfl) (fun _ _ _ h => h) (Or.inl ⟨by rfl, ?_⟩) (by assumption) ?_
      rotate_left
      · intro w hSw; (try dsimp only at hSw); go_simp; (try with_reducible rfl)
      simp only [Act.put, List.setIfInBounds_toArray, List.set_cons_zero, List.set_cons_succ]
      refine take_drop (i := 17) (v := ?_) rfl (by kernel_rfl) (by kernel_rfl) (by kernel_rfl) (fun _ _ _ h => h) (Or.inl ⟨by rfl, ?_⟩) (by assumption) ?_
      rotate_left
      · intro w hSw; (try dsimp only at hSw); go_simp; (try with_reducible rfl)
      simp only [Act.put, List.setIfInBounds_toArray, List.set_cons_zero, List.set_cons_succ]
      refine take_drop (i := 18) (v := ?_) rfl (by kernel_rfl) (by kernel_rfl) (by kernel_rfl) (fun _ _ _ h => h) (Or.inl ⟨by rfl, ?_⟩) (by assumption) ?_
      rotate_left
      · intro w hSw; (try dsimp only at hSw); go_simp; (try with_reducible rfl)
      simp only [Act.put, List.setIfInBounds_toArray, List.set_cons_zero, List.set_cons_succ]
      refine take_drop (i := 19) (v := ?_) rfl (by kernel_rfl) (by kernel_rfl) (by kernel_rfl) (fun _ _ _ h => h) (Or.inl ⟨by rfl, ?_⟩) (by assumption) ?_
      rotate_left
      · intro w hSw; (try dsimp only at hSw); go_simp; (try with_reducible rfl)
      simp only [Act.put, List.setIfInBounds_toArray, List.set_cons_zero, List.set_cons_succ]
      refine take_drop (i := 20) (v := ?_) rfl (by kernel_rfl) (by kernel_rfl) (by kernel_rfl) (fun _ _ _ h => h) (Or.inl ⟨by rfl, ?_⟩) (by assumption) ?_
      rotate_left
      · intro w hSw; (try dsimp only at hSw); go_simp; (try with_reducible rfl)
      simp only [Act.put, List.setIfInBounds_toArray, List.set_cons_zero, List.set_cons_succ]
      refine take_drop (i := 21) (v := ?_) rfl (by kernel_rfl) (by kernel_rfl) (by kernel_rfl) (fun _ _ _ h => h) (Or.inl ⟨by rfl, ?_⟩) (by assumption) ?_
      rotate_left
      · intro w hSw; (try dsimp only at hSw); go_simp; (try with_reducible rfl)
      simp only [Act.put, List.setIfInBounds_toArray, List.set_cons_zero, List.set_cons_succ]
      refine take_drop (i := 22) (v := ?_) rfl (by kernel_rfl) (by kernel_rfl) (by kernel_rfl) (fun _ _ _ h => h) (Or.inl ⟨by rfl, ?_⟩) (by assumption) ?_
      rotate_left
      · intro w hSw; (try dsimp only at hSw); go_simp; (try with_reducible rfl)
      simp only [Act.put, List.setIfInBounds_toArray, List.set_cons_zero, List.set_cons_succ]
      refine take_drop (i := 23) (v := ?_) rfl (by kernel_rfl) (by kernel_rfl) (by kernel_rfl) (fun _ _ _ h => h) (Or.inl ⟨by rfl, ?_⟩) (by assumption) ?_
      rotate_left
      · intro w hSw; (try dsimp only at hSw); go_simp; (try with_reducible rfl)
      simp only [Act.put, List.setIfInBounds_toArray, List.set_cons_zero, List.set_cons_succ]
      refine take_drop (i := 24) rfl (by kernel_rfl) (by kernel_rfl) (by kernel_rfl) (fun _ _ _ h => h) (yieldsIf_load_mid (by rfl) 51 _ rfl b (o + k * 67 + 34) rfl (u8s c.hist) _ (fun w hSw => hSw.2.2.2.2.1) hu51 rfl hi51') (by assumption) ?_
      simp only [Act.put, List.setIfInBounds_toArray, List.set_cons_zero, List.set_cons_succ]
      refine take_drop (i := 25) (v := ?_) rfl (by kernel_rfl) (by kernel_rfl) (by kernel_rfl) (fun _ _ _ h => h) (Or.inl ⟨by rfl, ?_⟩) (by assumption) ?_
      rotate_left
      · intro w hSw; (try dsimp only at hSw); go_simp; (try with_reducible rfl)
      simp only [Act.put, List.setIfInBounds_toArray, List.set_cons_zero, List.set_cons_succ]
      refine take_drop (i := 26) (v := ?_) rfl (by kernel_rfl) (by kernel_rfl) (by kernel_rfl) (fun _ _ _ h => h) (Or.inl ⟨by rfl, ?_⟩) (by assumption) ?_
      rotate_left
      · intro w hSw; (try dsimp only at hSw); go_simp; (try with_reducible rfl)
      simp only [Act.put, List.setIfInBounds_toArray, List.set_cons_zero, List.set_cons_succ]
      refine take_drop (i := 27) (v := ?_) rfl (by kernel_rfl) (by kernel_rfl) (by kernel_rfl) (fun _ _ _ h => h) (Or.inl ⟨by rfl, ?_⟩) (by assumption) ?_
      rotate_left
      · intro w hSw; (try dsimp only at hSw); go_simp; (try with_reducible rfl)
      simp only [Act.put, List.setIfInBounds_toArray, List.set_cons_zero, List.set_cons_succ]
      refine take_drop (i := 28) (v := ?_) rfl (by kernel_rfl) (by kernel_rfl) (by kernel_rfl) (fun _ _ _ h => h) (Or.inl ⟨by rfl, ?_⟩) (by assumption) ?_
      rotate_left
      · intro w hSw; (try dsimp only at hSw); go_simp; (try with_reducible rfl)
      simp only [Act.put, List.setIfInBounds_toArray, List.set_cons_zero, List.set_cons_succ]
      refine take_drop (i := 29) (v := ?_) rfl (by kernel_rfl) (by kernel_rfl) (by kernel_rfl) (fun _ _ _ h => h) (Or.inl ⟨by rfl, ?_⟩) (by assumption) ?_
      rotate_left
      · intro w hSw; (try dsimp only at hSw); go_simp; (try with_reducible rfl)
      simp only [Act.put, List.setIfInBounds_toArray, List.set_cons_zero, List.set_cons_succ]
      refine wpAnyH_ready (rs := [30]) (by kernel_rfl) (by simp) ?_
      refine ready_drop rfl (fun K hK => ?_) AllReadyH.nil
      go_simp
      refine (cloneInts_any S wr.drew _ c.q HQS.out HSw.out HQL.out).mono ?_
      rintro e w2 ⟨v2, rfl, hb2', hq2⟩
      have hb2 : Below (w.heap.size + 1) wr w2 := (below_of_drew hb2').mono (Nat.le_of_lt hgw)
      have ht2 : w2.there (w.heap.size + 1) (k * 67) 67 := there_below hb2' hgw HT.out
      have HQ2 : Hid (SliceOf (fun b => wr.heap.size ≤ b ∧ b < w2.heap.size) v2 1 (EInt w2) c.q) := hq2
      obtain ⟨ro, rc, rfl, _, _, _, _⟩ := hq2
      have hst2 := storeOk66 c ht2 HOK.out ro c.q.length rc
      have HRound : Hid (Fill 67 ECp (w.heap.size + 1) cs.length cs (k + 1) (w1.setCell ⟨w.heap.size, 0, none⟩ (.slice (some ⟨w.heap.size + 1, 0, none⟩) cs.length cs.length)) (w2.setCells (w.heap.size + 1) (k * 67) (cp5 c.seq c.dig c.size c.hist (.slice ro c.q.length rc)))) := cps_round HF.out hlt HY.out HOK.out (below_of_drew hb2') HQ2.out
      refine hK.out _ _ (HKeep.out _ hb2 ht2) (fun hHeld2 => ?_)
      clear hK K hHeld
      (try simp only [Act.put, List.setIfInBounds_toArray, List.set_cons_zero, List.set_cons_succ])
      refine take_drop (i := 31) (v := ?_) rfl (by kernel_rfl) (by kernel_rfl) (by kernel_rfl) (fun _ _ _ h => h) (Or.inl ⟨by rfl, ?_⟩) (by assumption) ?_
      rotate_left
      · intro w hSw; (try dsimp only at hSw); go_simp; (try with_reducible rfl)
      simp only [Act.put, List.setIfInBounds_toArray, List.set_cons_zero, List.set_cons_succ]
      refine take_drop (i := 32) (v := ?_) rfl (by kernel_rfl) (by kernel_rfl) (by kernel_rfl) (fun _ _ _ h => h) (Or.inl ⟨by rfl, ?_⟩) (by assumption) ?_
      rotate_left
      · intro w hSw; (try dsimp only at hSw); go_simp; (try with_reducible rfl)
      simp only [Act.put, List.setIfInBounds_toArray, List.set_cons_zero, List.set_cons_succ]
      refine wpAnyH_ready (rs := [33]) (by kernel_rfl) (by simp) ?_
      refine ready_drop rfl (fun K hK => ?_) AllReadyH.nil
      go_simp
      refine hK.out _ _ (HKeep.out _ (below_setCells hb2 (Nat.le_refl _) _ _) (World.there_setCells ht2 _ _ _)) (fun hHeld3 => ?_)
      clear hK K hHeld2
      refine wpAnyH_done (by kernel_rfl) ?_ _
      refine NoPanic.normal ?_
      go_wp2
      go_roundw
      case rel => exact ⟨k + 1, by omega, by go_num, HRound.out⟩
      case measure => simp [intOf]; omega
    · obtain rfl : k = cs.length := by omega
      have HH : Hid (Half w cs wr (.slice (some ⟨w.heap.size + 1, 0, none⟩) cs.length cs.length)) := half_some HST.out.1 HST.out.2.1 hlen hF
      clear hF HST
      obtain ⟨wr0, hwr0⟩ : ∃ x, x = wr := ⟨wr, rfl⟩
      subst hwr0
      have HLx : Hid (w.heap.size ≤ (wr0).heap.size) := HH.out.1.size
      go_wp2_with (at_make; refine wpList_make_full _ rfl _ _ 60 rfl w.heap.size 72 i1 _ 3 Try.underlying60 HI1.out HZ10.out HZ11.out .i64 .i64 _ _ es.length rfl rfl rfl rfl HZ12.out (by unfold maxLen; omega) HLx.out ?_; intro w3 hown3 hgrow3; have hcl1 := (box2_cell (box_made2 HH.out hgrow3)).2; have hfl1 := box2_free (box_made2 HH.out hgrow3) 1)
      have HSB : Hid (Below w.heap.size w (w3.setCell ⟨w.heap.size, 1, none⟩ (.slice (some ⟨wr0.heap.size, 0, none⟩) es.length es.length)) ∧ (w3.setCell ⟨w.heap.size, 1, none⟩ (.slice (some ⟨wr0.heap.size, 0, none⟩) es.length es.length)).heap[w.heap.size]? = some (.cells #[.slice (some ⟨w.heap.size + 1, 0, none⟩) cs.length cs.length, .slice (some ⟨wr0.heap.size, 0, none⟩) es.length es.length] 62) ∧ w.heap.size < (wr0.heap.size) ∧ SliceOf (fun b => w.heap.size < b ∧ b < wr0.heap.size) (.slice (some ⟨w.heap.size + 1, 0, none⟩) cs.length cs.length) 67 (ECp (fun b => w.heap.size < b ∧ b < wr0.heap.size) (w3.setCell ⟨w.heap.size, 1, none⟩ (.slice (some ⟨wr0.heap.size, 0, none⟩) es.length es.length))) cs ∧ Fill 3 EEn (wr0.heap.size) es.length es 0 (w3.setCell ⟨w.heap.size, 1, none⟩ (.slice (some ⟨wr0.heap.size, 0, none⟩) es.length es.length)) (w3.setCell ⟨w.heap.size, 1, none⟩ (.slice (some ⟨wr0.heap.size, 0, none⟩) es.length es.length))) := ens_start (wx := wr0) es HH.out hown3 hgrow3 (.slice (some ⟨wr0.heap.size, 0, none⟩) es.length es.length)
      clear hown3 hgrow3 hcl1 hfl1 HI1 HZ10 HZ11 HZ12 HH
      go_loopw [7] (fun i wr => ∃ k : Nat, k ≤ es.length ∧ i = .int .i64 k ∧ Fill 3 EEn (wr0.heap.size) es.length es k (w3.setCell ⟨w.heap.size, 1, none⟩ (.slice (some ⟨wr0.heap.size, 0, none⟩) es.length es.length)) wr) (fun i _ => es.length - (intOf i).toNat)
      case atStart => exact ⟨0, Nat.zero_le _, rfl, HSB.out.2.2.2.2⟩
      case round =>
        obtain ⟨k, hk, rfl, hF⟩ := hrel
        by_cases hlt : k < es.length
        · obtain ⟨b, o, hab, hSb, en, hy, hen⟩ : ∃ b o, ae = ⟨b, o, none⟩ ∧ S b ∧ ∃ en, es[k]? = some en ∧ EEn S w b (o + k * 3) en := by
            obtain ⟨ao, c', hv, _, _, _, h4⟩ := HVE.out
            obtain ⟨b, o, e1, e2, e3⟩ := h4 (by omega)
            cases hv
            exact ⟨b, o, by simpa using e1, e2, es[k], List.getElem?_eq_getElem hlt, e3 k _ (List.getElem?_eq_getElem hlt)⟩
          subst hab
          have HF : Hid (Fill 3 EEn (wr0.heap.size) es.length es k (w3.setCell ⟨w.heap.size, 1, none⟩ (.slice (some ⟨wr0.heap.size, 0, none⟩) es.length es.length)) wr) := hF
          have hbw : b < w.heap.size := hS b hSb
          obtain ⟨r1, r2, r3, hr, hr1, hr2, hr3⟩ := hen
          have hgw : wr0.heap.size < wr.heap.size := hF.2.1
          have hwx : w.heap.size < wr0.heap.size := HSB.out.2.2.1
          have hbel : Below w.heap.size w wr := HSB.out.1.trans (hF.1.mono (Nat.le_of_lt hwx))
          have hLw : wr.heap[w.heap.size]? = some (.cells #[.slice (some ⟨w.heap.size + 1, 0, none⟩) cs.length cs.length, .slice (some ⟨wr0.heap.size, 0, none⟩) es.length es.length] 62) := (hF.1.block _ hwx).trans HSB.out.2.1
          have HT : Hid (wr.there (wr0.heap.size) (k * 3) 3) := there_sub hF.2.2.1 (by omega)
          have HKeep : Hid (∀ w' : World, Below (wr0.heap.size) wr w' → w'.there (wr0.heap.size) (k * 3) 3 → w'.cell? ⟨w.heap.size, 1, none⟩ = some (.slice (some ⟨wr0.heap.size, 0, none⟩) es.length es.length) ∧ w'.cell? ⟨b, o + k * 3, none⟩ = some r1 ∧ w'.cell? ⟨b, o + k * 3 + 1, none⟩ = some r2 ∧ w'.cell? ⟨b, o + k * 3 + 2, none⟩ = some r3 ∧ w'.there (wr0.heap.size) (k * 3) 3) := by
            intro w' hb' ht'
            have hr' : w'.rangeAt b (o + k * 3) [r1, r2, r3] := fun j u hu => by
              rw [hb'.cell (p := ⟨b, o + k * 3 + j, none⟩) (by show b < _; omega), hbel.cell (p := ⟨b, o + k * 3 + j, none⟩) hbw]; exact hr j u hu
            exact ⟨(box2_cell ((hb'.block _ hwx).trans hLw)).2, hr' 0 r1 rfl, hr' 1 r2 rfl, hr' 2 r3 rfl, ht'⟩
          have hkeep := Below.keeps hbel hS
          have HR1 : Hid (SliceOf S r1 32 (EDig wr) en.reqs) := digs_keep hkeep hr1
          have HR2 : Hid (SliceOf S r2 1 (EInt wr) en.q) := ints_keep hkeep hr2
          have HR3 : Hid (SliceOf S r3 32 (EDig wr) en.macs) := digs_keep hkeep hr3
          have HSw : Hid (∀ b, S b → b < wr.heap.size) := fun b hb => by have := hS b hb; omega
          have HL3 : Hid (en.reqs.length ≤ 1048576 ∧ en.q.length ≤ 1048576 ∧ en.macs.length ≤ 1048576) := HQE.out en (List.mem_of_getElem? hy)
          have HY : Hid (es[k]? = some en) := hy
          obtain ⟨o1, c1, rfl, _, _, _, _⟩ := hr1
          obtain ⟨o2, c2, rfl, _, _, _, _⟩ := hr2
          obtain ⟨o3, c3, rfl, _, _, _, _⟩ := hr3
          have hk0 : (0 : Int) ≤ (k : Int) := by omega
          have hk1 : (k : Int) < (es.length : Int) := by omega
          clear hF hr HSB hLw hy hkeep
          go_wp2_with fail
          go_region_held3 (fun w' => w'.cell? ⟨w.heap.size, 1, none⟩ = some (.slice (some ⟨wr0.heap.size, 0, none⟩) es.length es.length) ∧ w'.cell? ⟨b, o + k * 3, none⟩ = some (.slice o1 en.reqs.length c1) ∧ w'.cell? ⟨b, o + k * 3 + 1, none⟩ = some (.slice o2 en.q.length c2) ∧ w'.cell? ⟨b, o + k * 3 + 2, none⟩ = some (.slice o3 en.macs.length c3) ∧ w'.there (wr0.heap.size) (k * 3) 3)
            (first | exact HKeep.out _ ((Below.refl _ _).drew) ((World.there_drew _ _ _ _).2 HT.out) | exact HKeep.out _ HB2.out.1 HB2.out.2 | exact HKeep.out _ HB3.out.1 HB3.out.2 | exact HKeep.out _ HB4.out.1 HB4.out.2 | exact HKeep.out _ (below_setCells HB4.out.1 (Nat.le_refl _) _ _) (World.there_setCells HB4.out.2 _ _ _))
            (first | (go_at_call 27; refine (toDigests_any S wr.drew _ en.reqs HR1.out HSw.out HL3.out.1).mono ?_; rintro e w4 ⟨x1, rfl, hb4, hq4⟩; have HB2 := held_one hb4 hgw HT.out; have HC4 : Hid (Below wr.heap.size wr w4) := below_of_drew hb4; have HX1 : Hid (SliceOf (fun b => wr.heap.size ≤ b ∧ b < w4.heap.size) x1 32 (EDig w4) en.reqs) := hq4; clear hb4; obtain ⟨p1, d1, rfl, _, _, _, _⟩ := hq4) | (go_at_call 26; refine (cloneInts_any S w4 _ en.q (ints_keep (Below.keeps HC4.out HSw.out) HR2.out) (fun b hb => Nat.lt_of_lt_of_le (HSw.out b hb) HC4.out.size) HL3.out.2.1).mono ?_; rintro e w5 ⟨x2, rfl, hb5, hq5⟩; have HB3 := held_two HB2 HC4 hb5 hgw; have HC5 := HC4.out.trans (hb5.mono HC4.out.size); have HX2 : Hid (SliceOf (fun b => w4.heap.size ≤ b ∧ b < w5.heap.size) x2 1 (EInt w5) en.q) := hq5; have HD5 : Hid (Below w4.heap.size w4 w5) := hb5; have HC5' : Hid (Below wr.heap.size wr w5) := HC5; clear hb5 HC5; obtain ⟨p2, d2, rfl, _, _, _, _⟩ := hq5) | (go_at_call 28; refine (toMACs_any S w5 _ en.macs (digs_keep (Below.keeps HC5'.out HSw.out) HR3.out) (fun b hb => Nat.lt_of_lt_of_le (HSw.out b hb) HC5'.out.size) HL3.out.2.2).mono ?_; rintro e w6 ⟨x3, rfl, hb6, hq6⟩; have HB4 := held_two HB3 HC5' hb6 hgw; have HX3 : Hid (SliceOf (fun b => w5.heap.size ≤ b ∧ b < w6.heap.size) x3 32 (EDig w6) en.macs) := hq6; have HD6 : Hid (Below w5.heap.size w5 w6) := hb6; clear hb6; obtain ⟨p3, d3, rfl, _, _, _, _⟩ := hq6; have hst6 := storeOk72 HB4.out.2 p1 p2 p3 en.reqs.length en.q.length en.macs.length d1 d2 d3; have HRound := ens_round3 HF.out hlt HY.out HC4.out HD5.out HD6.out HX1.out HX2.out HX3.out; have HRound' : Hid (Fill 3 EEn (wr0.heap.size) es.length es (k + 1) (w3.setCell ⟨w.heap.size, 1, none⟩ (.slice (some ⟨wr0.heap.size, 0, none⟩) es.length es.length)) (w6.setCells (wr0.heap.size) (k * 3) [.slice p1 en.reqs.length d1, .slice p2 en.q.length d2, .slice p3 en.macs.length d3])) := HRound; clear HRound))
          go_wp2
          go_roundw
          case rel => exact ⟨k + 1, by omega, by go_num, HRound'.out⟩
          case measure => simp [intOf]; omega
        · obtain rfl : k = es.length := by omega
          have HE := end_some HSB.out.1 HSB.out.2.1 HSB.out.2.2.1 hle HSB.out.2.2.2.1 hF
          have HE' : Hid (Below w.heap.size w wr ∧ LogAt (fun b => w.heap.size ≤ b ∧ b < wr.heap.size) wr w.heap.size cs es) := HE
          clear HE hF HSB
          go_wp2
          go_ret
          exact ⟨w.heap.size, rfl, HE'.out⟩


/-- toLog, whatever comes in. -/
theorem toLog_any (S : Nat → Prop) (w : World) (v1 v2 : Value) (cs : List Cp) (es : List En) (hv : SliceOf S v1 67 (ECp S w) cs) (hve : SliceOf S v2 3 (EEn S w) es) (hS : ∀ b, S b → b < w.heap.size) (hlen : cs.length ≤ 1048576) (hle : es.length ≤ 1048576)
    (hq : ∀ c ∈ cs, c.q.length ≤ 1048576) (hqe : ∀ e ∈ es, e.reqs.length ≤ 1048576 ∧ e.q.length ≤ 1048576 ∧ e.macs.length ≤ 1048576) :
    Calls Try.prog 18 #[v1, v2] w fun e w' => ∃ lb, e = .returned (.pointer (some ⟨lb, 0, none⟩)) ∧ Below w.heap.size w w' ∧ LogAt (fun b => w.heap.size ≤ b ∧ b < w'.heap.size) w' lb cs es := by
  have hv' := hv; have hve' := hve
  obtain ⟨ao, c, rfl, n1, n2, n3, _⟩ := hv'
  obtain ⟨ao2, c2, rfl, m1, m2, m3, _⟩ := hve'
  have z1 : ao = none → cs = [] ∧ c = 0 := fun h => ⟨List.eq_nil_of_length_eq_zero (by have := n1 h; omega), n1 h⟩
  have z2 : ao2 = none → es = [] ∧ c2 = 0 := fun h => ⟨List.eq_nil_of_length_eq_zero (by have := m1 h; omega), m1 h⟩
  cases ao with
  | none =>
    obtain ⟨rfl, rfl⟩ := z1 rfl
    cases ao2 with
    | none => obtain ⟨rfl, rfl⟩ := z2 rfl; exact toLog_nn w
    | some ae => exact toLog_ns S w hS ae c2 es hve hle hqe
  | some a =>
    cases ao2 with
    | none => obtain ⟨rfl, rfl⟩ := z2 rfl; exact toLog_sn S w hS a c cs hv hlen hq
    | some ae => exact toLog_ss S w hS a c cs hv hlen hq ae c2 es hve hle hqe
end Go.Proofs.Qxb6616889a
