/-
  toLog: the walks. By an AI agent.
-/
import Derived.Test.Qxb6616889aToLogA
import Derived.WalkKit
import Derived.WalkSpells
import Derived.OwnWalk
import Derived.Deep.RegionHeld3
import Derived.Deep.DrawnRows
namespace Go.Proofs.Qxb6616889a
open Go.RowKit
set_option linter.unusedVariables false
set_option linter.unusedSimpArgs false
attribute [local go_sem ↓] Go.wp_at_zero Go.wp_at_succ exec_build66 exec_store66 exec_store72
attribute [local go_sem] bld67_eq ptrB_eq ptrO_eq aggL_eq

set_option maxHeartbeats 8000000 in
set_option maxRecDepth 100000 in
theorem toLog_nn (w : World) :
    Calls Try.prog 18 #[.slice none 0 0, .slice none 0 0] w fun e w' => ∃ lb, e = .returned (.pointer (some ⟨lb, 0, none⟩)) ∧ Below w.heap.size w w' ∧ LogAt (fun b => w.heap.size ≤ b ∧ b < w'.heap.size) w' lb [] [] := by
  have hneq := fun w a n c => run_neq_slice_nil_any (P := Try.prog) w 33 54 a n c 0 0 Try.underlying33
  have hneq2 := fun w a n c => run_neq_slice_nil_any (P := Try.prog) w 34 57 a n c 0 0 Try.underlying34
  have HH : Hid (Half w [] (w.alloc (.cells #[.slice none 0 0, .slice none 0 0] 62)) (.slice none 0 0)) := half_nil w
  go_enter Try.func18, Try.ntmps18
  have HE : Hid (Below w.heap.size w (w.alloc (.cells #[.slice none 0 0, .slice none 0 0] 62)) ∧ LogAt (fun b => w.heap.size ≤ b ∧ b < ((w.alloc (.cells #[.slice none 0 0, .slice none 0 0] 62))).heap.size) (w.alloc (.cells #[.slice none 0 0, .slice none 0 0] 62)) w.heap.size [] []) := end_nil HH.out
  go_wp2
  go_ret
  exact ⟨w.heap.size, rfl, HE.out⟩

set_option maxHeartbeats 8000000 in
set_option maxRecDepth 100000 in
theorem toLog_sn (S : Nat → Prop) (w : World) (hS : ∀ b, S b → b < w.heap.size) (a : Addr) (cc : Nat) (cs : List Cp) (hv : SliceOf S (.slice (some a) cs.length cc) 67 (ECp S w) cs) (hlen : cs.length ≤ 1048576) (hq : ∀ c ∈ cs, c.q.length ≤ 1048576) :
    Calls Try.prog 18 #[.slice (some a) cs.length cc, .slice none 0 0] w fun e w' => ∃ lb, e = .returned (.pointer (some ⟨lb, 0, none⟩)) ∧ Below w.heap.size w w' ∧ LogAt (fun b => w.heap.size ≤ b ∧ b < w'.heap.size) w' lb cs [] := by
  have hneq := fun w a n c => run_neq_slice_nil_any (P := Try.prog) w 33 54 a n c 0 0 Try.underlying33
  have hneq2 := fun w a n c => run_neq_slice_nil_any (P := Try.prog) w 34 57 a n c 0 0 Try.underlying34
  obtain ⟨i0, hi, hz0, hz1, hz2⟩ := info_parts Try.info66
  have HI : Hid (Try.prog.info? 66 = some i0) := hi
  have HZ0 : Hid (i0.zero = some (.agg zero67)) := hz0
  have HZ1 : Hid (i0.size = 67) := hz1
  have HZ2 : Hid (i0.bytes * cs.length ≤ 281474976710656) := by show _ ≤ _; rw [hz2]; omega
  have HV : Hid (SliceOf S (.slice (some a) cs.length cc) 67 (ECp S w) cs) := hv
  have HQ : Hid (∀ c ∈ cs, c.q.length ≤ 1048576) := hq
  clear hi hz0 hz1 hz2 hv hq
  go_enter Try.func18, Try.ntmps18
  go_wp2_with (at_make; refine wpList_make_full _ rfl _ _ 59 rfl w.heap.size 66 i0 _ 67 Try.underlying59 HI.out HZ0.out HZ1.out .i64 .i64 _ _ cs.length rfl rfl rfl rfl HZ2.out (by unfold maxLen; omega) (by simp) ?_; intro w1 hown hgrow; have hcl := (box2_cell (box_made hgrow)).1; have hfl := box2_free (box_made hgrow) 0)
  rw [show (w.alloc (Obj.cells #[Value.slice none 0 0, Value.slice none 0 0] 62)).heap.size = w.heap.size + 1 by simp] at hown
  have HST : Hid (Below w.heap.size w (w1.setCell ⟨w.heap.size, 0, none⟩ (.slice (some ⟨w.heap.size + 1, 0, none⟩) cs.length cs.length)) ∧ (w1.setCell ⟨w.heap.size, 0, none⟩ (.slice (some ⟨w.heap.size + 1, 0, none⟩) cs.length cs.length)).heap[w.heap.size]? = some (.cells #[.slice (some ⟨w.heap.size + 1, 0, none⟩) cs.length cs.length, .slice none 0 0] 62) ∧ Fill 67 ECp (w.heap.size + 1) cs.length cs 0 (w1.setCell ⟨w.heap.size, 0, none⟩ (.slice (some ⟨w.heap.size + 1, 0, none⟩) cs.length cs.length)) (w1.setCell ⟨w.heap.size, 0, none⟩ (.slice (some ⟨w.heap.size + 1, 0, none⟩) cs.length cs.length))) := cps_start cs hown hgrow (.slice (some ⟨w.heap.size + 1, 0, none⟩) cs.length cs.length)
  clear hown hgrow hcl hfl HI HZ0 HZ1 HZ2
  go_loopw [6] (fun i wr => ∃ k : Nat, k ≤ cs.length ∧ i = .int .i64 k ∧ Fill 67 ECp (w.heap.size + 1) cs.length cs k (w1.setCell ⟨w.heap.size, 0, none⟩ (.slice (some ⟨w.heap.size + 1, 0, none⟩) cs.length cs.length)) wr) (fun i _ => cs.length - (intOf i).toNat)
  case atStart => exact ⟨0, Nat.zero_le _, rfl, HST.out.2.2⟩
  case round =>
    obtain ⟨k, hk, rfl, hF⟩ := hrel
    by_cases hlt : k < cs.length
    · obtain ⟨b, o, hab, hSb, c, hy, hcp⟩ : ∃ b o, a = ⟨b, o, none⟩ ∧ S b ∧ ∃ c, cs[k]? = some c ∧ ECp S w b (o + k * 67) c := by
        obtain ⟨ao, c', hv, _, _, _, h4⟩ := HV.out
        obtain ⟨b, o, e1, e2, e3⟩ := h4 (by omega)
        cases hv
        exact ⟨b, o, by simpa using e1, e2, cs[k], List.getElem?_eq_getElem hlt, e3 k _ (List.getElem?_eq_getElem hlt)⟩
      subst hab
      have HF : Hid (Fill 67 ECp (w.heap.size + 1) cs.length cs k (w1.setCell ⟨w.heap.size, 0, none⟩ (.slice (some ⟨w.heap.size + 1, 0, none⟩) cs.length cs.length)) wr) := hF
      have hbw : b < w.heap.size := hS b hSb
      obtain ⟨hok, qv, hr, hqs⟩ := hcp
      have hbel : Below w.heap.size w wr := HST.out.1.trans (hF.1.mono (by omega))
      have hLw : wr.heap[w.heap.size]? = some (.cells #[.slice (some ⟨w.heap.size + 1, 0, none⟩) cs.length cs.length, .slice none 0 0] 62) := (hF.1.block _ (by omega)).trans HST.out.2.1
      have hgw : w.heap.size + 1 < wr.heap.size := hF.2.1
      have HT : Hid (wr.there (w.heap.size + 1) (k * 67) 67) := there_sub hF.2.2.1 (by omega)
      have HKeep : Hid (∀ w' : World, Below (w.heap.size + 1) wr w' → w'.there (w.heap.size + 1) (k * 67) 67 → w'.cell? ⟨w.heap.size, 0, none⟩ = some (.slice (some ⟨w.heap.size + 1, 0, none⟩) cs.length cs.length) ∧ w'.cell? ⟨b, o + k * 67, none⟩ = some (.int .u64 c.seq) ∧ w'.rangeAt b (o + k * 67 + 1) (u8s c.dig) ∧ w'.cell? ⟨b, o + k * 67 + 33, none⟩ = some (.int .u64 c.size) ∧ w'.rangeAt b (o + k * 67 + 34) (u8s c.hist) ∧ w'.cell? ⟨b, o + k * 67 + 66, none⟩ = some qv ∧ w'.there (w.heap.size + 1) (k * 67) 67) := by
        intro w' hb' ht'
        have hr' : w'.rangeAt b (o + k * 67) (cpCells c qv) := fun j u hu => by
          rw [hb'.cell (p := ⟨b, o + k * 67 + j, none⟩) (by show b < _; omega), hbel.cell (p := ⟨b, o + k * 67 + j, none⟩) hbw]; exact hr j u hu
        obtain ⟨c1, c2, c3, c4, c5⟩ := cp_cells hok hr'
        exact ⟨(box2_cell ((hb'.block _ (by omega)).trans hLw)).1, c1, c2, c3, c4, c5, ht'⟩
      have HQS : Hid (SliceOf S qv 1 (EInt wr) c.q) := ints_keep (Below.keeps hbel hS) hqs
      have HSw : Hid (∀ b, S b → b < wr.heap.size) := fun b hb => by have := hS b hb; omega
      have hql : c.q.length ≤ 1048576 := HQ.out c (List.mem_of_getElem? hy)
      have HQL : Hid (c.q.length ≤ 1048576) := hql
      have HY : Hid (cs[k]? = some c) := hy
      obtain ⟨qo, qc, rfl, _, _, _, _⟩ := hqs
      have HOK : Hid c.ok := hok
      have hd1 : c.dig.length = 32 := hok.1.1
      have hd2 : c.hist.length = 32 := hok.2.1.1
      have hs5 := fun ao n c' => sized5 c.seq c.size c.dig c.hist hd1 hd2 ao n c'
      have hu51 := Try.underlying51
      have hi51 : (Try.prog.info? 51).map (·.size) = some (u8s c.dig).length := by rw [length_u8s, hd1]; exact Try.size51
      have hi51' : (Try.prog.info? 51).map (·.size) = some (u8s c.hist).length := by rw [length_u8s, hd2]; exact Try.size51
      have hk0 : (0 : Int) ≤ (k : Int) := by omega
      have hk1 : (k : Int) < (cs.length : Int) := by omega
      clear hF hr hok hql HST hLw hy
      go_wp2_with fail
      refine wp_region_noPanic ?_
      refine wp_region_held_drew (S := (fun w' => w'.cell? ⟨w.heap.size, 0, none⟩ = some (.slice (some ⟨w.heap.size + 1, 0, none⟩) cs.length cs.length) ∧ w'.cell? ⟨b, o + k * 67, none⟩ = some (.int .u64 c.seq) ∧ w'.rangeAt b (o + k * 67 + 1) (u8s c.dig) ∧ w'.cell? ⟨b, o + k * 67 + 33, none⟩ = some (.int .u64 c.size) ∧ w'.rangeAt b (o + k * 67 + 34) (u8s c.hist) ∧ w'.cell? ⟨b, o + k * 67 + 66, none⟩ = some (.slice qo c.q.length qc) ∧ w'.there (w.heap.size + 1) (k * 67) 67)) (by kernel_rfl) ?_ (fun hHeld => ?_)
      · exact HKeep.out _ ((Below.refl _ _).drew) ((World.there_drew _ _ _ _).2 HT.out)
      refine take_drop (i := 0) (v := ?_) rfl (by kernel_rfl) (by kernel_rfl) (by kernel_rfl) (fun _ _ _ h => h) (Or.inl ⟨by rfl, ?_⟩) (by assumption) ?_
      rotate_left
      · intro w hSw; (try dsimp only at hSw); go_simp; (try with_reducible rfl)
      simp only [Act.put, List.setIfInBounds_toArray, List.set_cons_zero, List.set_cons_succ]
      refine take_drop (i := 1) (v := ?_) rfl (by kernel_rfl) (by kernel_rfl) (by kernel_rfl) (fun _ _ _ h => h) (Or.inl ⟨by rfl, ?_⟩) (by assumption) ?_
      rotate_left
      · intro w hSw; (try dsimp only at hSw); go_simp; (try with_reducible rfl)
      simp only [Act.put, List.setIfInBounds_toArray, List.set_cons_zero, List.set_cons_succ]
      refine take_drop (i := 2) (v := ?_) rfl (by kernel_rfl) (by kernel_rfl) (by kernel_rfl) (fun _ _ _ h => h) (Or.inl ⟨by rfl, ?_⟩) (by assumption) ?_
      rotate_left
      · intro w hSw; (try dsimp only at hSw); go_simp; (try with_reducible rfl)
      simp only [Act.put, List.setIfInBounds_toArray, List.set_cons_zero, List.set_cons_succ]
      refine take_drop (i := 3) (v := ?_) rfl (by kernel_rfl) (by kernel_rfl) (by kernel_rfl) (fun _ _ _ h => h) (Or.inl ⟨by rfl, ?_⟩) (by assumption) ?_
      rotate_left
      · intro w hSw; (try dsimp only at hSw); go_simp; (try with_reducible rfl)
      simp only [Act.put, List.setIfInBounds_toArray, List.set_cons_zero, List.set_cons_succ]
      refine take_drop (i := 4) (v := ?_) rfl (by kernel_rfl) (by kernel_rfl) (by kernel_rfl) (fun _ _ _ h => h) (Or.inl ⟨by rfl, ?_⟩) (by assumption) ?_
      rotate_left
      · intro w hSw; (try dsimp only at hSw); go_simp; (try with_reducible rfl)
      simp only [Act.put, List.setIfInBounds_toArray, List.set_cons_zero, List.set_cons_succ]
      refine take_drop (i := 5) (v := ?_) rfl (by kernel_rfl) (by kernel_rfl) (by kernel_rfl) (fun _ _ _ h => h) (Or.inl ⟨by rfl, ?_⟩) (by assumption) ?_
      rotate_left
      · intro w hSw; (try dsimp only at hSw); go_simp; (try with_reducible rfl)
      simp only [Act.put, List.setIfInBounds_toArray, List.set_cons_zero, List.set_cons_succ]
      refine take_drop (i := 6) (v := ?_) rfl (by kernel_rfl) (by kernel_rfl) (by kernel_rfl) (fun _ _ _ h => h) (Or.inl ⟨by rfl, ?_⟩) (by assumption) ?_
      rotate_left
      · intro w hSw; (try dsimp only at hSw); go_simp; (try with_reducible rfl)
      simp only [Act.put, List.setIfInBounds_toArray, List.set_cons_zero, List.set_cons_succ]
      refine take_drop (i := 7) (v := ?_) rfl (by kernel_rfl) (by kernel_rfl) (by kernel_rfl) (fun _ _ _ h => h) (Or.inl ⟨by rfl, ?_⟩) (by assumption) ?_
      rotate_left
      · intro w hSw; (try dsimp only at hSw); go_simp; (try with_reducible rfl)
      simp only [Act.put, List.setIfInBounds_toArray, List.set_cons_zero, List.set_cons_succ]
      refine take_drop (i := 8) (v := ?_) rfl (by kernel_rfl) (by kernel_rfl) (by kernel_rfl) (fun _ _ _ h => h) (Or.inl ⟨by rfl, ?_⟩) (by assumption) ?_
      rotate_left
      · intro w hSw; (try dsimp only at hSw); go_simp; (try with_reducible rfl)
      simp only [Act.put, List.setIfInBounds_toArray, List.set_cons_zero, List.set_cons_succ]
      refine take_drop (i := 9) (v := ?_) rfl (by kernel_rfl) (by kernel_rfl) (by kernel_rfl) (fun _ _ _ h => h) (Or.inl ⟨by rfl, ?_⟩) (by assumption) ?_
      rotate_left
      · intro w hSw; (try dsimp only at hSw); go_simp; (try with_reducible rfl)
      simp only [Act.put, List.setIfInBounds_toArray, List.set_cons_zero, List.set_cons_succ]
      refine take_drop (i := 10) (v := ?_) rfl (by kernel_rfl) (by kernel_rfl) (by kernel_rfl) (fun _ _ _ h => h) (Or.inl ⟨by rfl, ?_⟩) (by assumption) ?_
      rotate_left
      · intro w hSw; (try dsimp only at hSw); go_simp; (try with_reducible rfl)
      simp only [Act.put, List.setIfInBounds_toArray, List.set_cons_zero, List.set_cons_succ]
      refine take_drop (i := 11) (v := ?_) rfl (by kernel_rfl) (by kernel_rfl) (by kernel_rfl) (fun _ _ _ h => h) (Or.inl ⟨by rfl, ?_⟩) (by assumption) ?_
      rotate_left
      · intro w hSw; (try dsimp only at hSw); go_simp; (try with_reducible rfl)
      simp only [Act.put, List.setIfInBounds_toArray, List.set_cons_zero, List.set_cons_succ]
      refine take_drop (i := 12) (v := ?_) rfl (by kernel_rfl) (by kernel_rfl) (by kernel_rfl) (fun _ _ _ h => h) (Or.inl ⟨by rfl, ?_⟩) (by assumption) ?_
      rotate_left
      · intro w hSw; (try dsimp only at hSw); go_simp; (try with_reducible rfl)
      simp only [Act.put, List.setIfInBounds_toArray, List.set_cons_zero, List.set_cons_succ]
      refine take_drop (i := 13) (v := ?_) rfl (by kernel_rfl) (by kernel_rfl) (by kernel_rfl) (fun _ _ _ h => h) (Or.inl ⟨by rfl, ?_⟩) (by assumption) ?_
      rotate_left
      · intro w hSw; (try dsimp only at hSw); go_simp; (try with_reducible rfl)
      simp only [Act.put, List.setIfInBounds_toArray, List.set_cons_zero, List.set_cons_succ]
      refine take_drop (i := 14) rfl (by kernel_rfl) (by kernel_rfl) (by kernel_rfl) (fun _ _ _ h => h) (yieldsIf_load_mid (by rfl) 51 _ rfl b (o + k * 67 + 1) rfl (u8s c.dig) _ (fun w hSw => hSw.2.2.1) hu51 rfl hi51) (by assumption) ?_
      simp only [Act.put, List.setIfInBounds_toArray, List.set_cons_zero, List.set_cons_succ]
      refine take_drop (i := 15) (v := ?_) rfl (by kernel_rfl) (by kernel_rfl) (by kernel_rfl) (fun _ _ _ h => h) (Or.inl ⟨by rfl, ?_⟩) (by assumption) ?_
      rotate_left
      · intro w hSw; (try dsimp only at hSw); go_simp; (try with_reducible rfl)
      simp only [Act.put, List.setIfInBounds_toArray, List.set_cons_zero, List.set_cons_succ]
      refine take_drop (i := 16) (v := ?_) rfl (by kernel_rfl) (by kernel_rfl) (by kernel_rfl) (fun _ _ _ h => h) (Or.inl ⟨by rfl, ?_⟩) (by assumption) ?_
      rotate_left
      · intro w hSw; (try dsimp only at hSw); go_simp; (try with_reducible rfl)
      simp only [Act.put, List.setIfInBounds_toArray, List.set_cons_zero, List.set_cons_succ]
      refine take_drop (i := 17) (v := ?_) rfl (by kernel_rfl) (by kernel_rfl) (by kernel_rfl) (fun _ _ _ h => h) (Or.inl ⟨by rfl, ?_⟩) (by assumption) ?_
      rotate_left
      · intro w hSw; (try dsimp only at hSw); go_simp; (try with_reducible rfl)
      simp only [Act.put, List.setIfInBounds_toArray, List.set_cons_zero, List.set_cons_succ]
      refine take_drop (i := 18) (v := ?_) rfl (by kernel_rfl) (by kernel_rfl) (by kernel_rfl) (fun _ _ _ h => h) (Or.inl ⟨by rfl, ?_⟩) (by assumption) ?_
      rotate_left
      · intro w hSw; (try dsimp only at hSw); go_simp; (try with_reducible rfl)
      simp only [Act.put, List.setIfInBounds_toArray, List.set_cons_zero, List.set_cons_succ]
      refine take_drop (i := 19) (v := ?_) rfl (by kernel_rfl) (by kernel_rfl) (by kernel_rfl) (fun _ _ _ h => h) (Or.inl ⟨by rfl, ?_⟩) (by assumption) ?_
      rotate_left
      · intro w hSw; (try dsimp only at hSw); go_simp; (try with_reducible rfl)
      simp only [Act.put, List.setIfInBounds_toArray, List.set_cons_zero, List.set_cons_succ]
      refine take_drop (i := 20) (v := ?_) rfl (by kernel_rfl) (by kernel_rfl) (by kernel_rfl) (fun _ _ _ h => h) (Or.inl ⟨by rfl, ?_⟩) (by assumption) ?_
      rotate_left
      · intro w hSw; (try dsimp only at hSw); go_simp; (try with_reducible rfl)
      simp only [Act.put, List.setIfInBounds_toArray, List.set_cons_zero, List.set_cons_succ]
      refine take_drop (i := 21) (v := ?_) rfl (by kernel_rfl) (by kernel_rfl) (by kernel_rfl) (fun _ _ _ h => h) (Or.inl ⟨by rfl, ?_⟩) (by assumption) ?_
      rotate_left
      · intro w hSw; (try dsimp only at hSw); go_simp; (try with_reducible rfl)
      simp only [Act.put, List.setIfInBounds_toArray, List.set_cons_zero, List.set_cons_succ]
      refine take_drop (i := 22) (v := ?_) rfl (by kernel_rfl) (by kernel_rfl) (by kernel_rfl) (fun _ _ _ h => h) (Or.inl ⟨by rfl, ?_⟩) (by assumption) ?_
      rotate_left
      · intro w hSw; (try dsimp only at hSw); go_simp; (try with_reducible rfl)
      simp only [Act.put, List.setIfInBounds_toArray, List.set_cons_zero, List.set_cons_succ]
      refine take_drop (i := 23) (v := ?_) rfl (by kernel_rfl) (by kernel_rfl) (by kernel_rfl) (fun _ _ _ h => h) (Or.inl ⟨by rfl, ?_⟩) (by assumption) ?_
      rotate_left
      · intro w hSw; (try dsimp only at hSw); go_simp; (try with_reducible rfl)
      simp only [Act.put, List.setIfInBounds_toArray, List.set_cons_zero, List.set_cons_succ]
      refine take_drop (i := 24) rfl (by kernel_rfl) (by kernel_rfl) (by kernel_rfl) (fun _ _ _ h => h) (yieldsIf_load_mid (by rfl) 51 _ rfl b (o + k * 67 + 34) rfl (u8s c.hist) _ (fun w hSw => hSw.2.2.2.2.1) hu51 rfl hi51') (by assumption) ?_
      simp only [Act.put, List.setIfInBounds_toArray, List.set_cons_zero, List.set_cons_succ]
      refine take_drop (i := 25) (v := ?_) rfl (by kernel_rfl) (by kernel_rfl) (by kernel_rfl) (fun _ _ _ h => h) (Or.inl ⟨by rfl, ?_⟩) (by assumption) ?_
      rotate_left
      · intro w hSw; (try dsimp only at hSw); go_simp; (try with_reducible rfl)
      simp only [Act.put, List.setIfInBounds_toArray, List.set_cons_zero, List.set_cons_succ]
      refine take_drop (i := 26) (v := ?_) rfl (by kernel_rfl) (by kernel_rfl) (by kernel_rfl) (fun _ _ _ h => h) (Or.inl ⟨by rfl, ?_⟩) (by assumption) ?_
      rotate_left
      · intro w hSw; (try dsimp only at hSw); go_simp; (try with_reducible rfl)
      simp only [Act.put, List.setIfInBounds_toArray, List.set_cons_zero, List.set_cons_succ]
      refine take_drop (i := 27) (v := ?_) rfl (by kernel_rfl) (by kernel_rfl) (by kernel_rfl) (fun _ _ _ h => h) (Or.inl ⟨by rfl, ?_⟩) (by assumption) ?_
      rotate_left
      · intro w hSw; (try dsimp only at hSw); go_simp; (try with_reducible rfl)
      simp only [Act.put, List.setIfInBounds_toArray, List.set_cons_zero, List.set_cons_succ]
      refine take_drop (i := 28) (v := ?_) rfl (by kernel_rfl) (by kernel_rfl) (by kernel_rfl) (fun _ _ _ h => h) (Or.inl ⟨by rfl, ?_⟩) (by assumption) ?_
      rotate_left
      · intro w hSw; (try dsimp only at hSw); go_simp; (try with_reducible rfl)
      simp only [Act.put, List.setIfInBounds_toArray, List.set_cons_zero, List.set_cons_succ]
      refine take_drop (i := 29) (v := ?_) rfl (by kernel_rfl) (by kernel_rfl) (by kernel_rfl) (fun _ _ _ h => h) (Or.inl ⟨by rfl, ?_⟩) (by assumption) ?_
      rotate_left
      · intro w hSw; (try dsimp only at hSw); go_simp; (try with_reducible rfl)
      simp only [Act.put, List.setIfInBounds_toArray, List.set_cons_zero, List.set_cons_succ]
      refine wpAnyH_ready (rs := [30]) (by kernel_rfl) (by simp) ?_
      refine ready_drop rfl (fun K hK => ?_) AllReadyH.nil
      go_simp
      refine (cloneInts_any S wr.drew _ c.q HQS.out HSw.out HQL.out).mono ?_
      rintro e w2 ⟨v2, rfl, hb2', hq2⟩
      have hb2 : Below (w.heap.size + 1) wr w2 := (below_of_drew hb2').mono (Nat.le_of_lt hgw)
      have ht2 : w2.there (w.heap.size + 1) (k * 67) 67 := there_below hb2' hgw HT.out
      have HQ2 : Hid (SliceOf (fun b => wr.heap.size ≤ b ∧ b < w2.heap.size) v2 1 (EInt w2) c.q) := hq2
      obtain ⟨ro, rc, rfl, _, _, _, _⟩ := hq2
      have hst2 := storeOk66 c ht2 HOK.out ro c.q.length rc
      have HRound : Hid (Fill 67 ECp (w.heap.size + 1) cs.length cs (k + 1) (w1.setCell ⟨w.heap.size, 0, none⟩ (.slice (some ⟨w.heap.size + 1, 0, none⟩) cs.length cs.length)) (w2.setCells (w.heap.size + 1) (k * 67) (cp5 c.seq c.dig c.size c.hist (.slice ro c.q.length rc)))) := cps_round HF.out hlt HY.out HOK.out (below_of_drew hb2') HQ2.out
      refine hK.out _ _ (HKeep.out _ hb2 ht2) (fun hHeld2 => ?_)
      clear hK K hHeld
      (try simp only [Act.put, List.setIfInBounds_toArray, List.set_cons_zero, List.set_cons_succ])
      refine take_drop (i := 31) (v := ?_) rfl (by kernel_rfl) (by kernel_rfl) (by kernel_rfl) (fun _ _ _ h => h) (Or.inl ⟨by rfl, ?_⟩) (by assumption) ?_
      rotate_left
      · intro w hSw; (try dsimp only at hSw); go_simp; (try with_reducible rfl)
      simp only [Act.put, List.setIfInBounds_toArray, List.set_cons_zero, List.set_cons_succ]
      refine take_drop (i := 32) (v := ?_) rfl (by kernel_rfl) (by kernel_rfl) (by kernel_rfl) (fun _ _ _ h => h) (Or.inl ⟨by rfl, ?_⟩) (by assumption) ?_
      rotate_left
      · intro w hSw; (try dsimp only at hSw); go_simp; (try with_reducible rfl)
      simp only [Act.put, List.setIfInBounds_toArray, List.set_cons_zero, List.set_cons_succ]
      refine wpAnyH_ready (rs := [33]) (by kernel_rfl) (by simp) ?_
      refine ready_drop rfl (fun K hK => ?_) AllReadyH.nil
      go_simp
      refine hK.out _ _ (HKeep.out _ (below_setCells hb2 (Nat.le_refl _) _ _) (World.there_setCells ht2 _ _ _)) (fun hHeld3 => ?_)
      clear hK K hHeld2
      refine wpAnyH_done (by kernel_rfl) ?_ _
      refine NoPanic.normal ?_
      go_wp2
      go_roundw
      case rel => exact ⟨k + 1, by omega, by go_num, HRound.out⟩
      case measure => simp [intOf]; omega
    · obtain rfl : k = cs.length := by omega
      have HH : Hid (Half w cs wr (.slice (some ⟨w.heap.size + 1, 0, none⟩) cs.length cs.length)) := half_some HST.out.1 HST.out.2.1 hlen hF
      clear hF HST
      have HE : Hid (Below w.heap.size w wr ∧ LogAt (fun b => w.heap.size ≤ b ∧ b < (wr).heap.size) wr w.heap.size cs []) := end_nil HH.out
      go_wp2
      go_ret
      exact ⟨w.heap.size, rfl, HE.out⟩

end Go.Proofs.Qxb6616889a
