/-
  (*encoder).fixed, id, ids. By an AI agent.
-/
import Derived.Test.Qxb6616889aEnc2
import Derived.WalkKit
import Derived.OwnWalk
namespace Go.Proofs.Qxb6616889a
open Go.RowKit
set_option linter.unusedVariables false
set_option linter.unusedSimpArgs false

set_option maxHeartbeats 4000000 in
theorem fixed_any (B x : Nat) (w : World) (bs d : List Int) (b o c : Nat) (hE : EncAt B x w bs) (hr : w.rangeAt b o (u8s d)) (hd : 0 < d.length) (hd2 : d.length ≤ 1073741824) (hlim : bs.length ≤ 1073741824) :
    Calls Try.prog 35 #[.pointer (some ⟨B, 0, none⟩), .slice (some ⟨b, o, none⟩) d.length c] w fun e w' => e = .returned (.tuple #[]) ∧ EncAt B x w' (bs ++ d) ∧ Near B x w w' := by
  obtain ⟨sv, hblk, hown, hg⟩ := hE
  obtain ⟨i0, hi, hz0, hz1, hz2⟩ := info_parts Try.info5
  have hc := box_cell hblk
  have hf := box_free hblk 0
  have HB : Hid (w.heap[B]? = some (.cells #[sv] 49)) := hblk
  have HO : Hid (w.ownsRow 0 5 1 sv bs.length (u8s bs)) := hown
  have HG : Hid (∀ g, sv.ownBlock = some g → g ≠ B ∧ (g = x ∨ B < g)) := hg
  have HR : Hid (∀ j u, (u8s d)[j]? = some u → w.cell? ((⟨b, o, none⟩ : Addr).add j) = some u) := fun j u hj => by rw [Addr.add_mid]; exact hr j u hj
  clear hblk hown hg hr
  go_enter Try.func35, Try.ntmps35
  go_wp2_with (at_builtin; refine wpList_append_lies _ rfl _ _ 25 rfl 0 5 i0 (.int .u8 0) 1 1 Try.underlying25 hi hz0 hz1 hz2 rfl (by decide) _ _ _ rfl HO.out _ d.length c (u8s d) rfl (by rw [length_u8s]; omega) HR.out (u8s_one d) hd (by unfold maxLen; omega) (by omega) (Nat.zero_le _) w.heap.size rfl ?_; intro g cap w1 hown1 hgrow hat hlt; have hc1 := box_cell (box_far (w := w) HB HG (grown_drew hgrow)); have hf1 := box_free (box_far (w := w) HB HG (grown_drew hgrow)) 0; have R := enc_step (out := d) rfl rfl HB.out HG.out hown1 hgrow (or_right hat (fun h => by omega)))
  go_end0
  exact ⟨rfl, R⟩

set_option maxHeartbeats 4000000 in
theorem id_any (B x : Nat) (i : Int) (w : World) (bs : List Int) (hE : EncAt B x w bs) (hlim : bs.length ≤ 1073741824) :
    Calls Try.prog 40 #[.pointer (some ⟨B, 0, none⟩), .int .i64 i] w fun e w' => e = .returned (.tuple #[]) ∧ EncAt B x w' (bs ++ id4 i) ∧ Near B x w w' := by
  go_enter Try.func40, Try.ntmps40
  go_wp2_with (go_at_call 24; refine (u32_any B x _ _ bs hE (by omega) (by omega) hlim).mono ?_; rintro e w1 ⟨rfl, R⟩)
  go_end0
  exact ⟨rfl, R⟩

theorem take_snoc {α : Type} {l : List α} {k : Nat} {x : α} (h : l[k]? = some x) : l.take (k + 1) = l.take k ++ [x] := by
  obtain ⟨hk, rfl⟩ := List.getElem?_eq_some_iff.1 h
  exact List.take_succ_eq_append_getElem hk

theorem ids_step (q : List Int) (k : Nat) (i : Int) (h : q[k]? = some i) (bs : List Int) : bs ++ (cnt4 q ++ (q.take (k + 1)).flatMap id4) = (bs ++ (cnt4 q ++ (q.take k).flatMap id4)) ++ id4 i := by
  rw [take_snoc h]; simp

theorem ids_len (q : List Int) (k : Nat) : ((q.take k).flatMap id4).length ≤ 4 * q.length := by
  have := encIds_length (q.take k)
  simp only [encIds, List.length_append, cnt4_length] at this
  have h2 : (q.take k).length ≤ q.length := by simp; omega
  omega

set_option maxHeartbeats 4000000 in
theorem ids_any (S : Nat → Prop) (B x : Nat) (w : World) (bs q : List Int) (v : Value) (hE : EncAt B x w bs) (hv : SliceOf S v 1 (EInt w) q) (hS : ∀ b, S b → b < B ∧ b ≠ x) (hlim : bs.length + 4 + 4 * q.length ≤ 1073741824) :
    Calls Try.prog 36 #[.pointer (some ⟨B, 0, none⟩), v] w fun e w' => e = .returned (.tuple #[]) ∧ EncAt B x w' (bs ++ encIds q) ∧ Near B x w w' := by
  obtain ⟨ao, c, rfl, hnil, hc1, hc2, hcell⟩ := hv
  have HC : Hid (0 < q.length → ∃ b o, ao = some ⟨b, o, none⟩ ∧ S b ∧ ∀ k x, q[k]? = some x → EInt w b (o + k * 1) x) := hcell
  clear hcell hnil
  go_enter Try.func36, Try.ntmps36
  go_wp2_with (go_at_call 24; refine (u32_any B x _ _ bs hE (by omega) (by omega) (by omega)).mono ?_; rintro e w1 ⟨rfl, hE1, hN1⟩)
  go_loopw [13] (fun i wr => ∃ k : Nat, k ≤ q.length ∧ i = .int .i64 k ∧ EncAt B x wr (bs ++ (cnt4 q ++ (q.take k).flatMap id4)) ∧ Near B x w wr) (fun i _ => q.length - (intOf i).toNat)
  case atStart => exact ⟨0, Nat.zero_le _, rfl, by simpa [cnt4] using hE1, hN1⟩
  case round =>
    obtain ⟨k, hk, rfl, hEr, hNr⟩ := hrel
    clear hE hE1 hN1
    have hl : (bs ++ (cnt4 q ++ (q.take k).flatMap id4)).length ≤ 1073741824 := by
      have := ids_len q k
      simp only [List.length_append, cnt4_length]; omega
    by_cases hlt : k < q.length
    · obtain ⟨b, o, rfl, hSb, hE0⟩ := HC.out (by omega)
      obtain ⟨y, hy⟩ : ∃ y, q[k]? = some y := ⟨_, List.getElem?_eq_getElem hlt⟩
      have hc : wr.cell? ⟨b, o + k, none⟩ = some (.int .i64 y) := by
        rw [(hNr.keeps hS).cell hSb]; have := hE0 k _ hy; unfold EInt at this; rw [← this]; simp
      have HS : Hid (bs ++ (cnt4 q ++ (q.take (k + 1)).flatMap id4) = (bs ++ (cnt4 q ++ (q.take k).flatMap id4)) ++ id4 y) := ids_step q k y hy bs
      have HE : Hid (EncAt B x wr (bs ++ (cnt4 q ++ (q.take k).flatMap id4))) := hEr
      have HLn : Hid ((bs ++ (cnt4 q ++ (q.take k).flatMap id4)).length ≤ 1073741824) := hl
      clear hy hE0 HC hEr hl
      go_wp2_with (go_at_call 40; refine (id_any B x _ _ _ HE.out HLn.out).mono ?_; rintro e w2 ⟨rfl, hE2, hN2⟩)
      go_roundw
      case rel => exact ⟨k + 1, by omega, by go_num, by rw [HS.out]; exact hE2, hNr.trans hN2⟩
      case measure => simp [intOf]; omega
    · obtain rfl : k = q.length := by omega
      have HE : Hid (EncAt B x wr (bs ++ encIds q)) := by rw [List.take_length] at hEr; exact hEr
      clear hEr hl HC
      go_wp2
      go_end0
      exact ⟨rfl, HE.out, hNr⟩
end Go.Proofs.Qxb6616889a
