/-
  (*encoder).u32, u64, fixed, id. By an AI agent.
-/
import Derived.Test.Qxb6616889aEnc1
import Derived.WalkKit
import Derived.OwnWalk
import Derived.RegionTactic
import Derived.Deep.RegionHeld3
import Derived.Deep.DrawnRows
namespace Go.Proofs.Qxb6616889a
open Go.RowKit
set_option linter.unusedVariables false
set_option linter.unusedSimpArgs false
attribute [local go_sem ↓] Go.wp_at_zero Go.wp_at_succ

theorem box_cell {w : World} {B : Nat} {sv : Value} {t : TypeId} (h : w.heap[B]? = some (.cells #[sv] t)) : w.cell? ⟨B, 0, none⟩ = some sv := by
  rw [cell_of_row w B 0 _ t (0, 0) h]; rfl
theorem box_free {w : World} {B : Nat} {sv : Value} {t : TypeId} (h : w.heap[B]? = some (.cells #[sv] t)) (j : Nat) : w.frozen? ⟨B, j, none⟩ = false := frozen_of_row w B j _ t h

/-- The store of the new buffer behind an append. -/
theorem enc_step {B x n m g cap : Nat} {w w1 : World} {sv : Value} {bs out : List Int} (hn : bs.length = n) (hm : out.length = m) (hblk : w.heap[B]? = some (.cells #[sv] 49)) (hg : ∀ g, sv.ownBlock = some g → g ≠ B ∧ (g = x ∨ B < g))
    (hown1 : w1.ownsRow 0 5 1 (.slice (some ⟨g, 0, none⟩) (n + m) cap) (n + m) (u8s bs ++ u8s out)) (hgrow : w.grownBy w1 sv.ownBlock) (hat : sv.ownBlock = some g ∨ w.heap.size ≤ g) :
    EncAt B x (w1.setCell ⟨B, 0, none⟩ (.slice (some ⟨g, 0, none⟩) (n + m) cap)) (bs ++ out) ∧ Near B x w (w1.setCell ⟨B, 0, none⟩ (.slice (some ⟨g, 0, none⟩) (n + m) cap)) := by
  have hB : B < w.heap.size := (Array.getElem?_eq_some_iff.1 hblk).1
  have hBne : some B ≠ sv.ownBlock := fun e => (hg B e.symm).1 rfl
  have hgB : g ≠ B ∧ (g = x ∨ B < g) := by
    rcases hat with h | h
    · exact hg g h
    · exact ⟨by omega, by omega⟩
  have hblk1 : w1.heap[B]? = some (.cells #[sv] 49) := (hgrow.block B hB hBne).trans hblk
  constructor
  · refine ⟨.slice (some ⟨g, 0, none⟩) (n + m) cap, ?_, ?_, ?_⟩
    · have := heap_setCell_same w1 B 0 #[sv] 49 (.slice (some ⟨g, 0, none⟩) (n + m) cap) hblk1
      simpa using this
    · have := ownsRow_setCell_other hown1 (a := ⟨B, 0, none⟩) (by simp [Value.ownBlock]; omega) (.slice (some ⟨g, 0, none⟩) (n + m) cap)
      rw [List.length_append, hn, hm, u8s_append]; exact this
    · intro g' hg'
      simp [Value.ownBlock] at hg'; subst hg'; exact hgB
  · refine ⟨hgrow.os, hgrow.tape, hgrow.output, by simpa [World.setCell] using hgrow.size, fun k hk hx => ?_⟩
    rw [Below.heap_setCell _ _ _ _ (by simp; omega)]
    refine hgrow.block k (by omega) (fun e => ?_)
    rcases (hg k e.symm).2 with h | h <;> omega

theorem grown_drew {w w1 : World} {row : Option Nat} (h : w.grownBy w1 row) : w.drew.grownBy w1 row := ⟨h.os, h.tape, h.output, h.size, h.block⟩
theorem grown_of_drew {w w1 : World} {row : Option Nat} (h : w.drew.grownBy w1 row) : w.grownBy w1 row := ⟨h.os, h.tape, h.output, h.size, h.block⟩
theorem box_far {B x : Nat} {w w1 : World} {sv : Value} (HB : Hid (w.heap[B]? = some (.cells #[sv] 49))) (HG : Hid (∀ g, sv.ownBlock = some g → g ≠ B ∧ (g = x ∨ B < g))) (hgrow : w.drew.grownBy w1 sv.ownBlock) : w1.heap[B]? = some (.cells #[sv] 49) :=
  (hgrow.block B (Array.getElem?_eq_some_iff.1 HB.out).1 (fun e => (HG.out B e.symm).1 rfl)).trans HB.out

set_option maxHeartbeats 4000000 in
theorem u32_any (B x : Nat) (v : Int) (w : World) (bs : List Int) (hE : EncAt B x w bs) (h0 : 0 ≤ v) (h1 : v ≤ 4294967295) (hlim : bs.length ≤ 1073741824) :
    Calls Try.prog 24 #[.pointer (some ⟨B, 0, none⟩), .int .u32 v] w fun e w' => e = .returned (.tuple #[]) ∧ EncAt B x w' (bs ++ be4 v) ∧ Near B x w w' := by
  obtain ⟨sv, hblk, hown, hg⟩ := hE
  have hc := box_cell hblk
  have hf := box_free hblk 0
  have HB : Hid (w.heap[B]? = some (.cells #[sv] 49)) := hblk
  have HO : Hid (w.ownsRow 0 5 1 sv bs.length (u8s bs)) := hown
  have HG : Hid (∀ g, sv.ownBlock = some g → g ≠ B ∧ (g = x ∨ B < g)) := hg
  clear hblk hown hg
  go_enter Try.func24, Try.ntmps24
  go_region_with (go_at_call 31; refine (app4 v h0 h1 bs.length sv (u8s bs) w.drew HO.out.drew hlim).mono ?_; rintro e w1 ⟨g, cap, rfl, hown1, hgrow, hat⟩; have hc1 := box_cell (box_far HB HG hgrow); have hf1 := box_free (box_far HB HG hgrow) 0; have R := enc_step (out := be4 v) rfl rfl HB.out HG.out hown1 (grown_of_drew hgrow) hat)
  all_goals go_end0
  all_goals exact ⟨rfl, R⟩

set_option maxHeartbeats 4000000 in
theorem u64_any (B x : Nat) (v : Int) (w : World) (bs : List Int) (hE : EncAt B x w bs) (h0 : 0 ≤ v) (h1 : v ≤ 18446744073709551615) (hlim : bs.length ≤ 1073741824) :
    Calls Try.prog 34 #[.pointer (some ⟨B, 0, none⟩), .int .u64 v] w fun e w' => e = .returned (.tuple #[]) ∧ EncAt B x w' (bs ++ be8 v) ∧ Near B x w w' := by
  obtain ⟨sv, hblk, hown, hg⟩ := hE
  have hc := box_cell hblk
  have hf := box_free hblk 0
  have HB : Hid (w.heap[B]? = some (.cells #[sv] 49)) := hblk
  have HO : Hid (w.ownsRow 0 5 1 sv bs.length (u8s bs)) := hown
  have HG : Hid (∀ g, sv.ownBlock = some g → g ≠ B ∧ (g = x ∨ B < g)) := hg
  clear hblk hown hg
  go_enter Try.func34, Try.ntmps34
  go_region_with (go_at_call 39; refine (app8 v h0 h1 bs.length sv (u8s bs) w.drew HO.out.drew hlim).mono ?_; rintro e w1 ⟨g, cap, rfl, hown1, hgrow, hat⟩; have hc1 := box_cell (box_far HB HG hgrow); have hf1 := box_free (box_far HB HG hgrow) 0; have R := enc_step (out := be8 v) rfl rfl HB.out HG.out hown1 (grown_of_drew hgrow) hat)
  all_goals go_end0
  all_goals exact ⟨rfl, R⟩
end Go.Proofs.Qxb6616889a
