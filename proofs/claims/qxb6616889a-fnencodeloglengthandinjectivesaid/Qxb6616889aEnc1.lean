/-
  AppendUint32, AppendUint64; (*encoder).u32, u64, fixed, id. By an AI agent.
-/
import Derived.Test.Qxb6616889aMem
import Derived.WalkKit
import Derived.OwnWalk
import Derived.Lib.EndianBits
import Derived.RegionTactic
import Derived.Deep.RegionHeld3
import Derived.Deep.DrawnRows
namespace Go.Proofs.Qxb6616889a
open Go.RowKit
set_option linter.unusedVariables false
set_option linter.unusedSimpArgs false


set_option maxHeartbeats 8000000 in
set_option maxRecDepth 100000 in
theorem app4 (v : Int) (hv0 : 0 ≤ v) (hv : v ≤ 4294967295) (n : Nat) (sv : Value) (xs : List Value) (w : World) (hown : w.ownsRow 0 5 1 sv n xs) (hlim : n ≤ 1073741824) :
    Calls Try.prog 31 #[.agg #[], sv, .int .u32 v] w fun e w' => ∃ g cap, e = .returned (.slice (some ⟨g, 0, none⟩) (n + 4) cap) ∧ w'.ownsRow 0 5 1 (.slice (some ⟨g, 0, none⟩) (n + 4) cap) (n + 4) (xs ++ u8s (be4 v)) ∧ w.grownBy w' sv.ownBlock ∧ (sv.ownBlock = some g ∨ w.heap.size ≤ g) := by
  obtain ⟨i0, hi, hz0, hz1, hz2⟩ := info_parts Try.info5
  go_enter Try.func31, Try.ntmps31
  go_wp2_with (at_builtin; refine wpList_append_lies _ rfl _ _ 25 rfl 0 5 i0 (.int .u8 0) 1 1 Try.underlying25 hi hz0 hz1 hz2 rfl (by decide) _ _ _ rfl ((hown.alloc _).alloc _) _ 4 4 [Value.int .u8 (v / 16777216), Value.int .u8 (v / 65536 % 256), Value.int .u8 (v / 256 % 256), Value.int .u8 (v % 256)] rfl rfl ?c1 ?c2 (by decide) ?c3 ?c4 (Nat.zero_le _) (w.heap.size + 2) ?c5 ?_)
  case c1 =>
    intro j u hj
    match j, hj with
    | 0, hj => simp at hj; subst hj; simp [Addr.add]
    | 1, hj => simp at hj; subst hj; simp [Addr.add]
    | 2, hj => simp at hj; subst hj; simp [Addr.add]
    | 3, hj => simp at hj; subst hj; simp [Addr.add]
  case c2 => intro u hu; simp at hu; rcases hu with rfl | rfl | rfl | rfl <;> rfl
  case c3 => unfold maxLen; omega
  case c4 => omega
  case c5 => simp
  intro g cap w2 hown' hgrow hat hlt
  go_wp2
  go_ret
  refine ⟨g, cap, rfl, hown', ⟨hgrow.os, hgrow.tape, hgrow.output, Nat.le_trans (by simp; omega) hgrow.size, fun j hj hne => (hgrow.block j (by simp; omega) hne).trans ?_⟩, or_right hat (fun h => by omega)⟩
  rw [Below.heap_alloc _ _ _ (by simp; omega), Below.heap_alloc _ _ _ hj]

set_option maxHeartbeats 8000000 in
set_option maxRecDepth 100000 in
theorem app8 (v : Int) (hv0 : 0 ≤ v) (hv : v ≤ 18446744073709551615) (n : Nat) (sv : Value) (xs : List Value) (w : World) (hown : w.ownsRow 0 5 1 sv n xs) (hlim : n ≤ 1073741824) :
    Calls Try.prog 39 #[.agg #[], sv, .int .u64 v] w fun e w' => ∃ g cap, e = .returned (.slice (some ⟨g, 0, none⟩) (n + 8) cap) ∧ w'.ownsRow 0 5 1 (.slice (some ⟨g, 0, none⟩) (n + 8) cap) (n + 8) (xs ++ u8s (be8 v)) ∧ w.grownBy w' sv.ownBlock ∧ (sv.ownBlock = some g ∨ w.heap.size ≤ g) := by
  obtain ⟨i0, hi, hz0, hz1, hz2⟩ := info_parts Try.info5
  go_enter Try.func39, Try.ntmps39
  go_wp2_with (at_builtin; refine wpList_append_lies _ rfl _ _ 25 rfl 0 5 i0 (.int .u8 0) 1 1 Try.underlying25 hi hz0 hz1 hz2 rfl (by decide) _ _ _ rfl ((hown.alloc _).alloc _) _ 8 8 [Value.int .u8 (v / 72057594037927936), Value.int .u8 (v / 281474976710656 % 256), Value.int .u8 (v / 1099511627776 % 256), Value.int .u8 (v / 4294967296 % 256), Value.int .u8 (v / 16777216 % 256), Value.int .u8 (v / 65536 % 256), Value.int .u8 (v / 256 % 256), Value.int .u8 (v % 256)] rfl rfl ?c1 ?c2 (by decide) ?c3 ?c4 (Nat.zero_le _) (w.heap.size + 2) ?c5 ?_)
  case c1 =>
    intro j u hj
    match j, hj with
    | 0, hj => simp at hj; subst hj; simp [Addr.add]
    | 1, hj => simp at hj; subst hj; simp [Addr.add]
    | 2, hj => simp at hj; subst hj; simp [Addr.add]
    | 3, hj => simp at hj; subst hj; simp [Addr.add]
    | 4, hj => simp at hj; subst hj; simp [Addr.add]
    | 5, hj => simp at hj; subst hj; simp [Addr.add]
    | 6, hj => simp at hj; subst hj; simp [Addr.add]
    | 7, hj => simp at hj; subst hj; simp [Addr.add]
  case c2 => intro u hu; simp at hu; rcases hu with rfl | rfl | rfl | rfl | rfl | rfl | rfl | rfl <;> rfl
  case c3 => unfold maxLen; omega
  case c4 => omega
  case c5 => simp
  intro g cap w2 hown' hgrow hat hlt
  go_wp2
  go_ret
  refine ⟨g, cap, rfl, hown', ⟨hgrow.os, hgrow.tape, hgrow.output, Nat.le_trans (by simp; omega) hgrow.size, fun j hj hne => (hgrow.block j (by simp; omega) hne).trans ?_⟩, or_right hat (fun h => by omega)⟩
  rw [Below.heap_alloc _ _ _ (by simp; omega), Below.heap_alloc _ _ _ hj]
end Go.Proofs.Qxb6616889a
