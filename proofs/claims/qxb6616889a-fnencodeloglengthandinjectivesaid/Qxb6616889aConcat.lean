/-
  concatBytes. By an AI agent.
-/
import Derived.Test.Qxb6616889aBytes
import Derived.WalkKit
import Derived.WalkSpells
import Derived.OwnWalk
namespace Go.Proofs.Qxb6616889a
open Go.RowKit
set_option linter.unusedVariables false
set_option linter.unusedSimpArgs false

set_option maxHeartbeats 2000000 in
theorem concat_any (S : Nat → Prop) (w : World) (v1 v2 : Value) (xs ys : List Int) (hv1 : SliceOf S v1 1 (EByte w) xs) (hv2 : SliceOf S v2 1 (EByte w) ys) (hS : ∀ b, S b → b < w.heap.size) (hlen : xs.length ≤ 1073741824) (hlen2 : ys.length ≤ 1073741824) :
    Calls Try.prog 12 #[v1, v2] w fun e w' => ∃ v', e = .returned v' ∧ Below w.heap.size w w' ∧ SliceOf (fun b => w.heap.size ≤ b ∧ b < w'.heap.size) v' 1 (EByte w') (xs ++ ys) := by
  obtain ⟨ao, c, rfl, _, hc1, hc2, hcell⟩ := hv1
  obtain ⟨ao2, c2, rfl, _, hd1, hd2, hcell2⟩ := hv2
  obtain ⟨i0, hi, hz0, hz1, hz2⟩ := info_parts Try.info5
  have HC : Hid (0 < xs.length → ∃ b o, ao = some ⟨b, o, none⟩ ∧ S b ∧ ∀ k x, xs[k]? = some x → EByte w b (o + k * 1) x) := hcell
  have HC2 : Hid (0 < ys.length → ∃ b o, ao2 = some ⟨b, o, none⟩ ∧ S b ∧ ∀ k x, ys[k]? = some x → EByte w b (o + k * 1) x) := hcell2
  have HI : Hid (Try.prog.info? 5 = some i0) := hi
  have HZ0 : Hid (i0.zero = some (.int .u8 0)) := hz0
  have HZ1 : Hid (i0.size = 1) := hz1
  have HZ2 : Hid (i0.bytes * (xs.length + ys.length) ≤ 281474976710656) := by show _ ≤ _; rw [hz2]; omega
  clear hcell hcell2 hi hz0 hz1 hz2
  go_enter Try.func12, Try.ntmps12
  go_wp2_with (at_make; refine wpList_make_full _ rfl _ _ 25 rfl w.heap.size 5 i0 (.int .u8 0) 1 Try.underlying25 HI.out HZ0.out HZ1.out .i64 .i64 _ _ (xs.length + ys.length) rfl rfl (by omega) (by omega) HZ2.out (by unfold maxLen; omega) (Nat.le_refl _) ?_; intro w1 hown hgrow)
  clear HI HZ0 HZ1 HZ2
  go_loopw [6] (fun i wr => ∃ k : Nat, k ≤ xs.length ∧ i = .int .i64 k ∧ Below w.heap.size w wr ∧ ∃ cells, wr.ownsRow w.heap.size 5 1 (.slice (some ⟨w.heap.size, 0, none⟩) (xs.length + ys.length) (xs.length + ys.length)) (xs.length + ys.length) cells ∧ ∀ j y, j < k → (xs ++ ys)[j]? = some y → cells[j]? = some (u8 y)) (fun i _ => xs.length - (intOf i).toNat)
  case atStart => exact ⟨0, Nat.zero_le _, rfl, (Below.refl _ _).grown hgrow (Nat.le_refl _) (fun _ h => by cases h), _, hown, fun j y hj => by omega⟩
  case round =>
    clear hown hgrow
    obtain ⟨k, hk, rfl, hbel, cells, hown', hset⟩ := hrel
    by_cases hlt : k < xs.length
    · obtain ⟨b, o, rfl, hSb, hE⟩ := HC.out (by omega)
      obtain ⟨x, hx⟩ : ∃ x, xs[k]? = some x := ⟨_, List.getElem?_eq_getElem hlt⟩
      have hx2 : (xs ++ ys)[k]? = some x := by rw [List.getElem?_append_left hlt]; exact hx
      have hc : wr.cell? ⟨b, o + k, none⟩ = some (.int .u8 x) := by
        rw [hbel.cell (p := ⟨b, o + k, none⟩) (hS b hSb)]; have := hE k _ hx; unfold EByte at this; rw [show (Value.int .u8 x) = u8 x from rfl, ← this]; simp
      have hf := hown'.frozenAt k
      obtain ⟨u, hd⟩ := own_cell (k := k) hown' (by omega)
      have HS : Hid (∃ cells', (wr.setCell ⟨w.heap.size, k, none⟩ (Value.int .u8 x)).ownsRow w.heap.size 5 1 (.slice (some ⟨w.heap.size, 0, none⟩) (xs.length + ys.length) (xs.length + ys.length)) (xs.length + ys.length) cells' ∧ ∀ j y, j < k + 1 → (xs ++ ys)[j]? = some y → cells'[j]? = some (u8 y)) := fill_step (f := u8) (by omega) hx2 hown' hset
      clear hset hown' hE hx hx2
      go_wp2
      go_roundw
      case rel => exact ⟨k + 1, by omega, by go_num, hbel.setCell (Nat.le_refl _) _, HS.out⟩
      case measure => simp [intOf]; omega
    · obtain rfl : k = xs.length := by omega
      clear hlt
      go_wp2_with fail
      go_loopw [7] (fun i wr => ∃ k : Nat, k ≤ ys.length ∧ i = .int .i64 k ∧ Below w.heap.size w wr ∧ ∃ cells, wr.ownsRow w.heap.size 5 1 (.slice (some ⟨w.heap.size, 0, none⟩) (xs.length + ys.length) (xs.length + ys.length)) (xs.length + ys.length) cells ∧ ∀ j y, j < xs.length + k → (xs ++ ys)[j]? = some y → cells[j]? = some (u8 y)) (fun i _ => ys.length - (intOf i).toNat)
      case atStart => exact ⟨0, Nat.zero_le _, rfl, hbel, _, hown', hset⟩
      case round =>
        clear hown' hset hbel
        obtain ⟨k, hk, rfl, hbel, cells, hown', hset⟩ := hrel
        by_cases hlt : k < ys.length
        · obtain ⟨b, o, rfl, hSb, hE⟩ := HC2.out (by omega)
          obtain ⟨x, hx⟩ : ∃ x, ys[k]? = some x := ⟨_, List.getElem?_eq_getElem hlt⟩
          have hx2 : (xs ++ ys)[xs.length + k]? = some x := by rw [List.getElem?_append_right (by omega), Nat.add_sub_cancel_left]; exact hx
          have hc : wr.cell? ⟨b, o + k, none⟩ = some (.int .u8 x) := by
            rw [hbel.cell (p := ⟨b, o + k, none⟩) (hS b hSb)]; have := hE k _ hx; unfold EByte at this; rw [show (Value.int .u8 x) = u8 x from rfl, ← this]; simp
          have hf := hown'.frozenAt (xs.length + k)
          obtain ⟨u, hd⟩ := own_cell (k := xs.length + k) hown' (by omega)
          have HS : Hid (∃ cells', (wr.setCell ⟨w.heap.size, xs.length + k, none⟩ (Value.int .u8 x)).ownsRow w.heap.size 5 1 (.slice (some ⟨w.heap.size, 0, none⟩) (xs.length + ys.length) (xs.length + ys.length)) (xs.length + ys.length) cells' ∧ ∀ j y, j < xs.length + k + 1 → (xs ++ ys)[j]? = some y → cells'[j]? = some (u8 y)) := fill_step (f := u8) (by omega) hx2 hown' hset
          have e1 : ((xs.length : Int) + (k : Int)).toNat = xs.length + k := by omega
          clear hset hown' hE hx hx2
          go_wp2
          go_roundw
          case rel => exact ⟨k + 1, by omega, by go_num, hbel.setCell (Nat.le_refl _) _, HS.out⟩
          case measure => simp [intOf]; omega
        · obtain rfl : k = ys.length := by omega
          have hlt2 := (hown'.lt _ rfl).2
          have R := fill_done (S := fun b => w.heap.size ≤ b ∧ b < wr.heap.size) (f := u8) (xs := xs ++ ys) (by simp) ⟨Nat.le_refl _, hlt2⟩ (by omega) hown' hset
          have HR : Hid (SliceOf (fun b => w.heap.size ≤ b ∧ b < wr.heap.size) (.slice (some ⟨w.heap.size, 0, none⟩) (xs.length + ys.length) (xs.length + ys.length)) 1 (EByte wr) (xs ++ ys)) := R
          clear R hset hown' HC2
          go_wp2
          go_ret
          exact ⟨_, rfl, hbel, HR.out⟩
end Go.Proofs.Qxb6616889a
