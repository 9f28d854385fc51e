/-
  cloneBytes, be32Bytes, concatBytes. By an AI agent.
-/
import Derived.Test.Qxb6616889aClone
import Derived.Test.Qxb6616889aEnc1
import Derived.WalkKit
import Derived.WalkSpells
import Derived.OwnWalk
namespace Go.Proofs.Qxb6616889a
open Go.RowKit
set_option linter.unusedVariables false
set_option linter.unusedSimpArgs false

theorem cells_done {n : Nat} {cells : List Value} {f : Int → Value} {xs : List Int} (hl : cells.length = xs.length) (hset : ∀ j y, j < xs.length → xs[j]? = some y → cells[j]? = some (f y)) : cells = xs.map f := by
  apply List.ext_getElem?
  intro j
  by_cases hj : j < xs.length
  · rw [hset j xs[j] hj (List.getElem?_eq_getElem hj)]; simp [hj]
  · rw [List.getElem?_eq_none (by omega), List.getElem?_eq_none (by simpa using hj)]

theorem own_base {w : World} {base : Nat} {e : TypeId} {size : Nat} {v : Value} {n : Nat} {xs : List Value} (h : w.ownsRow base e size v n xs) : w.ownsRow 0 e size v n xs := by
  refine ⟨h.1, ?_⟩
  rcases h.2 with h' | ⟨g, cap, cur, h1, h2, h3⟩
  · exact .inl h'
  · exact .inr ⟨g, cap, cur, h1, Nat.zero_le _, h3⟩

/-- A row that is owned, read as a slice. -/
theorem own_slice {S : Nat → Prop} {w : World} {base : Nat} {v : Value} {xs : List Int} (h : w.ownsRow base 5 1 v xs.length (u8s xs)) (hS : ∀ g, v.ownBlock = some g → S g) : SliceOf S v 1 (EByte w) xs := by
  have hh := h
  rcases h.2 with ⟨rfl, h0⟩ | ⟨g, cap, cur, rfl, _, _, h1, h2, _⟩
  · exact ⟨none, 0, by rw [h0], fun _ => rfl, by omega, by omega, fun hp => by omega⟩
  · refine ⟨some ⟨g, 0, none⟩, cap, rfl, fun h => by simp at h, h1, by unfold maxLen at h2; omega, fun _ => ⟨g, 0, rfl, hS g rfl, fun k x hx => ?_⟩⟩
    have hk := (List.getElem?_eq_some_iff.1 hx).1
    unfold EByte
    rw [show 0 + k * 1 = k by omega, hh.cellAt k (by omega)]
    simp [u8s, hx]

set_option maxHeartbeats 1000000 in
theorem cloneBytes_any (S : Nat → Prop) (w : World) (v : Value) (xs : List Int) (hv : SliceOf S v 1 (EByte w) xs) (hS : ∀ b, S b → b < w.heap.size) (hlen : xs.length ≤ 1048576) :
    Calls Try.prog 10 #[v] w fun e w' => ∃ v', e = .returned v' ∧ Below w.heap.size w w' ∧ w'.ownsRow w.heap.size 5 1 v' xs.length (u8s xs) := by
  obtain ⟨ao, c, rfl, hnil, hc1, hc2, hcell⟩ := hv
  obtain ⟨i0, hi, hz0, hz1, hz2⟩ := info_parts Try.info5
  have heq := fun w a n c => Lib.run_eql_slice_nil (P := Try.prog) w 25 5 a n c 0 0 Try.underlying25
  by_cases hn : ao = none
  · subst hn
    obtain rfl := hnil rfl
    obtain rfl : xs = [] := List.eq_nil_of_length_eq_zero (by omega)
    go_enter Try.func10, Try.ntmps10
    go_wp2
    go_ret
    exact ⟨_, rfl, Below.refl _ _, World.ownsRow_nil _ _ _ _⟩
  · obtain ⟨a, rfl⟩ := Option.ne_none_iff_exists'.1 hn
    clear hnil hn
    go_enter Try.func10, Try.ntmps10
    go_wp2_with (at_make; refine wpList_make_full _ rfl _ _ 25 rfl w.heap.size 5 i0 (.int .u8 0) 1 Try.underlying25 hi hz0 hz1 .i64 .i64 _ _ xs.length rfl rfl rfl rfl (by rw [hz2]; omega) (by unfold maxLen; omega) (Nat.le_refl _) ?_; intro w1 hown hgrow)
    go_loopw [4] (fun i wr => ∃ k : Nat, k ≤ xs.length ∧ i = .int .i64 k ∧ Below w.heap.size w wr ∧ ∃ cells, wr.ownsRow w.heap.size 5 1 (.slice (some ⟨w.heap.size, 0, none⟩) xs.length xs.length) xs.length cells ∧ ∀ j y, j < k → xs[j]? = some y → cells[j]? = some (u8 y)) (fun i _ => xs.length - (intOf i).toNat)
    case atStart => exact ⟨0, Nat.zero_le _, rfl, (Below.refl _ _).grown hgrow (Nat.le_refl _) (fun _ h => by cases h), _, hown, fun j y hj => by omega⟩
    case round =>
      obtain ⟨k, hk, rfl, hbel, cells, hown', hset⟩ := hrel
      by_cases hlt : k < xs.length
      · obtain ⟨b, o, hab, hSb, hE⟩ := hcell (by omega)
        obtain rfl : a = ⟨b, o, none⟩ := by simpa using hab
        obtain ⟨x, hx⟩ : ∃ x, xs[k]? = some x := ⟨_, List.getElem?_eq_getElem hlt⟩
        have hc : wr.cell? ⟨b, o + k, none⟩ = some (.int .u8 x) := by
          rw [hbel.cell (p := ⟨b, o + k, none⟩) (hS b hSb)]; have := hE k _ hx; unfold EByte at this; rw [show (Value.int .u8 x) = u8 x from rfl, ← this]; simp
        have hf := hown'.frozenAt k
        obtain ⟨u, hd⟩ := own_cell (k := k) hown' (by omega)
        have HS : Hid (∃ cells', (wr.setCell ⟨w.heap.size, k, none⟩ (Value.int .u8 x)).ownsRow w.heap.size 5 1 (.slice (some ⟨w.heap.size, 0, none⟩) xs.length xs.length) xs.length cells' ∧ ∀ j y, j < k + 1 → xs[j]? = some y → cells'[j]? = some (u8 y)) := fill_step (f := u8) hlt hx hown' hset
        clear hset hown' hcell hE hx
        go_wp2
        go_roundw
        case rel => exact ⟨k + 1, by omega, by go_num, hbel.setCell (Nat.le_refl _) _, HS.out⟩
        case measure => simp [intOf]; omega
      · obtain rfl : k = xs.length := by omega
        have HR : Hid (wr.ownsRow w.heap.size 5 1 (.slice (some ⟨w.heap.size, 0, none⟩) xs.length xs.length) xs.length (u8s xs)) := by
          have e : cells = u8s xs := cells_done (n := 0) (by have := hown'.1; omega) hset
          rw [← e]; exact hown'
        clear hset hown' hcell
        go_wp2
        go_ret
        exact ⟨_, rfl, hbel, HR.out⟩

set_option maxHeartbeats 4000000 in
set_option maxRecDepth 100000 in
theorem be32_any (v : Int) (w : World) (hv0 : 0 ≤ v) (hv : v ≤ 4294967295) :
    Calls Try.prog 19 #[.int .u32 v] w fun e w' => e = .returned (.slice (some ⟨w.heap.size, 0, none⟩) 4 4) ∧ Below w.heap.size w w' ∧ w.heap.size < w'.heap.size ∧ SliceOf (fun b => b = w.heap.size) (.slice (some ⟨w.heap.size, 0, none⟩) 4 4) 1 (EByte w') (be4 v) := by
  go_enter Try.func19, Try.ntmps19
  go_wp2
  go_ret
  refine ⟨rfl, (Below.refl _ _).alloc (Nat.le_refl _) _, by simp, ⟨some ⟨w.heap.size, 0, none⟩, 4, rfl, fun h => by simp at h, by simp [be4], by omega, fun _ => ⟨w.heap.size, 0, rfl, rfl, fun k x hx => ?_⟩⟩⟩
  have hk := (List.getElem?_eq_some_iff.1 hx).1
  simp only [be4, List.length_cons, List.length_nil] at hk
  unfold EByte
  rw [cell_of_row _ w.heap.size (0 + k * 1) _ 5 (0, 0) (heap_alloc_new w _)]
  match k, hk, hx with
  | 0, _, hx => simp [be4] at hx; subst hx; simp [u8]
  | 1, _, hx => simp [be4] at hx; subst hx; simp [u8]
  | 2, _, hx => simp [be4] at hx; subst hx; simp [u8]
  | 3, _, hx => simp [be4] at hx; subst hx; simp [u8]
end Go.Proofs.Qxb6616889a
