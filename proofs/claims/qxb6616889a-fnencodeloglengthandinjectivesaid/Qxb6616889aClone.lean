/-
  cloneInts, cloneBytes. By an AI agent.
-/
import Derived.Test.Qxb6616889aMem
import Derived.WalkKit
import Derived.WalkSpells
namespace Go.Proofs.Qxb6616889a
open Go.RowKit
set_option linter.unusedVariables false
set_option linter.unusedSimpArgs false


/-- The row that the loop fills: the first k cells are set. -/
theorem fill_step {base g n cap k : Nat} {e : TypeId} {cells : List Value} {wr : World} {f : Int → Value} {xs : List Int} {x : Int} (hk : k < n) (hx : xs[k]? = some x)
    (hown : wr.ownsRow base e 1 (.slice (some ⟨g, 0, none⟩) n cap) n cells) (hset : ∀ j y, j < k → xs[j]? = some y → cells[j]? = some (f y)) :
    ∃ cells', (wr.setCell ⟨g, k, none⟩ (f x)).ownsRow base e 1 (.slice (some ⟨g, 0, none⟩) n cap) n cells' ∧ ∀ j y, j < k + 1 → xs[j]? = some y → cells'[j]? = some (f y) := by
  refine ⟨cells.set k (f x), (hown.stored k (f x)).1, fun j y hj hy => ?_⟩
  rw [List.getElem?_set]
  by_cases e : k = j
  · subst e
    rw [if_pos rfl, if_pos (by have := hown.1; omega)]
    rw [hx] at hy; cases hy; rfl
  · rw [if_neg e]; exact hset j y (by omega) hy

theorem own_cell {base g n cap k : Nat} {e : TypeId} {size : Nat} {cells : List Value} {wr : World} (hown : wr.ownsRow base e size (.slice (some ⟨g, 0, none⟩) n cap) n cells) (hk : k < n * size) : ∃ u, wr.cell? ⟨g, k, none⟩ = some u := by
  rw [hown.cellAt k hk, List.getElem?_eq_getElem (by have := hown.1; omega)]
  exact ⟨_, rfl⟩

theorem fill_done {S : Nat → Prop} {base g n cap : Nat} {e : TypeId} {cells : List Value} {wr : World} {f : Int → Value} {xs : List Int} (hn : n = xs.length) (hg : S g) (hcap : cap ≤ 9223372036854775807)
    (hown : wr.ownsRow base e 1 (.slice (some ⟨g, 0, none⟩) n cap) n cells) (hset : ∀ j y, j < n → xs[j]? = some y → cells[j]? = some (f y)) :
    SliceOf S (.slice (some ⟨g, 0, none⟩) n cap) 1 (fun b o x => wr.cell? ⟨b, o, none⟩ = some (f x)) xs := by
  subst hn
  have hnc : xs.length ≤ cap := by
    rcases hown.2 with ⟨h, _⟩ | ⟨g', c', cur, h, _, _, h1, _⟩
    · cases h
    · cases h; exact h1
  refine ⟨some ⟨g, 0, none⟩, cap, rfl, fun h => by simp at h, hnc, hcap, fun _ => ⟨g, 0, rfl, hg, fun k x hx => ?_⟩⟩
  have hk := (List.getElem?_eq_some_iff.1 hx).1
  show wr.cell? ⟨g, 0 + k * 1, none⟩ = _
  rw [show 0 + k * 1 = k by omega, hown.cellAt k (by omega)]
  exact hset k x hk hx

set_option maxHeartbeats 1000000 in
theorem cloneInts_any (S : Nat → Prop) (w : World) (v : Value) (xs : List Int) (hv : SliceOf S v 1 (EInt w) xs) (hS : ∀ b, S b → b < w.heap.size) (hlen : xs.length ≤ 1048576) :
    Calls Try.prog 26 #[v] w fun e w' => ∃ v', e = .returned v' ∧ Below w.heap.size w w' ∧ SliceOf (fun b => w.heap.size ≤ b ∧ b < w'.heap.size) v' 1 (EInt w') xs := by
  obtain ⟨ao, c, rfl, hnil, hc1, hc2, hcell⟩ := hv
  obtain ⟨i0, hi, hz0, hz1, hz2⟩ := info_parts Try.info3
  have heq := fun w a n c => Lib.run_eql_slice_nil (P := Try.prog) w 52 3 a n c 0 0 Try.underlying52
  by_cases hn : ao = none
  · subst hn
    obtain rfl := hnil rfl
    obtain rfl : xs = [] := List.eq_nil_of_length_eq_zero (by omega)
    go_enter Try.func26, Try.ntmps26
    go_wp2
    go_ret
    exact ⟨_, rfl, Below.refl _ _, ⟨none, 0, rfl, fun _ => rfl, by simp, by omega, fun h => by simp at h⟩⟩
  · obtain ⟨a, rfl⟩ := Option.ne_none_iff_exists'.1 hn
    clear hnil hn
    go_enter Try.func26, Try.ntmps26
    go_wp2_with (at_make; refine wpList_make_full _ rfl _ _ 52 rfl w.heap.size 3 i0 (.int .i64 0) 1 Try.underlying52 hi hz0 hz1 .i64 .i64 _ _ xs.length rfl rfl rfl rfl (by rw [hz2]; omega) (by unfold maxLen; omega) (Nat.le_refl _) ?_; intro w1 hown hgrow)
    go_loopw [4] (fun i wr => ∃ k : Nat, k ≤ xs.length ∧ i = .int .i64 k ∧ Below w.heap.size w wr ∧ ∃ cells, wr.ownsRow w.heap.size 3 1 (.slice (some ⟨w.heap.size, 0, none⟩) xs.length xs.length) xs.length cells ∧ ∀ j y, j < k → xs[j]? = some y → cells[j]? = some (Value.int .i64 y)) (fun i _ => xs.length - (intOf i).toNat)
    case atStart => exact ⟨0, Nat.zero_le _, rfl, (Below.refl _ _).grown hgrow (Nat.le_refl _) (fun _ h => by cases h), _, hown, fun j y hj => by omega⟩
    case round =>
      obtain ⟨k, hk, rfl, hbel, cells, hown', hset⟩ := hrel
      by_cases hlt : k < xs.length
      · obtain ⟨b, o, hab, hSb, hE⟩ := hcell (by omega)
        obtain rfl : a = ⟨b, o, none⟩ := by simpa using hab
        obtain ⟨x, hx⟩ : ∃ x, xs[k]? = some x := ⟨_, List.getElem?_eq_getElem hlt⟩
        have hc : wr.cell? ⟨b, o + k, none⟩ = some (.int .i64 x) := by
          rw [hbel.cell (p := ⟨b, o + k, none⟩) (hS b hSb)]; have := hE k _ hx; unfold EInt at this; rw [← this]; simp
        have hf := hown'.frozenAt k
        obtain ⟨u, hd⟩ := own_cell (k := k) hown' (by omega)
        have HS : Hid (∃ cells', (wr.setCell ⟨w.heap.size, k, none⟩ (Value.int .i64 x)).ownsRow w.heap.size 3 1 (.slice (some ⟨w.heap.size, 0, none⟩) xs.length xs.length) xs.length cells' ∧ ∀ j y, j < k + 1 → xs[j]? = some y → cells'[j]? = some (Value.int .i64 y)) := fill_step (f := Value.int .i64) hlt hx hown' hset
        clear hset hown' hcell hE hx
        go_wp2
        go_roundw
        case rel => exact ⟨k + 1, by omega, by go_num, hbel.setCell (Nat.le_refl _) _, HS.out⟩
        case measure => simp [intOf]; omega
      · obtain rfl : k = xs.length := by omega
        have hlt2 := (hown'.lt _ rfl).2
        have R := fill_done (S := fun b => w.heap.size ≤ b ∧ b < wr.heap.size) (f := Value.int .i64) rfl ⟨Nat.le_refl _, hlt2⟩ (by omega) hown' hset
        have HR : Hid (SliceOf (fun b => w.heap.size ≤ b ∧ b < wr.heap.size) (.slice (some ⟨w.heap.size, 0, none⟩) xs.length xs.length) 1 (EInt wr) xs) := R
        clear R hset hown' hcell
        go_wp2
        go_ret
        exact ⟨_, rfl, hbel, HR.out⟩
end Go.Proofs.Qxb6616889a
