/-
  OPENING THE ARGUMENTS: from the row's reading to what lies in memory. By an AI agent.
-/
import Derived.Test.Qxb6616889aHas
import Derived.ProofKit
import Derived.OpenShut
import Derived.Deep.Slices
namespace Go.Proofs.Qxb6616889a
open Go.RowKit Go.ChangeShapes Go.WideShapes
set_option linter.unusedVariables false
set_option linter.unusedSimpArgs false

theorem Try.cells3 : Try.prog.cellsOf 3 = 1 := by kernel_rfl
theorem Try.cells5 : Try.prog.cellsOf 5 = 1 := by kernel_rfl
theorem Try.cells22 : Try.prog.cellsOf 22 = 1 := by kernel_rfl
theorem Try.cells51 : Try.prog.cellsOf 51 = 32 := by kernel_rfl
theorem Try.cells52 : Try.prog.cellsOf 52 = 1 := by kernel_rfl
theorem Try.cells54 : Try.prog.cellsOf 54 = 67 := by kernel_rfl
theorem Try.cells55 : Try.prog.cellsOf 55 = 1 := by kernel_rfl
theorem Try.cells57 : Try.prog.cellsOf 57 = 3 := by kernel_rfl

variable {H : Type} {enc : TypeId × Value → H} {W : World}

/-- A slice of whatever elements. -/
theorem slice_open {α : Type} {t e : TypeId} {fuel size : Nat} {v : Value} {x : DataW H × List MemPlace} (ht : Try.prog.underlying t = some (.slice e)) (hsz : Try.prog.cellsOf e = size) (hs0 : 0 < size)
    (h : DataW.trod enc Try.prog W 0 (fun _ => true) true fuel t [v] = some x) (E : Nat → Nat → α → Prop)
    (hE : ∀ n b o cs' y, b < W.heap.size → W.rangeAt b o cs' → cs'.length = size → DataW.trod enc Try.prog W 0 (fun _ => true) true n e cs' = some y → ∃ z, E b o z) :
    ∃ xs, SliceOf (fun b => b < W.heap.size) v size E xs := by
  rcases Go.Deep.open_slice ht h with ⟨hcs, _⟩ | ⟨a, len, cap, m, n, D, Pl, hcs, _, hl, hm, hmm, _, hx⟩
  · simp only [List.cons.injEq, and_true] at hcs
    exact ⟨[], none, 0, by rw [hcs]; rfl, fun _ => rfl, by simp, by omega, fun h => by simp at h⟩
  · simp only [List.cons.injEq, and_true] at hcs
    simp only [if_true] at hmm
    have hcap : cap ≤ 9223372036854775807 := by unfold maxLen at hm; omega
    rw [hsz] at hx
    by_cases h0 : len = 0
    · subst h0
      exact ⟨[], some a, cap, by rw [hcs]; rfl, fun h => by simp at h, by simp, hcap, fun h => by simp at h⟩
    · obtain ⟨c0, hc0, _⟩ := hx 0 (by omega)
      obtain ⟨_, hc0l, hc0c⟩ := World.cells?_some hc0
      have hcell0 := hc0c 0 hs0
      rw [List.getElem?_eq_getElem (by omega)] at hcell0
      obtain ⟨b, o, spot⟩ := a
      have hspot : spot = none := by
        have := World.cell?_spot hcell0
        simpa [Addr.add] using this
      subst hspot
      have hb : b < W.heap.size := by
        have := World.block_lt_of_cell? W _ hcell0
        simpa [Addr.add] using this
      have hel : ∀ i, i < len → ∃ z, E b (o + i * size) z := fun i hi => by
        obtain ⟨cs', h1, h2⟩ := hx i (by omega)
        obtain ⟨_, h3, h4⟩ := World.cells?_some h1
        refine hE n b (o + i * size) cs' _ hb (fun j u hu => ?_) h3 h2
        have hj : j < size := by rw [← h3]; exact (List.getElem?_eq_some_iff.1 hu).1
        have := h4 j hj
        rw [Addr.add_mid, Addr.add_mid] at this
        rw [this]; exact hu
      refine ⟨List.ofFn (fun i : Fin len => (hel i i.2).choose), some ⟨b, o, none⟩, cap, by rw [hcs, List.length_ofFn], fun h => by simp at h, by simpa using hl, hcap, fun _ => ⟨b, o, rfl, hb, fun k z hz => ?_⟩⟩
      obtain ⟨hk, hz'⟩ := List.getElem?_eq_some_iff.1 hz
      rw [List.getElem_ofFn] at hz'
      rw [← hz']
      exact (hel k (by simpa using hk)).choose_spec

theorem ints_open {fuel : Nat} {v : Value} {x : DataW H × List MemPlace} (h : DataW.trod enc Try.prog W 0 (fun _ => true) true fuel 52 [v] = some x) : ∃ xs, SliceOf (fun b => b < W.heap.size) v 1 (EInt W) xs :=
  slice_open Try.underlying52 Try.cells3 (by omega) h (EInt W) (fun n b o cs' y hb hr hl ht => by
    obtain ⟨z, rfl, _, _⟩ := DataW.trod_int Try.underlying3 ht
    exact ⟨z, rone hr⟩)
theorem bytes_open {fuel : Nat} {v : Value} {x : DataW H × List MemPlace} (h : DataW.trod enc Try.prog W 0 (fun _ => true) true fuel 25 [v] = some x) : ∃ xs, Has W v xs :=
  slice_open Try.underlying25 Try.cells5 (by omega) h (EByte W) (fun n b o cs' y hb hr hl ht => by
    obtain ⟨z, rfl, _, _⟩ := DataW.trod_int Try.underlying5 ht
    exact ⟨z, rone hr⟩)

theorem ofFn_bytes {N : Nat} {cs' : List Value} (hl : cs'.length = N) (hz : ∀ i, i < N → ∃ z, cs'[i]? = some (u8 z) ∧ 0 ≤ z ∧ z ≤ 255) : ∃ d : List Int, (d.length = N ∧ ∀ b ∈ d, 0 ≤ b ∧ b ≤ 255) ∧ cs' = u8s d := by
  refine ⟨List.ofFn (fun i : Fin N => (hz i i.2).choose), ⟨by simp, fun b hb => ?_⟩, ?_⟩
  · obtain ⟨i, rfl⟩ := List.mem_ofFn.1 hb
    exact (hz i i.2).choose_spec.2
  · apply List.ext_getElem?
    intro i
    by_cases hi : i < N
    · rw [(hz i hi).choose_spec.1]
      simp [u8s, hi]
    · rw [List.getElem?_eq_none (by omega), List.getElem?_eq_none (by simp [length_u8s]; omega)]
/-- [32]byte. -/
theorem arr_open {n : Nat} {cs' : List Value} {y : DataW H × List MemPlace} (h : DataW.trod enc Try.prog W 0 (fun _ => true) true n 51 cs' = some y) (hl : cs'.length = 32) : ∃ d, digOk d ∧ cs' = u8s d := by
  obtain ⟨xs, m, _, _, _, hxl, hx⟩ := DataW.trod_array Try.underlying51 h
  have hz : ∀ i, i < 32 → ∃ z, cs'[i]? = some (u8 z) ∧ 0 ≤ z ∧ z ≤ 255 := fun i hi => by
    have h1 := hx i hi
    rw [Try.cells5, Nat.mul_one, List.getElem?_eq_getElem (show i < xs.length by omega)] at h1
    obtain ⟨z, h2, _, h3⟩ := DataW.trod_int Try.underlying5 h1
    refine ⟨z, ?_, bounds_u8 h3⟩
    have : ((cs'.drop i).take 1)[0]? = some (Value.int .u8 z) := by rw [h2]; rfl
    rw [List.getElem?_take_of_lt (by omega), List.getElem?_drop] at this
    simpa [u8] using this
  exact ofFn_bytes hl hz

theorem digs_open {fuel : Nat} {v : Value} {x : DataW H × List MemPlace} (h : DataW.trod enc Try.prog W 0 (fun _ => true) true fuel 55 [v] = some x) : ∃ xs, SliceOf (fun b => b < W.heap.size) v 32 (EDig W) xs :=
  slice_open Try.underlying55 Try.cells51 (by omega) h (EDig W) (fun n b o cs' y hb hr hl ht => by
    obtain ⟨d, hd, rfl⟩ := arr_open ht hl
    exact ⟨d, hd, hr⟩)

theorem one_of {cs : List Value} {o : Nat} (hl : o < cs.length) : ∃ v, (cs.drop o).take 1 = [v] := ⟨cs[o], by rw [List.take_one, List.head?_drop, List.getElem?_eq_getElem hl]; rfl⟩
theorem five_parts {cs : List Value} (hl : cs.length = 67) : cs = (cs.drop 0).take 1 ++ ((cs.drop 1).take 32 ++ ((cs.drop 33).take 1 ++ ((cs.drop 34).take 32 ++ (cs.drop 66).take 1))) := by
  have e : ∀ a b, (cs.drop a).take b ++ cs.drop (a + b) = cs.drop a := fun a b => by rw [← List.drop_drop, List.take_append_drop]
  have z : (cs.drop 66).take 1 = cs.drop 66 := List.take_of_length_le (by simp; omega)
  rw [z, e 34 32, e 33 1, e 1 32, e 0 1]; rfl
theorem three_parts {cs : List Value} (hl : cs.length = 3) : cs = (cs.drop 0).take 1 ++ ((cs.drop 1).take 1 ++ (cs.drop 2).take 1) := by
  have e : ∀ a b, (cs.drop a).take b ++ cs.drop (a + b) = cs.drop a := fun a b => by rw [← List.drop_drop, List.take_append_drop]
  have z : (cs.drop 2).take 1 = cs.drop 2 := List.take_of_length_le (by simp; omega)
  rw [z, e 1 1, e 0 1]; rfl

theorem cps_open {fuel : Nat} {v : Value} {x : DataW H × List MemPlace} (h : DataW.trod enc Try.prog W 0 (fun _ => true) true fuel 33 [v] = some x) : ∃ xs, HasC W v xs :=
  slice_open Try.underlying33 Try.cells54 (by omega) h (ECp (fun b => b < W.heap.size) W) (fun n b o cs' y hb hr hl ht => by
    obtain ⟨xs, m, _, _, _, hxl, hf⟩ := DataW.trod_struct Try.underlying54 ht
    have hxl5 : xs.length = 5 := by rw [hxl]; rfl
    have f0 : DataW.trod enc Try.prog W 0 (fun _ => true) true m 22 ((cs'.drop 0).take (Try.prog.cellsOf 22)) = xs[0]? := hf 0 _ rfl
    have f1 : DataW.trod enc Try.prog W 0 (fun _ => true) true m 51 ((cs'.drop 1).take (Try.prog.cellsOf 51)) = xs[1]? := hf 1 _ rfl
    have f2 : DataW.trod enc Try.prog W 0 (fun _ => true) true m 22 ((cs'.drop 33).take (Try.prog.cellsOf 22)) = xs[2]? := hf 2 _ rfl
    have f3 : DataW.trod enc Try.prog W 0 (fun _ => true) true m 51 ((cs'.drop 34).take (Try.prog.cellsOf 51)) = xs[3]? := hf 3 _ rfl
    have f4 : DataW.trod enc Try.prog W 0 (fun _ => true) true m 52 ((cs'.drop 66).take (Try.prog.cellsOf 52)) = xs[4]? := hf 4 _ rfl
    rw [List.getElem?_eq_getElem (by omega)] at f0 f1 f2 f3 f4
    rw [Try.cells22] at f0 f2
    rw [Try.cells51] at f1 f3
    rw [Try.cells52] at f4
    obtain ⟨s, e0, _, w0⟩ := DataW.trod_int Try.underlying22 f0
    obtain ⟨d1, k1, e1⟩ := arr_open f1 (by simp; omega)
    obtain ⟨z, e2, _, w2⟩ := DataW.trod_int Try.underlying22 f2
    obtain ⟨d3, k3, e3⟩ := arr_open f3 (by simp; omega)
    obtain ⟨qv, e4⟩ := one_of (cs := cs') (o := 66) (by omega)
    rw [e4] at f4
    obtain ⟨q, hq⟩ := ints_open f4
    have w0' := bounds_u64 w0
    have w2' := bounds_u64 w2
    refine ⟨⟨s, d1, z, d3, q⟩, ⟨k1, k3, w0'.1, w0'.2, w2'.1, w2'.2⟩, qv, ?_, hq⟩
    have := five_parts hl
    rw [e0, e1, e2, e3, e4] at this
    rw [this] at hr
    simpa [cp5] using hr)

theorem ens_open {fuel : Nat} {v : Value} {x : DataW H × List MemPlace} (h : DataW.trod enc Try.prog W 0 (fun _ => true) true fuel 34 [v] = some x) : ∃ xs, HasE W v xs :=
  slice_open Try.underlying34 Try.cells57 (by omega) h (EEn (fun b => b < W.heap.size) W) (fun n b o cs' y hb hr hl ht => by
    obtain ⟨xs, m, _, _, _, hxl, hf⟩ := DataW.trod_struct Try.underlying57 ht
    have hxl5 : xs.length = 3 := by rw [hxl]; rfl
    have f0 : DataW.trod enc Try.prog W 0 (fun _ => true) true m 55 ((cs'.drop 0).take (Try.prog.cellsOf 55)) = xs[0]? := hf 0 _ rfl
    have f1 : DataW.trod enc Try.prog W 0 (fun _ => true) true m 52 ((cs'.drop 1).take (Try.prog.cellsOf 52)) = xs[1]? := hf 1 _ rfl
    have f2 : DataW.trod enc Try.prog W 0 (fun _ => true) true m 55 ((cs'.drop 2).take (Try.prog.cellsOf 55)) = xs[2]? := hf 2 _ rfl
    rw [List.getElem?_eq_getElem (by omega)] at f0 f1 f2
    rw [Try.cells55] at f0 f2
    rw [Try.cells52] at f1
    obtain ⟨v0, e0⟩ := one_of (cs := cs') (o := 0) (by omega)
    obtain ⟨v1, e1⟩ := one_of (cs := cs') (o := 1) (by omega)
    obtain ⟨v2, e2⟩ := one_of (cs := cs') (o := 2) (by omega)
    rw [e0] at f0; rw [e1] at f1; rw [e2] at f2
    obtain ⟨r, hr0⟩ := digs_open f0
    obtain ⟨q, hq⟩ := ints_open f1
    obtain ⟨mm, hm0⟩ := digs_open f2
    refine ⟨⟨r, q, mm⟩, v0, v1, v2, ?_, hr0, hq, hm0⟩
    have := three_parts hl
    rw [e0, e1, e2] at this
    rw [this] at hr
    simpa using hr)
end Go.Proofs.Qxb6616889a
