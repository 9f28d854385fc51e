/-
  toLog. By an AI agent.
-/
import Derived.Test.Qxb6616889aBuild
import Derived.Test.Qxb6616889aToDs
import Derived.Test.Qxb6616889aClone
import Derived.WalkKit
import Derived.WalkSpells
import Derived.OwnWalk
import Derived.Deep.RegionHeld3
import Derived.Deep.DrawnRows
namespace Go.Proofs.Qxb6616889a
open Go.RowKit
set_option linter.unusedVariables false
set_option linter.unusedSimpArgs false

theorem Try.info66 : (Try.prog.info? 66).map (fun i => (i.zero, i.size, i.bytes)) = some (some (.agg zero67), 67, 104) := by kernel_rfl
theorem Try.info72 : (Try.prog.info? 72).map (fun i => (i.zero, i.size, i.bytes)) = some (some (.agg #[.slice none 0 0, .slice none 0 0, .slice none 0 0]), 3, 72) := by kernel_rfl

/-- After k rounds: below block g all is as in wa; the row at g has its n elements' room; the first k elements lie there, what they lead to behind g. -/
def Fill {α : Type} (size : Nat) (E : (Nat → Prop) → World → Nat → Nat → α → Prop) (g n : Nat) (xs : List α) (k : Nat) (wa wr : World) : Prop :=
  Below g wa wr ∧ g < wr.heap.size ∧ wr.there g 0 (n * size) ∧ ∀ j x, j < k → xs[j]? = some x → E (fun b => g < b ∧ b < wr.heap.size) wr g (j * size) x

theorem size_setCells (b : Nat) : ∀ (vs : List Value) (o : Nat) (w : World), (w.setCells b o vs).heap.size = w.heap.size
  | [], _, _ => rfl
  | v :: r, o, w => by
    rw [World.setCells, size_setCells b r (o + 1)]; simp [World.setCell]
theorem heap_setCells_far (b k : Nat) (h : k ≠ b) : ∀ (vs : List Value) (o : Nat) (w : World), (w.setCells b o vs).heap[k]? = w.heap[k]?
  | [], _, _ => rfl
  | v :: r, o, w => by
    rw [World.setCells, heap_setCells_far b k h r (o + 1), Below.heap_setCell _ _ _ _ (by simpa using h)]

theorem ecp_imp {S S' : Nat → Prop} {w w' : World} {b o : Nat} {c : Cp} (hr : ∀ cs, w.rangeAt b o cs → cs.length = 67 → w'.rangeAt b o cs) (hk : Keeps S w w') (hS : ∀ b, S b → S' b) (h : ECp S w b o c) : ECp S' w' b o c := by
  obtain ⟨h1, qv, h3, h4⟩ := h
  exact ⟨h1, qv, hr _ h3 (cp5_length _ _ _ _ _ h1.1.1 h1.2.1.1), (ints_keep hk h4).weak hS (fun _ _ _ _ _ h => h)⟩
theorem een_imp {S S' : Nat → Prop} {w w' : World} {b o : Nat} {e : En} (hr : ∀ cs, w.rangeAt b o cs → cs.length = 3 → w'.rangeAt b o cs) (hk : Keeps S w w') (hS : ∀ b, S b → S' b) (h : EEn S w b o e) : EEn S' w' b o e := by
  obtain ⟨v1, v2, v3, h1, h2, h3, h4⟩ := h
  exact ⟨v1, v2, v3, hr _ h1 rfl, (digs_keep hk h2).weak hS (fun _ _ _ _ _ h => h), (ints_keep hk h3).weak hS (fun _ _ _ _ _ h => h), (digs_keep hk h4).weak hS (fun _ _ _ _ _ h => h)⟩

/-- One round of the first loop. -/
theorem cps_round {g n k : Nat} {cs : List Cp} {c : Cp} {wa wr w1 : World} {v : Value} (hF : Fill 67 ECp g n cs k wa wr) (hk : k < n) (hy : cs[k]? = some c) (hok : c.ok) (hb : Below wr.heap.size wr w1)
    (hq : SliceOf (fun b => wr.heap.size ≤ b ∧ b < w1.heap.size) v 1 (EInt w1) c.q) :
    Fill 67 ECp g n cs (k + 1) wa (w1.setCells g (k * 67) (cpCells c v)) := by
  obtain ⟨f1, f2, f3, f4⟩ := hF
  have hB1 : Below g wr w1 := hb.mono (Nat.le_of_lt f2)
  have hl67 : (cpCells c v).length = 67 := cp5_length _ _ _ _ _ hok.1.1 hok.2.1.1
  have hth1 : w1.there g 0 (n * 67) := fun j hj => by
    obtain ⟨a1, a2⟩ := f3 j hj
    exact ⟨by rw [hb.cell (p := ⟨g, 0 + j, none⟩) f2]; exact a1, by rw [hb.frozen (p := ⟨g, 0 + j, none⟩) f2]; exact a2⟩
  refine ⟨below_setCells (f1.trans hB1) (Nat.le_refl _) _ _, by rw [size_setCells]; exact Nat.lt_of_lt_of_le f2 hb.size, World.there_setCells hth1 _ _ _, fun j x hj hx => ?_⟩
  rw [size_setCells]
  by_cases e : j = k
  · subst e
    rw [hy] at hx; cases hx
    refine ⟨hok, v, World.rangeAt_setCells_same _ _ _ _ (there_sub hth1 (by rw [hl67]; omega)), hq.weak (fun b hb => ⟨by omega, hb.2⟩) (fun b o x hb _ he => ?_)⟩
    unfold EInt at *
    rw [World.cell?_of_block (w := w1) (heap_setCells_far g b (by omega) _ _ _)]; exact he
  · refine ecp_imp (fun l hl hlen => ?_) (fun b hb' => ?_) (fun b hb' => ⟨hb'.1, Nat.lt_of_lt_of_le hb'.2 hb.size⟩) (f4 j x (by omega) hx)
    · refine World.rangeAt_setCells_apart (w := w1) (fun i u hu => ?_) _ _ _ (Or.inr (Or.inl (by rw [hlen]; omega)))
      rw [hb.cell (p := ⟨g, j * 67 + i, none⟩) f2]; exact hl i u hu
    · rw [heap_setCells_far g b (by omega)]; exact hb.block b hb'.2

/-- One round of the second loop. -/
theorem ens_round {g n k : Nat} {es : List En} {e : En} {wa wr w1 : World} {v1 v2 v3 : Value} (hF : Fill 3 EEn g n es k wa wr) (hk : k < n) (hy : es[k]? = some e) (hb : Below wr.heap.size wr w1)
    (h1 : SliceOf (fun b => wr.heap.size ≤ b ∧ b < w1.heap.size) v1 32 (EDig w1) e.reqs) (h2 : SliceOf (fun b => wr.heap.size ≤ b ∧ b < w1.heap.size) v2 1 (EInt w1) e.q) (h3 : SliceOf (fun b => wr.heap.size ≤ b ∧ b < w1.heap.size) v3 32 (EDig w1) e.macs) :
    Fill 3 EEn g n es (k + 1) wa (w1.setCells g (k * 3) [v1, v2, v3]) := by
  obtain ⟨f1, f2, f3, f4⟩ := hF
  have hB1 : Below g wr w1 := hb.mono (Nat.le_of_lt f2)
  have hth1 : w1.there g 0 (n * 3) := fun j hj => by
    obtain ⟨a1, a2⟩ := f3 j hj
    exact ⟨by rw [hb.cell (p := ⟨g, 0 + j, none⟩) f2]; exact a1, by rw [hb.frozen (p := ⟨g, 0 + j, none⟩) f2]; exact a2⟩
  refine ⟨below_setCells (f1.trans hB1) (Nat.le_refl _) _ _, by rw [size_setCells]; exact Nat.lt_of_lt_of_le f2 hb.size, World.there_setCells hth1 _ _ _, fun j x hj hx => ?_⟩
  rw [size_setCells]
  by_cases e : j = k
  · subst e
    rw [hy] at hx; cases hx
    have hkp : Keeps (fun b => wr.heap.size ≤ b ∧ b < w1.heap.size) w1 (w1.setCells g (j * 3) [v1, v2, v3]) := fun b hb' => heap_setCells_far g b (by omega) _ _ _
    refine ⟨v1, v2, v3, World.rangeAt_setCells_same _ _ _ _ (there_sub hth1 (by simp; omega)), ?_, ?_, ?_⟩
    · exact (digs_keep hkp h1).weak (fun b hb => ⟨by omega, hb.2⟩) (fun _ _ _ _ _ h => h)
    · exact (ints_keep hkp h2).weak (fun b hb => ⟨by omega, hb.2⟩) (fun _ _ _ _ _ h => h)
    · exact (digs_keep hkp h3).weak (fun b hb => ⟨by omega, hb.2⟩) (fun _ _ _ _ _ h => h)
  · refine een_imp (fun l hl hlen => ?_) (fun b hb' => ?_) (fun b hb' => ⟨hb'.1, Nat.lt_of_lt_of_le hb'.2 hb.size⟩) (f4 j x (by omega) hx)
    · refine World.rangeAt_setCells_apart (w := w1) (fun i u hu => ?_) _ _ _ (Or.inr (Or.inl (by rw [hlen]; omega)))
      rw [hb.cell (p := ⟨g, j * 3 + i, none⟩) f2]; exact hl i u hu
    · rw [heap_setCells_far g b (by omega)]; exact hb.block b hb'.2

theorem grown_block {w0 w1 : World} (h : w0.grownBy w1 none) (k : Nat) (hk : k < w0.heap.size) : w1.heap[k]? = w0.heap[k]? := h.block k hk (by simp)

/-- Behind the first make: the log's box holds two nil slices. -/
theorem box_made {w w1 : World} (h : (w.alloc (.cells #[.slice none 0 0, .slice none 0 0] 62)).grownBy w1 none) : w1.heap[w.heap.size]? = some (.cells #[.slice none 0 0, .slice none 0 0] 62) :=
  (grown_block h w.heap.size (by simp)).trans (heap_alloc_new w _)
theorem box2_cell {w : World} {B : Nat} {a b : Value} {t : TypeId} (h : w.heap[B]? = some (.cells #[a, b] t)) : w.cell? ⟨B, 0, none⟩ = some a ∧ w.cell? ⟨B, 1, none⟩ = some b := by
  rw [cell_of_row w B 0 _ t (0, 0) h, cell_of_row w B 1 _ t (0, 0) h]; exact ⟨rfl, rfl⟩
theorem box2_free {w : World} {B : Nat} {a b : Value} {t : TypeId} (h : w.heap[B]? = some (.cells #[a, b] t)) (j : Nat) : w.frozen? ⟨B, j, none⟩ = false := frozen_of_row w B j _ t h

/-- Behind the store of the made row into the log's box. -/
theorem cps_start {w w1 : World} {n : Nat} {cells : List Value} (cs : List Cp) (hown : w1.ownsRow w.heap.size 66 67 (.slice (some ⟨w.heap.size + 1, 0, none⟩) n n) n cells) (h : (w.alloc (.cells #[.slice none 0 0, .slice none 0 0] 62)).grownBy w1 none) (v : Value) :
    Below w.heap.size w (w1.setCell ⟨w.heap.size, 0, none⟩ v) ∧ (w1.setCell ⟨w.heap.size, 0, none⟩ v).heap[w.heap.size]? = some (.cells #[v, .slice none 0 0] 62) ∧
      Fill 67 ECp (w.heap.size + 1) n cs 0 (w1.setCell ⟨w.heap.size, 0, none⟩ v) (w1.setCell ⟨w.heap.size, 0, none⟩ v) := by
  have hlt : w.heap.size + 1 < w1.heap.size := (hown.lt _ rfl).2
  have hb : Below w.heap.size w w1 := ((Below.refl _ _).alloc (Nat.le_refl _) _).grown h (by simp) (fun _ h => by cases h)
  refine ⟨hb.setCell (Nat.le_refl _) v, ?_, Below.refl _ _, by simpa [World.setCell] using hlt, fun j hj => ?_, fun j x hj => by omega⟩
  · have := heap_setCell_same w1 w.heap.size 0 _ 62 v (box_made h)
    simpa using this
  · have hne : (⟨w.heap.size, 0, none⟩ : Addr).block ≠ w.heap.size + 1 := by simp
    obtain ⟨a1, a2⟩ := own_there hown j hj
    have e : (w1.setCell ⟨w.heap.size, 0, none⟩ v).heap[w.heap.size + 1]? = w1.heap[w.heap.size + 1]? := Below.heap_setCell _ _ _ _ (by simp)
    exact ⟨by rw [World.cell?_of_block (w := w1) e]; exact a1, by rw [World.frozen?_of_block (w := w1) e]; exact a2⟩

/-- 'wpAnyH_take', 'AllReadyH.cons', the operation written out by the list's own cells. -/
theorem take_drop {P : Program} {ops : Array Oper} {Q : Exit → Act → World → Prop} {md : Region.Mode} {S : World → Prop} {i : Nat} {oi : Oper} {rest : List Oper} {v : Value} {fuel : Nat} {listed : Array Bool} {a : Act} {w : World} (hd : ops.toList.drop i = oi :: rest)
    (hs : Region.noSelect ops = true) (hf : Region.free md ops listed i = true) (hr : (Region.ready md ops listed).contains i = true)
    (hQ : ∀ c a w, Q (.panic c) (a.put oi.dst v) w → Q (.panic c) a w) (hy : YieldsIf P ops S oi v a) (hS : S w)
    (h : wpAnyH P md ops Q S fuel (listed.setIfInBounds i true) (a.put oi.dst v) w) : wpAnyH P md ops Q S (fuel + 1) listed a w :=
  wpAnyH_take (by
    have e : (ops.toList.drop i)[0]? = some oi := by rw [hd]; rfl
    rw [List.getElem?_drop] at e; simpa using e) hs hf hr hQ hy hS h
theorem ready_drop {P : Program} {ops : Array Oper} {Q : Exit → Act → World → Prop} {md : Region.Mode} {S : World → Prop} {fuel : Nat} {listed : Array Bool} {a : Act} {w : World} {i : Nat} {o : Oper} {rest : List Oper} {rs : List Nat} (hd : ops.toList.drop i = o :: rest)
    (h : ∀ K' : Act → World → Prop, Shut (∀ a w, S w → (S w → wpAnyH P md ops Q S fuel (listed.setIfInBounds i true) a w) → K' a w) → if Region.wanted o (yielded ops a.tmps) = true then Oper.wp P o a w K' Q else K' (a.put o.dst undef) w)
    (hs : AllReadyH P md ops Q S fuel listed a w rs) : AllReadyH P md ops Q S fuel listed a w (i :: rs) :=
  AllReadyH.cons (by
    have e : (ops.toList.drop i)[0]? = some o := by rw [hd]; rfl
    rw [List.getElem?_drop] at e; simpa using e) h hs
theorem below_of_drew {B : Nat} {w w2 : World} (h : Below B w.drew w2) : Below B w w2 := ⟨h.os, h.tape, h.output, h.size, h.block⟩
theorem there_below {wr w2 : World} {g o n : Nat} (hb : Below wr.heap.size wr.drew w2) (hg : g < wr.heap.size) (h : wr.there g o n) : w2.there g o n := fun j hj => by
  obtain ⟨a1, a2⟩ := h j hj
  exact ⟨by rw [hb.cell (p := ⟨g, o + j, none⟩) hg]; exact a1, by rw [hb.frozen (p := ⟨g, o + j, none⟩) hg]; exact a2⟩
theorem storeOk66 (c : Cp) {w2 : World} {g o : Nat} (ht : w2.there g o 67) (hok : c.ok) (ao : Option Addr) (n cc : Nat) : StoreOk w2 (.pointer (some ⟨g, o, none⟩)) (.agg (cp5 c.seq c.dig c.size c.hist (.slice ao n cc)).toArray) :=
  ⟨g, o, _, rfl, rfl, ht, cp5_length _ _ _ _ _ hok.1.1 hok.2.1.1, cp5_one _ _ _ _ _ _ _⟩


theorem fill_cps {g n : Nat} {cs : List Cp} {wa wr : World} (hn : n = cs.length) (hlen : cs.length ≤ 1048576) (h : Fill 67 ECp g n cs n wa wr) :
    SliceOf (fun b => g ≤ b ∧ b < wr.heap.size) (.slice (some ⟨g, 0, none⟩) n n) 67 (ECp (fun b => g ≤ b ∧ b < wr.heap.size) wr) cs := by
  subst hn
  refine ⟨some ⟨g, 0, none⟩, cs.length, rfl, fun h => by simp at h, Nat.le_refl _, by omega, fun _ => ⟨g, 0, rfl, ⟨Nat.le_refl _, h.2.1⟩, fun k x hx => ?_⟩⟩
  have := h.2.2.2 k x (List.getElem?_eq_some_iff.1 hx).1 hx
  rw [Nat.zero_add]
  exact ecp_imp (fun _ h _ => h) (fun _ _ => rfl) (fun b hb => ⟨Nat.le_of_lt hb.1, hb.2⟩) this
theorem fill_ens {g n : Nat} {es : List En} {wa wr : World} (hn : n = es.length) (hlen : es.length ≤ 1048576) (h : Fill 3 EEn g n es n wa wr) :
    SliceOf (fun b => g ≤ b ∧ b < wr.heap.size) (.slice (some ⟨g, 0, none⟩) n n) 3 (EEn (fun b => g ≤ b ∧ b < wr.heap.size) wr) es := by
  subst hn
  refine ⟨some ⟨g, 0, none⟩, es.length, rfl, fun h => by simp at h, Nat.le_refl _, by omega, fun _ => ⟨g, 0, rfl, ⟨Nat.le_refl _, h.2.1⟩, fun k x hx => ?_⟩⟩
  have := h.2.2.2 k x (List.getElem?_eq_some_iff.1 hx).1 hx
  rw [Nat.zero_add]
  exact een_imp (fun _ h _ => h) (fun _ _ => rfl) (fun b hb => ⟨Nat.le_of_lt hb.1, hb.2⟩) this

/-- Ahead of the second half: the log's box in block L = w.heap.size holds v1, the checkpoints. -/
def Half (w : World) (cs : List Cp) (wx : World) (v1 : Value) : Prop :=
  Below w.heap.size w wx ∧ wx.heap[w.heap.size]? = some (.cells #[v1, .slice none 0 0] 62) ∧ SliceOf (fun b => w.heap.size < b ∧ b < wx.heap.size) v1 67 (ECp (fun b => w.heap.size < b ∧ b < wx.heap.size) wx) cs
theorem half_nil (w : World) : Half w [] (w.alloc (.cells #[.slice none 0 0, .slice none 0 0] 62)) (.slice none 0 0) :=
  ⟨(Below.refl _ _).alloc (Nat.le_refl _) _, heap_alloc_new w _, ⟨none, 0, rfl, fun _ => rfl, by simp, by omega, fun h => by simp at h⟩⟩
theorem cps_imp {S S' : Nat → Prop} {w w' : World} {v : Value} {cs : List Cp} (hk : Keeps S w w') (hS : ∀ b, S b → S' b) (h : SliceOf S v 67 (ECp S w) cs) : SliceOf S' v 67 (ECp S' w') cs :=
  (cps_keep hk h).weak hS (fun b o x hb _ he => ecp_imp (fun _ h _ => h) (fun _ _ => rfl) hS he)
theorem ens_imp {S S' : Nat → Prop} {w w' : World} {v : Value} {es : List En} (hk : Keeps S w w') (hS : ∀ b, S b → S' b) (h : SliceOf S v 3 (EEn S w) es) : SliceOf S' v 3 (EEn S' w') es :=
  (ens_keep hk h).weak hS (fun b o x hb _ he => een_imp (fun _ h _ => h) (fun _ _ => rfl) hS he)
theorem half_some {w wa wr : World} {cs : List Cp} (hb : Below w.heap.size w wa) (hL : wa.heap[w.heap.size]? = some (.cells #[.slice (some ⟨w.heap.size + 1, 0, none⟩) cs.length cs.length, .slice none 0 0] 62)) (hlen : cs.length ≤ 1048576)
    (h : Fill 67 ECp (w.heap.size + 1) cs.length cs cs.length wa wr) : Half w cs wr (.slice (some ⟨w.heap.size + 1, 0, none⟩) cs.length cs.length) :=
  ⟨hb.trans (h.1.mono (by omega)), (h.1.block _ (by omega)).trans hL, cps_imp (fun _ _ => rfl) (fun b hb => ⟨by omega, hb.2⟩) (fill_cps rfl hlen h)⟩

/-- The end: hist is nil. -/
theorem end_nil {w wx : World} {cs : List Cp} {v1 : Value} (h : Half w cs wx v1) : Below w.heap.size w wx ∧ LogAt (fun b => w.heap.size ≤ b ∧ b < wx.heap.size) wx w.heap.size cs [] := by
  have hlt : w.heap.size < wx.heap.size := (Array.getElem?_eq_some_iff.1 h.2.1).1
  refine ⟨h.1, ⟨Nat.le_refl _, hlt⟩, v1, .slice none 0 0, (box2_cell h.2.1).1, (box2_cell h.2.1).2, cps_imp (fun _ _ => rfl) (fun b hb => ⟨by omega, hb.2⟩) h.2.2, ⟨none, 0, rfl, fun _ => rfl, by simp, by omega, fun h => by simp at h⟩⟩

theorem box_made2 {w wx w1 : World} {cs : List Cp} {v1 : Value} (H : Half w cs wx v1) (h : wx.grownBy w1 none) : w1.heap[w.heap.size]? = some (.cells #[v1, .slice none 0 0] 62) :=
  (grown_block h w.heap.size (Array.getElem?_eq_some_iff.1 H.2.1).1).trans H.2.1

/-- Behind the store of the second made row into the log's box. -/
theorem ens_start {w wx w1 : World} {n : Nat} {cells : List Value} {cs : List Cp} {v1 : Value} (es : List En) (H : Half w cs wx v1) (hown : w1.ownsRow w.heap.size 72 3 (.slice (some ⟨wx.heap.size, 0, none⟩) n n) n cells) (h : wx.grownBy w1 none) (v : Value) :
    Below w.heap.size w (w1.setCell ⟨w.heap.size, 1, none⟩ v) ∧ (w1.setCell ⟨w.heap.size, 1, none⟩ v).heap[w.heap.size]? = some (.cells #[v1, v] 62) ∧ w.heap.size < wx.heap.size ∧
      SliceOf (fun b => w.heap.size < b ∧ b < wx.heap.size) v1 67 (ECp (fun b => w.heap.size < b ∧ b < wx.heap.size) (w1.setCell ⟨w.heap.size, 1, none⟩ v)) cs ∧
      Fill 3 EEn wx.heap.size n es 0 (w1.setCell ⟨w.heap.size, 1, none⟩ v) (w1.setCell ⟨w.heap.size, 1, none⟩ v) := by
  have hL : w.heap.size < wx.heap.size := (Array.getElem?_eq_some_iff.1 H.2.1).1
  have hlt : wx.heap.size < w1.heap.size := (hown.lt _ rfl).2
  have hb : Below w.heap.size w w1 := H.1.grown h (Nat.le_of_lt hL) (fun _ h => by cases h)
  refine ⟨hb.setCell (Nat.le_refl _) v, ?_, hL, ?_, Below.refl _ _, by simpa [World.setCell] using hlt, fun j hj => ?_, fun j x hj => by omega⟩
  · have := heap_setCell_same w1 w.heap.size 1 _ 62 v (box_made2 H h)
    simpa using this
  · refine cps_keep (fun b hb' => ?_) H.2.2
    rw [Below.heap_setCell _ _ _ _ (by show b ≠ w.heap.size; omega)]
    exact grown_block h b hb'.2
  · obtain ⟨a1, a2⟩ := own_there hown j hj
    have e : (w1.setCell ⟨w.heap.size, 1, none⟩ v).heap[wx.heap.size]? = w1.heap[wx.heap.size]? := Below.heap_setCell _ _ _ _ (by show wx.heap.size ≠ w.heap.size; omega)
    exact ⟨by rw [World.cell?_of_block (w := w1) e]; exact a1, by rw [World.frozen?_of_block (w := w1) e]; exact a2⟩

/-- The end: hist is not nil. -/
theorem end_some {w wb wr : World} {g : Nat} {cs : List Cp} {es : List En} {v1 : Value} (hb : Below w.heap.size w wb) (hL : wb.heap[w.heap.size]? = some (.cells #[v1, .slice (some ⟨g, 0, none⟩) es.length es.length] 62)) (hg : w.heap.size < g) (hlen : es.length ≤ 1048576)
    (hcs : SliceOf (fun b => w.heap.size < b ∧ b < g) v1 67 (ECp (fun b => w.heap.size < b ∧ b < g) wb) cs) (h : Fill 3 EEn g es.length es es.length wb wr) :
    Below w.heap.size w wr ∧ LogAt (fun b => w.heap.size ≤ b ∧ b < wr.heap.size) wr w.heap.size cs es := by
  have hL' := (h.1.block _ hg).trans hL
  have hlt := h.2.1
  refine ⟨hb.trans (h.1.mono (by omega)), ⟨Nat.le_refl _, by omega⟩, v1, _, (box2_cell hL').1, (box2_cell hL').2, ?_, ?_⟩
  · exact cps_imp (fun b hb' => h.1.block b hb'.2) (fun b hb' => ⟨by omega, by omega⟩) hcs
  · exact ens_imp (fun _ _ => rfl) (fun b hb' => ⟨by omega, hb'.2⟩) (fill_ens rfl hlen h)

theorem ens_start1 {w w1 : World} {n : Nat} {cells : List Value} {cs : List Cp} {v1 : Value} (es : List En) (H : Half w cs (w.alloc (.cells #[.slice none 0 0, .slice none 0 0] 62)) v1) (hown : w1.ownsRow w.heap.size 72 3 (.slice (some ⟨w.heap.size + 1, 0, none⟩) n n) n cells) (h : (w.alloc (.cells #[.slice none 0 0, .slice none 0 0] 62)).grownBy w1 none) (v : Value) :
    Below w.heap.size w (w1.setCell ⟨w.heap.size, 1, none⟩ v) ∧ (w1.setCell ⟨w.heap.size, 1, none⟩ v).heap[w.heap.size]? = some (.cells #[v1, v] 62) ∧ w.heap.size < w.heap.size + 1 ∧
      SliceOf (fun b => w.heap.size < b ∧ b < w.heap.size + 1) v1 67 (ECp (fun b => w.heap.size < b ∧ b < w.heap.size + 1) (w1.setCell ⟨w.heap.size, 1, none⟩ v)) cs ∧
      Fill 3 EEn (w.heap.size + 1) n es 0 (w1.setCell ⟨w.heap.size, 1, none⟩ v) (w1.setCell ⟨w.heap.size, 1, none⟩ v) := by
  have e : (w.alloc (.cells #[.slice none 0 0, .slice none 0 0] 62)).heap.size = w.heap.size + 1 := by simp
  have := ens_start es H (by rw [e]; exact hown) h v
  rw [e] at this; exact this
theorem held_one {wr w4 : World} {g o n : Nat} (hb4 : Below wr.heap.size wr.drew w4) (hgw : g < wr.heap.size) (ht : wr.there g o n) : Hid (Below g wr w4 ∧ w4.there g o n) :=
  ⟨(below_of_drew hb4).mono (Nat.le_of_lt hgw), there_below hb4 hgw ht⟩
theorem held_two {wr w4 w5 : World} {g o n : Nat} (HB : Hid (Below g wr w4 ∧ w4.there g o n)) (HC : Hid (Below wr.heap.size wr w4)) (hb5 : Below w4.heap.size w4 w5) (hgw : g < wr.heap.size) : Hid (Below g wr w5 ∧ w5.there g o n) := by
  have hs := HC.out.size
  have hg4 : g < w4.heap.size := by omega
  refine ⟨HB.out.1.trans (hb5.mono (by omega)), fun j hj => ?_⟩
  obtain ⟨a1, a2⟩ := HB.out.2 j hj
  exact ⟨by rw [hb5.cell (p := ⟨g, o + j, none⟩) hg4]; exact a1, by rw [hb5.frozen (p := ⟨g, o + j, none⟩) hg4]; exact a2⟩
theorem ens_round3 {g n k : Nat} {es : List En} {e : En} {wa wr w4 w5 w6 : World} {v1 v2 v3 : Value} (hF : Fill 3 EEn g n es k wa wr) (hk : k < n) (hy : es[k]? = some e) (h4 : Below wr.heap.size wr w4) (h5 : Below w4.heap.size w4 w5) (h6 : Below w5.heap.size w5 w6)
    (x1 : SliceOf (fun b => wr.heap.size ≤ b ∧ b < w4.heap.size) v1 32 (EDig w4) e.reqs) (x2 : SliceOf (fun b => w4.heap.size ≤ b ∧ b < w5.heap.size) v2 1 (EInt w5) e.q) (x3 : SliceOf (fun b => w5.heap.size ≤ b ∧ b < w6.heap.size) v3 32 (EDig w6) e.macs) :
    Fill 3 EEn g n es (k + 1) wa (w6.setCells g (k * 3) [v1, v2, v3]) := by
  have s4 := h4.size; have s5 := h5.size; have s6 := h6.size
  have h46 : Below w4.heap.size w4 w6 := h5.trans (h6.mono s5)
  refine ens_round hF hk hy (h4.trans (h46.mono s4)) ?_ ?_ ?_
  · exact (digs_keep (fun b hb => h46.block b hb.2) x1).weak (fun b hb => ⟨hb.1, by omega⟩) (fun _ _ _ _ _ h => h)
  · exact (ints_keep (fun b hb => h6.block b hb.2) x2).weak (fun b hb => ⟨by omega, by omega⟩) (fun _ _ _ _ _ h => h)
  · exact x3.weak (fun b hb => ⟨by omega, hb.2⟩) (fun _ _ _ _ _ h => h)
end Go.Proofs.Qxb6616889a
