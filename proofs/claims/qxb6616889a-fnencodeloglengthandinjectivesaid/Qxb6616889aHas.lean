/-
  THE CONTRACTS OF THE TWO LAWS' CALLEES, once more, in one word: 'what lies in memory now'. By an AI agent.
-/
import Derived.Test.Qxb6616889aEnc6
import Derived.Test.Qxb6616889aToLogD
import Derived.Test.Qxb6616889aConcat
import Derived.Test.Qxb6616889aEqual
import Derived.Test.Qxb6616889aZz
namespace Go.Proofs.Qxb6616889a
open Go.RowKit
set_option linter.unusedVariables false
set_option linter.unusedSimpArgs false

/-- In w the slice v holds the bytes xs; the checkpoints cs; the entries es; the pointer to block lb leads to the log. -/
def Has (w : World) (v : Value) (xs : List Int) : Prop := SliceOf (fun b => b < w.heap.size) v 1 (EByte w) xs
def HasC (w : World) (v : Value) (cs : List Cp) : Prop := SliceOf (fun b => b < w.heap.size) v 67 (ECp (fun b => b < w.heap.size) w) cs
def HasE (w : World) (v : Value) (es : List En) : Prop := SliceOf (fun b => b < w.heap.size) v 3 (EEn (fun b => b < w.heap.size) w) es

theorem Has.keep {w w' : World} {v : Value} {xs : List Int} (h : Has w v xs) (hb : Below w.heap.size w w') : Has w' v xs :=
  (bytes_keep (fun b hb' => hb.block b hb') h).weak (fun b hb' => Nat.lt_of_lt_of_le hb' hb.size) (fun _ _ _ _ _ h => h)
theorem HasC.keep {w w' : World} {v : Value} {cs : List Cp} (h : HasC w v cs) (hb : Below w.heap.size w w') : HasC w' v cs :=
  cps_imp (fun b hb' => hb.block b hb') (fun b hb' => Nat.lt_of_lt_of_le hb' hb.size) h
theorem HasE.keep {w w' : World} {v : Value} {es : List En} (h : HasE w v es) (hb : Below w.heap.size w w') : HasE w' v es :=
  ens_imp (fun b hb' => hb.block b hb') (fun b hb' => Nat.lt_of_lt_of_le hb' hb.size) h
theorem Has.nil (w : World) : Has w (.slice none 0 0) [] := ⟨none, 0, rfl, fun _ => rfl, by simp, by omega, fun h => by simp at h⟩
theorem HasC.nil (w : World) : HasC w (.slice none 0 0) [] := ⟨none, 0, rfl, fun _ => rfl, by simp, by omega, fun h => by simp at h⟩
theorem HasE.nil (w : World) : HasE w (.slice none 0 0) [] := ⟨none, 0, rfl, fun _ => rfl, by simp, by omega, fun h => by simp at h⟩

/-- What bounds the work: the sum of the costs. -/
theorem sumC_mem {cs : List Cp} {c : Cp} (h : c ∈ cs) : costC c ≤ sumC cs := by
  induction cs with
  | nil => cases h
  | cons a r ih =>
    simp only [sumC, List.map_cons, List.sum_cons] at *
    rcases List.mem_cons.1 h with rfl | h
    · omega
    · have := ih h; omega
theorem sumE_mem {es : List En} {e : En} (h : e ∈ es) : costE e ≤ sumE es := by
  induction es with
  | nil => cases h
  | cons a r ih =>
    simp only [sumE, List.map_cons, List.sum_cons] at *
    rcases List.mem_cons.1 h with rfl | h
    · omega
    · have := ih h; omega
theorem encCps_le {cs : List Cp} (h : ∀ c ∈ cs, c.ok) : (encCps cs).length ≤ sumC cs := by
  induction cs with
  | nil => simp [encCps]
  | cons a r ih =>
    have h1 := encCp_length a (h a (by simp))
    have h2 := ih (fun c hc => h c (by simp [hc]))
    simp only [encCps, sumC, List.flatMap_cons, List.length_append, List.map_cons, List.sum_cons] at *
    have hc : costC a = 104 + 8 * a.q.length := rfl
    omega
theorem encEns_le {es : List En} (h : ∀ e ∈ es, e.ok) : (encEns es).length ≤ sumE es := by
  induction es with
  | nil => simp [encEns]
  | cons a r ih =>
    have h1 := encEn_length a (h a (by simp))
    have h2 := ih (fun c hc => h c (by simp [hc]))
    simp only [encEns, sumE, List.flatMap_cons, List.length_append, List.map_cons, List.sum_cons] at *
    have hc : costE a = 72 + 32 * a.reqs.length + 8 * a.q.length + 32 * a.macs.length := rfl
    omega
theorem sumC_len (cs : List Cp) : cs.length ≤ sumC cs := by
  induction cs with
  | nil => simp
  | cons a r ih => simp only [sumC, List.map_cons, List.sum_cons, List.length_cons] at *; have hc : costC a = 104 + 8 * a.q.length := rfl; omega
theorem sumE_len (es : List En) : es.length ≤ sumE es := by
  induction es with
  | nil => simp
  | cons a r ih => simp only [sumE, List.map_cons, List.sum_cons, List.length_cons] at *; have hc : costE a = 72 + 32 * a.reqs.length + 8 * a.q.length + 32 * a.macs.length := rfl; omega

/-- Small logs: what the guards of the two laws give. -/
def Small (cs : List Cp) (es : List En) : Prop := sumC cs + sumE es ≤ 1048576
theorem Small.left {cs : List Cp} {es : List En} (h : Small cs es) (a : Nat) : Small (cs.take a) [] := by
  unfold Small at *
  have : sumC (cs.take a) ≤ sumC cs := by
    have e : sumC cs = sumC (cs.take a) + sumC (cs.drop a) := by
      unfold sumC; rw [← List.sum_append_nat, ← List.map_append, List.take_append_drop]
    omega
  have : sumE [] = 0 := rfl
  omega
theorem Small.leftD {cs : List Cp} {es : List En} (h : Small cs es) (a : Nat) : Small (cs.drop a) [] := by
  unfold Small at *
  have : sumC (cs.drop a) ≤ sumC cs := by
    have e : sumC cs = sumC (cs.take a) + sumC (cs.drop a) := by
      unfold sumC; rw [← List.sum_append_nat, ← List.map_append, List.take_append_drop]
    omega
  have : sumE [] = 0 := rfl
  omega
theorem Small.right {cs : List Cp} {es : List En} (h : Small cs es) (a : Nat) : Small [] (es.take a) := by
  unfold Small at *
  have : sumE (es.take a) ≤ sumE es := by
    have e : sumE es = sumE (es.take a) + sumE (es.drop a) := by
      unfold sumE; rw [← List.sum_append_nat, ← List.map_append, List.take_append_drop]
    omega
  have : sumC [] = 0 := rfl
  omega
theorem Small.rightD {cs : List Cp} {es : List En} (h : Small cs es) (a : Nat) : Small [] (es.drop a) := by
  unfold Small at *
  have : sumE (es.drop a) ≤ sumE es := by
    have e : sumE es = sumE (es.take a) + sumE (es.drop a) := by
      unfold sumE; rw [← List.sum_append_nat, ← List.map_append, List.take_append_drop]
    omega
  have : sumC [] = 0 := rfl
  omega

/-- toLog. -/
theorem toLog_has (w : World) (v1 v2 : Value) (cs : List Cp) (es : List En) (h1 : HasC w v1 cs) (h2 : HasE w v2 es) (hs : Small cs es) :
    Calls Try.prog 18 #[v1, v2] w fun e w' => ∃ lb, e = .returned (.pointer (some ⟨lb, 0, none⟩)) ∧ Below w.heap.size w w' ∧ LogAt (fun b => w.heap.size ≤ b ∧ b < w'.heap.size) w' lb cs es := by
  unfold Small at hs
  refine toLog_any (fun b => b < w.heap.size) w v1 v2 cs es h1 h2 (fun _ h => h) ?_ ?_ (fun c hc => ?_) (fun e he => ?_)
  · have := sumC_len cs; omega
  · have := sumE_len es; omega
  · have := sumC_mem hc; unfold costC at this; omega
  · have := sumE_mem he; unfold costE at this; omega

/-- ZZencodeLog onto a nil buffer. -/
theorem enc_nil (w : World) (lo lb : Nat) (cs : List Cp) (es : List En) (h : LogAt (fun b => lo ≤ b ∧ b < w.heap.size) w lb cs es) (hs : Small cs es) :
    Calls Try.prog 17 #[.slice none 0 0, .pointer (some ⟨lb, 0, none⟩)] w fun e w' => ∃ g cap, e = .returned (.slice (some ⟨g, 0, none⟩) (encLog cs es).length cap) ∧ Below w.heap.size w w' ∧ Has w' (.slice (some ⟨g, 0, none⟩) (encLog cs es).length cap) (encLog cs es) := by
  have o1 := cps_ok h.2.choose_spec.choose_spec.2.2.1
  have o2 := ens_ok h.2.choose_spec.choose_spec.2.2.2
  have l1 := encCps_le o1
  have l2 := encEns_le o2
  have l3 := encLog_length cs es
  have l4 := sumC_len cs
  have l5 := sumE_len es
  unfold Small at hs
  refine (zzEncodeLog_any (fun b => lo ≤ b ∧ b < w.heap.size) w.heap.size w [] (.slice none 0 0) lb cs es (World.ownsRow_nil _ _ _ _) (fun g hg => by simp [Value.ownBlock] at hg) h (fun b hb => ⟨hb.2, by omega⟩) (by simp only [List.length_nil]; omega) (by omega) (by omega)).mono ?_
  rintro e w' ⟨sv, rfl, hown, hg, hN⟩
  rw [List.nil_append] at hown
  obtain ⟨g, cap, rfl, _, hlt⟩ := hown.form (by omega)
  refine ⟨g, cap, rfl, ⟨hN.os, hN.tape, hN.output, hN.size, fun k hk => hN.block k hk (by omega)⟩, own_slice hown (fun g' hg' => ?_)⟩
  exact (hown.lt g' hg').2

/-- ZZencodeLog onto a buffer that was made behind w0. -/
theorem enc_own (w0 w1 w : World) (sv : Value) (ps : List Int) (lb : Nat) (cs : List Cp) (es : List En) (hown : w1.ownsRow w0.heap.size 5 1 sv ps.length (u8s ps)) (hb : Below w1.heap.size w1 w) (hb0 : Below w0.heap.size w0 w1) (h : LogAt (fun b => w1.heap.size ≤ b ∧ b < w.heap.size) w lb cs es) (hs : ps.length + (sumC cs + sumE es) ≤ 1048576) :
    Calls Try.prog 17 #[sv, .pointer (some ⟨lb, 0, none⟩)] w fun e w' => ∃ g cap, e = .returned (.slice (some ⟨g, 0, none⟩) (ps ++ encLog cs es).length cap) ∧ Below w0.heap.size w0 w' ∧ Has w' (.slice (some ⟨g, 0, none⟩) (ps ++ encLog cs es).length cap) (ps ++ encLog cs es) := by
  have o1 := cps_ok h.2.choose_spec.choose_spec.2.2.1
  have o2 := ens_ok h.2.choose_spec.choose_spec.2.2.2
  have l1 := encCps_le o1
  have l2 := encEns_le o2
  have l3 := encLog_length cs es
  have l4 := sumC_len cs
  have l5 := sumE_len es
  have s0 := hb0.size; have s1 := hb.size
  obtain ⟨x, hx1, hx2⟩ : ∃ x, (∀ g, sv.ownBlock = some g → g = x) ∧ w0.heap.size ≤ x ∧ (x < w1.heap.size ∨ w.heap.size ≤ x) := by
    cases hv : sv.ownBlock with
    | none =>
      refine ⟨w.heap.size, ?_, by omega, Or.inr (Nat.le_refl _)⟩
      intro g hg; simp at hg
    | some g =>
      refine ⟨g, ?_, (hown.lt g hv).1, Or.inl (hown.lt g hv).2⟩
      intro g' hg'; simpa using hg'.symm
  have hown' : w.ownsRow 0 5 1 sv ps.length (u8s ps) := (own_base hown).kept (grown_of_below hb) (by cases hv : sv.ownBlock <;> simp)
  refine (zzEncodeLog_any (fun b => w1.heap.size ≤ b ∧ b < w.heap.size) x w ps sv lb cs es hown' hx1 h (fun b hb' => ⟨hb'.2, by omega⟩) (by omega) (by omega) (by omega)).mono ?_
  rintro e w' ⟨sv', rfl, hown2, hg, hN⟩
  obtain ⟨g, cap, rfl, _, hlt⟩ := hown2.form (by simp only [List.length_append]; omega)
  have hb01 : Below w0.heap.size w0 w := hb0.trans (hb.mono s0)
  refine ⟨g, cap, rfl, hb01.trans ⟨hN.os, hN.tape, hN.output, hN.size, fun k hk => hN.block k (by omega) (by omega)⟩, own_slice hown2 (fun g' hg' => ?_)⟩
  exact (hown2.lt g' hg').2

theorem clone_has (w : World) (v : Value) (xs : List Int) (h : Has w v xs) (hlen : xs.length ≤ 1048576) :
    Calls Try.prog 10 #[v] w fun e w' => ∃ v', e = .returned v' ∧ Below w.heap.size w w' ∧ w'.ownsRow w.heap.size 5 1 v' xs.length (u8s xs) := cloneBytes_any _ w v xs h (fun _ h => h) hlen
theorem equal_has (w : World) (v1 v2 : Value) (xs ys : List Int) (h1 : Has w v1 xs) (h2 : Has w v2 ys) (hxy : xs = ys) :
    Calls Try.prog 13 #[v1, v2] w fun e w' => e = .returned (.bool true) ∧ Below w.heap.size w w' := by
  subst hxy
  have := equal_any _ w v1 v2 xs xs h1 h2 (fun _ h => h)
  rw [eqB_self] at this; exact this
theorem concat_has (w : World) (v1 v2 : Value) (xs ys : List Int) (h1 : Has w v1 xs) (h2 : Has w v2 ys) (hlen : xs.length ≤ 1073741824) (hlen2 : ys.length ≤ 1073741824) :
    Calls Try.prog 12 #[v1, v2] w fun e w' => ∃ o c, e = .returned (.slice o (xs ++ ys).length c) ∧ Below w.heap.size w w' ∧ Has w' (.slice o (xs ++ ys).length c) (xs ++ ys) := by
  refine (concat_any _ w v1 v2 xs ys h1 h2 (fun _ h => h) hlen hlen2).mono ?_
  rintro e w' ⟨v', rfl, hb, h⟩
  have hh : Has w' v' (xs ++ ys) := h.weak (fun _ h => h.2) (fun _ _ _ _ _ h => h)
  obtain ⟨o, c, rfl, _⟩ := h
  exact ⟨o, c, rfl, hb, hh⟩
theorem be32_has (v : Int) (w : World) (hv0 : 0 ≤ v) (hv : v ≤ 4294967295) :
    Calls Try.prog 19 #[.int .u32 v] w fun e w' => ∃ o, e = .returned (.slice o 4 4) ∧ Below w.heap.size w w' ∧ Has w' (.slice o 4 4) (be4 v) := by
  refine (be32_any v w hv0 hv).mono ?_
  rintro e w' ⟨rfl, hb, hlt, h⟩
  exact ⟨_, rfl, hb, h.weak (fun b hb' => by subst hb'; exact hlt) (fun _ _ _ _ _ h => h)⟩

/-! ### Slices of slices -/
theorem Addr.add_zero' (a : Addr) : a.add 0 = a := by unfold Addr.add; simp
/-- v[l:h] of a slice that holds xs: what it holds. -/
theorem sliced_of {α : Type} {S : Nat → Prop} {ao : Option Addr} {n c size l h : Nat} {E : Nat → Nat → α → Prop} {xs : List α} (hv : SliceOf S (.slice ao n c) size E xs) (hlh : l ≤ h) (hn : h ≤ xs.length) :
    SliceOf S (sliced ao l h c size) size E ((xs.take h).drop l) := by
  obtain ⟨ao', c', he, h1, h2, h3, h4⟩ := hv
  cases he
  have hlen : ((xs.take h).drop l).length = h - l := by simp; omega
  unfold sliced
  refine ⟨if c = l then ao else ao.map (·.add (l * size)), c - l, by rw [hlen], fun he => ?_, by rw [hlen]; omega, by omega, fun hp => ?_⟩
  · split at he
    · omega
    · cases ao with
      | none => have := h1 rfl; omega
      | some a => simp at he
  · rw [hlen] at hp
    obtain ⟨b, o, rfl, hS, hE⟩ := h4 (by omega)
    rw [if_neg (by omega)]
    refine ⟨b, o + l * size, by simp [Addr.add_mid], hS, fun k x hx => ?_⟩
    rw [List.getElem?_drop, List.getElem?_take] at hx
    split at hx
    · have := hE (l + k) x hx
      rw [Nat.add_mul, ← Nat.add_assoc] at this; exact this
    · cases hx

theorem Try.elem25 : Try.prog.elem 25 = 5 := by kernel_rfl
theorem Try.elem33 : Try.prog.elem 33 = 54 := by kernel_rfl
theorem Try.elem34 : Try.prog.elem 34 = 57 := by kernel_rfl
theorem Try.cell5 : (Try.prog.info? 5).map (·.size) = some 1 := by kernel_rfl
theorem Try.cell54 : (Try.prog.info? 54).map (·.size) = some 67 := by kernel_rfl
theorem Try.cell57 : (Try.prog.info? 57).map (·.size) = some 3 := by kernel_rfl
theorem run_size {t : TypeId} {n : Nat} (h : (Try.prog.info? t).map (·.size) = some n) (w : World) : (sizeOf t).run Try.prog w = .ok n w := by
  cases hq : Try.prog.info? t with
  | none => simp [hq] at h
  | some i => simp [hq] at h; simp [sizeOf, typeInfo, hq, h]

/-- The three spellings of a slice expression, each with its run and what it holds. -/
theorem cut_h {α : Type} {S : Nat → Prop} (t e : TypeId) {ao : Option Addr} {n c size : Nat} {E : Nat → Nat → α → Prop} {xs : List α} (hv : SliceOf S (.slice ao n c) size E xs) (ht : Try.prog.underlying t = some (.slice (Try.prog.elem t))) (he : Try.prog.elem t = e) (hs : (Try.prog.info? e).map (·.size) = some size) (h : Nat) (hi : Int) (hh : hi = h) (hn : h ≤ xs.length) :
    ∃ o' c', (∀ w, (Instr.slice t (.slice ao n c) none (some (.int .i64 hi)) none).run Try.prog w = .ok (.slice o' h c') w) ∧ SliceOf S (.slice o' h c') size E (xs.take h) := by
  subst hh
  have h0 := sliced_of hv (Nat.zero_le h) hn
  have hcn : h ≤ c := by obtain ⟨_, _, e, _, h2, _⟩ := hv; cases e; omega
  refine ⟨if c = 0 then ao else ao.map (·.add (0 * size)), c - 0, fun w => ?_, by simpa [sliced] using h0⟩
  rw [run_slice_h w t ao n c ht .i64 h (by omega) (by omega), he, run_size hs]
  simp [Result.andThen, sliced]
theorem cut_l {α : Type} {S : Nat → Prop} (t e : TypeId) {ao : Option Addr} {n c size : Nat} {E : Nat → Nat → α → Prop} {xs : List α} (hv : SliceOf S (.slice ao n c) size E xs) (ht : Try.prog.underlying t = some (.slice (Try.prog.elem t))) (he : Try.prog.elem t = e) (hs : (Try.prog.info? e).map (·.size) = some size) (l : Nat) (li : Int) (hl : li = l) (hn : l ≤ xs.length) :
    ∃ o' c', (∀ w, (Instr.slice t (.slice ao n c) (some (.int .i64 li)) none none).run Try.prog w = .ok (.slice o' (xs.length - l) c') w) ∧ SliceOf S (.slice o' (xs.length - l) c') size E (xs.drop l) := by
  subst hl
  have h0 := sliced_of hv hn (Nat.le_refl _)
  have hnn : n = xs.length := by obtain ⟨_, _, e, _⟩ := hv; cases e; rfl
  refine ⟨if c = l then ao else ao.map (·.add (l * size)), c - l, fun w => ?_, by simpa [sliced] using h0⟩
  rw [run_slice_l w t ao n c ht .i64 l (by omega) (by omega), he, run_size hs]
  simp [Result.andThen, sliced, hnn]
theorem cut_lh {α : Type} {S : Nat → Prop} (t e : TypeId) {ao : Option Addr} {n c size : Nat} {E : Nat → Nat → α → Prop} {xs : List α} (hv : SliceOf S (.slice ao n c) size E xs) (ht : Try.prog.underlying t = some (.slice (Try.prog.elem t))) (he : Try.prog.elem t = e) (hs : (Try.prog.info? e).map (·.size) = some size) (l h : Nat) (li hi : Int) (hl : li = l) (hh : hi = h) (hlh : l ≤ h) (hn : h ≤ xs.length) :
    ∃ o' c', (∀ w, (Instr.slice t (.slice ao n c) (some (.int .i64 li)) (some (.int .i64 hi)) none).run Try.prog w = .ok (.slice o' (h - l) c') w) ∧ SliceOf S (.slice o' (h - l) c') size E ((xs.take h).drop l) := by
  subst hl; subst hh
  have h0 := sliced_of hv hlh hn
  have hcn : h ≤ c := by obtain ⟨_, _, e, _, h2, _⟩ := hv; cases e; omega
  refine ⟨if c = l then ao else ao.map (·.add (l * size)), c - l, fun w => ?_, by simpa [sliced] using h0⟩
  rw [run_slice_lh w t ao n c ht .i64 .i64 l h (by omega) (by omega) (by omega), he, run_size hs]
  simp [Result.andThen, sliced]
end Go.Proofs.Qxb6616889a
