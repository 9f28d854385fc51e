/-
  MEMORY WORDS FOR THE TWO LAWS ON encodeLog: what a slice, a checkpoint, an entry, a log look like in memory. By an AI agent.
-/
import Derived.Test.Qxb6616889aStretch
import Derived.Test.Qxb6616889aPlain
import Derived.Deep.MidRow
import Derived.Deep.AppendLies
namespace Go.Proofs.Qxb6616889a
open Go.RowKit
set_option linter.unusedVariables false
set_option linter.unusedSimpArgs false

def u8 (x : Int) : Value := .int .u8 x
def u8s (l : List Int) : List Value := l.map u8
theorem length_u8s (l : List Int) : (u8s l).length = l.length := by simp [u8s]
theorem u8s_append (a b : List Int) : u8s (a ++ b) = u8s a ++ u8s b := by simp [u8s]
theorem u8s_one (l : List Int) : ∀ u ∈ u8s l, u.oneCell' = true := by
  intro u hu; simp only [u8s, List.mem_map] at hu; obtain ⟨x, _, rfl⟩ := hu; rfl

/-- The slice value v holds the elements xs, 'size' cells each, in a block of S; 'E b o x': the element x lies at offset o of block b. -/
def SliceOf {α : Type} (S : Nat → Prop) (v : Value) (size : Nat) (E : Nat → Nat → α → Prop) (xs : List α) : Prop :=
  ∃ ao c, v = .slice ao xs.length c ∧ (ao = none → c = 0) ∧ xs.length ≤ c ∧ c ≤ 9223372036854775807 ∧
    (0 < xs.length → ∃ b o, ao = some ⟨b, o, none⟩ ∧ S b ∧ ∀ k x, xs[k]? = some x → E b (o + k * size) x)

def EInt (w : World) (b o : Nat) (x : Int) : Prop := w.cell? ⟨b, o, none⟩ = some (.int .i64 x)
def EByte (w : World) (b o : Nat) (x : Int) : Prop := w.cell? ⟨b, o, none⟩ = some (u8 x)
def EDig (w : World) (b o : Nat) (d : List Int) : Prop := digOk d ∧ w.rangeAt b o (u8s d)
def cp5 (s : Int) (d : List Int) (z : Int) (h : List Int) (qv : Value) : List Value := .int .u64 s :: (u8s d ++ .int .u64 z :: (u8s h ++ [qv]))
abbrev cpCells (c : Cp) (qv : Value) : List Value := cp5 c.seq c.dig c.size c.hist qv
def ECp (S : Nat → Prop) (w : World) (b o : Nat) (c : Cp) : Prop :=
  c.ok ∧ ∃ qv, w.rangeAt b o (cpCells c qv) ∧ SliceOf S qv 1 (EInt w) c.q
def EEn (S : Nat → Prop) (w : World) (b o : Nat) (e : En) : Prop :=
  ∃ v1 v2 v3, w.rangeAt b o [v1, v2, v3] ∧ SliceOf S v1 32 (EDig w) e.reqs ∧ SliceOf S v2 1 (EInt w) e.q ∧ SliceOf S v3 32 (EDig w) e.macs

/-- The blocks of S are the same in both worlds. -/
def Keeps (S : Nat → Prop) (w w' : World) : Prop := ∀ b, S b → w'.heap[b]? = w.heap[b]?

theorem Keeps.cell {S : Nat → Prop} {w w' : World} (h : Keeps S w w') {b : Nat} (hb : S b) (o : Nat) : w'.cell? ⟨b, o, none⟩ = w.cell? ⟨b, o, none⟩ :=
  World.cell?_of_block (w := w) (h b hb)
theorem Keeps.range {S : Nat → Prop} {w w' : World} (h : Keeps S w w') {b : Nat} (hb : S b) {o : Nat} {cs : List Value} (hr : w.rangeAt b o cs) : w'.rangeAt b o cs :=
  fun j v hv => by rw [h.cell hb]; exact hr j v hv
theorem Keeps.trans {S : Nat → Prop} {a b c : World} (h : Keeps S a b) (k : Keeps S b c) : Keeps S a c := fun x hx => (k x hx).trans (h x hx)
theorem Below.keeps {S : Nat → Prop} {B : Nat} {w w' : World} (h : Below B w w') (hS : ∀ b, S b → b < B) : Keeps S w w' := fun b hb => h.block b (hS b hb)

theorem or_right {a b c : Prop} (h : a ∨ b) (f : b → c) : a ∨ c := h.elim Or.inl (fun x => Or.inr (f x))
theorem SliceOf.weak {α : Type} {S S' : Nat → Prop} {v : Value} {size : Nat} {E E' : Nat → Nat → α → Prop} {xs : List α} (h : SliceOf S v size E xs) (hS : ∀ b, S b → S' b) (hE : ∀ b o x, S b → x ∈ xs → E b o x → E' b o x) :
    SliceOf S' v size E' xs := by
  obtain ⟨ao, c, rfl, h1, h2, h3, h4⟩ := h
  refine ⟨ao, c, rfl, h1, h2, h3, fun hp => ?_⟩
  obtain ⟨b, o, e1, e2, e3⟩ := h4 hp
  exact ⟨b, o, e1, hS b e2, fun k x hx => hE b _ x e2 (List.mem_of_getElem? hx) (e3 k x hx)⟩

section
variable {S : Nat → Prop} {w w' : World}
theorem ints_keep (hk : Keeps S w w') {v : Value} {xs : List Int} (h : SliceOf S v 1 (EInt w) xs) : SliceOf S v 1 (EInt w') xs :=
  h.weak (fun _ h => h) (fun b o x hb _ he => by unfold EInt at *; rw [hk.cell hb]; exact he)
theorem bytes_keep (hk : Keeps S w w') {v : Value} {xs : List Int} (h : SliceOf S v 1 (EByte w) xs) : SliceOf S v 1 (EByte w') xs :=
  h.weak (fun _ h => h) (fun b o x hb _ he => by unfold EByte at *; rw [hk.cell hb]; exact he)
theorem digs_keep (hk : Keeps S w w') {v : Value} {xs : List (List Int)} (h : SliceOf S v 32 (EDig w) xs) : SliceOf S v 32 (EDig w') xs :=
  h.weak (fun _ h => h) (fun b o x hb _ he => ⟨he.1, hk.range hb he.2⟩)
theorem cp_keep (hk : Keeps S w w') {b o : Nat} {c : Cp} (hb : S b) (h : ECp S w b o c) : ECp S w' b o c := by
  obtain ⟨h1, qv, h3, h4⟩ := h
  exact ⟨h1, qv, hk.range hb h3, ints_keep hk h4⟩
theorem en_keep (hk : Keeps S w w') {b o : Nat} {e : En} (hb : S b) (h : EEn S w b o e) : EEn S w' b o e := by
  obtain ⟨v1, v2, v3, h1, h2, h3, h4⟩ := h
  exact ⟨v1, v2, v3, hk.range hb h1, digs_keep hk h2, ints_keep hk h3, digs_keep hk h4⟩
theorem cps_keep (hk : Keeps S w w') {v : Value} {xs : List Cp} (h : SliceOf S v 67 (ECp S w) xs) : SliceOf S v 67 (ECp S w') xs :=
  h.weak (fun _ h => h) (fun _ _ _ hb _ he => cp_keep hk hb he)
theorem ens_keep (hk : Keeps S w w') {v : Value} {xs : List En} (h : SliceOf S v 3 (EEn S w) xs) : SliceOf S v 3 (EEn S w') xs :=
  h.weak (fun _ h => h) (fun _ _ _ hb _ he => en_keep hk hb he)
end

theorem SliceOf.all {α : Type} {S : Nat → Prop} {v : Value} {size : Nat} {E : Nat → Nat → α → Prop} {xs : List α} (h : SliceOf S v size E xs) {p : α → Prop} (hp : ∀ b o x, E b o x → p x) : ∀ x ∈ xs, p x := by
  intro x hx
  obtain ⟨ao, c, rfl, _, _, _, h4⟩ := h
  obtain ⟨k, hk, rfl⟩ := List.mem_iff_getElem.1 hx
  obtain ⟨b, o, _, _, hE⟩ := h4 (by omega)
  exact hp _ _ _ (hE k _ (List.getElem?_eq_getElem hk))
theorem digs_ok {S : Nat → Prop} {w : World} {v : Value} {xs : List (List Int)} (h : SliceOf S v 32 (EDig w) xs) : ∀ d ∈ xs, digOk d := h.all (fun _ _ _ h => h.1)
theorem cps_ok {S : Nat → Prop} {w : World} {v : Value} {xs : List Cp} (h : SliceOf S v 67 (ECp S w) xs) : ∀ c ∈ xs, c.ok := h.all (fun _ _ _ h => h.1)
theorem en_ok {S : Nat → Prop} {w : World} {b o : Nat} {e : En} (h : EEn S w b o e) : e.ok := by
  obtain ⟨v1, v2, v3, _, h2, _, h4⟩ := h
  exact ⟨digs_ok h2, digs_ok h4⟩
theorem ens_ok {S : Nat → Prop} {w : World} {v : Value} {xs : List En} (h : SliceOf S v 3 (EEn S w) xs) : ∀ e ∈ xs, e.ok := h.all (fun _ _ _ h => en_ok h)

theorem rpart {w : World} {b o : Nat} {l m r : List Value} (h : w.rangeAt b o (l ++ (m ++ r))) : w.rangeAt b (o + l.length) m := fun j v hv => by
  have hj : j < m.length := (List.getElem?_eq_some_iff.1 hv).1
  rw [Nat.add_assoc]
  refine h (l.length + j) v ?_
  rw [List.getElem?_append_right (by omega), Nat.add_sub_cancel_left, List.getElem?_append_left hj]; exact hv
theorem rone {w : World} {b o : Nat} {v : Value} (h : w.rangeAt b o [v]) : w.cell? ⟨b, o, none⟩ = some v := h 0 v rfl
/-- A checkpoint's cells, one by one. -/
theorem cp_cells {w : World} {b o : Nat} {c : Cp} {qv : Value} (hk : c.ok) (h : w.rangeAt b o (cpCells c qv)) :
    w.cell? ⟨b, o, none⟩ = some (.int .u64 c.seq) ∧ w.rangeAt b (o + 1) (u8s c.dig) ∧ w.cell? ⟨b, o + 33, none⟩ = some (.int .u64 c.size) ∧ w.rangeAt b (o + 34) (u8s c.hist) ∧ w.cell? ⟨b, o + 66, none⟩ = some qv := by
  have l1 : (u8s c.dig).length = 32 := by rw [length_u8s]; exact hk.1.1
  have l2 : (u8s c.hist).length = 32 := by rw [length_u8s]; exact hk.2.1.1
  have e1 : cpCells c qv = [] ++ ([.int .u64 c.seq] ++ (u8s c.dig ++ .int .u64 c.size :: (u8s c.hist ++ [qv]))) := by simp [cp5]
  have e2 : cpCells c qv = [.int .u64 c.seq] ++ (u8s c.dig ++ .int .u64 c.size :: (u8s c.hist ++ [qv])) := by simp [cp5]
  have e3 : cpCells c qv = (.int .u64 c.seq :: u8s c.dig) ++ ([.int .u64 c.size] ++ (u8s c.hist ++ [qv])) := by simp [cp5]
  have e4 : cpCells c qv = (.int .u64 c.seq :: (u8s c.dig ++ [.int .u64 c.size])) ++ (u8s c.hist ++ [qv]) := by simp [cp5]
  have e5 : cpCells c qv = (.int .u64 c.seq :: (u8s c.dig ++ .int .u64 c.size :: u8s c.hist)) ++ ([qv] ++ []) := by simp [cp5]
  refine ⟨?_, ?_, ?_, ?_, ?_⟩
  · have := rpart (e1 ▸ h); exact rone this
  · have := rpart (e2 ▸ h); simpa using this
  · have := rpart (e3 ▸ h); have := rone this; simpa [l1] using this
  · have := rpart (e4 ▸ h); simpa [l1] using this
  · have := rpart (e5 ▸ h); have := rone this; simpa [l1, l2] using this

/-- The log behind a pointer to block lb. -/
def LogAt (S : Nat → Prop) (w : World) (lb : Nat) (cs : List Cp) (es : List En) : Prop :=
  S lb ∧ ∃ v1 v2, w.cell? ⟨lb, 0, none⟩ = some v1 ∧ w.cell? ⟨lb, 1, none⟩ = some v2 ∧ SliceOf S v1 67 (ECp S w) cs ∧ SliceOf S v2 3 (EEn S w) es
theorem log_keep {S : Nat → Prop} {w w' : World} (hk : Keeps S w w') {lb : Nat} {cs : List Cp} {es : List En} (h : LogAt S w lb cs es) : LogAt S w' lb cs es := by
  obtain ⟨h0, v1, v2, h1, h2, h3, h4⟩ := h
  exact ⟨h0, v1, v2, (hk.cell h0 0).trans h1, (hk.cell h0 1).trans h2, cps_keep hk h3, ens_keep hk h4⟩

/-- As 'Below B', but block x may have turned too. -/
structure Near (B x : Nat) (w w' : World) : Prop where
  os : w'.os = w.os
  tape : w'.tape = w.tape
  output : w'.output = w.output
  size : w.heap.size ≤ w'.heap.size
  block : ∀ k, k < B → k ≠ x → w'.heap[k]? = w.heap[k]?
theorem Near.refl (B x : Nat) (w : World) : Near B x w w := ⟨rfl, rfl, rfl, Nat.le_refl _, fun _ _ _ => rfl⟩
theorem Near.trans {B x : Nat} {a b c : World} (h : Near B x a b) (k : Near B x b c) : Near B x a c :=
  ⟨k.os.trans h.os, k.tape.trans h.tape, k.output.trans h.output, Nat.le_trans h.size k.size, fun i hi hx => (k.block i hi hx).trans (h.block i hi hx)⟩
theorem Near.keeps {S : Nat → Prop} {B x : Nat} {w w' : World} (h : Near B x w w') (hS : ∀ b, S b → b < B ∧ b ≠ x) : Keeps S w w' := fun b hb => h.block b (hS b hb).1 (hS b hb).2
theorem Near.of_below {B x : Nat} {w w' : World} (h : Below B w w') : Near B x w w' := ⟨h.os, h.tape, h.output, h.size, fun k hk _ => h.block k hk⟩

/-- The encoder lies in block B; its buffer holds the bytes bs, in block x or behind B (or is nil). -/
def EncAt (B x : Nat) (w : World) (bs : List Int) : Prop :=
  ∃ sv, w.heap[B]? = some (.cells #[sv] 49) ∧ w.ownsRow 0 5 1 sv bs.length (u8s bs) ∧ ∀ g, sv.ownBlock = some g → g ≠ B ∧ (g = x ∨ B < g)

theorem Try.info3 : (Try.prog.info? 3).map (fun i => (i.zero, i.size, i.bytes)) = some (some (.int .i64 0), 1, 8) := by kernel_rfl
theorem Try.info5 : (Try.prog.info? 5).map (fun i => (i.zero, i.size, i.bytes)) = some (some (.int .u8 0), 1, 1) := by kernel_rfl
end Go.Proofs.Qxb6616889a
