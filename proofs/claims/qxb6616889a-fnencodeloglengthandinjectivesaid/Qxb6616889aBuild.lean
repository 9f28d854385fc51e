/-
  THE STRUCT LITERAL CheckpointSummary{..}: 67 cells, built of five parts. By an AI agent.
-/
import Derived.Test.Qxb6616889aMem
import Derived.Laws.Tables
namespace Go.Proofs.Qxb6616889a
open Go.RowKit
set_option linter.unusedVariables false
set_option linter.unusedSimpArgs false

theorem seg_go : ∀ (vs : List Value) (off s : Nat) (cells : List Value), off + s + vs.length ≤ cells.length →
    (vs.zipIdx s).foldl (fun (cs : Array Value) (p : Value × Nat) => cs.setIfInBounds (off + p.2) p.1) cells.toArray = (cells.take (off + s) ++ vs ++ cells.drop (off + s + vs.length)).toArray
  | [], off, s, cells, h => by simp
  | v :: r, off, s, cells, h => by
    simp only [List.zipIdx_cons, List.foldl_cons]
    have hl : off + s < cells.length := by simp at h; omega
    have e : (cells.toArray.setIfInBounds (off + s) v) = (cells.take (off + s) ++ v :: cells.drop (off + s + 1)).toArray := by
      rw [List.setIfInBounds_toArray]; congr 1
      rw [List.set_eq_take_append_cons_drop, if_pos hl]
    rw [e, seg_go r off (s + 1) _ (by simp at h ⊢; omega)]
    congr 1
    have l1 : (cells.take (off + s)).length = off + s := by simp; omega
    have a1 : (cells.take (off + s) ++ v :: cells.drop (off + s + 1)).take (off + (s + 1)) = cells.take (off + s) ++ [v] := by
      rw [List.take_append, l1, show off + (s + 1) - (off + s) = 1 by omega, List.take_of_length_le (by rw [l1]; omega)]; rfl
    have a2 : (cells.take (off + s) ++ v :: cells.drop (off + s + 1)).drop (off + (s + 1) + r.length) = cells.drop (off + s + (v :: r).length) := by
      rw [List.drop_append, l1, List.drop_eq_nil_of_le (by rw [l1]; omega), show off + (s + 1) + r.length - (off + s) = r.length + 1 by omega, List.drop_succ_cons, List.drop_drop, List.nil_append]
      congr 1; simp only [List.length_cons]; omega
    rw [a1, a2]; simp

theorem seg (vs cells : Array Value) (off : Nat) (h : off + vs.size ≤ cells.size) :
    vs.zipIdx.foldl (fun (cs : Array Value) (p : Value × Nat) => cs.setIfInBounds (off + p.2) p.1) cells = (cells.toList.take off ++ vs.toList ++ cells.toList.drop (off + vs.size)).toArray := by
  have := seg_go vs.toList off 0 cells.toList (by simpa using h)
  rw [Array.toArray_toList] at this
  rw [← Array.foldl_toList]
  simpa using this

/-- The five parts side by side. -/
def bld67 (v0 v1 v2 v3 v4 : Value) : Array Value := (v0.cells.toList ++ (v1.cells.toList ++ (v2.cells.toList ++ (v3.cells.toList ++ v4.cells.toList)))).toArray
def Sized5 (v0 v1 v2 v3 v4 : Value) : Prop := v0.cells.size = 1 ∧ v1.cells.size = 32 ∧ v2.cells.size = 1 ∧ v3.cells.size = 32 ∧ v4.cells.size = 1
theorem sized5 (s z : Int) (d h : List Int) (hd : d.length = 32) (hh : h.length = 32) (ao : Option Addr) (n c : Nat) : Sized5 (.int .u64 s) (.agg (u8s d).toArray) (.int .u64 z) (.agg (u8s h).toArray) (.slice ao n c) :=
  ⟨rfl, by simp [Value.cells, length_u8s, hd], rfl, by simp [Value.cells, length_u8s, hh], rfl⟩
theorem bld67_eq (s z : Int) (d h : List Int) (ao : Option Addr) (n c : Nat) : bld67 (.int .u64 s) (.agg (u8s d).toArray) (.int .u64 z) (.agg (u8s h).toArray) (.slice ao n c) = (cp5 s d z h (.slice ao n c)).toArray := by
  simp [bld67, cp5, Value.cells]

def zero67 : Array Value := (Value.int .u64 0 :: (List.replicate 32 (Value.int .u8 0) ++ Value.int .u64 0 :: (List.replicate 32 (Value.int .u8 0) ++ [Value.slice none 0 0]))).toArray
theorem built66 (parts : List (Nat × Value)) : Try.prog.built 66 parts = Instr.fill (#[(0, 1), (1, 32), (33, 1), (34, 32), (66, 1)][·]?) zero67 parts := by kernel_rfl

theorem fill_one (place : Nat → Option (Nat × Nat)) (cells : Array Value) (i off size : Nat) (v : Value) (rest : List (Nat × Value)) (hp : place i = some (off, size)) (hs : v.cells.size = size) (hf : off + size ≤ cells.size) :
    Instr.fill place cells ((i, v) :: rest) = Instr.fill place ((cells.toList.take off ++ v.cells.toList ++ cells.toList.drop (off + size)).toArray) rest := by
  rw [Instr.fill]
  simp only [hp]
  rw [if_neg (by simp; omega)]
  congr 1
  have := seg v.cells cells off (by omega)
  rw [← hs]; exact this

theorem fill66 (v0 v1 v2 v3 v4 : Value) (h : Sized5 v0 v1 v2 v3 v4) : Instr.fill (#[(0, 1), (1, 32), (33, 1), (34, 32), (66, 1)][·]?) zero67 [(0, v0), (1, v1), (2, v2), (3, v3), (4, v4)] = some (bld67 v0 v1 v2 v3 v4) := by
  obtain ⟨h0, h1, h2, h3, h4⟩ := h
  have z : zero67.size = 67 := by decide +kernel
  have l0 : v0.cells.toList.length = 1 := by simpa using h0
  have l1 : v1.cells.toList.length = 32 := by simpa using h1
  have l2 : v2.cells.toList.length = 1 := by simpa using h2
  have l3 : v3.cells.toList.length = 32 := by simpa using h3
  have l4 : v4.cells.toList.length = 1 := by simpa using h4
  have zl : zero67.toList.length = 67 := by simpa using z
  generalize zero67 = Z at *
  generalize e0 : v0.cells.toList = L0 at *
  generalize e1 : v1.cells.toList = L1 at *
  generalize e2 : v2.cells.toList = L2 at *
  generalize e3 : v3.cells.toList = L3 at *
  generalize e4 : v4.cells.toList = L4 at *
  rw [fill_one _ Z 0 0 1 v0 _ rfl h0 (by omega), e0]
  have a0 : (Z.toList.take 0 ++ L0 ++ Z.toList.drop (0 + 1)).toArray = (L0 ++ Z.toList.drop 1).toArray := by simp
  rw [a0, fill_one _ _ 1 1 32 v1 _ rfl h1 (by simp; omega), e1]
  have a1 : ((L0 ++ Z.toList.drop 1).toArray.toList.take 1 ++ L1 ++ (L0 ++ Z.toList.drop 1).toArray.toList.drop (1 + 32)).toArray = (L0 ++ (L1 ++ Z.toList.drop 33)).toArray := by
    congr 1
    simp only [List.toList_toArray]
    rw [List.take_append_of_le_length (by omega), List.take_of_length_le (by omega), List.drop_append, l0, List.drop_eq_nil_of_le (by omega), List.drop_drop, List.nil_append, List.append_assoc]
  rw [a1, fill_one _ _ 2 33 1 v2 _ rfl h2 (by simp; omega), e2]
  have a2 : ((L0 ++ (L1 ++ Z.toList.drop 33)).toArray.toList.take 33 ++ L2 ++ (L0 ++ (L1 ++ Z.toList.drop 33)).toArray.toList.drop (33 + 1)).toArray = (L0 ++ (L1 ++ (L2 ++ Z.toList.drop 34))).toArray := by
    congr 1
    simp only [List.toList_toArray, ← List.append_assoc]
    have q : (L0 ++ L1).length = 33 := by simp; omega
    rw [List.take_append_of_le_length (by omega), List.take_of_length_le (by omega), List.drop_append, q, List.drop_eq_nil_of_le (by omega), List.drop_drop, List.nil_append]
  rw [a2, fill_one _ _ 3 34 32 v3 _ rfl h3 (by simp; omega), e3]
  have a3 : ((L0 ++ (L1 ++ (L2 ++ Z.toList.drop 34))).toArray.toList.take 34 ++ L3 ++ (L0 ++ (L1 ++ (L2 ++ Z.toList.drop 34))).toArray.toList.drop (34 + 32)).toArray = (L0 ++ (L1 ++ (L2 ++ (L3 ++ Z.toList.drop 66)))).toArray := by
    congr 1
    simp only [List.toList_toArray, ← List.append_assoc]
    have q : (L0 ++ L1 ++ L2).length = 34 := by simp; omega
    rw [List.take_append_of_le_length (by omega), List.take_of_length_le (by omega), List.drop_append, q, List.drop_eq_nil_of_le (by omega), List.drop_drop, List.nil_append]
  rw [a3, fill_one _ _ 4 66 1 v4 _ rfl h4 (by simp; omega), e4]
  have a4 : ((L0 ++ (L1 ++ (L2 ++ (L3 ++ Z.toList.drop 66)))).toArray.toList.take 66 ++ L4 ++ (L0 ++ (L1 ++ (L2 ++ (L3 ++ Z.toList.drop 66)))).toArray.toList.drop (66 + 1)).toArray = (L0 ++ (L1 ++ (L2 ++ (L3 ++ L4)))).toArray := by
    congr 1
    simp only [List.toList_toArray, ← List.append_assoc]
    have q : (L0 ++ L1 ++ L2 ++ L3).length = 66 := by simp; omega
    rw [List.take_append_of_le_length (by omega), List.take_of_length_le (by omega), List.drop_eq_nil_of_le (by simp; omega)]
    simp
  rw [a4]
  unfold Instr.fill bld67
  rw [e0, e1, e2, e3, e4]

theorem exec_build66 (ρ : Operand → Value) (dst : Option Tmp) (x0 x1 x2 x3 x4 : Operand) (ty : TypeId) (pos : String) (after : Array Edge) (guard : Option (Nat × Bool)) (w : World) (h : Sized5 (ρ x0) (ρ x1) (ρ x2) (ρ x3) (ρ x4)) :
    (execOp ρ ⟨dst, .build 66 #[(0, x0), (1, x1), (2, x2), (3, x3), (4, x4)], ty, pos, after, guard⟩).run Try.prog w = .ok (.value (.agg (bld67 (ρ x0) (ρ x1) (ρ x2) (ρ x3) (ρ x4)))) w := by
  have := run_build (P := Try.prog) w 66 #[(0, ρ x0), (1, ρ x1), (2, ρ x2), (3, ρ x3), (4, ρ x4)] _ ((built66 _).trans (fill66 _ _ _ _ _ h))
  simp [execOp, this]

/-- Where a pointer leads, and what a struct's value holds. -/
def ptrB : Value → Nat
  | .pointer (some a) => a.block
  | _ => 0
def ptrO : Value → Nat
  | .pointer (some a) => a.off
  | _ => 0
def aggL : Value → List Value
  | .agg cs => cs.toList
  | _ => []
theorem ptrB_eq (b o : Nat) : ptrB (.pointer (some ⟨b, o, none⟩)) = b := rfl
theorem ptrO_eq (b o : Nat) : ptrO (.pointer (some ⟨b, o, none⟩)) = o := rfl
theorem aggL_eq (l : List Value) : aggL (.agg l.toArray) = l := by simp [aggL]
/-- The store of the struct can be carried out. -/
def StoreOk (w : World) (p v : Value) : Prop := ∃ b o l, p = .pointer (some ⟨b, o, none⟩) ∧ v = .agg (List.toArray l) ∧ w.there b o 67 ∧ l.length = 67 ∧ ∀ u ∈ l, u.oneCell' = true
theorem Try.size66 : (Try.prog.info? 66).map (·.size) = some 67 := by kernel_rfl
theorem exec_store66 (ρ : Operand → Value) (dst : Option Tmp) (x y : Operand) (ty : TypeId) (pos : String) (after : Array Edge) (guard : Option (Nat × Bool)) (w : World) (h : StoreOk w (ρ x) (ρ y)) :
    (execOp ρ ⟨dst, .store 66 x y, ty, pos, after, guard⟩).run Try.prog w = .ok .skip (w.setCells (ptrB (ρ x)) (ptrO (ρ x)) (aggL (ρ y))) := by
  obtain ⟨b, o, l, h1, h2, h3, h4, h5⟩ := h
  have hs : l.toArray.size = 67 := by simp [h4]
  have := run_storeAt_mid (P := Try.prog) w b o 66 l.toArray (by rw [hs]; exact h3) (by rw [hs]; exact Try.size66) (all_oneCell_toArray h5)
  rw [h1, h2]
  simp [execOp, h1, h2, this, ptrB_eq, ptrO_eq, aggL_eq]
def StoreOk3 (w : World) (p v : Value) : Prop := ∃ b o l, p = .pointer (some ⟨b, o, none⟩) ∧ v = .agg (List.toArray l) ∧ w.there b o 3 ∧ l.length = 3 ∧ ∀ u ∈ l, u.oneCell' = true
theorem Try.size72 : (Try.prog.info? 72).map (·.size) = some 3 := by kernel_rfl
theorem exec_store72 (ρ : Operand → Value) (dst : Option Tmp) (x y : Operand) (ty : TypeId) (pos : String) (after : Array Edge) (guard : Option (Nat × Bool)) (w : World) (h : StoreOk3 w (ρ x) (ρ y)) :
    (execOp ρ ⟨dst, .store 72 x y, ty, pos, after, guard⟩).run Try.prog w = .ok .skip (w.setCells (ptrB (ρ x)) (ptrO (ρ x)) (aggL (ρ y))) := by
  obtain ⟨b, o, l, h1, h2, h3, h4, h5⟩ := h
  have hs : l.toArray.size = 3 := by simp [h4]
  have := run_storeAt_mid (P := Try.prog) w b o 72 l.toArray (by rw [hs]; exact h3) (by rw [hs]; exact Try.size72) (all_oneCell_toArray h5)
  rw [h1, h2]
  simp [execOp, h1, h2, this, ptrB_eq, ptrO_eq, aggL_eq]
theorem storeOk72 {w2 : World} {g o : Nat} (ht : w2.there g o 3) (a1 a2 a3 : Option Addr) (n1 n2 n3 c1 c2 c3 : Nat) : StoreOk3 w2 (.pointer (some ⟨g, o, none⟩)) (.agg #[.slice a1 n1 c1, .slice a2 n2 c2, .slice a3 n3 c3]) :=
  ⟨g, o, [.slice a1 n1 c1, .slice a2 n2 c2, .slice a3 n3 c3], rfl, rfl, ht, rfl, by intro u hu; simp at hu; rcases hu with rfl | rfl | rfl <;> rfl⟩
theorem cp5_one (s z : Int) (d h : List Int) (ao : Option Addr) (n c : Nat) : ∀ u ∈ cp5 s d z h (.slice ao n c), u.oneCell' = true := by
  intro u hu
  simp only [cp5, List.mem_cons, List.mem_append, List.mem_singleton] at hu
  rcases hu with rfl | hu | rfl | hu | rfl | hu
  · rfl
  · exact u8s_one d u hu
  · rfl
  · exact u8s_one h u hu
  · rfl
  · cases hu
theorem cp5_length (s z : Int) (d h : List Int) (q : Value) (hd : d.length = 32) (hh : h.length = 32) : (cp5 s d z h q).length = 67 := by
  simp [cp5, length_u8s, hd, hh]
end Go.Proofs.Qxb6616889a
