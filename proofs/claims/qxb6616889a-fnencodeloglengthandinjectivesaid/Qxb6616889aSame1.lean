/-
  sameIDs; '!=' on [32]byte. By an AI agent.
-/
import Derived.Test.Qxb6616889aEqual
import Derived.Test.Qxb6616889aToLogA
import Derived.Test.Qxb6616889aInjPlain
import Derived.Laws.StructEq
import Derived.WalkKit
import Derived.WalkSpells
import Derived.WalkSmall
import Derived.Deep.QuietTactic
import Derived.BigQuiet
namespace Go.Proofs.Qxb6616889a
open Go.RowKit
set_option linter.unusedVariables false
set_option linter.unusedSimpArgs false

def idB (a b : List Int) : Bool := decide (lowIds a = lowIds b)
theorem idB_yes {a b : List Int} (h : lowIds a = lowIds b) : idB a b = true := by simp [idB, h]
theorem idB_no {a b : List Int} (h : lowIds a ≠ lowIds b) : idB a b = false := by simp [idB, h]
theorem low_len (a : List Int) : (lowIds a).length = a.length := by simp [lowIds]
theorem low_get {a : List Int} {k : Nat} {x : Int} (h : a[k]? = some x) : (lowIds a)[k]? = some (x % 4294967296) := by simp [lowIds, h]

set_option maxHeartbeats 2000000 in
theorem sameIDs_any (S : Nat → Prop) (w : World) (v1 v2 : Value) (xs ys : List Int) (hv1 : SliceOf S v1 1 (EInt w) xs) (hv2 : SliceOf S v2 1 (EInt w) ys) (hS : ∀ b, S b → b < w.heap.size) :
    Calls Try.prog 29 #[v1, v2] w fun e w' => e = .returned (.bool (idB xs ys)) ∧ Below w.heap.size w w' := by
  obtain ⟨ao, c, rfl, _, hc1, hc2, hcell⟩ := hv1
  obtain ⟨ao2, c2, rfl, _, hd1, hd2, hcell2⟩ := hv2
  have HC : Hid (0 < xs.length → ∃ b o, ao = some ⟨b, o, none⟩ ∧ S b ∧ ∀ k x, xs[k]? = some x → EInt w b (o + k * 1) x) := hcell
  have HC2 : Hid (0 < ys.length → ∃ b o, ao2 = some ⟨b, o, none⟩ ∧ S b ∧ ∀ k x, ys[k]? = some x → EInt w b (o + k * 1) x) := hcell2
  clear hcell hcell2
  by_cases hl : xs.length = ys.length
  · have hb : ((xs.length : Int) != (ys.length : Int)) = false := by simp [hl]
    have HL : Hid (xs.length = ys.length) := hl
    clear hl
    go_enter Try.func29, Try.ntmps29
    go_wp2_with fail
    go_loopw [5] (fun i wr => ∃ k : Nat, k ≤ xs.length ∧ i = .int .i64 k ∧ Below w.heap.size w wr ∧ (lowIds xs).take k = (lowIds ys).take k) (fun i _ => xs.length - (intOf i).toNat)
    case atStart => exact ⟨0, Nat.zero_le _, rfl, Below.refl _ _, rfl⟩
    case round =>
      obtain ⟨k, hk, rfl, hbel, htk⟩ := hrel
      have HT : Hid ((lowIds xs).take k = (lowIds ys).take k) := htk
      clear htk
      by_cases hlt : k < xs.length
      · have hlt2 : k < ys.length := by have := HL.out; omega
        obtain ⟨b, o, rfl, hSb, hE⟩ := HC.out (by omega)
        obtain ⟨b2, o2, rfl, hSb2, hE2⟩ := HC2.out (by omega)
        obtain ⟨x, hx⟩ : ∃ x, xs[k]? = some x := ⟨_, List.getElem?_eq_getElem hlt⟩
        obtain ⟨y, hy⟩ : ∃ y, ys[k]? = some y := ⟨_, List.getElem?_eq_getElem hlt2⟩
        have hcx : wr.cell? ⟨b, o + k, none⟩ = some (.int .i64 x) := by
          rw [hbel.cell (p := ⟨b, o + k, none⟩) (hS b hSb)]; have := hE k _ hx; unfold EInt at this; rw [← this]; simp
        have hcy : wr.cell? ⟨b2, o2 + k, none⟩ = some (.int .i64 y) := by
          rw [hbel.cell (p := ⟨b2, o2 + k, none⟩) (hS b2 hSb2)]; have := hE2 k _ hy; unfold EInt at this; rw [← this]; simp
        have hk0 : (0 : Int) ≤ (k : Int) := by omega
        have hk1 : (k : Int) < (xs.length : Int) := by omega
        have hk2 : (k : Int) < (ys.length : Int) := by omega
        have wx : IntKind.u32.wrap x = x % 4294967296 := IntKind.wrap_u32 x
        have wy : IntKind.u32.wrap y = y % 4294967296 := IntKind.wrap_u32 y
        by_cases hxy : x % 4294967296 = y % 4294967296
        · have HS : Hid ((lowIds xs).take (k + 1) = (lowIds ys).take (k + 1)) := by
            show _ = _; rw [List.take_add_one, List.take_add_one, low_get hx, low_get hy, HT.out, hxy]
          have hne : (x % 4294967296 != y % 4294967296) = false := by simp [hxy]
          clear hE hE2 hx hy hxy HC HC2 hb
          go_wp2_with fail
          go_quiet (fail)
          go_wp2
          go_roundw
          case rel => exact ⟨k + 1, by omega, by go_num, below_drewN hbel _, HS.out⟩
          case measure => simp [intOf]; omega
        · have hne : (x % 4294967296 != y % 4294967296) = true := by simp [hxy]
          have HR : Hid (idB xs ys = false) := idB_no (take_ne (low_get hx) (low_get hy) hxy)
          clear hE hE2 hx hy hxy HC HC2 hb
          go_wp2_with fail
          go_quiet (fail)
          go_wp2
          go_ret
          exact ⟨ret_bool HR.out.symm, below_drewN hbel _⟩
      · obtain rfl : k = xs.length := by omega
        have HR : Hid (idB xs ys = true) := by
          have h := HT.out
          rw [← low_len xs, List.take_length, low_len, HL.out, ← low_len ys, List.take_length] at h
          exact idB_yes h
        clear HT HC HC2 hb
        go_wp2
        go_ret
        exact ⟨ret_bool HR.out.symm, hbel⟩
  · have hb : ((xs.length : Int) != (ys.length : Int)) = true := by simp; omega
    have HR : Hid (idB xs ys = false) := idB_no (fun h => hl (by rw [← low_len xs, h, low_len]))
    clear hl HC HC2
    go_enter Try.func29, Try.ntmps29
    go_wp2
    go_ret
    exact ⟨ret_bool HR.out.symm, Below.refl _ _⟩

/-! ### '!=' on [32]byte -/
theorem all_range_int : ∀ (xs ys : List Int), xs.length = ys.length → ((List.range xs.length).all fun i => xs.getD i 0 == ys.getD i 0) = (xs == ys)
  | [], [], _ => rfl
  | x :: xs, y :: ys, h => by
    have ih := all_range_int xs ys (by simpa using h)
    rw [List.length_cons, List.range_succ_eq_map, List.all_cons, List.all_map]
    simp only [List.getD_cons_zero, Function.comp_def, List.getD_cons_succ, ih]
    simp [List.cons_beq_cons]
  | [], _ :: _, h => by simp at h
  | _ :: _, [], h => by simp at h

theorem run_equalIn_u8s (w : World) (d : Nat) (xs ys : List Int) (hx : xs.length = 32) (hy : ys.length = 32) :
    (Op.equalIn (d + 2) 51 (.agg (u8s xs).toArray) (.agg (u8s ys).toArray)).run Try.prog w = .ok (xs == ys) w := by
  have hsz : ∀ w, (sizeOf 5).run Try.prog w = .ok 1 w := fun w => by
    obtain ⟨i, hi, _, h1, _⟩ := info_parts Try.info5
    simp [sizeOf, typeInfo, hi, h1]
  rw [← all_range_int xs ys (hx.trans hy.symm), hx, List.range_eq_range', Op.equalIn]
  simp only [Sem.run_bind, run_underlying Try.underlying51, Result.andThen_ok, hsz, Std.Legacy.Range.forIn_eq_forIn_range', Std.Legacy.Range.size, Nat.sub_zero, Nat.add_sub_cancel, Nat.div_one]
  have hl : ∀ i ∈ List.range' 0 32 1, i < 32 := fun i hi => by simpa using (List.mem_range'_1.1 hi).2
  generalize List.range' 0 32 1 = l at hl ⊢
  induction l with
  | nil => simp
  | cons i l ih =>
    have hi : i < 32 := hl i (by simp)
    have px : (part 5 (u8s xs).toArray (i * 1)).run Try.prog w = .ok (u8 (xs.getD i 0)) w := by
      simp [part, isAgg, run_underlying Try.underlying5, List.getD, u8s, List.getElem?_eq_getElem (show i < xs.length by omega)]
    have py : (part 5 (u8s ys).toArray (i * 1)).run Try.prog w = .ok (u8 (ys.getD i 0)) w := by
      simp [part, isAgg, run_underlying Try.underlying5, List.getD, u8s, List.getElem?_eq_getElem (show i < ys.length by omega)]
    have pe : (Op.equalIn (d + 1) 5 (u8 (xs.getD i 0)) (u8 (ys.getD i 0))).run Try.prog w = .ok (xs.getD i 0 == ys.getD i 0) w := by
      rw [u8, u8, run_equalIn_int w d 5 .u8 .u8 _ _ Try.underlying5]
    simp only [List.forIn_cons, Sem.run_bind, px, py, pe, Result.andThen_ok, List.all_cons]
    cases hb : (xs.getD i 0 == ys.getD i 0)
    · simp
    · simp only [Bool.not_true, Bool.false_eq_true, if_false, Sem.run_pure, Result.andThen_ok, Bool.true_and]
      exact ih fun j hj => hl j (by simp [hj])

/-- Do the two arrays differ? -/
def neqA (x y : Value) : Bool :=
  match x, y with
  | .agg a, .agg b => !((a.toList.map intOf) == (b.toList.map intOf))
  | _, _ => false
theorem map_u8s (d : List Int) : (u8s d).map intOf = d := by
  unfold u8s; rw [List.map_map]
  exact (List.map_congr_left (fun _ _ => rfl)).trans (List.map_id d)
theorem neqA_eq (d1 d2 : List Int) : neqA (.agg (u8s d1).toArray) (.agg (u8s d2).toArray) = !(d1 == d2) := by
  simp only [neqA, List.toList_toArray, map_u8s]
def Arr2 (x y : Value) : Prop := ∃ d1 d2, x = .agg (u8s d1).toArray ∧ y = .agg (u8s d2).toArray ∧ d1.length = 32 ∧ d2.length = 32
theorem arr2 {d1 d2 : List Int} (h1 : d1.length = 32) (h2 : d2.length = 32) : Arr2 (.agg (u8s d1).toArray) (.agg (u8s d2).toArray) := ⟨d1, d2, rfl, rfl, h1, h2⟩
theorem Try.calm51 : Try.prog.eqGuardType Try.prog.depth 51 = false := by kernel_rfl
theorem exec_neq51 (ρ : Operand → Value) (dst : Option Tmp) (x y : Operand) (t2 ty : TypeId) (pos : String) (after : Array Edge) (guard : Option (Nat × Bool)) (w : World) (h : Arr2 (ρ x) (ρ y)) :
    (execOp ρ ⟨dst, .binOp .neq 51 x y t2, ty, pos, after, guard⟩).run Try.prog w = .ok (.value (.bool (neqA (ρ x) (ρ y)))) w := by
  obtain ⟨d1, d2, h1, h2, l1, l2⟩ := h
  have e := run_equalIn_u8s w 9998 d1 d2 l1 l2
  have g := run_eqGuard_agg (P := Try.prog) w .neq 51 x y (u8s d1).toArray (u8s d2).toArray Try.calm51
  have b : (binOp .neq 51 (.agg (u8s d1).toArray) (.agg (u8s d2).toArray)).run Try.prog w = .ok (.bool (!(d1 == d2))) w := by
    simp only [binOp]
    simp [Op.equal, Op.maxDepth, e]
  simp only [h1, h2, neqA_eq]
  simp [execOp, h1, h2, g, b]
end Go.Proofs.Qxb6616889a
