/-
  equalBytes, sameIDs, sameDigests. By an AI agent.
-/
import Derived.Test.Qxb6616889aMem
import Derived.WalkKit
import Derived.WalkSpells
import Derived.WalkSmall
import Derived.Deep.QuietTactic
import Derived.BigQuiet
namespace Go.Proofs.Qxb6616889a
open Go.RowKit
set_option linter.unusedVariables false
set_option linter.unusedSimpArgs false

def eqB (xs ys : List Int) : Bool := decide (xs = ys)
theorem eqB_self (xs : List Int) : eqB xs xs = true := by simp [eqB]
theorem eqB_ne {xs ys : List Int} (h : xs ≠ ys) : eqB xs ys = false := by simp [eqB, h]
theorem take_ne {α : Type} {xs ys : List α} {k : Nat} {x y : α} (hx : xs[k]? = some x) (hy : ys[k]? = some y) (h : x ≠ y) : xs ≠ ys := by
  rintro rfl; rw [hx] at hy; cases hy; exact h rfl

set_option maxHeartbeats 2000000 in
theorem equal_any (S : Nat → Prop) (w : World) (v1 v2 : Value) (xs ys : List Int) (hv1 : SliceOf S v1 1 (EByte w) xs) (hv2 : SliceOf S v2 1 (EByte w) ys) (hS : ∀ b, S b → b < w.heap.size) :
    Calls Try.prog 13 #[v1, v2] w fun e w' => e = .returned (.bool (eqB xs ys)) ∧ Below w.heap.size w w' := by
  obtain ⟨ao, c, rfl, _, hc1, hc2, hcell⟩ := hv1
  obtain ⟨ao2, c2, rfl, _, hd1, hd2, hcell2⟩ := hv2
  have HC : Hid (0 < xs.length → ∃ b o, ao = some ⟨b, o, none⟩ ∧ S b ∧ ∀ k x, xs[k]? = some x → EByte w b (o + k * 1) x) := hcell
  have HC2 : Hid (0 < ys.length → ∃ b o, ao2 = some ⟨b, o, none⟩ ∧ S b ∧ ∀ k x, ys[k]? = some x → EByte w b (o + k * 1) x) := hcell2
  clear hcell hcell2
  by_cases hl : xs.length = ys.length
  · have hb : ((xs.length : Int) != (ys.length : Int)) = false := by simp [hl]
    have HL : Hid (xs.length = ys.length) := hl
    clear hl
    go_enter Try.func13, Try.ntmps13
    go_wp2_with fail
    go_loopw [5] (fun i wr => ∃ k : Nat, k ≤ xs.length ∧ i = .int .i64 k ∧ Below w.heap.size w wr ∧ xs.take k = ys.take k) (fun i _ => xs.length - (intOf i).toNat)
    case atStart => exact ⟨0, Nat.zero_le _, rfl, Below.refl _ _, rfl⟩
    case round =>
      obtain ⟨k, hk, rfl, hbel, htk⟩ := hrel
      have HT : Hid (xs.take k = ys.take k) := htk
      clear htk
      by_cases hlt : k < xs.length
      · have hlt2 : k < ys.length := by have := HL.out; omega
        obtain ⟨b, o, rfl, hSb, hE⟩ := HC.out (by omega)
        obtain ⟨b2, o2, rfl, hSb2, hE2⟩ := HC2.out (by omega)
        obtain ⟨x, hx⟩ : ∃ x, xs[k]? = some x := ⟨_, List.getElem?_eq_getElem hlt⟩
        obtain ⟨y, hy⟩ : ∃ y, ys[k]? = some y := ⟨_, List.getElem?_eq_getElem hlt2⟩
        have hcx : wr.cell? ⟨b, o + k, none⟩ = some (.int .u8 x) := by
          rw [hbel.cell (p := ⟨b, o + k, none⟩) (hS b hSb)]; have := hE k _ hx; unfold EByte at this; rw [show (Value.int .u8 x) = u8 x from rfl, ← this]; simp
        have hcy : wr.cell? ⟨b2, o2 + k, none⟩ = some (.int .u8 y) := by
          rw [hbel.cell (p := ⟨b2, o2 + k, none⟩) (hS b2 hSb2)]; have := hE2 k _ hy; unfold EByte at this; rw [show (Value.int .u8 y) = u8 y from rfl, ← this]; simp
        have hk0 : (0 : Int) ≤ (k : Int) := by omega
        have hk1 : (k : Int) < (xs.length : Int) := by omega
        have hk2 : (k : Int) < (ys.length : Int) := by omega
        by_cases hxy : x = y
        · have HS : Hid (xs.take (k + 1) = ys.take (k + 1)) := by
            show _ = _; rw [List.take_add_one, List.take_add_one, hx, hy, HT.out, hxy]
          have hne : (x != y) = false := by simp [hxy]
          clear hE hE2 hx hy hxy HC HC2 hb
          go_wp2_with fail
          go_quiet (fail)
          go_wp2
          go_roundw
          case rel => exact ⟨k + 1, by omega, by go_num, below_drewN hbel _, HS.out⟩
          case measure => simp [intOf]; omega
        · have hne : (x != y) = true := by simp [hxy]
          have HR : Hid (eqB xs ys = false) := eqB_ne (take_ne hx hy hxy)
          clear hE hE2 hx hy hxy HC HC2 hb
          go_wp2_with fail
          go_quiet (fail)
          go_wp2
          go_ret
          exact ⟨ret_bool HR.out.symm, below_drewN hbel _⟩
      · obtain rfl : k = xs.length := by omega
        have HR : Hid (eqB xs ys = true) := by
          have h := HT.out
          rw [List.take_length, HL.out, List.take_length] at h
          rw [h]; exact eqB_self _
        clear HT HC HC2 hb
        go_wp2
        go_ret
        exact ⟨ret_bool HR.out.symm, hbel⟩
  · have hb : ((xs.length : Int) != (ys.length : Int)) = true := by simp; omega
    have HR : Hid (eqB xs ys = false) := eqB_ne (fun h => hl (by rw [h]))
    clear hl HC HC2
    go_enter Try.func13, Try.ntmps13
    go_wp2
    go_ret
    exact ⟨ret_bool HR.out.symm, Below.refl _ _⟩
end Go.Proofs.Qxb6616889a
