/-
  sameDigests. By an AI agent.
-/
import Derived.Test.Qxb6616889aSame1
import Derived.WalkKit
import Derived.WalkSpells
import Derived.Deep.RegionHeld3
import Derived.Deep.DrawnRows
namespace Go.Proofs.Qxb6616889a
open Go.RowKit
set_option linter.unusedVariables false
set_option linter.unusedSimpArgs false
attribute [local go_sem ↓] Go.wp_at_zero Go.wp_at_succ exec_neq51
attribute [local go_sem] neqA_eq

def dsB (a b : List (List Int)) : Bool := decide (a = b)
theorem dsB_yes {a b : List (List Int)} (h : a = b) : dsB a b = true := by simp [dsB, h]
theorem dsB_no {a b : List (List Int)} (h : a ≠ b) : dsB a b = false := by simp [dsB, h]

set_option maxHeartbeats 4000000 in
set_option maxRecDepth 100000 in
theorem sameDigests_any (S : Nat → Prop) (w : World) (v1 v2 : Value) (xs ys : List (List Int)) (hv1 : SliceOf S v1 32 (EDig w) xs) (hv2 : SliceOf S v2 32 (EDig w) ys) (hS : ∀ b, S b → b < w.heap.size) :
    Calls Try.prog 30 #[v1, v2] w fun e w' => e = .returned (.bool (dsB xs ys)) ∧ Below w.heap.size w w' := by
  obtain ⟨ao, c, rfl, _, hc1, hc2, hcell⟩ := hv1
  obtain ⟨ao2, c2, rfl, _, hd1, hd2, hcell2⟩ := hv2
  have HC : Hid (0 < xs.length → ∃ b o, ao = some ⟨b, o, none⟩ ∧ S b ∧ ∀ k x, xs[k]? = some x → EDig w b (o + k * 32) x) := hcell
  have HC2 : Hid (0 < ys.length → ∃ b o, ao2 = some ⟨b, o, none⟩ ∧ S b ∧ ∀ k x, ys[k]? = some x → EDig w b (o + k * 32) x) := hcell2
  clear hcell hcell2
  by_cases hl : xs.length = ys.length
  · have hb : ((xs.length : Int) != (ys.length : Int)) = false := by simp [hl]
    have HL : Hid (xs.length = ys.length) := hl
    clear hl
    go_enter Try.func30, Try.ntmps30
    go_wp2_with fail
    go_loopw [5] (fun i wr => ∃ k : Nat, k ≤ xs.length ∧ i = .int .i64 k ∧ Below w.heap.size w wr ∧ xs.take k = ys.take k) (fun i _ => xs.length - (intOf i).toNat)
    case atStart => exact ⟨0, Nat.zero_le _, rfl, Below.refl _ _, rfl⟩
    case round =>
      obtain ⟨k, hk, rfl, hbel, htk⟩ := hrel
      have HT : Hid (xs.take k = ys.take k) := htk
      clear htk
      by_cases hlt : k < xs.length
      · have hlt2 : k < ys.length := by have := HL.out; omega
        obtain ⟨b, o, rfl, hSb, hE⟩ := HC.out (by omega)
        obtain ⟨b2, o2, rfl, hSb2, hE2⟩ := HC2.out (by omega)
        obtain ⟨x, hx⟩ : ∃ x, xs[k]? = some x := ⟨_, List.getElem?_eq_getElem hlt⟩
        obtain ⟨y, hy⟩ : ∃ y, ys[k]? = some y := ⟨_, List.getElem?_eq_getElem hlt2⟩
        obtain ⟨⟨lx, _⟩, rx⟩ := hE k x hx
        obtain ⟨⟨ly, _⟩, ry⟩ := hE2 k y hy
        have HR1 : Hid (wr.rangeAt b (o + k * 32) (u8s x)) := (Below.keeps hbel hS).range hSb rx
        have HR2 : Hid (wr.rangeAt b2 (o2 + k * 32) (u8s y)) := (Below.keeps hbel hS).range hSb2 ry
        have hu51 := Try.underlying51
        have hi1 : (Try.prog.info? 51).map (·.size) = some (u8s x).length := by rw [length_u8s, lx]; exact Try.size51
        have hi2 : (Try.prog.info? 51).map (·.size) = some (u8s y).length := by rw [length_u8s, ly]; exact Try.size51
        have ha2 := arr2 lx ly
        have hk0 : (0 : Int) ≤ (k : Int) := by omega
        have hk1 : (k : Int) < (xs.length : Int) := by omega
        have hk2 : (k : Int) < (ys.length : Int) := by omega
        by_cases hxy : x = y
        · have HS : Hid (xs.take (k + 1) = ys.take (k + 1)) := by
            show _ = _; rw [List.take_add_one, List.take_add_one, hx, hy, HT.out, hxy]
          have hne : (x == y) = true := by simp [hxy]
          clear hE hE2 hx hy hxy HC HC2 hb rx ry lx ly
          go_wp2_with fail
          refine wp_region_noPanic ?_
          refine wp_region_held_drew (S := (fun w' => w'.rangeAt b (o + k * 32) (u8s x) ∧ w'.rangeAt b2 (o2 + k * 32) (u8s y))) (by kernel_rfl) ?_ (fun hHeld => ?_)
          · exact ⟨HR1.out, HR2.out⟩
          refine take_drop (i := 0) (v := ?_) rfl (by kernel_rfl) (by kernel_rfl) (by kernel_rfl) (fun _ _ _ h => h) (Or.inl ⟨by rfl, ?_⟩) (by assumption) ?_
          rotate_left
          · intro w hSw; (try dsimp only at hSw); go_simp; (try with_reducible rfl)
          simp only [Act.put, List.setIfInBounds_toArray, List.set_cons_zero, List.set_cons_succ]
          refine take_drop (i := 1) (v := ?_) rfl (by kernel_rfl) (by kernel_rfl) (by kernel_rfl) (fun _ _ _ h => h) (Or.inl ⟨by rfl, ?_⟩) (by assumption) ?_
          rotate_left
          · intro w hSw; (try dsimp only at hSw); go_simp; (try with_reducible rfl)
          simp only [Act.put, List.setIfInBounds_toArray, List.set_cons_zero, List.set_cons_succ]
          refine take_drop (i := 2) (v := ?_) rfl (by kernel_rfl) (by kernel_rfl) (by kernel_rfl) (fun _ _ _ h => h) (Or.inl ⟨by rfl, ?_⟩) (by assumption) ?_
          rotate_left
          · intro w hSw; (try dsimp only at hSw); go_simp; (try with_reducible rfl)
          simp only [Act.put, List.setIfInBounds_toArray, List.set_cons_zero, List.set_cons_succ]
          refine take_drop (i := 3) rfl (by kernel_rfl) (by kernel_rfl) (by kernel_rfl) (fun _ _ _ h => h) (yieldsIf_load_mid (by rfl) 51 _ rfl b (o + k * 32) rfl (u8s x) _ (fun w hSw => hSw.1) hu51 rfl hi1) (by assumption) ?_
          simp only [Act.put, List.setIfInBounds_toArray, List.set_cons_zero, List.set_cons_succ]
          refine take_drop (i := 4) (v := ?_) rfl (by kernel_rfl) (by kernel_rfl) (by kernel_rfl) (fun _ _ _ h => h) (Or.inl ⟨by rfl, ?_⟩) (by assumption) ?_
          rotate_left
          · intro w hSw; (try dsimp only at hSw); go_simp; (try with_reducible rfl)
          simp only [Act.put, List.setIfInBounds_toArray, List.set_cons_zero, List.set_cons_succ]
          refine take_drop (i := 5) (v := ?_) rfl (by kernel_rfl) (by kernel_rfl) (by kernel_rfl) (fun _ _ _ h => h) (Or.inl ⟨by rfl, ?_⟩) (by assumption) ?_
          rotate_left
          · intro w hSw; (try dsimp only at hSw); go_simp; (try with_reducible rfl)
          simp only [Act.put, List.setIfInBounds_toArray, List.set_cons_zero, List.set_cons_succ]
          refine take_drop (i := 6) (v := ?_) rfl (by kernel_rfl) (by kernel_rfl) (by kernel_rfl) (fun _ _ _ h => h) (Or.inl ⟨by rfl, ?_⟩) (by assumption) ?_
          rotate_left
          · intro w hSw; (try dsimp only at hSw); go_simp; (try with_reducible rfl)
          simp only [Act.put, List.setIfInBounds_toArray, List.set_cons_zero, List.set_cons_succ]
          refine take_drop (i := 7) rfl (by kernel_rfl) (by kernel_rfl) (by kernel_rfl) (fun _ _ _ h => h) (yieldsIf_load_mid (by rfl) 51 _ rfl b2 (o2 + k * 32) rfl (u8s y) _ (fun w hSw => hSw.2) hu51 rfl hi2) (by assumption) ?_
          simp only [Act.put, List.setIfInBounds_toArray, List.set_cons_zero, List.set_cons_succ]
          refine take_drop (i := 8) (v := ?_) rfl (by kernel_rfl) (by kernel_rfl) (by kernel_rfl) (fun _ _ _ h => h) (Or.inl ⟨by rfl, ?_⟩) (by assumption) ?_
          rotate_left
          · intro w hSw; (try dsimp only at hSw); go_simp; (try with_reducible rfl)
          simp only [Act.put, List.setIfInBounds_toArray, List.set_cons_zero, List.set_cons_succ]
          clear hHeld
          refine wpAnyH_done (by kernel_rfl) ?_ _
          refine NoPanic.normal ?_
          go_wp2
          go_roundw
          case rel => exact ⟨k + 1, by omega, by go_num, hbel.drew, HS.out⟩
          case measure => simp [intOf]; omega
        · have hne : (x == y) = false := by simp [hxy]
          have HR : Hid (dsB xs ys = false) := dsB_no (take_ne hx hy hxy)
          clear hE hE2 hx hy hxy HC HC2 hb rx ry lx ly
          go_wp2_with fail
          refine wp_region_noPanic ?_
          refine wp_region_held_drew (S := (fun w' => w'.rangeAt b (o + k * 32) (u8s x) ∧ w'.rangeAt b2 (o2 + k * 32) (u8s y))) (by kernel_rfl) ?_ (fun hHeld => ?_)
          · exact ⟨HR1.out, HR2.out⟩
          refine take_drop (i := 0) (v := ?_) rfl (by kernel_rfl) (by kernel_rfl) (by kernel_rfl) (fun _ _ _ h => h) (Or.inl ⟨by rfl, ?_⟩) (by assumption) ?_
          rotate_left
          · intro w hSw; (try dsimp only at hSw); go_simp; (try with_reducible rfl)
          simp only [Act.put, List.setIfInBounds_toArray, List.set_cons_zero, List.set_cons_succ]
          refine take_drop (i := 1) (v := ?_) rfl (by kernel_rfl) (by kernel_rfl) (by kernel_rfl) (fun _ _ _ h => h) (Or.inl ⟨by rfl, ?_⟩) (by assumption) ?_
          rotate_left
          · intro w hSw; (try dsimp only at hSw); go_simp; (try with_reducible rfl)
          simp only [Act.put, List.setIfInBounds_toArray, List.set_cons_zero, List.set_cons_succ]
          refine take_drop (i := 2) (v := ?_) rfl (by kernel_rfl) (by kernel_rfl) (by kernel_rfl) (fun _ _ _ h => h) (Or.inl ⟨by rfl, ?_⟩) (by assumption) ?_
          rotate_left
          · intro w hSw; (try dsimp only at hSw); go_simp; (try with_reducible rfl)
          simp only [Act.put, List.setIfInBounds_toArray, List.set_cons_zero, List.set_cons_succ]
          refine take_drop (i := 3) rfl (by kernel_rfl) (by kernel_rfl) (by kernel_rfl) (fun _ _ _ h => h) (yieldsIf_load_mid (by rfl) 51 _ rfl b (o + k * 32) rfl (u8s x) _ (fun w hSw => hSw.1) hu51 rfl hi1) (by assumption) ?_
          simp only [Act.put, List.setIfInBounds_toArray, List.set_cons_zero, List.set_cons_succ]
          refine take_drop (i := 4) (v := ?_) rfl (by kernel_rfl) (by kernel_rfl) (by kernel_rfl) (fun _ _ _ h => h) (Or.inl ⟨by rfl, ?_⟩) (by assumption) ?_
          rotate_left
          · intro w hSw; (try dsimp only at hSw); go_simp; (try with_reducible rfl)
          simp only [Act.put, List.setIfInBounds_toArray, List.set_cons_zero, List.set_cons_succ]
          refine take_drop (i := 5) (v := ?_) rfl (by kernel_rfl) (by kernel_rfl) (by kernel_rfl) (fun _ _ _ h => h) (Or.inl ⟨by rfl, ?_⟩) (by assumption) ?_
          rotate_left
          · intro w hSw; (try dsimp only at hSw); go_simp; (try with_reducible rfl)
          simp only [Act.put, List.setIfInBounds_toArray, List.set_cons_zero, List.set_cons_succ]
          refine take_drop (i := 6) (v := ?_) rfl (by kernel_rfl) (by kernel_rfl) (by kernel_rfl) (fun _ _ _ h => h) (Or.inl ⟨by rfl, ?_⟩) (by assumption) ?_
          rotate_left
          · intro w hSw; (try dsimp only at hSw); go_simp; (try with_reducible rfl)
          simp only [Act.put, List.setIfInBounds_toArray, List.set_cons_zero, List.set_cons_succ]
          refine take_drop (i := 7) rfl (by kernel_rfl) (by kernel_rfl) (by kernel_rfl) (fun _ _ _ h => h) (yieldsIf_load_mid (by rfl) 51 _ rfl b2 (o2 + k * 32) rfl (u8s y) _ (fun w hSw => hSw.2) hu51 rfl hi2) (by assumption) ?_
          simp only [Act.put, List.setIfInBounds_toArray, List.set_cons_zero, List.set_cons_succ]
          refine take_drop (i := 8) (v := ?_) rfl (by kernel_rfl) (by kernel_rfl) (by kernel_rfl) (fun _ _ _ h => h) (Or.inl ⟨by rfl, ?_⟩) (by assumption) ?_
          rotate_left
          · intro w hSw; (try dsimp only at hSw); go_simp; (try with_reducible rfl)
          simp only [Act.put, List.setIfInBounds_toArray, List.set_cons_zero, List.set_cons_succ]
          clear hHeld
          refine wpAnyH_done (by kernel_rfl) ?_ _
          refine NoPanic.normal ?_
          go_wp2
          go_ret
          exact ⟨ret_bool HR.out.symm, hbel.drew⟩
      · obtain rfl : k = xs.length := by omega
        have HR : Hid (dsB xs ys = true) := by
          have h := HT.out
          rw [List.take_length, HL.out, List.take_length] at h
          exact dsB_yes h
        clear HT HC HC2 hb
        go_wp2
        go_ret
        exact ⟨ret_bool HR.out.symm, hbel⟩
  · have hb : ((xs.length : Int) != (ys.length : Int)) = true := by simp; omega
    have HR : Hid (dsB xs ys = false) := dsB_no (fun h => hl (by rw [h]))
    clear hl HC HC2
    go_enter Try.func30, Try.ntmps30
    go_wp2
    go_ret
    exact ⟨ret_bool HR.out.symm, Below.refl _ _⟩
end Go.Proofs.Qxb6616889a
