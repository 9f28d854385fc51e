/-
  THE PROOF OF Rows.FnNotDigitDigitsOfAnyWindowAreItsOverlapWithZeroToNineSaid: the shell that the seat gives (the row part is the template), the walk by an AI agent.
-/
import Derived.Test.Qxb6616807aRows
import Derived.Test.Qxb6616807aLeaves
import Derived.WalkKit
import Derived.ProofKit
import Derived.OpenShut
import Derived.ShutString
namespace Go.Proofs.Qxb6616807a.fnNotDigitDigitsOfAnyWindowAreItsOverlapWithZeroToNine
open Go.ChangeShapes Go.WideShapes Go.ChangeAt Go.RowKit
open Go.ChangeMaps (open_string shut_string)
set_option linter.unusedVariables false      -- a walk need not use every 'w<i>' (that an integer argument fits its kind)

theorem own : ownKnob Try.prog.godebug = none := by kernel_rfl

/-! ### THE PLAIN LAW: what the loop has gathered at x -/
def fst (s x : Int) : Int := if ov s x 48 58 = 0 then -1 else mx s 48
def lst (s x : Int) : Int := if ov s x 48 58 = 0 then -1 else mn x 58 - 1
theorem ov_same (s : Int) : ov s s 48 58 = 0 := by unfold ov mn mx; omega
theorem fst_same (s : Int) : fst s s = -1 := by unfold fst; rw [if_pos (ov_same s)]
theorem lst_same (s : Int) : lst s s = -1 := by unfold lst; rw [if_pos (ov_same s)]
theorem ov_bd (s x : Int) : 0 ≤ ov s x 48 58 ∧ ov s x 48 58 ≤ 10 := by unfold ov mn mx; omega
theorem ov_hit (s x : Int) (h0 : s ≤ x) (h1 : 48 ≤ x) (h2 : x ≤ 57) : ov s (x + 1) 48 58 = ov s x 48 58 + 1 := by unfold ov mn mx; omega
theorem ov_miss (s x : Int) (h : x < 48 ∨ 57 < x) : ov s (x + 1) 48 58 = ov s x 48 58 := by unfold ov mn mx; omega
theorem fst_hit0 (s x : Int) (h0 : s ≤ x) (h1 : 48 ≤ x) (h2 : x ≤ 57) (h : ov s x 48 58 = 0) : fst s (x + 1) = x := by
  unfold fst; rw [ov_hit s x h0 h1 h2, h]; simp; revert h; unfold ov mn mx; omega
theorem fst_hit1 (s x : Int) (h0 : s ≤ x) (h1 : 48 ≤ x) (h2 : x ≤ 57) (h : ¬ ov s x 48 58 = 0) : fst s (x + 1) = fst s x := by
  have := ov_bd s x
  unfold fst; rw [ov_hit s x h0 h1 h2, if_neg h, if_neg (by omega)]
theorem fst_miss (s x : Int) (h : x < 48 ∨ 57 < x) : fst s (x + 1) = fst s x := by
  unfold fst; rw [ov_miss s x h]
theorem lst_hit (s x : Int) (h0 : s ≤ x) (h1 : 48 ≤ x) (h2 : x ≤ 57) : lst s (x + 1) = x := by
  have := ov_bd s x
  unfold lst; rw [ov_hit s x h0 h1 h2, if_neg (by omega)]; unfold mn; omega
theorem lst_miss (s x : Int) (h : x < 48 ∨ 57 < x) : lst s (x + 1) = lst s x := by
  unfold lst; rw [ov_miss s x h]; by_cases hz : ov s x 48 58 = 0
  · rw [if_pos hz, if_pos hz]
  · rw [if_neg hz, if_neg hz]; revert hz; unfold ov mn mx; omega

/-! ### STEP 1: THE WALK -/
set_option maxHeartbeats 1000000 in
theorem walk (a0 : Int) (a1 : Int) (w0 : (Lit.int .i32 a0).wf = true) (w1 : (Lit.int .i64 a1).wf = true) (w : World) :
    Calls Try.prog 3 #[.int .i32 a0, .int .i64 a1] w fun e w' => e = .returned (.bool true) ∧ Grown w w' := by
  obtain ⟨b1, b2⟩ := bounds_i32 w0
  clear w0 w1
  by_cases c1 : a1 < 0
  · go_enter Try.func3, Try.ntmps3
    go_wp2
    go_ret
    exact ⟨rfl, Grown.refl _⟩
  by_cases c2 : 65536 < a1
  · go_enter Try.func3, Try.ntmps3
    go_wp2
    go_ret
    exact ⟨rfl, Grown.refl _⟩
  by_cases c3 : 2147483648 < a0 + a1
  · go_enter Try.func3, Try.ntmps3
    go_wp2
    go_ret
    exact ⟨rfl, Grown.refl _⟩
  go_enter Try.func3, Try.ntmps3
  go_wp2
  go_loop [7, 8, 9, 10] (fun c f l x => ∃ k : Int, a0 ≤ k ∧ k ≤ a0 + a1 ∧ x = .int .i64 k ∧ c = .int .i64 (ov a0 k 48 58) ∧ f = .int .i64 (fst a0 k) ∧ l = .int .i64 (lst a0 k)) (fun _ _ _ x => (a0 + a1 - intOf x).toNat)
  case atStart => exact ⟨a0, by omega, by omega, rfl, by rw [ov_same], by rw [fst_same], by rw [lst_same]⟩
  case round =>
    obtain ⟨k, hk1, hk2, rfl, rfl, rfl, rfl⟩ := hrel
    have ob := ov_bd a0 k
    by_cases hlt : k < a0 + a1
    · by_cases hd : 48 ≤ k ∧ k ≤ 57
      · obtain ⟨d1, d2⟩ := hd
        have H1 : Hid (ov a0 (k + 1) 48 58 = ov a0 k 48 58 + 1) := ov_hit a0 k hk1 d1 d2
        have H3 : Hid (lst a0 (k + 1) = k) := lst_hit a0 k hk1 d1 d2
        by_cases hz : ov a0 k 48 58 = 0
        · have H2 : Hid (fst a0 (k + 1) = k) := fst_hit0 a0 k hk1 d1 d2 hz
          have hz' : (ov a0 k 48 58 == 0) = true := by simp [hz]
          clear hz
          go_wp2_with (go_at_call 6; refine (nd_no _ _ (by omega) (by omega)).mono ?_; rintro e w' ⟨rfl, rfl⟩)
          go_round
          case rel => exact ⟨k + 1, by omega, by omega, by go_num, by rw [H1.out], by rw [H2.out], by rw [H3.out]⟩
          case measure => simp [intOf]; omega
        · have H2 : Hid (fst a0 (k + 1) = fst a0 k) := fst_hit1 a0 k hk1 d1 d2 hz
          have hz' : (ov a0 k 48 58 == 0) = false := by simp [hz]
          clear hz
          go_wp2_with (go_at_call 6; refine (nd_no _ _ (by omega) (by omega)).mono ?_; rintro e w' ⟨rfl, rfl⟩)
          go_round
          case rel => exact ⟨k + 1, by omega, by omega, by go_num, by rw [H1.out], by rw [H2.out], by rw [H3.out]⟩
          case measure => simp [intOf]; omega
      · have hd' : k < 48 ∨ 57 < k := by omega
        have H1 : Hid (ov a0 (k + 1) 48 58 = ov a0 k 48 58) := ov_miss a0 k hd'
        have H2 : Hid (fst a0 (k + 1) = fst a0 k) := fst_miss a0 k hd'
        have H3 : Hid (lst a0 (k + 1) = lst a0 k) := lst_miss a0 k hd'
        clear hd
        have HD : Hid (k < 48 ∨ 57 < k) := hd'
        clear hd'
        go_wp2_with (go_at_call 6; refine (nd_yes _ _ HD).mono ?_; rintro e w' ⟨rfl, rfl⟩)
        go_round
        case rel => exact ⟨k + 1, by omega, by omega, by go_num, by rw [H1.out], by rw [H2.out], by rw [H3.out]⟩
        case measure => simp [intOf]; omega
    · obtain rfl : k = a0 + a1 := by omega
      obtain ⟨p1, p2⟩ := mn_bd (a0 + a1) 58 (-4294967296) 4294967296 (by omega) (by omega) (by omega) (by omega)
      by_cases hz : ov a0 (a0 + a1) 48 58 = 0
      · have hz' : (ov a0 (a0 + a1) 48 58 == 0) = true := by simp [hz]
        clear hz
        go_wp2_with (go_at_call 7; refine (ov_any _ _ _ _ _ (by omega) (by omega) (by omega) (by omega) (by omega) (by omega) (by omega) (by omega)).mono ?_; rintro e w' ⟨rfl, rfl⟩)
        go_ret
        exact ⟨rfl, Grown.refl _⟩
      · have hz' : (ov a0 (a0 + a1) 48 58 == 0) = false := by simp [hz]
        have e1 : (fst a0 (a0 + a1) == mx a0 48) = true := by simp [fst, hz]
        have e2 : (lst a0 (a0 + a1) == mn (a0 + a1) 58 - 1) = true := by simp [lst, hz]
        clear hz
        go_wp2_with (go_at_call 7; refine (ov_any _ _ _ _ _ (by omega) (by omega) (by omega) (by omega) (by omega) (by omega) (by omega) (by omega)).mono ?_; rintro e w' ⟨rfl, rfl⟩)
        refine (max_any _ _ _).mono ?_
        rintro e w' ⟨rfl, rfl⟩
        go_wp2_with fail
        refine (min_any _ _ _).mono ?_
        rintro e w' ⟨rfl, rfl⟩
        go_wp2
        go_ret
        exact ⟨ret_bool (by first | rfl | simp [*]), Grown.refl _⟩

/-! ### THE ROW's STEP: WRITTEN OUT: LEAVE IT -/
set_option maxRecDepth 100000 in
theorem lifted (os : Os) (started : os.Started) (H : Type) (enc : TypeId × Value → H) :
    ReturnsInHanded {} Try.checked os 3 .any (Rows.fnNotDigitDigitsOfAnyWindowAreItsOverlapWithZeroToNineSpec.pre6 enc Try.prog Try.f3 Rows.fnNotDigitDigitsOfAnyWindowAreItsOverlapWithZeroToNineRow.domain false) (Rows.fnNotDigitDigitsOfAnyWindowAreItsOverlapWithZeroToNineSpec.post enc Try.prog Try.f3 false true false false) := by
  refine returnsInHanded_of_change (C := Try.checked) own started (by kernel_rfl) Try.func3
    (ChangeSpec.witness6 (enc := enc) (C := Try.checked) false ⟨#[], #[.int .i32 0, .int .i64 0], []⟩ 8 (by kernel_rfl) (by kernel_rfl) (by kernel_rfl) (by kernel_rfl)) ?_
  intro W base args ds gs before hval0 hW hcnd _
  have hval : ∀ (j : Nat) t v, Try.f3.params[j]? = some t → args[j]? = some v → Value.okWide Try.prog W .any base t v := hval0
  have hW' := hW
  obtain ⟨p, q, hA0, hV, rfl, hfz, hnd⟩ := hW
  have hA : DataW.TrodAll enc Try.prog W 0 (fun _ => true) true Try.f3.params.toList args.toList ds p := hA0
  rw [Try.params3] at hA hval
  obtain ⟨v0, vs0, d0, ds0, p0, q0, hargs, rfl, rfl, h0, r0⟩ := trodAll_cons hA
  obtain ⟨v1, vs1, d1, ds1, p1, q1, rfl, rfl, rfl, h1, r1⟩ := trodAll_cons r0
  obtain ⟨rfl, rfl, rfl⟩ := trodAll_nil r1
  obtain rfl : args = #[v0, v1] := by cases args; simp_all
  obtain ⟨rfl, rfl⟩ := trodVars_none hV
  obtain ⟨a0, rfl, rfl, rfl, w0⟩ := open_int Try.underlying21 (hval 0 21 v0 rfl rfl) h0
  obtain ⟨a1, rfl, rfl, rfl, w1⟩ := open_int Try.underlying3 (hval 1 3 v1 rfl rfl) h1
  clear hA0 hval0
  simp only [List.append_nil] at hW'
  refine (walk a0 a1 w0 w1 W).mono fun e W' ⟨he, hg⟩ => ?_
  subst he
  exact ⟨_, rfl, post_of_same (pa := []) (pv := []) hW' (fun _ _ _ => (trodAll_cons_mk (shut_bool Try.underlying4 _) trodAll_mk0)) (fun sp _ => (trodAll_cons_mk (shut_int Try.underlying21 w0) (trodAll_cons_mk (shut_int Try.underlying3 w1) trodAll_mk0))) (fun _ _ => rfl) rfl
    (hg.frame _) hg.2.1 (ok_one (by kernel_rfl) rfl (okWide_bool_mk Try.underlying4 _))⟩

theorem over : Rows.fnNotDigitDigitsOfAnyWindowAreItsOverlapWithZeroToNineRow.holds Try.pinned (OpenSpec.ofChange Rows.fnNotDigitDigitsOfAnyWindowAreItsOverlapWithZeroToNineSpec) :=
  OpenClaim.holds_of_wide 3 Try.f3 rfl rfl rfl rfl rfl rfl rfl ⟨rfl, rfl, rfl, rfl, rfl⟩ rfl rfl rfl rfl rfl (by kernel_rfl) Try.func3 (by kernel_rfl)
    (of_decide_eq_true (by kernel_rfl)) (by unfold Func.isWrapper; first | (rw [if_pos (by decide +kernel)]; kernel_rfl) | (rw [if_neg (by decide +kernel)]; exact ⟨rfl, rfl⟩))
    (fun os started H enc _ => lifted os started H enc)

/-- ████ THE STATEMENT ████ -/
theorem proved : Rows.FnNotDigitDigitsOfAnyWindowAreItsOverlapWithZeroToNineSaid :=
  over
end Go.Proofs.Qxb6616807a.fnNotDigitDigitsOfAnyWindowAreItsOverlapWithZeroToNine
