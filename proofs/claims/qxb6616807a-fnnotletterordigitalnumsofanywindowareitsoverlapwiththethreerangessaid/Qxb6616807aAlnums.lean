/-
  THE PROOF OF Rows.FnNotLetterOrDigitAlnumsOfAnyWindowAreItsOverlapWithTheThreeRangesSaid: the shell that the seat gives (the row part is the template), the walk by an AI agent.
-/
import Derived.Test.Qxb6616807aRows
import Derived.Test.Qxb6616807aLeaves
import Derived.Test.Qxb6616807aAlnPlain
import Derived.WalkKit
import Derived.ProofKit
import Derived.OpenShut
import Derived.ShutString
namespace Go.Proofs.Qxb6616807a.fnNotLetterOrDigitAlnumsOfAnyWindowAreItsOverlapWithTheThreeRanges
open Go.ChangeShapes Go.WideShapes Go.ChangeAt Go.RowKit
open Go.ChangeMaps (open_string shut_string)
set_option linter.unusedVariables false      -- a walk need not use every 'w<i>' (that an integer argument fits its kind)

theorem own : ownKnob Try.prog.godebug = none := by kernel_rfl

/-! ### STEP 1: THE WALK -/
set_option maxHeartbeats 2000000 in
theorem walk (a0 : Int) (a1 : Int) (w0 : (Lit.int .i32 a0).wf = true) (w1 : (Lit.int .i64 a1).wf = true) (w : World) :
    Calls Try.prog 5 #[.int .i32 a0, .int .i64 a1] w fun e w' => e = .returned (.bool true) ∧ Grown w w' := by
  obtain ⟨b1, b2⟩ := bounds_i32 w0
  clear w0 w1
  by_cases c1 : a1 < 0
  · go_enter Try.func5, Try.ntmps5
    go_wp2
    go_ret
    exact ⟨rfl, Grown.refl _⟩
  by_cases c2 : 65536 < a1
  · go_enter Try.func5, Try.ntmps5
    go_wp2
    go_ret
    exact ⟨rfl, Grown.refl _⟩
  by_cases c3 : 2147483648 < a0 + a1
  · go_enter Try.func5, Try.ntmps5
    go_wp2
    go_ret
    exact ⟨rfl, Grown.refl _⟩
  go_enter Try.func5, Try.ntmps5
  go_wp2
  go_loop [7, 8, 9, 10] (fun c f l x => ∃ k : Int, a0 ≤ k ∧ k ≤ a0 + a1 ∧ x = .int .i64 k ∧ c = .int .i64 (Aln.cnt a0 k) ∧ f = .int .i64 (Aln.fst a0 k) ∧ l = .int .i64 (Aln.lst a0 k)) (fun _ _ _ x => (a0 + a1 - intOf x).toNat)
  case atStart => exact ⟨a0, by omega, by omega, rfl, by rw [Aln.cnt_same], by rw [Aln.fst_same], by rw [Aln.lst_same]⟩
  case round =>
    obtain ⟨k, hk1, hk2, rfl, rfl, rfl, rfl⟩ := hrel
    have ob := Aln.cnt_bd a0 k
    by_cases hlt : k < a0 + a1
    · by_cases hd : (48 ≤ k ∧ k ≤ 57) ∨ (65 ≤ k ∧ k ≤ 90) ∨ (97 ≤ k ∧ k ≤ 122)
      · have HD : Hid ((48 ≤ k ∧ k ≤ 57) ∨ (65 ≤ k ∧ k ≤ 90) ∨ (97 ≤ k ∧ k ≤ 122)) := hd
        have H1 : Hid (Aln.cnt a0 (k + 1) = Aln.cnt a0 k + 1) := Aln.cnt_hit a0 k hk1 hd
        have H3 : Hid (Aln.lst a0 (k + 1) = k) := Aln.lst_hit a0 k hk1 hd
        by_cases hz : Aln.cnt a0 k = 0
        · have H2 : Hid (Aln.fst a0 (k + 1) = k) := Aln.fst_hit0 a0 k hk1 hd hz
          have hz' : (Aln.cnt a0 k == 0) = true := by simp [hz]
          clear hz hd
          go_wp2_with (go_at_call 10; refine (nl_no _ _ HD.out).mono ?_; rintro e w' ⟨rfl, rfl⟩)
          go_round
          case rel => exact ⟨k + 1, by omega, by omega, by go_num, by rw [H1.out], by rw [H2.out], by rw [H3.out]⟩
          case measure => simp [intOf]; omega
        · have H2 : Hid (Aln.fst a0 (k + 1) = Aln.fst a0 k) := Aln.fst_hit1 a0 k hk1 hd hz
          have hz' : (Aln.cnt a0 k == 0) = false := by simp [hz]
          clear hz hd
          go_wp2_with (go_at_call 10; refine (nl_no _ _ HD.out).mono ?_; rintro e w' ⟨rfl, rfl⟩)
          go_round
          case rel => exact ⟨k + 1, by omega, by omega, by go_num, by rw [H1.out], by rw [H2.out], by rw [H3.out]⟩
          case measure => simp [intOf]; omega
      · have hd' : k < 48 ∨ (57 < k ∧ k < 65) ∨ (90 < k ∧ k < 97) ∨ 122 < k := by omega
        have H1 : Hid (Aln.cnt a0 (k + 1) = Aln.cnt a0 k) := Aln.cnt_miss a0 k hd'
        have H2 : Hid (Aln.fst a0 (k + 1) = Aln.fst a0 k) := Aln.fst_miss a0 k hd'
        have H3 : Hid (Aln.lst a0 (k + 1) = Aln.lst a0 k) := Aln.lst_miss a0 k hd'
        have HD : Hid (k < 48 ∨ (57 < k ∧ k < 65) ∨ (90 < k ∧ k < 97) ∨ 122 < k) := hd'
        clear hd hd'
        go_wp2_with (go_at_call 10; refine (nl_yes _ _ HD.out).mono ?_; rintro e w' ⟨rfl, rfl⟩)
        go_round
        case rel => exact ⟨k + 1, by omega, by omega, by go_num, by rw [H1.out], by rw [H2.out], by rw [H3.out]⟩
        case measure => simp [intOf]; omega
    · obtain rfl : k = a0 + a1 := by omega
      clear hlt
      have n1 := Aln.ov_nn a0 (a0 + a1) 48 58; have n2 := Aln.ov_nn a0 (a0 + a1) 65 91; have n3 := Aln.ov_nn a0 (a0 + a1) 97 123
      have m1 := Aln.ov_le a0 (a0 + a1) 48 58 (by omega); have m2 := Aln.ov_le a0 (a0 + a1) 65 91 (by omega); have m3 := Aln.ov_le a0 (a0 + a1) 97 123 (by omega)
      obtain ⟨p1, p2⟩ := mn_bd (a0 + a1) 58 (-4294967296) 4294967296 (by omega) (by omega) (by omega) (by omega)
      obtain ⟨p3, p4⟩ := mn_bd (a0 + a1) 91 (-4294967296) 4294967296 (by omega) (by omega) (by omega) (by omega)
      obtain ⟨p5, p6⟩ := mn_bd (a0 + a1) 123 (-4294967296) 4294967296 (by omega) (by omega) (by omega) (by omega)
      by_cases hz : Aln.cnt a0 (a0 + a1) = 0
      · have hz' : (Aln.cnt a0 (a0 + a1) == 0) = true := by simp [hz]
        have hz2 : (ov a0 (a0 + a1) 48 58 + ov a0 (a0 + a1) 65 91 + ov a0 (a0 + a1) 97 123 == 0) = true := by unfold Aln.cnt at hz; simp [hz]
        clear hz
        go_wp2_with (first | (go_at_call 7; refine (ov_any _ _ _ _ _ (by omega) (by omega) (by omega) (by omega) (by omega) (by omega) (by omega) (by omega)).mono ?_; rintro e w' ⟨rfl, rfl⟩) | (go_at_call 8; refine (max_any _ _ _).mono ?_; rintro e w' ⟨rfl, rfl⟩) | (go_at_call 9; refine (min_any _ _ _).mono ?_; rintro e w' ⟨rfl, rfl⟩))
        go_ret
        exact ⟨rfl, Grown.refl _⟩
      · have hz2 : (ov a0 (a0 + a1) 48 58 + ov a0 (a0 + a1) 65 91 + ov a0 (a0 + a1) 97 123 == 0) = false := by unfold Aln.cnt at hz; simp [hz]
        have e0 : (Aln.cnt a0 (a0 + a1) == ov a0 (a0 + a1) 48 58 + ov a0 (a0 + a1) 65 91 + ov a0 (a0 + a1) 97 123) = true := by simp [Aln.cnt]
        by_cases hd : 0 < ov a0 (a0 + a1) 48 58
        · have f1 : (Aln.fst a0 (a0 + a1) == mx a0 48) = true := by simp [Aln.fst, hz, hd]
          by_cases hl : 0 < ov a0 (a0 + a1) 97 123
          · have f2 : (Aln.lst a0 (a0 + a1) == mn (a0 + a1) 123 - 1) = true := by simp [Aln.lst, hz, hl]
            clear hz ob
            go_wp2_with (first | (go_at_call 7; refine (ov_any _ _ _ _ _ (by omega) (by omega) (by omega) (by omega) (by omega) (by omega) (by omega) (by omega)).mono ?_; rintro e w' ⟨rfl, rfl⟩) | (go_at_call 8; refine (max_any _ _ _).mono ?_; rintro e w' ⟨rfl, rfl⟩) | (go_at_call 9; refine (min_any _ _ _).mono ?_; rintro e w' ⟨rfl, rfl⟩))
            go_ret
            exact ⟨ret_bool (by first | rfl | simp [*]), Grown.refl _⟩
          by_cases hu : 0 < ov a0 (a0 + a1) 65 91
          · have f2 : (Aln.lst a0 (a0 + a1) == mn (a0 + a1) 91 - 1) = true := by simp [Aln.lst, hz, hl, hu]
            clear hz ob
            go_wp2_with (first | (go_at_call 7; refine (ov_any _ _ _ _ _ (by omega) (by omega) (by omega) (by omega) (by omega) (by omega) (by omega) (by omega)).mono ?_; rintro e w' ⟨rfl, rfl⟩) | (go_at_call 8; refine (max_any _ _ _).mono ?_; rintro e w' ⟨rfl, rfl⟩) | (go_at_call 9; refine (min_any _ _ _).mono ?_; rintro e w' ⟨rfl, rfl⟩))
            go_ret
            exact ⟨ret_bool (by first | rfl | simp [*]), Grown.refl _⟩
          · have f2 : (Aln.lst a0 (a0 + a1) == mn (a0 + a1) 58 - 1) = true := by simp [Aln.lst, hz, hl, hu]
            clear hz ob
            go_wp2_with (first | (go_at_call 7; refine (ov_any _ _ _ _ _ (by omega) (by omega) (by omega) (by omega) (by omega) (by omega) (by omega) (by omega)).mono ?_; rintro e w' ⟨rfl, rfl⟩) | (go_at_call 8; refine (max_any _ _ _).mono ?_; rintro e w' ⟨rfl, rfl⟩) | (go_at_call 9; refine (min_any _ _ _).mono ?_; rintro e w' ⟨rfl, rfl⟩))
            go_ret
            exact ⟨ret_bool (by first | rfl | simp [*]), Grown.refl _⟩
        by_cases hu : 0 < ov a0 (a0 + a1) 65 91
        · have f1 : (Aln.fst a0 (a0 + a1) == mx a0 65) = true := by simp [Aln.fst, hz, hd, hu]
          by_cases hl : 0 < ov a0 (a0 + a1) 97 123
          · have f2 : (Aln.lst a0 (a0 + a1) == mn (a0 + a1) 123 - 1) = true := by simp [Aln.lst, hz, hl]
            clear hz ob
            go_wp2_with (first | (go_at_call 7; refine (ov_any _ _ _ _ _ (by omega) (by omega) (by omega) (by omega) (by omega) (by omega) (by omega) (by omega)).mono ?_; rintro e w' ⟨rfl, rfl⟩) | (go_at_call 8; refine (max_any _ _ _).mono ?_; rintro e w' ⟨rfl, rfl⟩) | (go_at_call 9; refine (min_any _ _ _).mono ?_; rintro e w' ⟨rfl, rfl⟩))
            go_ret
            exact ⟨ret_bool (by first | rfl | simp [*]), Grown.refl _⟩
          · have f2 : (Aln.lst a0 (a0 + a1) == mn (a0 + a1) 91 - 1) = true := by simp [Aln.lst, hz, hl, hu]
            clear hz ob
            go_wp2_with (first | (go_at_call 7; refine (ov_any _ _ _ _ _ (by omega) (by omega) (by omega) (by omega) (by omega) (by omega) (by omega) (by omega)).mono ?_; rintro e w' ⟨rfl, rfl⟩) | (go_at_call 8; refine (max_any _ _ _).mono ?_; rintro e w' ⟨rfl, rfl⟩) | (go_at_call 9; refine (min_any _ _ _).mono ?_; rintro e w' ⟨rfl, rfl⟩))
            go_ret
            exact ⟨ret_bool (by first | rfl | simp [*]), Grown.refl _⟩
        · have hl : 0 < ov a0 (a0 + a1) 97 123 := by unfold Aln.cnt at hz; omega
          have f1 : (Aln.fst a0 (a0 + a1) == mx a0 97) = true := by simp [Aln.fst, hz, hd, hu]
          have f2 : (Aln.lst a0 (a0 + a1) == mn (a0 + a1) 123 - 1) = true := by simp [Aln.lst, hz, hl]
          clear hz ob
          go_wp2_with (first | (go_at_call 7; refine (ov_any _ _ _ _ _ (by omega) (by omega) (by omega) (by omega) (by omega) (by omega) (by omega) (by omega)).mono ?_; rintro e w' ⟨rfl, rfl⟩) | (go_at_call 8; refine (max_any _ _ _).mono ?_; rintro e w' ⟨rfl, rfl⟩) | (go_at_call 9; refine (min_any _ _ _).mono ?_; rintro e w' ⟨rfl, rfl⟩))
          go_ret
          exact ⟨ret_bool (by first | rfl | simp [*]), Grown.refl _⟩

/-! ### THE ROW's STEP: WRITTEN OUT: LEAVE IT -/
set_option maxRecDepth 100000 in
theorem lifted (os : Os) (started : os.Started) (H : Type) (enc : TypeId × Value → H) :
    ReturnsInHanded {} Try.checked os 5 .any (Rows.fnNotLetterOrDigitAlnumsOfAnyWindowAreItsOverlapWithTheThreeRangesSpec.pre6 enc Try.prog Try.f5 Rows.fnNotLetterOrDigitAlnumsOfAnyWindowAreItsOverlapWithTheThreeRangesRow.domain false) (Rows.fnNotLetterOrDigitAlnumsOfAnyWindowAreItsOverlapWithTheThreeRangesSpec.post enc Try.prog Try.f5 false true false false) := by
  refine returnsInHanded_of_change (C := Try.checked) own started (by kernel_rfl) Try.func5
    (ChangeSpec.witness6 (enc := enc) (C := Try.checked) false ⟨#[], #[.int .i32 0, .int .i64 0], []⟩ 8 (by kernel_rfl) (by kernel_rfl) (by kernel_rfl) (by kernel_rfl)) ?_
  intro W base args ds gs before hval0 hW hcnd _
  have hval : ∀ (j : Nat) t v, Try.f5.params[j]? = some t → args[j]? = some v → Value.okWide Try.prog W .any base t v := hval0
  have hW' := hW
  obtain ⟨p, q, hA0, hV, rfl, hfz, hnd⟩ := hW
  have hA : DataW.TrodAll enc Try.prog W 0 (fun _ => true) true Try.f5.params.toList args.toList ds p := hA0
  rw [Try.params5] at hA hval
  obtain ⟨v0, vs0, d0, ds0, p0, q0, hargs, rfl, rfl, h0, r0⟩ := trodAll_cons hA
  obtain ⟨v1, vs1, d1, ds1, p1, q1, rfl, rfl, rfl, h1, r1⟩ := trodAll_cons r0
  obtain ⟨rfl, rfl, rfl⟩ := trodAll_nil r1
  obtain rfl : args = #[v0, v1] := by cases args; simp_all
  obtain ⟨rfl, rfl⟩ := trodVars_none hV
  obtain ⟨a0, rfl, rfl, rfl, w0⟩ := open_int Try.underlying21 (hval 0 21 v0 rfl rfl) h0
  obtain ⟨a1, rfl, rfl, rfl, w1⟩ := open_int Try.underlying3 (hval 1 3 v1 rfl rfl) h1
  clear hA0 hval0
  simp only [List.append_nil] at hW'
  refine (walk a0 a1 w0 w1 W).mono fun e W' ⟨he, hg⟩ => ?_
  subst he
  exact ⟨_, rfl, post_of_same (pa := []) (pv := []) hW' (fun _ _ _ => (trodAll_cons_mk (shut_bool Try.underlying4 _) trodAll_mk0)) (fun sp _ => (trodAll_cons_mk (shut_int Try.underlying21 w0) (trodAll_cons_mk (shut_int Try.underlying3 w1) trodAll_mk0))) (fun _ _ => rfl) rfl
    (hg.frame _) hg.2.1 (ok_one (by kernel_rfl) rfl (okWide_bool_mk Try.underlying4 _))⟩

theorem over : Rows.fnNotLetterOrDigitAlnumsOfAnyWindowAreItsOverlapWithTheThreeRangesRow.holds Try.pinned (OpenSpec.ofChange Rows.fnNotLetterOrDigitAlnumsOfAnyWindowAreItsOverlapWithTheThreeRangesSpec) :=
  OpenClaim.holds_of_wide 5 Try.f5 rfl rfl rfl rfl rfl rfl rfl ⟨rfl, rfl, rfl, rfl, rfl⟩ rfl rfl rfl rfl rfl (by kernel_rfl) Try.func5 (by kernel_rfl)
    (of_decide_eq_true (by kernel_rfl)) (by unfold Func.isWrapper; first | (rw [if_pos (by decide +kernel)]; kernel_rfl) | (rw [if_neg (by decide +kernel)]; exact ⟨rfl, rfl⟩))
    (fun os started H enc _ => lifted os started H enc)

/-- ████ THE STATEMENT ████ -/
theorem proved : Rows.FnNotLetterOrDigitAlnumsOfAnyWindowAreItsOverlapWithTheThreeRangesSaid :=
  over
end Go.Proofs.Qxb6616807a.fnNotLetterOrDigitAlnumsOfAnyWindowAreItsOverlapWithTheThreeRanges
