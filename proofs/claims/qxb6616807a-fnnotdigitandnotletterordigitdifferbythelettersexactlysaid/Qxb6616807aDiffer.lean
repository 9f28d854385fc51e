/-
  THE PROOF OF Rows.FnNotDigitAndNotLetterOrDigitDifferByTheLettersExactlySaid: the shell that the seat gives (the row part is the template), the walk by an AI agent.
-/
import Derived.Test.Qxb6616807aRows
import Derived.Test.Qxb6616807aLeaves
import Derived.Test.Qxb6616807aAlnPlain
import Derived.WalkKit
import Derived.ProofKit
import Derived.OpenShut
import Derived.ShutString
namespace Go.Proofs.Qxb6616807a.fnNotDigitAndNotLetterOrDigitDifferByTheLettersExactly
open Go.ChangeShapes Go.WideShapes Go.ChangeAt Go.RowKit
open Go.ChangeMaps (open_string shut_string)
set_option linter.unusedVariables false      -- a walk need not use every 'w<i>' (that an integer argument fits its kind)

theorem own : ownKnob Try.prog.godebug = none := by kernel_rfl

/-! ### THE PLAIN LAW -/
def nds (s x : Int) : Int := x - s - ov s x 48 58
def nls (s x : Int) : Int := x - s - Aln.cnt s x
theorem nds_same (s : Int) : nds s s = 0 := by unfold nds; rw [Aln.ov_same]; omega
theorem nls_same (s : Int) : nls s s = 0 := by unfold nls; rw [Aln.cnt_same]; omega
theorem nds_bd (s x : Int) (h : s ≤ x) (h2 : x ≤ s + 65536) : -10 ≤ nds s x ∧ nds s x ≤ 65536 := by
  have := Aln.ov_nn s x 48 58; have := Aln.ov_le s x 48 58 (by omega); unfold nds; omega
theorem nls_bd (s x : Int) (h : s ≤ x) (h2 : x ≤ s + 65536) : -62 ≤ nls s x ∧ nls s x ≤ 65536 := by
  have := Aln.cnt_bd s x; unfold nls; omega
theorem nds_digit (s x : Int) (h0 : s ≤ x) (h1 : 48 ≤ x) (h2 : x ≤ 57) : nds s (x + 1) = nds s x := by
  unfold nds; rw [Aln.ov_in s x 48 58 h0 h1 (by omega)]; omega
theorem nds_other (s x : Int) (h : x < 48 ∨ 57 < x) : nds s (x + 1) = nds s x + 1 := by
  unfold nds; rw [Aln.ov_out s x 48 58 (by omega)]; omega
theorem nls_hit (s x : Int) (h0 : s ≤ x) (h : (48 ≤ x ∧ x ≤ 57) ∨ (65 ≤ x ∧ x ≤ 90) ∨ (97 ≤ x ∧ x ≤ 122)) : nls s (x + 1) = nls s x := by
  unfold nls; rw [Aln.cnt_hit s x h0 h]; omega
theorem nls_miss (s x : Int) (h : x < 48 ∨ (57 < x ∧ x < 65) ∨ (90 < x ∧ x < 97) ∨ 122 < x) : nls s (x + 1) = nls s x + 1 := by
  unfold nls; rw [Aln.cnt_miss s x h]; omega

/-! ### STEP 1: THE WALK -/
set_option maxHeartbeats 2000000 in
theorem walk (a0 : Int) (a1 : Int) (w0 : (Lit.int .i32 a0).wf = true) (w1 : (Lit.int .i64 a1).wf = true) (w : World) :
    Calls Try.prog 4 #[.int .i32 a0, .int .i64 a1] w fun e w' => e = .returned (.bool true) ∧ Grown w w' := by
  obtain ⟨b1, b2⟩ := bounds_i32 w0
  clear w0 w1
  by_cases c1 : a1 < 0
  · go_enter Try.func4, Try.ntmps4
    go_wp2
    go_ret
    exact ⟨rfl, Grown.refl _⟩
  by_cases c2 : 65536 < a1
  · go_enter Try.func4, Try.ntmps4
    go_wp2
    go_ret
    exact ⟨rfl, Grown.refl _⟩
  by_cases c3 : 2147483648 < a0 + a1
  · go_enter Try.func4, Try.ntmps4
    go_wp2
    go_ret
    exact ⟨rfl, Grown.refl _⟩
  go_enter Try.func4, Try.ntmps4
  go_wp2
  go_loop [7, 8, 9] (fun n l x => ∃ k : Int, a0 ≤ k ∧ k ≤ a0 + a1 ∧ x = .int .i64 k ∧ n = .int .i64 (nds a0 k) ∧ l = .int .i64 (nls a0 k)) (fun _ _ x => (a0 + a1 - intOf x).toNat)
  case atStart => exact ⟨a0, by omega, by omega, rfl, by rw [nds_same], by rw [nls_same]⟩
  case round =>
    obtain ⟨k, hk1, hk2, rfl, rfl, rfl⟩ := hrel
    have o1 := nds_bd a0 k hk1 (by omega)
    have o2 := nls_bd a0 k hk1 (by omega)
    by_cases hlt : k < a0 + a1
    · by_cases hd : (48 ≤ k ∧ k ≤ 57)
      · obtain ⟨d1, d2⟩ := hd
        have H1 : Hid (nds a0 (k + 1) = nds a0 k) := nds_digit a0 k hk1 d1 d2
        have H2 : Hid (nls a0 (k + 1) = nls a0 k) := nls_hit a0 k hk1 (Or.inl ⟨d1, d2⟩)
        go_wp2_with (first | (go_at_call 6; refine (nd_no _ _ (by omega) (by omega)).mono ?_; rintro e w' ⟨rfl, rfl⟩) | (go_at_call 10; refine (nl_no _ _ (Or.inl ⟨by omega, by omega⟩)).mono ?_; rintro e w' ⟨rfl, rfl⟩))
        go_round
        case rel => exact ⟨k + 1, by omega, by omega, by go_num, by rw [H1.out], by rw [H2.out]⟩
        case measure => simp [intOf]; omega
      by_cases hl : (65 ≤ k ∧ k ≤ 90) ∨ (97 ≤ k ∧ k ≤ 122)
      · have HD : Hid (k < 48 ∨ 57 < k) := by show k < 48 ∨ 57 < k; omega
        have HL : Hid ((48 ≤ k ∧ k ≤ 57) ∨ (65 ≤ k ∧ k ≤ 90) ∨ (97 ≤ k ∧ k ≤ 122)) := Or.inr hl
        have H1 : Hid (nds a0 (k + 1) = nds a0 k + 1) := nds_other a0 k HD
        have H2 : Hid (nls a0 (k + 1) = nls a0 k) := nls_hit a0 k hk1 HL
        clear hd hl
        go_wp2_with (first | (go_at_call 6; refine (nd_yes _ _ HD.out).mono ?_; rintro e w' ⟨rfl, rfl⟩) | (go_at_call 10; refine (nl_no _ _ HL.out).mono ?_; rintro e w' ⟨rfl, rfl⟩))
        go_round
        case rel => exact ⟨k + 1, by omega, by omega, by go_num, by rw [H1.out], by rw [H2.out]⟩
        case measure => simp [intOf]; omega
      · have HD : Hid (k < 48 ∨ 57 < k) := by show k < 48 ∨ 57 < k; omega
        have HL : Hid (k < 48 ∨ (57 < k ∧ k < 65) ∨ (90 < k ∧ k < 97) ∨ 122 < k) := by show k < 48 ∨ (57 < k ∧ k < 65) ∨ (90 < k ∧ k < 97) ∨ 122 < k; omega
        have H1 : Hid (nds a0 (k + 1) = nds a0 k + 1) := nds_other a0 k HD
        have H2 : Hid (nls a0 (k + 1) = nls a0 k + 1) := nls_miss a0 k HL
        clear hd hl
        go_wp2_with (first | (go_at_call 6; refine (nd_yes _ _ HD.out).mono ?_; rintro e w' ⟨rfl, rfl⟩) | (go_at_call 10; refine (nl_yes _ _ HL.out).mono ?_; rintro e w' ⟨rfl, rfl⟩))
        go_round
        case rel => exact ⟨k + 1, by omega, by omega, by go_num, by rw [H1.out], by rw [H2.out]⟩
        case measure => simp [intOf]; omega
    · obtain rfl : k = a0 + a1 := by omega
      clear hlt
      have n2 := Aln.ov_nn a0 (a0 + a1) 65 91; have n3 := Aln.ov_nn a0 (a0 + a1) 97 123
      have m2 := Aln.ov_le a0 (a0 + a1) 65 91 (by omega); have m3 := Aln.ov_le a0 (a0 + a1) 97 123 (by omega)
      have e0 : (nds a0 (a0 + a1) - nls a0 (a0 + a1) == ov a0 (a0 + a1) 65 91 + ov a0 (a0 + a1) 97 123) = true := by
        simp only [beq_iff_eq]; unfold nds nls Aln.cnt; omega
      go_wp2_with (go_at_call 7; refine (ov_any _ _ _ _ _ (by omega) (by omega) (by omega) (by omega) (by omega) (by omega) (by omega) (by omega)).mono ?_; rintro e w' ⟨rfl, rfl⟩)
      go_ret
      exact ⟨ret_bool (by first | rfl | simp [*]), Grown.refl _⟩

/-! ### THE ROW's STEP: WRITTEN OUT: LEAVE IT -/
set_option maxRecDepth 100000 in
theorem lifted (os : Os) (started : os.Started) (H : Type) (enc : TypeId × Value → H) :
    ReturnsInHanded {} Try.checked os 4 .any (Rows.fnNotDigitAndNotLetterOrDigitDifferByTheLettersExactlySpec.pre6 enc Try.prog Try.f4 Rows.fnNotDigitAndNotLetterOrDigitDifferByTheLettersExactlyRow.domain false) (Rows.fnNotDigitAndNotLetterOrDigitDifferByTheLettersExactlySpec.post enc Try.prog Try.f4 false true false false) := by
  refine returnsInHanded_of_change (C := Try.checked) own started (by kernel_rfl) Try.func4
    (ChangeSpec.witness6 (enc := enc) (C := Try.checked) false ⟨#[], #[.int .i32 0, .int .i64 0], []⟩ 8 (by kernel_rfl) (by kernel_rfl) (by kernel_rfl) (by kernel_rfl)) ?_
  intro W base args ds gs before hval0 hW hcnd _
  have hval : ∀ (j : Nat) t v, Try.f4.params[j]? = some t → args[j]? = some v → Value.okWide Try.prog W .any base t v := hval0
  have hW' := hW
  obtain ⟨p, q, hA0, hV, rfl, hfz, hnd⟩ := hW
  have hA : DataW.TrodAll enc Try.prog W 0 (fun _ => true) true Try.f4.params.toList args.toList ds p := hA0
  rw [Try.params4] at hA hval
  obtain ⟨v0, vs0, d0, ds0, p0, q0, hargs, rfl, rfl, h0, r0⟩ := trodAll_cons hA
  obtain ⟨v1, vs1, d1, ds1, p1, q1, rfl, rfl, rfl, h1, r1⟩ := trodAll_cons r0
  obtain ⟨rfl, rfl, rfl⟩ := trodAll_nil r1
  obtain rfl : args = #[v0, v1] := by cases args; simp_all
  obtain ⟨rfl, rfl⟩ := trodVars_none hV
  obtain ⟨a0, rfl, rfl, rfl, w0⟩ := open_int Try.underlying21 (hval 0 21 v0 rfl rfl) h0
  obtain ⟨a1, rfl, rfl, rfl, w1⟩ := open_int Try.underlying3 (hval 1 3 v1 rfl rfl) h1
  clear hA0 hval0
  simp only [List.append_nil] at hW'
  refine (walk a0 a1 w0 w1 W).mono fun e W' ⟨he, hg⟩ => ?_
  subst he
  exact ⟨_, rfl, post_of_same (pa := []) (pv := []) hW' (fun _ _ _ => (trodAll_cons_mk (shut_bool Try.underlying4 _) trodAll_mk0)) (fun sp _ => (trodAll_cons_mk (shut_int Try.underlying21 w0) (trodAll_cons_mk (shut_int Try.underlying3 w1) trodAll_mk0))) (fun _ _ => rfl) rfl
    (hg.frame _) hg.2.1 (ok_one (by kernel_rfl) rfl (okWide_bool_mk Try.underlying4 _))⟩

theorem over : Rows.fnNotDigitAndNotLetterOrDigitDifferByTheLettersExactlyRow.holds Try.pinned (OpenSpec.ofChange Rows.fnNotDigitAndNotLetterOrDigitDifferByTheLettersExactlySpec) :=
  OpenClaim.holds_of_wide 4 Try.f4 rfl rfl rfl rfl rfl rfl rfl ⟨rfl, rfl, rfl, rfl, rfl⟩ rfl rfl rfl rfl rfl (by kernel_rfl) Try.func4 (by kernel_rfl)
    (of_decide_eq_true (by kernel_rfl)) (by unfold Func.isWrapper; first | (rw [if_pos (by decide +kernel)]; kernel_rfl) | (rw [if_neg (by decide +kernel)]; exact ⟨rfl, rfl⟩))
    (fun os started H enc _ => lifted os started H enc)

/-- ████ THE STATEMENT ████ -/
theorem proved : Rows.FnNotDigitAndNotLetterOrDigitDifferByTheLettersExactlySaid :=
  over
end Go.Proofs.Qxb6616807a.fnNotDigitAndNotLetterOrDigitDifferByTheLettersExactly
