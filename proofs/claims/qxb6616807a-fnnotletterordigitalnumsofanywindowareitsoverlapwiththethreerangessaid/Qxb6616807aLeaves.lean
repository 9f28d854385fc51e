/-
  THE LEAVES OF SEAT b6616807a: notDigit, notLetterOrDigit, zzMax64, zzMin64, zzOverlap, each by a contract. By an AI agent.
-/
import Derived.Test.Qxb6616807aRows
import Derived.WalkKit
namespace Go.Proofs.Qxb6616807a
open Go.RowKit

/-! ### The plain functions -/
def mx (a b : Int) : Int := if b < a then a else b
def mn (a b : Int) : Int := if a < b then a else b
def ov (lo hi a b : Int) : Int := if mn hi b ≤ mx lo a then 0 else mn hi b - mx lo a

theorem ret_bool {a b : Bool} (h : a = b) : Ending.returned (.bool a) = .returned (.bool b) := by rw [h]
theorem ret_int {k : IntKind} {a b : Int} (h : a = b) : Ending.returned (.int k a) = .returned (.int k b) := by rw [h]

/-! ### notDigit, ZZnotDigit -/
theorem nd11_yes (r : Int) (w : World) (h : r < 48 ∨ 57 < r) :
    Calls Try.prog 11 #[.int .i32 r] w fun e w' => e = .returned (.bool true) ∧ w' = w := by
  by_cases h1 : r < 48
  · go_enter Try.func11, Try.ntmps11
    go_wp2
    go_ret
    exact ⟨ret_bool (by first | rfl | (simp; done) | (simp; omega)), rfl⟩
  · have h2 : 57 < r := by omega
    clear h
    go_enter Try.func11, Try.ntmps11
    go_wp2
    go_ret
    exact ⟨ret_bool (by first | rfl | (simp; done) | (simp; omega)), rfl⟩

theorem nd11_no (r : Int) (w : World) (h1 : 48 ≤ r) (h2 : r ≤ 57) :
    Calls Try.prog 11 #[.int .i32 r] w fun e w' => e = .returned (.bool false) ∧ w' = w := by
  go_enter Try.func11, Try.ntmps11
  go_wp2
  go_ret
  exact ⟨ret_bool (by first | rfl | (simp; done) | (simp; omega)), rfl⟩

theorem nd_yes (r : Int) (w : World) (h : r < 48 ∨ 57 < r) :
    Calls Try.prog 6 #[.int .i32 r] w fun e w' => e = .returned (.bool true) ∧ w' = w := by
  go_enter Try.func6, Try.ntmps6
  go_wp2_with (go_at_call 11; refine (nd11_yes r _ h).mono ?_; rintro e w' ⟨rfl, rfl⟩)
  go_ret
  exact ⟨rfl, rfl⟩

theorem nd_no (r : Int) (w : World) (h1 : 48 ≤ r) (h2 : r ≤ 57) :
    Calls Try.prog 6 #[.int .i32 r] w fun e w' => e = .returned (.bool false) ∧ w' = w := by
  go_enter Try.func6, Try.ntmps6
  go_wp2_with (go_at_call 11; refine (nd11_no r _ h1 h2).mono ?_; rintro e w' ⟨rfl, rfl⟩)
  go_ret
  exact ⟨rfl, rfl⟩

/-! ### zzMax64, zzMin64, zzOverlap -/
theorem max_any (a b : Int) (w : World) :
    Calls Try.prog 8 #[.int .i64 a, .int .i64 b] w fun e w' => e = .returned (.int .i64 (mx a b)) ∧ w' = w := by
  by_cases h : b < a
  · go_enter Try.func8, Try.ntmps8
    go_wp2
    go_ret
    exact ⟨ret_int (by unfold mx; omega), rfl⟩
  · go_enter Try.func8, Try.ntmps8
    go_wp2
    go_ret
    exact ⟨ret_int (by unfold mx; omega), rfl⟩

theorem min_any (a b : Int) (w : World) :
    Calls Try.prog 9 #[.int .i64 a, .int .i64 b] w fun e w' => e = .returned (.int .i64 (mn a b)) ∧ w' = w := by
  by_cases h : a < b
  · go_enter Try.func9, Try.ntmps9
    go_wp2
    go_ret
    exact ⟨ret_int (by unfold mn; omega), rfl⟩
  · go_enter Try.func9, Try.ntmps9
    go_wp2
    go_ret
    exact ⟨ret_int (by unfold mn; omega), rfl⟩

theorem mx_bd (a b L U : Int) (h1 : L ≤ a) (h2 : a ≤ U) (h3 : L ≤ b) (h4 : b ≤ U) : L ≤ mx a b ∧ mx a b ≤ U := by
  unfold mx; split <;> omega
theorem mn_bd (a b L U : Int) (h1 : L ≤ a) (h2 : a ≤ U) (h3 : L ≤ b) (h4 : b ≤ U) : L ≤ mn a b ∧ mn a b ≤ U := by
  unfold mn; split <;> omega

theorem ov_any (lo hi a b : Int) (w : World) (h1 : -4294967296 ≤ lo) (h2 : lo ≤ 4294967296) (h3 : -4294967296 ≤ hi) (h4 : hi ≤ 4294967296) (h5 : 0 ≤ a) (h6 : a ≤ 200) (h7 : 0 ≤ b) (h8 : b ≤ 200) :
    Calls Try.prog 7 #[.int .i64 lo, .int .i64 hi, .int .i64 a, .int .i64 b] w fun e w' => e = .returned (.int .i64 (ov lo hi a b)) ∧ w' = w := by
  obtain ⟨p1, p2⟩ := mx_bd lo a (-4294967296) 4294967296 h1 h2 (by omega) (by omega)
  obtain ⟨q1, q2⟩ := mn_bd hi b (-4294967296) 4294967296 h3 h4 (by omega) (by omega)
  by_cases h : mn hi b ≤ mx lo a
  · go_enter Try.func7, Try.ntmps7
    go_wp2_with (first | (go_at_call 8; refine (max_any _ _ _).mono ?_; rintro e w' ⟨rfl, rfl⟩) | (go_at_call 9; refine (min_any _ _ _).mono ?_; rintro e w' ⟨rfl, rfl⟩))
    go_ret
    exact ⟨ret_int (by unfold ov; omega), rfl⟩
  · go_enter Try.func7, Try.ntmps7
    go_wp2_with (first | (go_at_call 8; refine (max_any _ _ _).mono ?_; rintro e w' ⟨rfl, rfl⟩) | (go_at_call 9; refine (min_any _ _ _).mono ?_; rintro e w' ⟨rfl, rfl⟩))
    go_ret
    exact ⟨ret_int (by unfold ov; omega), rfl⟩

/-! ### notLetterOrDigit, ZZnotLetterOrDigit -/

theorem nl12_yes (r : Int) (w : World) (h : r < 48 ∨ (57 < r ∧ r < 65) ∨ (90 < r ∧ r < 97) ∨ 122 < r) :
    Calls Try.prog 12 #[.int .i32 r] w fun e w' => e = .returned (.bool true) ∧ w' = w := by
  rcases h with h | ⟨h, h'⟩ | ⟨h, h'⟩ | h
  · have a1 : r < 97 := by omega
    have a2 : r < 65 := by omega
    go_enter Try.func12, Try.ntmps12
    go_wp2
    go_ret
    exact ⟨ret_bool (by first | rfl | (simp; done) | (simp; omega)), rfl⟩
  · have a1 : r < 97 := by omega
    have a2 : ¬ r < 48 := by omega
    go_enter Try.func12, Try.ntmps12
    go_wp2
    go_ret
    exact ⟨ret_bool (by first | rfl | (simp; done) | (simp; omega)), rfl⟩
  · have a1 : ¬ r < 65 := by omega
    have a2 : ¬ r < 48 := by omega
    have a3 : 57 < r := by omega
    go_enter Try.func12, Try.ntmps12
    go_wp2
    go_ret
    exact ⟨ret_bool (by first | rfl | (simp; done) | (simp; omega)), rfl⟩
  · have a1 : ¬ r < 97 := by omega
    have a2 : ¬ r < 65 := by omega
    have a3 : 90 < r := by omega
    have a4 : ¬ r < 48 := by omega
    have a5 : 57 < r := by omega
    go_enter Try.func12, Try.ntmps12
    go_wp2
    go_ret
    exact ⟨ret_bool (by first | rfl | (simp; done) | (simp; omega)), rfl⟩

theorem nl12_no (r : Int) (w : World) (h : (48 ≤ r ∧ r ≤ 57) ∨ (65 ≤ r ∧ r ≤ 90) ∨ (97 ≤ r ∧ r ≤ 122)) :
    Calls Try.prog 12 #[.int .i32 r] w fun e w' => e = .returned (.bool false) ∧ w' = w := by
  rcases h with ⟨h, h'⟩ | ⟨h, h'⟩ | ⟨h, h'⟩
  · have a1 : r < 97 := by omega
    have a2 : r < 65 := by omega
    go_enter Try.func12, Try.ntmps12
    go_wp2
    go_ret
    exact ⟨ret_bool (by first | rfl | (simp; done) | (simp; omega)), rfl⟩
  · have a1 : r < 97 := by omega
    go_enter Try.func12, Try.ntmps12
    go_wp2
    go_ret
    exact ⟨ret_bool (by first | rfl | (simp; done) | (simp; omega)), rfl⟩
  · go_enter Try.func12, Try.ntmps12
    go_wp2
    go_ret
    exact ⟨ret_bool (by first | rfl | (simp; done) | (simp; omega)), rfl⟩

theorem nl_yes (r : Int) (w : World) (h : r < 48 ∨ (57 < r ∧ r < 65) ∨ (90 < r ∧ r < 97) ∨ 122 < r) :
    Calls Try.prog 10 #[.int .i32 r] w fun e w' => e = .returned (.bool true) ∧ w' = w := by
  go_enter Try.func10, Try.ntmps10
  go_wp2_with (go_at_call 12; refine (nl12_yes r _ h).mono ?_; rintro e w' ⟨rfl, rfl⟩)
  go_ret
  exact ⟨rfl, rfl⟩

theorem nl_no (r : Int) (w : World) (h : (48 ≤ r ∧ r ≤ 57) ∨ (65 ≤ r ∧ r ≤ 90) ∨ (97 ≤ r ∧ r ≤ 122)) :
    Calls Try.prog 10 #[.int .i32 r] w fun e w' => e = .returned (.bool false) ∧ w' = w := by
  go_enter Try.func10, Try.ntmps10
  go_wp2_with (go_at_call 12; refine (nl12_no r _ h).mono ?_; rintro e w' ⟨rfl, rfl⟩)
  go_ret
  exact ⟨rfl, rfl⟩
end Go.Proofs.Qxb6616807a
