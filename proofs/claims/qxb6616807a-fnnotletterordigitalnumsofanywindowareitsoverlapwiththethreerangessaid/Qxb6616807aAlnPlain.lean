/-
  THE PLAIN LAW OF THE THREE RANGES: no Go in sight. By an AI agent.
-/
import Derived.Test.Qxb6616807aLeaves
namespace Go.Proofs.Qxb6616807a.Aln
open Go.RowKit

def cnt (s x : Int) : Int := ov s x 48 58 + ov s x 65 91 + ov s x 97 123
def fst (s x : Int) : Int := if cnt s x = 0 then -1 else if 0 < ov s x 48 58 then mx s 48 else if 0 < ov s x 65 91 then mx s 65 else mx s 97
def lst (s x : Int) : Int := if cnt s x = 0 then -1 else if 0 < ov s x 97 123 then mn x 123 - 1 else if 0 < ov s x 65 91 then mn x 91 - 1 else mn x 58 - 1

theorem ov_nn (s x a b : Int) : 0 ≤ ov s x a b := by unfold ov; split <;> omega
theorem ov_le (s x a b : Int) (h : a ≤ b) : ov s x a b ≤ b - a := by unfold ov mn mx; omega
theorem ov_same (s a b : Int) : ov s s a b = 0 := by unfold ov mn mx; omega
theorem ov_in (s x a b : Int) (h0 : s ≤ x) (h1 : a ≤ x) (h2 : x < b) : ov s (x + 1) a b = ov s x a b + 1 := by unfold ov mn mx; omega
theorem ov_out (s x a b : Int) (h : x < a ∨ b ≤ x) : ov s (x + 1) a b = ov s x a b := by unfold ov mn mx; omega
theorem ov_early (s x a b : Int) (h : x ≤ a) : ov s x a b = 0 := by unfold ov mn mx; omega
theorem ov_late (s x a b : Int) (h : b ≤ s) : ov s x a b = 0 := by unfold ov mn mx; omega
theorem mx_hit (s x a b : Int) (h0 : s ≤ x) (h1 : a ≤ x) (h2 : x < b) (h : ov s x a b = 0) : mx s a = x := by revert h; unfold ov mn mx; omega
theorem mn_hit (x b : Int) (h : x < b) : mn (x + 1) b - 1 = x := by unfold mn; omega
theorem mn_out (s x a b : Int) (h : x < a ∨ b ≤ x) (hz : 0 < ov s x a b) : mn (x + 1) b = mn x b := by revert hz; unfold ov mn mx; omega

theorem cnt_same (s : Int) : cnt s s = 0 := by unfold cnt; simp only [ov_same]; rfl
theorem fst_same (s : Int) : fst s s = -1 := by unfold fst; rw [if_pos (cnt_same s)]
theorem lst_same (s : Int) : lst s s = -1 := by unfold lst; rw [if_pos (cnt_same s)]
theorem cnt_bd (s x : Int) : 0 ≤ cnt s x ∧ cnt s x ≤ 62 := by
  have := ov_nn s x 48 58; have := ov_nn s x 65 91; have := ov_nn s x 97 123
  have := ov_le s x 48 58 (by omega); have := ov_le s x 65 91 (by omega); have := ov_le s x 97 123 (by omega)
  unfold cnt; omega

theorem cnt_miss (s x : Int) (h : x < 48 ∨ (57 < x ∧ x < 65) ∨ (90 < x ∧ x < 97) ∨ 122 < x) : cnt s (x + 1) = cnt s x := by
  unfold cnt; rw [ov_out s x 48 58 (by omega), ov_out s x 65 91 (by omega), ov_out s x 97 123 (by omega)]
theorem fst_miss (s x : Int) (h : x < 48 ∨ (57 < x ∧ x < 65) ∨ (90 < x ∧ x < 97) ∨ 122 < x) : fst s (x + 1) = fst s x := by
  unfold fst; rw [cnt_miss s x h, ov_out s x 48 58 (by omega), ov_out s x 65 91 (by omega)]
theorem lst_miss (s x : Int) (h : x < 48 ∨ (57 < x ∧ x < 65) ∨ (90 < x ∧ x < 97) ∨ 122 < x) : lst s (x + 1) = lst s x := by
  unfold lst; rw [cnt_miss s x h, ov_out s x 97 123 (by omega), ov_out s x 65 91 (by omega)]
  by_cases c0 : cnt s x = 0
  · rw [if_pos c0, if_pos c0]
  rw [if_neg c0, if_neg c0]
  by_cases c1 : 0 < ov s x 97 123
  · rw [if_pos c1, if_pos c1, mn_out s x 97 123 (by omega) c1]
  rw [if_neg c1, if_neg c1]
  by_cases c2 : 0 < ov s x 65 91
  · rw [if_pos c2, if_pos c2, mn_out s x 65 91 (by omega) c2]
  rw [if_neg c2, if_neg c2]
  have := ov_nn s x 65 91; have := ov_nn s x 97 123; have := ov_nn s x 48 58
  have c3 : 0 < ov s x 48 58 := by unfold cnt at c0; omega
  rw [mn_out s x 48 58 (by omega) c3]

theorem cnt_hit (s x : Int) (h0 : s ≤ x) (h : (48 ≤ x ∧ x ≤ 57) ∨ (65 ≤ x ∧ x ≤ 90) ∨ (97 ≤ x ∧ x ≤ 122)) : cnt s (x + 1) = cnt s x + 1 := by
  unfold cnt
  rcases h with ⟨a, b⟩ | ⟨a, b⟩ | ⟨a, b⟩
  · rw [ov_in s x 48 58 h0 a (by omega), ov_out s x 65 91 (by omega), ov_out s x 97 123 (by omega)]; omega
  · rw [ov_out s x 48 58 (by omega), ov_in s x 65 91 h0 a (by omega), ov_out s x 97 123 (by omega)]; omega
  · rw [ov_out s x 48 58 (by omega), ov_out s x 65 91 (by omega), ov_in s x 97 123 h0 a (by omega)]; omega

theorem fst_hit0 (s x : Int) (h0 : s ≤ x) (h : (48 ≤ x ∧ x ≤ 57) ∨ (65 ≤ x ∧ x ≤ 90) ∨ (97 ≤ x ∧ x ≤ 122)) (hz : cnt s x = 0) : fst s (x + 1) = x := by
  have n1 := ov_nn s x 48 58; have n2 := ov_nn s x 65 91; have n3 := ov_nn s x 97 123
  have z : ov s x 48 58 = 0 ∧ ov s x 65 91 = 0 ∧ ov s x 97 123 = 0 := by unfold cnt at hz; omega
  obtain ⟨z1, z2, z3⟩ := z
  unfold fst
  rw [cnt_hit s x h0 h, if_neg (by omega)]
  rcases h with ⟨a, b⟩ | ⟨a, b⟩ | ⟨a, b⟩
  · rw [ov_in s x 48 58 h0 a (by omega), if_pos (by omega)]; exact mx_hit s x 48 58 h0 a (by omega) z1
  · rw [ov_out s x 48 58 (by omega), if_neg (by omega), ov_in s x 65 91 h0 a (by omega), if_pos (by omega)]; exact mx_hit s x 65 91 h0 a (by omega) z2
  · rw [ov_out s x 48 58 (by omega), if_neg (by omega), ov_out s x 65 91 (by omega), if_neg (by omega)]; exact mx_hit s x 97 123 h0 a (by omega) z3

theorem fst_hit1 (s x : Int) (h0 : s ≤ x) (h : (48 ≤ x ∧ x ≤ 57) ∨ (65 ≤ x ∧ x ≤ 90) ∨ (97 ≤ x ∧ x ≤ 122)) (hz : ¬ cnt s x = 0) : fst s (x + 1) = fst s x := by
  have n1 := ov_nn s x 48 58; have n2 := ov_nn s x 65 91; have n3 := ov_nn s x 97 123
  have n4 := cnt_bd s x
  unfold fst
  rw [cnt_hit s x h0 h, if_neg hz, if_neg (by omega)]
  rcases h with ⟨a, b⟩ | ⟨a, b⟩ | ⟨a, b⟩
  · have e2 := ov_early s x 65 91 (by omega); have e3 := ov_early s x 97 123 (by omega)
    rw [ov_in s x 48 58 h0 a (by omega), if_pos (by omega), if_pos (by unfold cnt at hz; omega)]
  · have e3 := ov_early s x 97 123 (by omega)
    rw [ov_out s x 48 58 (by omega)]
    by_cases c : 0 < ov s x 48 58
    · rw [if_pos c, if_pos c]
    rw [if_neg c, if_neg c, ov_in s x 65 91 h0 a (by omega), if_pos (by omega), if_pos (by unfold cnt at hz; omega)]
  · rw [ov_out s x 48 58 (by omega), ov_out s x 65 91 (by omega)]

theorem lst_hit (s x : Int) (h0 : s ≤ x) (h : (48 ≤ x ∧ x ≤ 57) ∨ (65 ≤ x ∧ x ≤ 90) ∨ (97 ≤ x ∧ x ≤ 122)) : lst s (x + 1) = x := by
  have n1 := ov_nn s x 48 58; have n2 := ov_nn s x 65 91; have n3 := ov_nn s x 97 123
  have n4 := cnt_bd s x
  unfold lst
  rw [cnt_hit s x h0 h, if_neg (by omega)]
  rcases h with ⟨a, b⟩ | ⟨a, b⟩ | ⟨a, b⟩
  · rw [ov_early s (x + 1) 97 123 (by omega), if_neg (by omega), ov_early s (x + 1) 65 91 (by omega), if_neg (by omega)]; exact mn_hit x 58 (by omega)
  · rw [ov_early s (x + 1) 97 123 (by omega), if_neg (by omega), ov_in s x 65 91 h0 a (by omega), if_pos (by omega)]; exact mn_hit x 91 (by omega)
  · rw [ov_in s x 97 123 h0 a (by omega), if_pos (by omega)]; exact mn_hit x 123 (by omega)
end Go.Proofs.Qxb6616807a.Aln
