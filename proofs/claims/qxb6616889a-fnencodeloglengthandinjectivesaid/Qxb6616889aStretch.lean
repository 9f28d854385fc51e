/-
  THE LEAVES OF THE TWO STRETCH LAWS: (stretch).holds, ZZstretchHolds. By an AI agent.
-/
import Derived.Test.Qxb6616889aRows
import Derived.WalkKit
namespace Go.Proofs.Qxb6616889a
open Go.RowKit

def hB (f t k : Int) : Bool := decide (f < k) && decide (k ≤ t)
theorem hB_yes {f t k : Int} (h1 : f < k) (h2 : k ≤ t) : hB f t k = true := by simp [hB, h1, h2]
theorem hB_lo {f t k : Int} (h : k ≤ f) : hB f t k = false := by simp [hB]; omega
theorem hB_hi {f t k : Int} (h : t < k) : hB f t k = false := by simp [hB]; omega
theorem gtrans {a b c : World} (h : Grown a b) (k : Grown b c) : Grown a c :=
  ⟨World.keptBut_trans h.1 k.1, fun x => (k.2.1 x).trans (h.2.1 x), Nat.le_trans h.2.2 k.2.2⟩
theorem ret_bool {a b : Bool} (h : a = b) : Ending.returned (.bool a) = .returned (.bool b) := by rw [h]

theorem holds_any (f t k : Int) (w : World) :
    Calls Try.prog 23 #[.agg #[.int .u64 f, .int .u64 t], .int .u64 k] w fun e w' => e = .returned (.bool (hB f t k)) ∧ Grown w w' := by
  by_cases h1 : f < k
  · by_cases h2 : k ≤ t
    · go_enter Try.func23, Try.ntmps23
      go_wp2
      go_ret
      exact ⟨ret_bool (by rw [hB_yes h1 h2]), by repeat (first | exact Grown.refl _ | apply Grown.drew | apply Grown.alloc)⟩
    · go_enter Try.func23, Try.ntmps23
      go_wp2
      go_ret
      exact ⟨ret_bool (by rw [hB_hi (by omega)]), by repeat (first | exact Grown.refl _ | apply Grown.drew | apply Grown.alloc)⟩
  · go_enter Try.func23, Try.ntmps23
    go_wp2
    go_ret
    exact ⟨ret_bool (by rw [hB_lo (by omega)]), by repeat (first | exact Grown.refl _ | apply Grown.drew | apply Grown.alloc)⟩

theorem zz_any (f t k : Int) (w : World) :
    Calls Try.prog 8 #[.int .u64 f, .int .u64 t, .int .u64 k] w fun e w' => e = .returned (.bool (hB f t k)) ∧ Grown w w' := by
  go_enter Try.func8, Try.ntmps8
  go_wp2_with (go_at_call 23; refine (holds_any _ _ _ _).mono ?_; rintro e w' ⟨rfl, hg⟩)
  go_ret
  exact ⟨rfl, hg⟩
end Go.Proofs.Qxb6616889a
