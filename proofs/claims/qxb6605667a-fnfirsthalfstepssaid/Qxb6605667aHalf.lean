/- The walk of FnFirstHalfSteps. -/
import Derived.Test.Qxb6605667aRows
import Derived.WalkKit
import Derived.ProofKit
import Derived.RowKit3
namespace Go.Proofs.Qxb6605667a.HalfWalk
open Go.RowKit

theorem half (n : Int) (h0 : 0 ≤ n) (h1 : n ≤ 9223372036854775807) (w : World) :
    Calls Try.prog 6 #[.int .i64 n] w fun e w' => e = .returned (.int .i64 (n / 2)) ∧ w' = w := by
  go_enter Try.func6, Try.ntmps6
  go_wp2_with go_in
  go_ret
  exact ⟨rfl, rfl⟩

theorem walk (a0 : Int) (_w0 : (Lit.int .i64 a0).wf = true) (w : World) :
    Calls Try.prog 3 #[.int .i64 a0] w fun e w' => e = .returned (.bool true) ∧ Grown w w' := by
  by_cases hn : a0 < 0
  · go_enter Try.func3, Try.ntmps3
    go_wp2
    go_ret
    exact ⟨rfl, Grown.refl _⟩
  · by_cases hm : 9223372036854775805 < a0
    · go_enter Try.func3, Try.ntmps3
      go_wp2
      go_ret
      exact ⟨rfl, Grown.refl _⟩
    · have g0 : 0 ≤ a0 := by omega
      have g1 : a0 ≤ 9223372036854775805 := by omega
      clear _w0 hn hm
      go_enter Try.func3, Try.ntmps3
      go_wp2_with (go_at_call 6; refine (half _ (by omega) (by omega) _).mono ?_; rintro e w' ⟨rfl, rfl⟩)
      all_goals first
        | (exfalso; have hh : ((a0 + 1) / 2 != a0 / 2) = true ∧ ((a0 + 1) / 2 != a0 / 2 + 1) = true := by assumption
           simp only [bne_iff_ne, ne_eq] at hh; omega)
        | (go_ret; exact ⟨rfl, Grown.refl _⟩)
end Go.Proofs.Qxb6605667a.HalfWalk
