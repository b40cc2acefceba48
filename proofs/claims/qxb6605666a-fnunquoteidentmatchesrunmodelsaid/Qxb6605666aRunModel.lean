/- The walk of FnUnquoteIdentMatchesRunModel. -/
import Derived.Test.Qxb6605666aModel
namespace Go.Proofs.Qxb6605666a.RunModelWalk
open Go.RowKit Plain

theorem bytes_yes (a : ByteArray) (st : Int) (w : World) (h : a.size ≤ 1048576) :
    Calls Try.prog 6 #[.string a, .int .i64 st] w fun e w' => e = .returned (.bool true) ∧ w' = w := by
  go_enter Try.func6, Try.ntmps6
  go_wp2
  go_ret
  exact ⟨rfl, rfl⟩
theorem bytes_no (a : ByteArray) (st : Int) (w : World) (h : 1048576 < a.size) :
    Calls Try.prog 6 #[.string a, .int .i64 st] w fun e w' => e = .returned (.bool false) ∧ w' = w := by
  go_enter Try.func6, Try.ntmps6
  go_wp2
  go_ret
  exact ⟨rfl, rfl⟩

theorem walk (a0 : ByteArray) (a1 : Int) (w0 : a0.size ≤ maxLen) (w1 : (Lit.int .i64 a1).wf = true) (w : World) :
    Calls Try.prog 3 #[.string a0, .int .i64 a1] w fun e w' => e = .returned (.bool true) ∧ Below w.heap.size w w' := by
  unfold maxLen at w0
  by_cases hb : a0.size ≤ 1048576
  · by_cases hn : a1 < 0
    · go_enter Try.func3, Try.ntmps3
      go_wp2_with (go_at_call 6; refine (bytes_yes _ _ _ hb).mono ?_; rintro e w' ⟨rfl, rfl⟩)
      go_ret
      exact ⟨rfl, Below.refl _ _⟩
    · obtain ⟨st, rfl⟩ := Int.eq_ofNat_of_zero_le (show 0 ≤ a1 by omega)
      have hg0 : decide ((st : Int) < 0) = false := by simp
      by_cases hl : a0.size < st
      · go_enter Try.func3, Try.ntmps3
        go_wp2_with (go_at_call 6; refine (bytes_yes _ _ _ hb).mono ?_; rintro e w' ⟨rfl, rfl⟩)
        go_ret
        exact ⟨rfl, Below.refl _ _⟩
      · go_enter Try.func3, Try.ntmps3
        go_wp2_with (first
          | (go_at_call 6; refine (bytes_yes _ _ _ hb).mono ?_; rintro e w' ⟨rfl, rfl⟩)
          | (go_at_call 7; refine (zzunquote_any a0 st _ (by omega) (by omega)).mono ?_))
        rintro e wa ⟨rfl, ba⟩
        obtain ⟨o, ho⟩ : ∃ o, o = U a0 (st + 1) := ⟨_, rfl⟩
        have HO : Hid (o = U a0 (st + 1)) := ho
        rw [← ho]
        clear ho
        cases o with
        | none =>
          unfold res
          go_wp2_with (go_at_call 8; refine (model_any a0 st _ (by omega) (by omega)).mono ?_)
          rintro e wb ⟨rfl, bb⟩
          rw [← HO.out]
          unfold res
          go_wp2
          go_ret
          exact ⟨rfl, ba.trans (bb.mono ba.size)⟩
        | some x =>
          unfold res
          go_wp2_with (go_at_call 8; refine (model_any a0 st _ (by omega) (by omega)).mono ?_)
          rintro e wb ⟨rfl, bb⟩
          rw [← HO.out]
          unfold res
          go_wp2
          go_ret
          exact ⟨rfl, ba.trans (bb.mono ba.size)⟩
  · go_enter Try.func3, Try.ntmps3
    go_wp2_with (go_at_call 6; refine (bytes_no _ _ _ (by omega)).mono ?_; rintro e w' ⟨rfl, rfl⟩)
    go_ret
    exact ⟨rfl, Below.refl _ _⟩
end Go.Proofs.Qxb6605666a.RunModelWalk
