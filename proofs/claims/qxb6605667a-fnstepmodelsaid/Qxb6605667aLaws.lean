/- The walks of FnStepModel and FnStepTwoWords. -/
import Derived.Test.Qxb6605667aPlaces
import Derived.OpenShut
namespace Go.Proofs.Qxb6605667a.LawWalks
open Go.RowKit Bits

theorem N0 : N 0#64 = 0 := rfl
theorem N1 : N (BitVec.allOnes 64) = 18446744073709551615 := by decide
theorem Bf : Bn false = 0 := rfl
theorem word_of {x : Int} (h : (Lit.int .u64 x).wf = true) : ∃ a : BitVec 64, x = N a := by
  have := bounds_u64 h
  exact N_of x (by omega) (by omega)
theorem grown_trans {a b c : World} (h1 : Grown a b) (h2 : Grown b c) : Grown a c :=
  ⟨World.keptBut_trans h1.1 h2.1, fun x => (h2.2.1 x).trans (h1.2.1 x), Nat.le_trans h1.2.2 h2.2.2⟩

theorem places_one0 (v nx o st an sk ns sh : BitVec 64) (c : Bool) (w : World) :
    Calls Try.prog 8 #[.int .i64 1, .agg #[.int .u64 (N v), .int .u64 0], .agg #[.int .u64 (N nx), .int .u64 0], .agg #[.int .u64 (N o), .int .u64 0], .agg #[.int .u64 (N st), .int .u64 0], .agg #[.int .u64 (N an), .int .u64 0], .agg #[.int .u64 (N sk), .int .u64 0], .int .u64 (N ns), .int .u64 (N sh), .int .u64 (Bn c)] w fun e w' =>
      ∃ r1, e = .returned (.tuple #[.agg #[.int .u64 (N (outW v nx o st an sk ns sh c)), .int .u64 (N r1)], .int .u64 (Bn (bt (onW v nx o ns) 63)), .int .u64 (Bn (cry 64 (xW (onW v nx o ns) sh) sk c))]) ∧ Grown w w' := by
  have h := places_one v 0#64 nx 0#64 o 0#64 st 0#64 an 0#64 sk 0#64 ns sh c w
  simp only [two, N0] at h
  exact h

theorem model (v nx o st an di sk sl ns sh : BitVec 64) (c : Bool) (w : World) :
    Calls Try.prog 4 #[.int .u64 (N v), .int .u64 (N nx), .int .u64 (N o), .int .u64 (N st), .int .u64 (N an), .int .u64 (N di), .int .u64 (N sk), .int .u64 (N sl), .int .u64 (N ns), .int .u64 (N sh), .int .u64 (Bn c)] w fun e w' => e = .returned (.bool true) ∧ Grown w w' := by
  have hc := Bn_hi c
  go_enter Try.func4, Try.ntmps4
  go_wp2_with fail
  refine (step_any v nx o st an di sk sl ns sh c w).mono ?_
  rintro e w1 ⟨rfl, h1⟩
  go_wp2_with fail
  refine (places_one0 v nx o st an sk ns sh c w1).mono ?_
  rintro e w2 ⟨r1, rfl, h2⟩
  go_wp2
  go_ret
  exact ⟨rfl, (grown_trans h1 h2).alloc _ _⟩

theorem walk4 (a0 : Int) (a1 : Int) (a2 : Int) (a3 : Int) (a4 : Int) (a5 : Int) (a6 : Int) (a7 : Int) (a8 : Int) (a9 : Int) (a10 : Int) (w0 : (Lit.int .u64 a0).wf = true) (w1 : (Lit.int .u64 a1).wf = true) (w2 : (Lit.int .u64 a2).wf = true) (w3 : (Lit.int .u64 a3).wf = true) (w4 : (Lit.int .u64 a4).wf = true) (w5 : (Lit.int .u64 a5).wf = true) (w6 : (Lit.int .u64 a6).wf = true) (w7 : (Lit.int .u64 a7).wf = true) (w8 : (Lit.int .u64 a8).wf = true) (w9 : (Lit.int .u64 a9).wf = true) (w10 : (Lit.int .u64 a10).wf = true) (w : World) :
    Calls Try.prog 4 #[.int .u64 a0, .int .u64 a1, .int .u64 a2, .int .u64 a3, .int .u64 a4, .int .u64 a5, .int .u64 a6, .int .u64 a7, .int .u64 a8, .int .u64 a9, .int .u64 a10] w fun e w' => e = .returned (.bool true) ∧ Grown w w' := by
  have b10 := bounds_u64 w10
  by_cases hc : 1 < a10
  · go_enter Try.func4, Try.ntmps4
    go_wp2
    go_ret
    exact ⟨rfl, Grown.refl _⟩
  · obtain ⟨v, rfl⟩ := word_of w0
    obtain ⟨nx, rfl⟩ := word_of w1
    obtain ⟨o, rfl⟩ := word_of w2
    obtain ⟨st, rfl⟩ := word_of w3
    obtain ⟨an, rfl⟩ := word_of w4
    obtain ⟨di, rfl⟩ := word_of w5
    obtain ⟨sk, rfl⟩ := word_of w6
    obtain ⟨sl, rfl⟩ := word_of w7
    obtain ⟨ns, rfl⟩ := word_of w8
    obtain ⟨sh, rfl⟩ := word_of w9
    obtain ⟨c, rfl⟩ := Bn_of a10 b10.1 (by omega)
    exact model v nx o st an di sk sl ns sh c w

/-! ### Two words -/
theorem step_first (v nx o st an sk ns : BitVec 64) (x : Int) (hx : x = N ns) (w : World) :
    Calls Try.prog 7 #[.int .u64 (N v), .int .u64 (N nx), .int .u64 (N o), .int .u64 (N st), .int .u64 (N an), .int .u64 0, .int .u64 (N sk), .int .u64 0, .int .u64 x, .int .u64 0, .int .u64 0] w fun e w' =>
      e = .returned (.tuple #[.int .u64 (N (outW v nx o st an sk ns 0#64 false)), .int .u64 (Bn (bt (onW v nx o ns) 63)), .int .u64 (Bn (cry 64 (xW (onW v nx o ns) 0#64) sk false))]) ∧ Grown w w' := by
  have h := step_any v nx o st an 0#64 sk 0#64 ns 0#64 false w
  simp only [N0, Bf] at h
  rw [hx]
  exact h
theorem step_second (v nx o st an sk ns : BitVec 64) (s c : Bool) (x : Int) (hx : x = N ns) (w : World) :
    Calls Try.prog 7 #[.int .u64 (N v), .int .u64 (N nx), .int .u64 (N o), .int .u64 (N st), .int .u64 (N an), .int .u64 0, .int .u64 (N sk), .int .u64 0, .int .u64 x, .int .u64 (Bn s), .int .u64 (Bn c)] w fun e w' =>
      e = .returned (.tuple #[.int .u64 (N (outW v nx o st an sk ns (bw s) c)), .int .u64 (Bn (bt (onW v nx o ns) 63)), .int .u64 (Bn (cry 64 (xW (onW v nx o ns) (bw s)) sk c))]) ∧ Grown w w' := by
  have h := step_any v nx o st an 0#64 sk 0#64 ns (bw s) c w
  simp only [N0, N_bw] at h
  rw [hx]
  exact h
theorem places_two0 (v v' nx nx' o o' st st' an an' sk sk' ns : BitVec 64) (x : Int) (hx : x = N ns) (w : World) :
    Calls Try.prog 8 #[.int .i64 2, two v v', two nx nx', two o o', two st st', two an an', two sk sk', .int .u64 x, .int .u64 0, .int .u64 0] w fun e w' =>
      e = .returned (.tuple #[.agg #[.int .u64 (N (outW v nx o st an sk ns 0#64 false)), .int .u64 (N (outW v' nx' o' st' an' sk' ns (bw (bt (onW v nx o ns) 63)) (cry 64 (xW (onW v nx o ns) 0#64) sk false)))], .int .u64 (Bn (bt (onW v' nx' o' ns) 63)), .int .u64 (Bn (cry 64 (xW (onW v' nx' o' ns) (bw (bt (onW v nx o ns) 63))) sk' (cry 64 (xW (onW v nx o ns) 0#64) sk false)))]) ∧ Grown w w' := by
  have h := places_two v v' nx nx' o o' st st' an an' sk sk' ns w
  rw [N0, Bf] at h
  rw [hx]
  exact h

set_option maxHeartbeats 1000000 in
set_option maxRecDepth 8000 in
theorem twoWords (v v' nx nx' o o' st st' an an' sk sk' : BitVec 64) (w : World) :
    Calls Try.prog 5 #[.int .u64 (N v), .int .u64 (N v'), .int .u64 (N nx), .int .u64 (N nx'), .int .u64 (N o), .int .u64 (N o'), .int .u64 (N st), .int .u64 (N st'), .int .u64 (N an), .int .u64 (N an'), .int .u64 (N sk), .int .u64 (N sk')] w fun e w' => e = .returned (.bool true) ∧ Grown w w' := by
  go_enter Try.func5, Try.ntmps5
  go_wp2
  go_loopw [25] (fun i wr => ∃ k : Nat, k ≤ 2 ∧ i = .int .i64 (k : Int) ∧ Grown w wr) (fun i _ => 2 - (intOf i).toNat)
  case atStart => exact ⟨0, by omega, rfl, Grown.refl _⟩
  case round =>
    obtain ⟨k, hk, rfl, hg⟩ := hrel
    have hk' : k = 0 ∨ k = 1 ∨ k = 2 := by omega
    clear hk
    rcases hk' with rfl | rfl | rfl
    · go_wp2_with fail
      refine (step_first v nx o st an sk (BitVec.allOnes 64) _ N1.symm _).mono ?_
      rintro e w1 ⟨rfl, h1⟩
      go_wp2_with fail
      refine (step_second v' nx' o' st' an' sk' (BitVec.allOnes 64) _ _ _ N1.symm _).mono ?_
      rintro e w2 ⟨rfl, h2⟩
      go_wp2_with fail
      refine (places_two0 v v' nx nx' o o' st st' an an' sk sk' (BitVec.allOnes 64) _ N1.symm _).mono ?_
      rintro e w3 ⟨rfl, h3⟩
      go_wp2
      go_roundw
      case rel => exact ⟨1, by omega, by go_num, (grown_trans hg (grown_trans h1 (grown_trans h2 h3))).alloc _ _⟩
      case measure => simp [intOf]
    · go_wp2_with fail
      refine (step_first v nx o st an sk 0#64 _ N0.symm _).mono ?_
      rintro e w1 ⟨rfl, h1⟩
      go_wp2_with fail
      refine (step_second v' nx' o' st' an' sk' 0#64 _ _ _ N0.symm _).mono ?_
      rintro e w2 ⟨rfl, h2⟩
      go_wp2_with fail
      refine (places_two0 v v' nx nx' o o' st st' an an' sk sk' 0#64 _ N0.symm _).mono ?_
      rintro e w3 ⟨rfl, h3⟩
      go_wp2
      go_roundw
      case rel => exact ⟨2, by omega, by go_num, (grown_trans hg (grown_trans h1 (grown_trans h2 h3))).alloc _ _⟩
      case measure => simp [intOf]
    · go_wp2
      go_ret
      exact ⟨rfl, hg⟩

theorem walk5 (a0 : Int) (a1 : Int) (a2 : Int) (a3 : Int) (a4 : Int) (a5 : Int) (a6 : Int) (a7 : Int) (a8 : Int) (a9 : Int) (a10 : Int) (a11 : Int) (w0 : (Lit.int .u64 a0).wf = true) (w1 : (Lit.int .u64 a1).wf = true) (w2 : (Lit.int .u64 a2).wf = true) (w3 : (Lit.int .u64 a3).wf = true) (w4 : (Lit.int .u64 a4).wf = true) (w5 : (Lit.int .u64 a5).wf = true) (w6 : (Lit.int .u64 a6).wf = true) (w7 : (Lit.int .u64 a7).wf = true) (w8 : (Lit.int .u64 a8).wf = true) (w9 : (Lit.int .u64 a9).wf = true) (w10 : (Lit.int .u64 a10).wf = true) (w11 : (Lit.int .u64 a11).wf = true) (w : World) :
    Calls Try.prog 5 #[.int .u64 a0, .int .u64 a1, .int .u64 a2, .int .u64 a3, .int .u64 a4, .int .u64 a5, .int .u64 a6, .int .u64 a7, .int .u64 a8, .int .u64 a9, .int .u64 a10, .int .u64 a11] w fun e w' => e = .returned (.bool true) ∧ Grown w w' := by
  obtain ⟨v, rfl⟩ := word_of w0
  obtain ⟨v', rfl⟩ := word_of w1
  obtain ⟨nx, rfl⟩ := word_of w2
  obtain ⟨nx', rfl⟩ := word_of w3
  obtain ⟨o, rfl⟩ := word_of w4
  obtain ⟨o', rfl⟩ := word_of w5
  obtain ⟨st, rfl⟩ := word_of w6
  obtain ⟨st', rfl⟩ := word_of w7
  obtain ⟨an, rfl⟩ := word_of w8
  obtain ⟨an', rfl⟩ := word_of w9
  obtain ⟨sk, rfl⟩ := word_of w10
  obtain ⟨sk', rfl⟩ := word_of w11
  exact twoWords v v' nx nx' o o' st st' an an' sk sk' w
end Go.Proofs.Qxb6605667a.LawWalks
