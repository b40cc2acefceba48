/- The walks of step and of what it calls. -/
import Derived.Test.Qxb6605667aRows
import Derived.Test.Qxb6605667aBits
import Derived.WalkKit
import Derived.BigQuiet
import Derived.Deep.QuietTactic
import Derived.RowKit3
namespace Go.Proofs.Qxb6605667a
open Go.RowKit Bits

/-- A place of a word, under a name that the walk does not open. -/
def bt (a : BitVec 64) (p : Nat) : Bool := a.getLsbD p

theorem and_N (a b : BitVec 64) : bits .and .u64 (N a) (N b) = N (a &&& b) := by
  unfold N; rw [bits_and_u64_nat _ _ a.isLt b.isLt, BitVec.toNat_and]
theorem or_N (a b : BitVec 64) : bits .or .u64 (N a) (N b) = N (a ||| b) := by
  unfold N; rw [bits_or_u64_nat _ _ a.isLt b.isLt, BitVec.toNat_or]
theorem xor_N (a b : BitVec 64) : bits .xor .u64 (N a) (N b) = N (a ^^^ b) := by
  unfold N; rw [bits_xor_u64_nat _ _ a.isLt b.isLt, BitVec.toNat_xor]

theorem bw_toNat (c : Bool) : (bw c).toNat = c.toNat := by cases c <;> rfl
theorem Bn_toNat (c : Bool) : Bn c = (c.toNat : Int) := by cases c <;> rfl
theorem add_lo (x y : BitVec 64) (c : Bool) : (N x + N y + Bn c) % 18446744073709551616 = N (x + y + bw c) := by
  unfold N
  rw [BitVec.toNat_add, BitVec.toNat_add, bw_toNat, Bn_toNat]
  omega
theorem add_hi (x y : BitVec 64) (c : Bool) : (N x + N y + Bn c) / 18446744073709551616 = Bn (BitVec.carry 64 x y c) := by
  unfold N
  have hx := x.isLt
  have hy := y.isLt
  have hc : c.toNat ≤ 1 := by cases c <;> decide
  have e : BitVec.carry 64 x y c = decide (x.toNat + y.toNat + c.toNat ≥ 18446744073709551616) := by
    unfold BitVec.carry
    rw [Nat.mod_eq_of_lt hx, Nat.mod_eq_of_lt hy]
  rw [e, Bn_toNat, Bn_toNat]
  by_cases h : x.toNat + y.toNat + c.toNat ≥ 18446744073709551616
  · rw [decide_eq_true h]; show _ = ((1 : Nat) : Int); omega
  · rw [decide_eq_false h]; show _ = ((0 : Nat) : Int); omega
theorem shl1_N (a : BitVec 64) : IntKind.u64.wrap (N a * 2) = N (a <<< 1) := by
  unfold N
  rw [IntKind.wrap_u64, BitVec.toNat_shiftLeft, Nat.shiftLeft_eq]
  omega
theorem shr63_N (a : BitVec 64) : N a / 9223372036854775808 = Bn (bt a 63) := by
  unfold N bt
  have h : a.getLsbD 63 = decide (a.toNat ≥ 9223372036854775808) := by
    have h1 := a.isLt
    show a.toNat.testBit 63 = _
    rw [Nat.testBit_eq_decide_div_mod_eq]
    have e : (2 : Nat) ^ 63 = 9223372036854775808 := by decide
    rw [e]
    by_cases h : a.toNat ≥ 9223372036854775808
    · rw [decide_eq_true h]; exact decide_eq_true (by omega)
    · rw [decide_eq_false h]; exact decide_eq_false (by omega)
  have h1 := a.isLt
  rw [h, Bn_toNat]
  by_cases h : a.toNat ≥ 9223372036854775808
  · rw [decide_eq_true h]; show _ = ((1 : Nat) : Int); omega
  · rw [decide_eq_false h]; show _ = ((0 : Nat) : Int); omega

theorem add64 (x y : BitVec 64) (c : Bool) (w : World) : (callFunc 12 #[.int .u64 (N x), .int .u64 (N y), .int .u64 (Bn c)]).run Try.prog w =
    .ok (.value (.tuple #[.int .u64 (N (x + y + bw c)), .int .u64 (Bn (BitVec.carry 64 x y c))])) w := by
  rw [run_callFunc_extern Try.func12 (by kernel_rfl) (by kernel_rfl) (by kernel_rfl) (e := add64Entry) (by kernel_rfl), run_add64 (N x) (N y) (Bn c) (N_lo _) (N_lo _) (Bn_lo _) (Bn_hi _)]
  simp only [Result.andThen]
  rw [add_lo, add_hi]

theorem pass_any (x sk : BitVec 64) (c : Bool) (w : World) :
    Calls Try.prog 11 #[.int .u64 (N x), .int .u64 (N sk), .int .u64 (Bn c)] w fun e w' => e = .returned (.tuple #[.int .u64 (N (reachedW x sk c)), .int .u64 (Bn (cry 64 x sk c))]) ∧ w' = w := by
  have r1 := and_N
  have r2 := or_N
  have r3 := xor_N
  go_enter Try.func11, Try.ntmps11
  go_wp2_with (simp only [add64])
  go_ret2
  exact ⟨rfl, rfl⟩

theorem grown_drewN {w w' : World} (n : Nat) (h : Grown w w') : Grown w (w'.drewN n) := h

/-- The word behind the byte. -/
def outW (v nx o st an sk ns sh : BitVec 64) (c : Bool) : BitVec 64 := resW v (stayW an st ns) (reachedW (xW (onW v nx o ns) sh) sk c)

set_option maxHeartbeats 1000000 in
theorem inner_any (v nx o st an sk ns sh : BitVec 64) (c : Bool) (b : Nat) (w : World) (c0 : w.cell? ⟨b, 0, none⟩ = some (.int .u64 (N o))) (c1 : w.cell? ⟨b, 1, none⟩ = some (.int .u64 (N st)))
    (c2 : w.cell? ⟨b, 2, none⟩ = some (.int .u64 (N an))) (c4 : w.cell? ⟨b, 4, none⟩ = some (.int .u64 (N sk))) :
    Calls Try.prog 10 #[.int .u64 (N v), .int .u64 (N nx), .pointer (some ⟨b, 0, none⟩), .int .u64 (N ns), .int .u64 (N sh), .int .u64 (Bn c)] w fun e w' =>
      e = .returned (.tuple #[.int .u64 (N (outW v nx o st an sk ns sh c)), .int .u64 (Bn (bt (onW v nx o ns) 63)), .int .u64 (Bn (cry 64 (xW (onW v nx o ns) sh) sk c))]) ∧ ∃ n, w' = w.drewN n := by
  have r1 := and_N
  have r2 := or_N
  have r3 := xor_N
  have r4 := shl1_N
  have r5 := shr63_N
  go_enter Try.func10, Try.ntmps10
  go_wp2_with fail
  refine (pass_any _ _ _ _).mono ?_
  rintro e w' ⟨rfl, rfl⟩
  go_wp2
  go_quiet (fail)
  go_wp2
  go_ret3
  exact ⟨rfl, _, rfl⟩

theorem step_any (v nx o st an di sk sl ns sh : BitVec 64) (c : Bool) (w : World) :
    Calls Try.prog 7 #[.int .u64 (N v), .int .u64 (N nx), .int .u64 (N o), .int .u64 (N st), .int .u64 (N an), .int .u64 (N di), .int .u64 (N sk), .int .u64 (N sl), .int .u64 (N ns), .int .u64 (N sh), .int .u64 (Bn c)] w fun e w' =>
      e = .returned (.tuple #[.int .u64 (N (outW v nx o st an sk ns sh c)), .int .u64 (Bn (bt (onW v nx o ns) 63)), .int .u64 (Bn (cry 64 (xW (onW v nx o ns) sh) sk c))]) ∧ Grown w w' := by
  go_enter Try.func7, Try.ntmps7
  go_wp2_with fail
  refine (inner_any v nx o st an sk ns sh c w.heap.size _ ?_ ?_ ?_ ?_).mono ?_
  · simp
  · simp
  · simp
  · simp
  rintro e w' ⟨rfl, n, rfl⟩
  go_wp2
  go_ret3
  exact ⟨rfl, grown_drewN n ((Grown.refl _).alloc _ _)⟩
end Go.Proofs.Qxb6605667a
