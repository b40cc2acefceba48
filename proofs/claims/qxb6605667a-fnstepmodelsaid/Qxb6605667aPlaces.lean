/- The walk of zzStepPlaces. -/
import Derived.Test.Qxb6605667aStep
namespace Go.Proofs.Qxb6605667a
open Go.RowKit Bits

theorem bit_N (a : BitVec 64) (p : Nat) : bits .and .u64 (N a / 2 ^ p) 1 = Bn (bt a p) := by
  have h1 := a.isLt
  have h2 : a.toNat / 2 ^ p < 18446744073709551616 := Nat.lt_of_le_of_lt (Nat.div_le_self _ _) h1
  have e : N a / 2 ^ p = ((a.toNat / 2 ^ p : Nat) : Int) := by unfold N; simp
  rw [e]
  refine (bits_and_u64_nat _ 1 h2 (by decide)).trans ?_
  rw [nat_mask1, Bn_toNat]
  unfold bt
  show _ = ((a.toNat.testBit p).toNat : Int)
  rw [Nat.testBit_eq_decide_div_mod_eq]
  by_cases h : a.toNat / 2 ^ p % 2 = 1
  · rw [decide_eq_true h, h]; rfl
  · rw [decide_eq_false h, show a.toNat / 2 ^ p % 2 = 0 by omega]; rfl
theorem or_B (a b : Bool) : bits .or .u64 (Bn a) (Bn b) = Bn (a || b) := by cases a <;> cases b <;> decide
theorem and_B (a b : Bool) : bits .and .u64 (Bn a) (Bn b) = Bn (a && b) := by cases a <;> cases b <;> decide
theorem or_B0 (a : Bool) : bits .or .u64 (Bn a) 0 = Bn a := by cases a <;> decide
theorem or_shl (r : BitVec 64) (x : Bool) (p : Nat) : bits .or .u64 (N r) (IntKind.u64.wrap (Bn x * 2 ^ p)) = N (r ||| (bw x <<< p)) := by
  have e : IntKind.u64.wrap (Bn x * 2 ^ p) = N (bw x <<< p) := by
    unfold N
    rw [IntKind.wrap_u64, BitVec.toNat_shiftLeft, Nat.shiftLeft_eq, bw_toNat, Bn_toNat]
    simp
  rw [e, or_N]

/-- How far a word's places have been moved: r holds the first p of them; a, b: what the last one moves on and passes on. -/
def Word (v nx o st an sk ns sh : BitVec 64) (s : Bool × Bool) (p : Nat) (r : BitVec 64) (a b : Bool) : Prop :=
  plc v (nx ||| (o &&& ns)) sk sh p s = (a, b) ∧ ∀ i, i < 64 → r.getLsbD i = (decide (i < p) && bitAt v (nx ||| (o &&& ns)) (stayW an st ns) sk sh s i)
theorem Word_start (v nx o st an sk ns sh : BitVec 64) (s : Bool × Bool) : Word v nx o st an sk ns sh s 0 0#64 s.1 s.2 := by
  refine ⟨rfl, fun i _ => ?_⟩
  simp
theorem Word_step {v nx o st an sk ns sh : BitVec 64} {s : Bool × Bool} {p : Nat} {r : BitVec 64} {a b : Bool} (h : Word v nx o st an sk ns sh s p r a b) (hp : p < 64) :
    Word v nx o st an sk ns sh s (p + 1) (r ||| (bw (a || bt sh p || b || bt v p && (bt an p || bt st p && bt ns p)) <<< p)) (bt v p && (bt nx p || bt o p && bt ns p)) ((a || bt sh p || b) && bt sk p) := by
  obtain ⟨h1, h2⟩ := h
  unfold bt
  refine ⟨?_, ?_⟩
  · simp only [plc, h1, BitVec.getLsbD_or, BitVec.getLsbD_and]
  · have := bits_step (bitAt v (nx ||| (o &&& ns)) (stayW an st ns) sk sh s) r p hp h2
    have e : bitAt v (nx ||| (o &&& ns)) (stayW an st ns) sk sh s p = (a || sh.getLsbD p || b || v.getLsbD p && (an.getLsbD p || st.getLsbD p && ns.getLsbD p)) := by
      simp only [bitAt, h1, stayW, BitVec.getLsbD_or, BitVec.getLsbD_and]
    rw [← e]
    exact this
theorem Word_end {v nx o st an sk ns sh : BitVec 64} {on c : Bool} {r : BitVec 64} {a b : Bool} (h : Word v nx o st an sk ns sh (on, c) 64 r a b) :
    r = outW v nx o st an sk ns (sh ||| bw on) c ∧ a = bt (onW v nx o ns) 63 ∧ b = cry 64 (xW (onW v nx o ns) (sh ||| bw on)) sk c := by
  obtain ⟨h1, h2⟩ := h
  have e1 := word_on v (nx ||| (o &&& ns)) sk sh (on, c)
  have e2 := word_pass v (nx ||| (o &&& ns)) sk sh on c
  rw [h1] at e1 e2
  refine ⟨?_, e1, e2⟩
  exact word_is v _ (stayW an st ns) sk sh on c r (fun i hi => by rw [h2 i hi]; simp [hi])

theorem store0 (W : World) (r r1 : BitVec 64) (x : Bool) (p m k : Nat) (hk : k = W.heap.size) :
    ((W.alloc (.cells #[.int .u64 (N r), .int .u64 (N r1)] 27)).drewN m).setCell ⟨k, 0, none⟩ (.int .u64 (bits .or .u64 (N r) (IntKind.u64.wrap (Bn x * 2 ^ p)))) =
      (W.alloc (.cells #[.int .u64 (N (r ||| (bw x <<< p))), .int .u64 (N r1)] 27)).drewN m := by
  have : (W.alloc (.cells #[.int .u64 (N r), .int .u64 (N r1)] 27)).setCell ⟨k, 0, none⟩ (.int .u64 (N (r ||| (bw x <<< p)))) = W.alloc (.cells #[.int .u64 (N (r ||| (bw x <<< p))), .int .u64 (N r1)] 27) := by
    rw [World.setCell_alloc_at _ _ _ _ _ hk]; rfl
  rw [or_shl]
  show ((W.alloc (.cells #[.int .u64 (N r), .int .u64 (N r1)] 27)).setCell ⟨k, 0, none⟩ _).drewN m = _
  rw [this]
theorem store1 (W : World) (r r1 : BitVec 64) (x : Bool) (p m k : Nat) (hk : k = W.heap.size) :
    ((W.alloc (.cells #[.int .u64 (N r), .int .u64 (N r1)] 27)).drewN m).setCell ⟨k, 1, none⟩ (.int .u64 (bits .or .u64 (N r1) (IntKind.u64.wrap (Bn x * 2 ^ p)))) =
      (W.alloc (.cells #[.int .u64 (N r), .int .u64 (N (r1 ||| (bw x <<< p)))] 27)).drewN m := by
  have : (W.alloc (.cells #[.int .u64 (N r), .int .u64 (N r1)] 27)).setCell ⟨k, 1, none⟩ (.int .u64 (N (r1 ||| (bw x <<< p)))) = W.alloc (.cells #[.int .u64 (N r), .int .u64 (N (r1 ||| (bw x <<< p)))] 27) := by
    rw [World.setCell_alloc_at _ _ _ _ _ hk]; rfl
  rw [or_shl]
  show ((W.alloc (.cells #[.int .u64 (N r), .int .u64 (N r1)] 27)).setCell ⟨k, 1, none⟩ _).drewN m = _
  rw [this]

/-- Two words as an array's value. -/
abbrev two (a b : BitVec 64) : Value := .agg #[.int .u64 (N a), .int .u64 (N b)]

theorem no_shift (sh : BitVec 64) : sh ||| bw false = sh := by simp [bw]

attribute [local go_sem] and_N or_N bit_N or_B and_B or_B0

set_option maxHeartbeats 1000000 in
set_option maxRecDepth 4000 in
theorem places_one (v v' nx nx' o o' st st' an an' sk sk' ns sh : BitVec 64) (c : Bool) (w : World) :
    Calls Try.prog 8 #[.int .i64 1, two v v', two nx nx', two o o', two st st', two an an', two sk sk', .int .u64 (N ns), .int .u64 (N sh), .int .u64 (Bn c)] w fun e w' =>
      ∃ r1, e = .returned (.tuple #[two (outW v nx o st an sk ns sh c) r1, .int .u64 (Bn (bt (onW v nx o ns) 63)), .int .u64 (Bn (cry 64 (xW (onW v nx o ns) sh) sk c))]) ∧ Grown w w' := by
  go_enter Try.func8, Try.ntmps8
  go_wp2
  go_loopw [24, 25, 26] (fun on pass i wr => ∃ (p : Nat) (r0 r1 : BitVec 64) (a b : Bool) (n : Nat), p ≤ 64 ∧ i = .int .i64 (p : Int) ∧ on = .int .u64 (Bn a) ∧ pass = .int .u64 (Bn b) ∧ Hid (Word v nx o st an sk ns sh (false, c) p r0 a b) ∧
      wr = ((((((((w.alloc (.cells #[.int .u64 (N v), .int .u64 (N v')] 27)).alloc (.cells #[.int .u64 (N nx), .int .u64 (N nx')] 27)).alloc (.cells #[.int .u64 (N o), .int .u64 (N o')] 27)).alloc (.cells #[.int .u64 (N st), .int .u64 (N st')] 27)).alloc (.cells #[.int .u64 (N an), .int .u64 (N an')] 27)).alloc (.cells #[.int .u64 (N sk), .int .u64 (N sk')] 27)).alloc (.cells #[.int .u64 0, .int .u64 0] 27)).alloc (.cells #[.int .u64 (N r0), .int .u64 (N r1)] 27)).drewN n) (fun _ _ i _ => 64 - (intOf i).toNat)
  case atStart => exact ⟨0, 0, 0, false, c, 0, by omega, rfl, rfl, rfl, Word_start v nx o st an sk ns sh (false, c), rfl⟩
  case round =>
    obtain ⟨p, r0, r1, a, b, n, hp, rfl, rfl, rfl, hw, rfl⟩ := hrel
    by_cases hlt : p < 64
    · have hq : (p : Int) / 64 = 0 := by omega
      have hr : (p : Int) % 64 = p := by omega
      go_wp2
      go_quiet (fail)
      go_wp2
      go_quiet (fail)
      go_wp2
      go_roundw
      case rel =>
        exact ⟨p + 1, _, r1, _, _, _, by omega, by go_num, rfl, rfl, Word_step hw.out hlt, store0 _ _ _ _ _ _ _ (by simp)⟩
      case measure => simp [intOf]; omega
    · have e64 : p = 64 := by omega
      subst e64
      have HE : Hid (r0 = outW v nx o st an sk ns (sh ||| bw false) c ∧ a = bt (onW v nx o ns) 63 ∧ b = cry 64 (xW (onW v nx o ns) (sh ||| bw false)) sk c) := Word_end hw.out
      clear hw
      go_wp2
      refine bodyPost_ret (v := .tuple #[two r0 r1, .int .u64 (Bn a), .int .u64 (Bn b)]) (by simp [results, Try.results8, go_sem]) rfl ⟨r1, ?_, ?_⟩
      · obtain ⟨h1, h2, h3⟩ := HE.out
        rw [h1, h2, h3, no_shift]
      · exact ((grown_drewN _ (((((((((Grown.refl w).alloc _ _).alloc _ _).alloc _ _).alloc _ _).alloc _ _).alloc _ _).alloc _ _).alloc _ _)).setCell (by show w.heap.size ≤ w.heap.size + 1 + 1 + 1 + 1 + 1 + 1; omega) _).setCell (by show w.heap.size ≤ w.heap.size + 1 + 1 + 1 + 1 + 1 + 1; omega) _

/-- The second word's step where no place is shifted in from outside: the first place's move comes as a. -/
theorem Word_step0 {v nx o st an sk ns : BitVec 64} {s : Bool × Bool} {p : Nat} {r : BitVec 64} {a b : Bool} (h : Word v nx o st an sk ns 0#64 s p r a b) (hp : p < 64) :
    Word v nx o st an sk ns 0#64 s (p + 1) (r ||| (bw (a || b || bt v p && (bt an p || bt st p && bt ns p)) <<< p)) (bt v p && (bt nx p || bt o p && bt ns p)) ((a || b) && bt sk p) := by
  have := Word_step h hp
  have e : bt 0#64 p = false := by simp [bt]
  rw [e, Bool.or_false] at this
  exact this

/-- Both words: the first one's places, then the second one's. -/
def Both (v v' nx nx' o o' st st' an an' sk sk' ns : BitVec 64) (p : Nat) (r0 r1 : BitVec 64) (a b : Bool) : Prop :=
  (p ≤ 64 ∧ r1 = 0#64 ∧ Word v nx o st an sk ns 0#64 (false, false) p r0 a b) ∨
  (64 ≤ p ∧ r0 = outW v nx o st an sk ns 0#64 false ∧ Word v' nx' o' st' an' sk' ns 0#64 (bt (onW v nx o ns) 63, cry 64 (xW (onW v nx o ns) 0#64) sk false) (p - 64) r1 a b)
theorem Both_lo {v v' nx nx' o o' st st' an an' sk sk' ns : BitVec 64} {p : Nat} {r0 r1 : BitVec 64} {a b : Bool} (h : Both v v' nx nx' o o' st st' an an' sk sk' ns p r0 r1 a b) (hp : p < 64) :
    r1 = 0#64 ∧ Word v nx o st an sk ns 0#64 (false, false) p r0 a b := by
  rcases h with ⟨_, h⟩ | ⟨h, _⟩
  · exact h
  · omega
theorem Both_hi {v v' nx nx' o o' st st' an an' sk sk' ns : BitVec 64} {p : Nat} {r0 r1 : BitVec 64} {a b : Bool} (h : Both v v' nx nx' o o' st st' an an' sk sk' ns p r0 r1 a b) (hp : 64 ≤ p) :
    r0 = outW v nx o st an sk ns 0#64 false ∧ Word v' nx' o' st' an' sk' ns 0#64 (bt (onW v nx o ns) 63, cry 64 (xW (onW v nx o ns) 0#64) sk false) (p - 64) r1 a b := by
  rcases h with ⟨h, h1, h2⟩ | ⟨_, h⟩
  · have e : p = 64 := by omega
    subst e
    obtain ⟨e1, e2, e3⟩ := Word_end h2
    rw [no_shift] at e1 e3
    subst h1 e1 e2 e3
    exact ⟨rfl, Word_start _ _ _ _ _ _ _ _ _⟩
  · exact h

set_option maxHeartbeats 1000000 in
set_option maxRecDepth 4000 in
theorem places_two (v v' nx nx' o o' st st' an an' sk sk' ns : BitVec 64) (w : World) :
    Calls Try.prog 8 #[.int .i64 2, two v v', two nx nx', two o o', two st st', two an an', two sk sk', .int .u64 (N ns), .int .u64 (N 0#64), .int .u64 (Bn false)] w fun e w' =>
      e = .returned (.tuple #[two (outW v nx o st an sk ns 0#64 false) (outW v' nx' o' st' an' sk' ns (bw (bt (onW v nx o ns) 63)) (cry 64 (xW (onW v nx o ns) 0#64) sk false)), .int .u64 (Bn (bt (onW v' nx' o' ns) 63)), .int .u64 (Bn (cry 64 (xW (onW v' nx' o' ns) (bw (bt (onW v nx o ns) 63))) sk' (cry 64 (xW (onW v nx o ns) 0#64) sk false)))]) ∧ Grown w w' := by
  go_enter Try.func8, Try.ntmps8
  go_wp2
  go_loopw [24, 25, 26] (fun on pass i wr => ∃ (p : Nat) (r0 r1 : BitVec 64) (a b : Bool) (n : Nat), p ≤ 128 ∧ i = .int .i64 (p : Int) ∧ on = .int .u64 (Bn a) ∧ pass = .int .u64 (Bn b) ∧ Hid (Both v v' nx nx' o o' st st' an an' sk sk' ns p r0 r1 a b) ∧
      wr = ((((((((w.alloc (.cells #[.int .u64 (N v), .int .u64 (N v')] 27)).alloc (.cells #[.int .u64 (N nx), .int .u64 (N nx')] 27)).alloc (.cells #[.int .u64 (N o), .int .u64 (N o')] 27)).alloc (.cells #[.int .u64 (N st), .int .u64 (N st')] 27)).alloc (.cells #[.int .u64 (N an), .int .u64 (N an')] 27)).alloc (.cells #[.int .u64 (N sk), .int .u64 (N sk')] 27)).alloc (.cells #[.int .u64 0, .int .u64 0] 27)).alloc (.cells #[.int .u64 (N r0), .int .u64 (N r1)] 27)).drewN n) (fun _ _ i _ => 128 - (intOf i).toNat)
  case atStart => exact ⟨0, 0, 0, false, false, 0, by omega, rfl, rfl, rfl, .inl ⟨by omega, rfl, Word_start v nx o st an sk ns 0#64 (false, false)⟩, rfl⟩
  case round =>
    obtain ⟨p, r0, r1, a, b, n, hp, rfl, rfl, rfl, hw, rfl⟩ := hrel
    by_cases hlt : p < 64
    · have hq : (p : Int) / 64 = 0 := by omega
      have hr : (p : Int) % 64 = p := by omega
      go_wp2
      go_quiet (fail)
      go_wp2
      go_quiet (fail)
      go_wp2
      go_roundw
      case rel =>
        exact ⟨p + 1, _, r1, _, _, _, by omega, by go_num, rfl, rfl, .inl ⟨by omega, (Both_lo hw.out hlt).1, Word_step (Both_lo hw.out hlt).2 hlt⟩, store0 _ _ _ _ _ _ _ (by simp)⟩
      case measure => simp [intOf]; omega
    · by_cases hl2 : p < 128
      · obtain ⟨q, hpq⟩ : ∃ q, p = 64 + q := ⟨p - 64, by omega⟩
        subst hpq
        have HB := Both_hi hw.out (by omega)
        rw [Nat.add_sub_cancel_left] at HB
        have HW : Hid (r0 = outW v nx o st an sk ns 0#64 false ∧ Word v' nx' o' st' an' sk' ns 0#64 (bt (onW v nx o ns) 63, cry 64 (xW (onW v nx o ns) 0#64) sk false) q r1 a b) := HB
        clear HB hw
        have hq64 : q < 64 := by omega
        have hq : (64 + (q : Int)) / 64 = 1 := by omega
        have hr : (64 + (q : Int)) % 64 = q := by omega
        go_wp2
        go_quiet (fail)
        go_wp2
        go_quiet (fail)
        go_wp2
        go_roundw
        case rel =>
          exact ⟨64 + q + 1, r0, _, _, _, _, by omega, by go_num, rfl, rfl, .inr ⟨by omega, HW.out.1, by rw [show 64 + q + 1 - 64 = q + 1 by omega]; exact Word_step0 HW.out.2 hq64⟩, store1 _ _ _ _ _ _ _ (by simp)⟩
        case measure => simp [intOf]; omega
      · have e64 : p = 128 := by omega
        subst e64
        have HB := Both_hi hw.out (by omega)
        have HE : Hid (r1 = outW v' nx' o' st' an' sk' ns (0#64 ||| bw (bt (onW v nx o ns) 63)) (cry 64 (xW (onW v nx o ns) 0#64) sk false) ∧ a = bt (onW v' nx' o' ns) 63 ∧ b = cry 64 (xW (onW v' nx' o' ns) (0#64 ||| bw (bt (onW v nx o ns) 63))) sk' (cry 64 (xW (onW v nx o ns) 0#64) sk false)) := Word_end HB.2
        have HR : Hid (r0 = outW v nx o st an sk ns 0#64 false) := HB.1
        clear hw HB
        go_wp2
        refine bodyPost_ret (v := .tuple #[two r0 r1, .int .u64 (Bn a), .int .u64 (Bn b)]) (by simp [results, Try.results8, go_sem]) rfl ⟨?_, ?_⟩
        · obtain ⟨h1, h2, h3⟩ := HE.out
          rw [h1, h2, h3, HR.out, BitVec.zero_or]
        · exact ((grown_drewN _ (((((((((Grown.refl w).alloc _ _).alloc _ _).alloc _ _).alloc _ _).alloc _ _).alloc _ _).alloc _ _).alloc _ _)).setCell (by show w.heap.size ≤ w.heap.size + 1 + 1 + 1 + 1 + 1 + 1; omega) _).setCell (by show w.heap.size ≤ w.heap.size + 1 + 1 + 1 + 1 + 1 + 1; omega) _
end Go.Proofs.Qxb6605667a
