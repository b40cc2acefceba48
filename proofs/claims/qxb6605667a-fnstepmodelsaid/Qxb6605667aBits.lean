/- Plain mathematics: one word of places moved by a byte, at once and place by place. No Go in sight. -/
namespace Go.Proofs.Qxb6605667a.Bits

/-- A word as a number. -/
def N (a : BitVec 64) : Int := (a.toNat : Int)
/-- A bit as a number. -/
def Bn (b : Bool) : Int := if b then 1 else 0

theorem N_lo (a : BitVec 64) : 0 ≤ N a := by unfold N; omega
theorem N_hi (a : BitVec 64) : N a < 18446744073709551616 := by unfold N; have := a.isLt; omega
theorem Bn_lo (b : Bool) : 0 ≤ Bn b := by cases b <;> decide
theorem Bn_hi (b : Bool) : Bn b ≤ 1 := by cases b <;> decide
theorem N_of (x : Int) (h0 : 0 ≤ x) (h1 : x < 18446744073709551616) : ∃ a : BitVec 64, x = N a := by
  refine ⟨BitVec.ofNat 64 x.toNat, ?_⟩
  unfold N
  rw [BitVec.toNat_ofNat]
  omega
theorem Bn_of (x : Int) (h0 : 0 ≤ x) (h1 : x ≤ 1) : ∃ b : Bool, x = Bn b := by
  by_cases h : x = 1
  · exact ⟨true, h⟩
  · exact ⟨false, by show x = 0; omega⟩
/-- A bit as a word. -/
def bw (b : Bool) : BitVec 64 := BitVec.setWidth 64 (BitVec.ofBool b)
theorem bw_bit (b : Bool) (i : Nat) : (bw b).getLsbD i = (b && decide (i = 0)) := by
  unfold bw
  cases b <;> simp
theorem N_bw (b : Bool) : N (bw b) = Bn b := by cases b <;> decide
theorem N_inj {a b : BitVec 64} (h : N a = N b) : a = b := by
  unfold N at h; exact BitVec.eq_of_toNat_eq (by omega)
theorem Bn_inj {a b : Bool} (h : Bn a = Bn b) : a = b := by
  cases a <;> cases b <;> first | rfl | exact absurd h (by decide)

/-! ### The step of one word -/
/-- The places that take the byte on. -/
def onW (v nx o ns : BitVec 64) : BitVec 64 := v &&& (nx ||| (o &&& ns))
/-- The places reached by a move. -/
def xW (on sh : BitVec 64) : BitVec 64 := (on <<< 1) ||| sh
/-- With those that are passed on to. -/
def reachedW (x sk : BitVec 64) (c : Bool) : BitVec 64 := x ||| ((sk + (x &&& sk) + bw c) ^^^ sk)
/-- The pass out of place i. -/
def cry (i : Nat) (x sk : BitVec 64) (c : Bool) : Bool := BitVec.carry i sk (x &&& sk) c
def resW (v o' reached : BitVec 64) : BitVec 64 := reached ||| (v &&& o')
def stayW (an st ns : BitVec 64) : BitVec 64 := an ||| (st &&& ns)

theorem cry_zero (x sk : BitVec 64) (c : Bool) : cry 0 x sk c = c := by
  unfold cry BitVec.carry; cases c <;> simp [Nat.mod_one]
theorem cry_succ (i : Nat) (x sk : BitVec 64) (c : Bool) : cry (i + 1) x sk c = (sk.getLsbD i && (x.getLsbD i || cry i x sk c)) := by
  unfold cry
  rw [BitVec.carry_succ]
  simp only [BitVec.getLsbD_and, Bool.atLeastTwo]
  cases sk.getLsbD i <;> cases x.getLsbD i <;> cases BitVec.carry i sk (x &&& sk) c <;> rfl
theorem reached_bit (i : Nat) (h : i < 64) (x sk : BitVec 64) (c : Bool) : (reachedW x sk c).getLsbD i = (x.getLsbD i || cry i x sk c) := by
  unfold reachedW cry bw
  rw [BitVec.getLsbD_or, BitVec.getLsbD_xor, BitVec.getLsbD_add_add_bool h]
  simp only [BitVec.getLsbD_and]
  cases sk.getLsbD i <;> cases x.getLsbD i <;> cases BitVec.carry i sk (x &&& sk) c <;> rfl

/-! ### The places, one at a time -/
/-- What place p - 1 moves on and passes on, from (on, pass) ahead of place 0. -/
def plc (v tk sk sh : BitVec 64) : Nat → Bool × Bool → Bool × Bool
  | 0, s => s
  | p + 1, s => (v.getLsbD p && tk.getLsbD p, ((plc v tk sk sh p s).1 || sh.getLsbD p || (plc v tk sk sh p s).2) && sk.getLsbD p)
/-- Place p behind the byte. -/
def bitAt (v tk stay sk sh : BitVec 64) (s : Bool × Bool) (p : Nat) : Bool :=
  ((plc v tk sk sh p s).1 || sh.getLsbD p || (plc v tk sk sh p s).2) || (v.getLsbD p && stay.getLsbD p)

theorem x_bit (on sh : BitVec 64) (p : Nat) (h : p < 64) : (xW on sh).getLsbD p = ((decide (p ≠ 0) && on.getLsbD (p - 1)) || sh.getLsbD p) := by
  unfold xW
  rw [BitVec.getLsbD_or, BitVec.getLsbD_shiftLeft]
  cases p with
  | zero => simp
  | succ p => simp [h]

theorem plc_is (v tk sk sh : BitVec 64) (on c : Bool) : ∀ p, p ≤ 64 →
    (p < 64 → ((plc v tk sk sh p (on, c)).1 || sh.getLsbD p) = (xW (v &&& tk) (sh ||| bw on)).getLsbD p) ∧
    (plc v tk sk sh p (on, c)).2 = cry p (xW (v &&& tk) (sh ||| bw on)) sk c
  | 0, _ => by
    refine ⟨fun h => ?_, by rw [cry_zero]; rfl⟩
    rw [x_bit _ _ _ h, BitVec.getLsbD_or, bw_bit]
    cases on <;> cases sh.getLsbD 0 <;> rfl
  | p + 1, hp => by
    have ih := plc_is v tk sk sh on c p (by omega)
    constructor
    · intro h
      rw [x_bit _ _ _ h, BitVec.getLsbD_or, bw_bit]
      simp [plc]
    · rw [cry_succ, ← ih.1 (by omega), ← ih.2]
      simp only [plc]
      rw [Bool.and_comm]

/-- The word at once: what the places give, place by place. -/
theorem word_is (v tk stay sk sh : BitVec 64) (on c : Bool) (r : BitVec 64) (hr : ∀ i, i < 64 → r.getLsbD i = bitAt v tk stay sk sh (on, c) i) :
    r = resW v stay (reachedW (xW (v &&& tk) (sh ||| bw on)) sk c) := by
  apply BitVec.eq_of_getLsbD_eq
  intro i hi
  rw [hr i hi]
  unfold resW bitAt
  rw [BitVec.getLsbD_or, BitVec.getLsbD_and, reached_bit i hi]
  have := plc_is v tk sk sh on c i (by omega)
  rw [← this.1 hi, ← this.2]
theorem word_on (v tk sk sh : BitVec 64) (s : Bool × Bool) : (plc v tk sk sh 64 s).1 = (v &&& tk).getLsbD 63 := by
  rw [BitVec.getLsbD_and]; rfl
theorem word_pass (v tk sk sh : BitVec 64) (on c : Bool) : (plc v tk sk sh 64 (on, c)).2 = cry 64 (xW (v &&& tk) (sh ||| bw on)) sk c :=
  (plc_is v tk sk sh on c 64 (Nat.le_refl _)).2

/-- One place more. -/
theorem bits_step (f : Nat → Bool) (r : BitVec 64) (p : Nat) (hp : p < 64) (hr : ∀ i, i < 64 → r.getLsbD i = (decide (i < p) && f i)) :
    ∀ i, i < 64 → (r ||| (bw (f p) <<< p)).getLsbD i = (decide (i < p + 1) && f i) := by
  intro i hi
  rw [BitVec.getLsbD_or, BitVec.getLsbD_shiftLeft, bw_bit, hr i hi]
  by_cases h1 : i < p
  · simp [h1, hi, show i < p + 1 by omega]
  · by_cases h2 : i = p
    · subst h2; simp [hi]
    · simp [h1, show ¬ i < p + 1 by omega, show ¬ (i - p = 0) by omega]
end Go.Proofs.Qxb6605667a.Bits
