/- What comes in, and the walks of the functions that only look at it. -/
import Derived.Test.Qxb6605989aRows
import Derived.Test.Qxb6605989aPlain
import Derived.WalkKit
import Derived.RowKit3
namespace Go.Proofs.Qxb6605989a
open Go.RowKit

/-- A slice of n slices of int64s: row r is '.slice (A r) (L r) (C r)' and holds 'Z r'. -/
structure Grid (w : World) (ao : Option Addr) (n : Nat) (A : Nat → Option Addr) (L C : Nat → Nat) (Z : Nat → Nat → Int) : Prop where
  top : n = 0 ∨ ∃ b off, ao = some ⟨b, off, none⟩ ∧ ∀ r, r < n → w.cell? ⟨b, off + r, none⟩ = some (.slice (A r) (L r) (C r))
  row : ∀ r, r < n → L r = 0 ∨ ∃ b off, A r = some ⟨b, off, none⟩ ∧ ∀ c, c < L r → w.cell? ⟨b, off + c, none⟩ = some (.int .i64 (Z r c))
  len : n ≤ 9223372036854775807
  lens : ∀ r, r < n → L r ≤ 9223372036854775807

/-- The call answers a bool of which Q holds, and leaves the world as it was. (A name that the walk does not open.) -/
def Says (Q : Bool → Prop) (w : World) (e : Ending) (w' : World) : Prop := ∃ r : Bool, e = .returned (.bool r) ∧ w' = w ∧ Q r
theorem says {Q : Bool → Prop} {w : World} {r : Bool} (h : Q r) : Says Q w (.returned (.bool r)) w := ⟨r, rfl, rfl, h⟩

def AnyQ (_ : Bool) : Prop := True
def SmallQ (n : Nat) (L : Nat → Nat) (r : Bool) : Prop := r = false → n ≤ 65536 ∧ ∀ i, i < n → L i ≤ 1048576
def OkQ (n : Nat) (L : Nat → Nat) (x : Int) (r : Bool) : Prop := r = true → 0 ≤ x ∧ ∀ i, i < n → x < (L i : Int)

section
variable {w : World} {ao : Option Addr} {n : Nat} {A : Nat → Option Addr} {L C : Nat → Nat} {Z : Nat → Nat → Int}

theorem bytes_one (h : Grid w ao n A L C Z) (cap : Nat) (x y z : Int) :
    Calls Try.prog 27 #[.slice ao n cap, .int .i64 x, .int .i64 y, .int .i64 z] w (Says AnyQ w) := by
  have hn := h.len
  by_cases hbig : 1048576 < n
  · go_enter Try.func27, Try.ntmps27
    go_wp2
    go_ret
    exact says trivial
  rcases h.top with h0 | ⟨b, off, rfl, hc⟩
  · subst h0
    go_enter Try.func27, Try.ntmps27
    go_wp2
    go_loop [10] (fun i => i = .int .i64 0) (fun _ => 0)
    case atStart => rfl
    case round =>
      subst hrel
      go_wp2
      go_ret
      exact says trivial
  · go_enter Try.func27, Try.ntmps27
    go_wp2
    go_loop [9, 10] (fun t i => ∃ (k : Nat) (s : Int), k ≤ n ∧ i = .int .i64 (k : Int) ∧ t = .int .i64 s ∧ 0 ≤ s ∧ s ≤ 1048576) (fun _ i => n - (intOf i).toNat)
    case atStart => exact ⟨0, (n : Int), by omega, rfl, rfl, by omega, by omega⟩
    case round =>
      obtain ⟨k, s, hk, rfl, rfl, hs0, hs1⟩ := hrel
      by_cases hlt : k < n
      · have hck := hc k hlt
        have hlk := h.lens k hlt
        by_cases hl : 1048576 < L k
        · go_wp2
          go_ret
          exact says trivial
        · by_cases hz : 1048576 < s + (L k : Int)
          · go_wp2
            go_ret
            exact says trivial
          · go_wp2
            go_round
            case rel => exact ⟨k + 1, s + (L k : Int), by omega, by go_num, rfl, by omega, by omega⟩
            case measure => simp [intOf]; omega
      · go_wp2
        go_ret
        exact says trivial

theorem bytes_two (h : Grid w ao n A L C Z) (cap : Nat) (x : Int) :
    Calls Try.prog 34 #[.slice ao n cap, .int .i64 x] w (Says AnyQ w) := by
  have hn := h.len
  by_cases hbig : 1048576 < n
  · go_enter Try.func34, Try.ntmps34
    go_wp2
    go_ret
    exact says trivial
  rcases h.top with h0 | ⟨b, off, rfl, hc⟩
  · subst h0
    go_enter Try.func34, Try.ntmps34
    go_wp2
    go_loop [6] (fun i => i = .int .i64 0) (fun _ => 0)
    case atStart => rfl
    case round =>
      subst hrel
      go_wp2
      go_ret
      exact says trivial
  · go_enter Try.func34, Try.ntmps34
    go_wp2
    go_loop [5, 6] (fun t i => ∃ (k : Nat) (s : Int), k ≤ n ∧ i = .int .i64 (k : Int) ∧ t = .int .i64 s ∧ 0 ≤ s ∧ s ≤ 1048576) (fun _ i => n - (intOf i).toNat)
    case atStart => exact ⟨0, (n : Int), by omega, rfl, rfl, by omega, by omega⟩
    case round =>
      obtain ⟨k, s, hk, rfl, rfl, hs0, hs1⟩ := hrel
      by_cases hlt : k < n
      · have hck := hc k hlt
        have hlk := h.lens k hlt
        by_cases hl : 1048576 < L k
        · go_wp2
          go_ret
          exact says trivial
        · by_cases hz : 1048576 < s + (L k : Int)
          · go_wp2
            go_ret
            exact says trivial
          · go_wp2
            go_round
            case rel => exact ⟨k + 1, s + (L k : Int), by omega, by go_num, rfl, by omega, by omega⟩
            case measure => simp [intOf]; omega
      · go_wp2
        go_ret
        exact says trivial

theorem too_big (h : Grid w ao n A L C Z) (cap : Nat) :
    Calls Try.prog 28 #[.slice ao n cap] w (Says (SmallQ n L) w) := by
  have hn := h.len
  by_cases hbig : 65536 < n
  · go_enter Try.func28, Try.ntmps28
    go_wp2
    go_ret
    exact says (by intro h; cases h)
  have hm := h.top
  have hls := h.lens
  clear h
  rcases hm with h0 | ⟨b, off, rfl, hc⟩
  · subst h0
    clear hls
    go_enter Try.func28, Try.ntmps28
    go_wp2
    go_loop [4] (fun i => i = .int .i64 0) (fun _ => 0)
    case atStart => rfl
    case round =>
      subst hrel
      go_wp2
      go_ret
      exact says (fun _ => ⟨by omega, fun i hi => by omega⟩)
  · go_enter Try.func28, Try.ntmps28
    go_wp2
    go_loop [3, 4] (fun t i => ∃ (k : Nat) (s : Int), k ≤ n ∧ i = .int .i64 (k : Int) ∧ t = .int .i64 s ∧ 0 ≤ s ∧ s ≤ 1048576 ∧ Hid (∀ i, i < k → L i ≤ 1048576)) (fun _ i => n - (intOf i).toNat)
    case atStart => exact ⟨0, 8 * (n : Int), by omega, rfl, by go_num, by omega, by omega, fun i hi => by omega⟩
    case round =>
      obtain ⟨k, s, hk, rfl, rfl, hs0, hs1, hq⟩ := hrel
      by_cases hlt : k < n
      · have hck := hc k hlt
        have hlk := hls k hlt
        clear hls
        by_cases hl : 1048576 < L k
        · go_wp2
          go_ret
          exact says (by intro h; cases h)
        · by_cases hz : 1048576 < s + 8 * (L k : Int)
          · go_wp2
            go_ret
            exact says (by intro h; cases h)
          · go_wp2
            go_round
            case rel => exact ⟨k + 1, s + 8 * (L k : Int), by omega, by go_num, rfl, by omega, by omega, fun i hi => by
                                by_cases e : i = k
                                · subst e; omega
                                · exact hq.out i (by omega)⟩
            case measure => simp [intOf]; omega
      · go_wp2
        go_ret
        exact says (fun _ => ⟨by omega, fun i hi => hq.out i (by omega)⟩)

theorem lefts_ok (h : Grid w ao n A L C Z) (cap : Nat) (x : Int) :
    Calls Try.prog 29 #[.slice ao n cap, .int .i64 x] w (Says (OkQ n L x) w) := by
  have hn := h.len
  have hm := h.top
  clear h
  by_cases hx : x < 0
  · go_enter Try.func29, Try.ntmps29
    go_wp2
    go_ret
    exact says (by intro h; cases h)
  rcases hm with h0 | ⟨b, off, rfl, hc⟩
  · subst h0
    go_enter Try.func29, Try.ntmps29
    go_wp2
    go_loop [5] (fun i => i = .int .i64 0) (fun _ => 0)
    case atStart => rfl
    case round =>
      subst hrel
      go_wp2
      go_ret
      exact says (fun _ => ⟨by omega, fun i hi => by omega⟩)
  · go_enter Try.func29, Try.ntmps29
    go_wp2
    go_loop [5] (fun i => ∃ k : Nat, k ≤ n ∧ i = .int .i64 (k : Int) ∧ Hid (∀ i, i < k → x < (L i : Int))) (fun i => n - (intOf i).toNat)
    case atStart => exact ⟨0, by omega, rfl, fun i hi => by omega⟩
    case round =>
      obtain ⟨k, hk, rfl, hq⟩ := hrel
      by_cases hlt : k < n
      · have hck := hc k hlt
        by_cases hl : (L k : Int) ≤ x
        · go_wp2
          go_ret
          exact says (by intro h; cases h)
        · go_wp2
          go_round
          case rel => exact ⟨k + 1, by omega, by go_num, fun i hi => by
                              by_cases e : i = k
                              · subst e; omega
                              · exact hq.out i (by omega)⟩
          case measure => simp [intOf]; omega
      · go_wp2
        go_ret
        exact says (fun _ => ⟨by omega, fun i hi => hq.out i (by omega)⟩)
end
end Go.Proofs.Qxb6605989a
