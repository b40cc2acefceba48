/- The walks of unquoteIdent and of its shim. -/
import Derived.Test.Qxb6605666aBuilder
import Derived.Test.Qxb6605666aPlain
namespace Go.Proofs.Qxb6605666a
open Go.RowKit Plain

/-- The three results. -/
def res : Option (List UInt8 × Nat) → Value
  | none => .tuple #[.string ⟨#[]⟩, .int .i64 0, .bool false]
  | some x => .tuple #[.string ⟨x.1.toArray⟩, .int .i64 (x.2 : Int), .bool true]

/-- What is gathered so far: acc, the reader standing at k. -/
def At (s : ByteArray) (i k : Nat) (acc : List UInt8) : Prop := U s i = (U s k).map (fun x => (acc ++ x.1, x.2))

theorem At_start (s : ByteArray) (i : Nat) : At s i i [] := by
  unfold At; cases U s i <;> simp
theorem eq96 {c : UInt8} (h : ((c.toNat : Int) == 96) = true) : c = 96 := by
  have h' : (c.toNat : Int) = 96 := by simpa using h
  exact UInt8.toNat_inj.mp (by show c.toNat = 96; omega)
theorem ne96 {c : UInt8} (h : ((c.toNat : Int) == 96) = false) : c ≠ 96 := by
  rintro rfl; exact absurd h (by decide)
theorem At_other {s : ByteArray} {i k : Nat} {acc : List UInt8} (h : At s i k acc) (hk : k < s.size) (hc : s[k] ≠ 96) : At s i (k + 1) (acc ++ [s[k]]) := by
  unfold At at *; rw [h, U_other s k hk hc, Option.map_map]
  cases U s (k + 1) <;> simp
theorem At_pair {s : ByteArray} {i k : Nat} {acc : List UInt8} (h : At s i k acc) (hk : k + 1 < s.size) (hc : s[k] = 96) (hd : s[k + 1] = 96) : At s i (k + 2) (acc ++ [96]) := by
  unfold At at *; rw [h, U_pair s k hk hc hd, Option.map_map]
  cases U s (k + 2) <;> simp
theorem At_close {s : ByteArray} {i k : Nat} {acc : List UInt8} (h : At s i k acc) (hk : k < s.size) (hc : s[k] = 96) (hd : ∀ h' : k + 1 < s.size, s[k + 1] ≠ 96) : U s i = some (acc, k + 1) := by
  unfold At at h; rw [h, U_close s k hk hc hd]; simp
theorem At_end {s : ByteArray} {i k : Nat} {acc : List UInt8} (h : At s i k acc) (hk : s.size ≤ k) : U s i = none := by
  unfold At at h; rw [h, U_end s k hk]; rfl

set_option maxHeartbeats 1000000 in
theorem unquote_any (s : ByteArray) (st : Nat) (w : World) (hs : s.size ≤ 16777216) (hst : st ≤ s.size) :
    Calls Try.prog 14 #[.string s, .int .i64 (st : Int)] w fun e w' => e = .returned (res (U s (st + 1))) ∧ Below w.heap.size w w' := by
  go_enter Try.func14, Try.ntmps14
  go_wp2
  go_loopw [8] (fun i wr => ∃ (k : Nat) (acc : List UInt8), i = .int .i64 (k : Int) ∧ k ≤ s.size + 1 ∧ acc.length ≤ k ∧ Hid (At s (st + 1) k acc) ∧
      Lib.IsBuilder 36 5 w.heap.size w.heap.size (Lib.byteCells acc) wr ∧ Below w.heap.size w wr) (fun i _ => s.size + 1 - (intOf i).toNat)
  case atStart => exact ⟨st + 1, [], by go_num, by omega, by simp, At_start _ _, Lib.fresh_isBuilder 36 5 w, (Below.refl _ w).alloc (Nat.le_refl _) _⟩
  case round =>
    obtain ⟨k, acc, rfl, hk, hal, hat, hI, hbw⟩ := hrel
    have hsz := hbw.size
    by_cases hlt : k < s.size
    · by_cases hc : ((s[k].toNat : Int) == 96) = true
      · by_cases hn : k + 1 < s.size
        · by_cases hd : ((s[k + 1].toNat : Int) == 96) = true
          · go_wp2_with (go_at_call 16; refine (bldWriteByte w.heap.size w.heap.size _ 96 _ hI (by rw [Lib.byteCells_length]; omega)).mono ?_)
            rintro e w1 ⟨rfl, h1, b1⟩
            go_wp2
            go_roundw
            case rel => exact ⟨k + 2, acc ++ [96], by go_num, by omega, by simp; omega, At_pair hat.out hn (eq96 hc) (eq96 hd), by rw [Lib.byteCells_append]; exact Or.inr h1, hbw.trans b1⟩
            case measure => simp [intOf]; omega
          · have hd' : ((s[k + 1].toNat : Int) == 96) = false := by simpa using hd
            clear hd
            go_wp2_with (go_at_call 17; refine (bldString w.heap.size w.heap.size acc _ hI hsz).mono ?_)
            rintro e w1 ⟨rfl, b1⟩
            go_wp2
            go_ret3
            exact ⟨by rw [At_close hat.out hlt (eq96 hc) (fun _ => ne96 hd')]; rfl, hbw.trans b1⟩
        · have hg : decide ((k : Int) + 1 < (s.size : Int)) = false := by simp; omega
          go_wp2_with (go_at_call 17; refine (bldString w.heap.size w.heap.size acc _ hI hsz).mono ?_)
          rintro e w1 ⟨rfl, b1⟩
          go_wp2
          go_ret3
          exact ⟨by rw [At_close hat.out hlt (eq96 hc) (fun h' => absurd h' hn)]; rfl, hbw.trans b1⟩
      · have hc' : ((s[k].toNat : Int) == 96) = false := by simpa using hc
        clear hc
        go_wp2_with (go_at_call 16; refine (bldWriteByte w.heap.size w.heap.size _ (s[k].toNat : Int) _ hI (by rw [Lib.byteCells_length]; omega)).mono ?_)
        rintro e w1 ⟨rfl, h1, b1⟩
        go_wp2
        go_roundw
        case rel => exact ⟨k + 1, acc ++ [s[k]], by go_num, by omega, by simp; omega, At_other hat.out hlt (ne96 hc'), by rw [Lib.byteCells_append]; exact Or.inr h1, hbw.trans b1⟩
        case measure => simp [intOf]; omega
    · go_wp2
      go_ret3
      exact ⟨by rw [At_end hat.out (by omega)]; rfl, hbw⟩

theorem zzunquote_any (s : ByteArray) (st : Nat) (w : World) (hs : s.size ≤ 16777216) (hst : st ≤ s.size) :
    Calls Try.prog 7 #[.string s, .int .i64 (st : Int)] w fun e w' => e = .returned (res (U s (st + 1))) ∧ Below w.heap.size w w' := by
  go_enter Try.func7, Try.ntmps7
  go_wp2_with (go_at_call 14; refine (unquote_any s st w hs hst).mono ?_)
  rintro e w1 ⟨rfl, b1⟩
  obtain ⟨o, ho⟩ : ∃ o, o = U s (st + 1) := ⟨_, rfl⟩
  rw [← ho]
  cases o with
  | none =>
    unfold res
    go_wp2
    go_ret3
    exact ⟨by rw [← ho]; rfl, b1⟩
  | some x =>
    unfold res
    go_wp2
    go_ret3
    exact ⟨by rw [← ho]; rfl, b1⟩
end Go.Proofs.Qxb6605666a
