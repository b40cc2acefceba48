/- The walk of FnTableNameStringCutsBack: each callee by a contract of its own. -/
import Derived.Test.Qxb6605666aRows
import Derived.WalkKit
import Derived.ProofKit
import Derived.RowKit3
namespace Go.Proofs.Qxb6605666a.TableWalk
open Go.RowKit

/-- A byte that is the full stop. -/
def IsDot (s : ByteArray) (j : Nat) : Prop := ∃ h : j < s.size, s[j] = 46

theorem bytes_yes (a b : ByteArray) (w : World) (h : a.size + b.size ≤ 1048576) :
    Calls Try.prog 11 #[.string a, .string b] w fun e w' => e = .returned (.bool true) ∧ w' = w := by
  have h1 : a.size ≤ 1048576 := by omega
  have h2 : b.size ≤ 1048576 := by omega
  go_enter Try.func11, Try.ntmps11
  go_wp2
  go_ret
  exact ⟨rfl, rfl⟩

theorem bytes_no (a b : ByteArray) (w : World) (ha : a.size ≤ maxLen) (hb : b.size ≤ maxLen) (h : 1048576 < a.size + b.size) :
    Calls Try.prog 11 #[.string a, .string b] w fun e w' => e = .returned (.bool false) ∧ w' = w := by
  unfold maxLen at ha hb
  by_cases h1 : 1048576 < a.size
  · go_enter Try.func11, Try.ntmps11
    go_wp2
    go_ret
    exact ⟨rfl, rfl⟩
  · by_cases h2 : 1048576 < b.size
    · go_enter Try.func11, Try.ntmps11
      go_wp2
      go_ret
      exact ⟨rfl, rfl⟩
    · go_enter Try.func11, Try.ntmps11
      go_wp2
      go_ret
      exact ⟨rfl, rfl⟩

theorem dot_of {s : ByteArray} {k : Nat} (hk : k < s.size) (h : (((s[k]'hk).toNat : Int) == 46) = true) : IsDot s k := by
  refine ⟨hk, ?_⟩
  have h' : ((s[k]'hk).toNat : Int) = 46 := by simpa using h
  exact UInt8.toNat_inj.mp (by show (s[k]'hk).toNat = 46; omega)
theorem nodot_of {s : ByteArray} {k : Nat} (hk : k < s.size) (h : (((s[k]'hk).toNat : Int) == 46) = false) : ¬ IsDot s k := by
  rintro ⟨_, h2⟩
  rw [h2] at h
  exact absurd h (by decide)
theorem nodot_step {s : ByteArray} {k : Nat} (hn : ∀ j, j < k → ¬ IsDot s j) (h : ¬ IsDot s k) : ∀ j, j < k + 1 → ¬ IsDot s j := by
  intro j hj
  by_cases e : j = k
  · subst e; exact h
  · exact hn j (by omega)

theorem index_any (s : ByteArray) (w : World) (hs : s.size ≤ maxLen) :
    Calls Try.prog 12 #[.string s, .int .u8 46] w fun e w' => ∃ r : Int, e = .returned (.int .i64 r) ∧ w' = w ∧
      ((r = -1 ∧ ∀ j, ¬ IsDot s j) ∨ ∃ k : Nat, r = k ∧ IsDot s k ∧ ∀ j, j < k → ¬ IsDot s j) := by
  unfold maxLen at hs
  go_enter Try.func12, Try.ntmps12
  go_wp2
  go_loop [5] (fun i => ∃ k : Nat, k ≤ s.size ∧ i = .int .i64 k ∧ Hid (∀ j, j < k → ¬ IsDot s j)) (fun i => s.size - (intOf i).toNat)
  case atStart => exact ⟨0, Nat.zero_le _, rfl, fun j hj => absurd hj (Nat.not_lt_zero _)⟩
  case round =>
    obtain ⟨k, hk, rfl, hn⟩ := hrel
    by_cases hlt : k < s.size
    · go_wp2
      · go_ret
        exact ⟨k, rfl, rfl, .inr ⟨k, rfl, dot_of hlt ‹_›, hn.out⟩⟩
      · go_round
        case rel => exact ⟨k + 1, by omega, by go_num, nodot_step hn.out (nodot_of hlt ‹_›)⟩
        case measure => simp [intOf]; omega
    · go_wp2
      go_ret
      exact ⟨-1, rfl, rfl, .inl ⟨rfl, fun j hj => hn.out j (by obtain ⟨h, _⟩ := hj; omega) hj⟩⟩

/-- The dot as a string. -/
theorem name_plain (b : ByteArray) (w : World) :
    Calls Try.prog 13 #[.string ⟨#[]⟩, .string b] w fun e w' => e = .returned (.string b) ∧ Grown w w' := by
  go_enter Try.func13, Try.ntmps13
  go_wp2_with go_in
  go_ret
  exact ⟨rfl, by repeat (first | exact Grown.refl _ | apply Grown.drew | apply Grown.alloc)⟩

theorem name_full (a b : ByteArray) (w : World) (ha : a.toList.isEmpty = false) (h : a.size + b.size ≤ 1048576) :
    Calls Try.prog 13 #[.string a, .string b] w fun e w' => e = .returned (.string (a ++ ⟨#[46]⟩ ++ b)) ∧ Grown w w' := by
  go_enter Try.func13, Try.ntmps13
  go_wp2_with go_in
  go_ret
  exact ⟨rfl, by repeat (first | exact Grown.refl _ | apply Grown.drew | apply Grown.alloc)⟩

theorem size_dot (a b : ByteArray) : (a ++ (⟨#[46]⟩ : ByteArray) ++ b).size = a.size + 1 + b.size := by
  rw [ByteArray.size_append, ByteArray.size_append]; rfl
theorem first_dot {a b : ByteArray} (hn : ∀ j, ¬ IsDot a j) : (∀ j, j < a.size → ¬ IsDot (a ++ (⟨#[46]⟩ : ByteArray) ++ b) j) ∧ IsDot (a ++ (⟨#[46]⟩ : ByteArray) ++ b) a.size := by
  constructor
  · rintro j hj ⟨h1, h2⟩
    refine hn j ⟨hj, ?_⟩
    rw [ByteArray.getElem_append_left (by rw [ByteArray.size_append]; omega), ByteArray.getElem_append_left hj] at h2
    exact h2
  · refine ⟨by rw [size_dot]; omega, ?_⟩
    rw [ByteArray.getElem_append_left (by rw [ByteArray.size_append]; show a.size < a.size + 1; omega), ByteArray.getElem_append_right (Nat.le_refl _)]
    simp
    rfl
theorem index_dot (a b : ByteArray) (w : World) (hn : ∀ j, ¬ IsDot a j) (h : a.size + b.size ≤ 1048576) :
    Calls Try.prog 12 #[.string (a ++ (⟨#[46]⟩ : ByteArray) ++ b), .int .u8 46] w fun e w' => e = .returned (.int .i64 (a.size : Int)) ∧ w' = w := by
  refine (index_any _ w (by rw [size_dot]; unfold maxLen; omega)).mono ?_
  rintro e w' ⟨r, rfl, rfl, ⟨_, hr⟩ | ⟨k, rfl, hk, hk'⟩⟩
  · exact absurd (first_dot (b := b) hn).2 (hr _)
  · have e1 : ¬ k < a.size := fun hlt => (first_dot (b := b) hn).1 k hlt hk
    have e2 : ¬ a.size < k := fun hlt => hk' _ hlt (first_dot (b := b) hn).2
    have : k = a.size := by omega
    subst this
    exact ⟨rfl, rfl⟩

theorem cut_head (a b : ByteArray) : ((a ++ (⟨#[46]⟩ : ByteArray) ++ b).extract 0 a.size).toList = a.toList := by
  rw [ByteArray.append_assoc, ByteArray.extract_append_eq_left rfl]
theorem cut_tail (a b : ByteArray) : ((a ++ (⟨#[46]⟩ : ByteArray) ++ b).extract (a.size + 1) (a.size + 1 + b.size)).toList = b.toList := by
  have : (a ++ (⟨#[46]⟩ : ByteArray)).size = a.size + 1 := by rw [ByteArray.size_append]; rfl
  rw [ByteArray.extract_append_eq_right this.symm (by rw [this])]
theorem grown_trans {a b c : World} (h1 : Grown a b) (h2 : Grown b c) : Grown a c := by
  exact ⟨World.keptBut_trans h1.1 h2.1, fun x => (h2.2.1 x).trans (h1.2.1 x), Nat.le_trans h1.2.2 h2.2.2⟩
theorem walk (a0 : ByteArray) (a1 : ByteArray) (w0 : a0.size ≤ maxLen) (w1 : a1.size ≤ maxLen) (w : World) :
    Calls Try.prog 5 #[.string a0, .string a1] w fun e w' => e = .returned (.bool true) ∧ Grown w w' := by
  by_cases hb : a0.size + a1.size ≤ 1048576
  · have h0 : a0.size ≤ 1048576 := by omega
    have h1 : a1.size ≤ 1048576 := by omega
    by_cases he : a0.toList.isEmpty = true
    · go_enter Try.func5, Try.ntmps5
      go_wp2_with (go_at_call 11; refine (bytes_yes _ _ _ hb).mono ?_; rintro e w' ⟨rfl, rfl⟩)
      go_ret
      exact ⟨rfl, Grown.refl _⟩
    · have he' : a0.toList.isEmpty = false := by simpa using he
      clear he
      go_enter Try.func5, Try.ntmps5
      go_wp2_with (first
        | (go_at_call 11; refine (bytes_yes _ _ _ hb).mono ?_; rintro e w' ⟨rfl, rfl⟩)
        | (go_at_call 12; fail))
      refine (index_any _ _ w0).mono ?_
      rintro e w' ⟨r, rfl, rfl, ⟨hr, hn⟩ | ⟨k, rfl, _, _⟩⟩
      · subst hr
        go_wp2_with fail
        refine (name_full _ _ _ he' hb).mono ?_
        rintro e w1 ⟨rfl, hg1⟩
        go_wp2_with fail
        refine (index_dot _ _ _ hn hb).mono ?_
        rintro e w2 ⟨rfl, rfl⟩
        have c1 := cut_head a0 a1
        have c2 := cut_tail a0 a1
        go_wp2_with fail
        refine (name_plain _ _).mono ?_
        rintro e w3 ⟨rfl, hg3⟩
        go_wp2
        go_ret
        exact ⟨rfl, grown_trans hg1 hg3⟩
      · have : ((k : Int) ≥ 0) := by omega
        go_wp2
        go_ret
        exact ⟨rfl, Grown.refl _⟩
  · go_enter Try.func5, Try.ntmps5
    go_wp2_with (go_at_call 11; refine (bytes_no _ _ _ w0 w1 (by omega)).mono ?_; rintro e w' ⟨rfl, rfl⟩)
    go_ret
    exact ⟨rfl, Grown.refl _⟩
end Go.Proofs.Qxb6605666a.TableWalk
