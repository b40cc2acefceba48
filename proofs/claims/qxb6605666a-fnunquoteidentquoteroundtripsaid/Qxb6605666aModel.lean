/- The walk of zzUnquoteModel: the two passes. -/
import Derived.Test.Qxb6605666aUnquote
import Derived.Laws.IdiomStrings
import Derived.Lib.BufferRead
namespace Go.Proofs.Qxb6605666a
open Go.RowKit Plain

theorem convert_own (w : World) (B : Nat) (v : Value) (acc : List UInt8) (h : w.ownsRow B 5 1 v acc.length (Lib.byteCells acc)) :
    (convert 30 9 v).run Try.prog w = .ok (.string ⟨acc.toArray⟩) w := by
  rcases h.2 with ⟨rfl, h0⟩ | ⟨g, cap, cur, rfl, _, hg, _, _, _, htk⟩
  · have : acc = [] := List.eq_nil_of_length_eq_zero h0
    subst this
    exact Lib.run_convert_nil_bytes w 30 9 5 0 Try.underlying30 Try.underlying5 Try.underlying9
  · exact run_convert_bytes_back w 30 9 5 ⟨g, 0, none⟩ cap acc Try.underlying30 Try.underlying5 Try.underlying9 (Lib.bytes_of_row hg (by simpa using htk))

/-- Where the first pass stands: nothing found yet, or the closing place found. -/
def Pass (s : ByteArray) (i k : Nat) (c : Int) : Prop := (c = -1 ∧ P s i = P s k) ∨ ∃ m : Nat, c = (m : Int) ∧ P s i = some (m + 1)

/-- All of [i, j) are backquotes. -/
def Run (s : ByteArray) (i j : Nat) : Prop := ∀ t (h : t < s.size), i ≤ t → t < j → s[t] = 96

theorem Run_next {s : ByteArray} {i j : Nat} (h : Run s i j) (hj : j < s.size) (hc : s[j] = 96) : Run s i (j + 1) := by
  intro t ht h1 h2
  by_cases e : t = j
  · subst e; exact hc
  · exact h t ht h1 (by omega)

theorem P_of_run {s : ByteArray} {i j : Nat} (h : Run s i j) (hij : i ≤ j) (hj : j ≤ s.size) (he : ∀ h : j < s.size, s[j] ≠ 96) :
    ((j - i) % 2 = 1 → P s i = some j) ∧ ((j - i) % 2 = 0 → P s i = P s j) := by
  have e : i + (j - i) = j := by omega
  have := P_run s (j - i) i (by omega) (fun t ht h1 h2 => h t ht h1 (by omega)) (by simpa only [e] using he)
  simpa only [e] using this

theorem U_of_P {s : ByteArray} {i n : Nat} (h : P s i = some n) : ∃ l, U s i = some (l, n) := by
  unfold P at h
  cases hu : U s i with
  | none => rw [hu] at h; simp at h
  | some x => rw [hu] at h; simp at h; exact ⟨x.1, by rw [← h]⟩
theorem U_of_P_none {s : ByteArray} {i : Nat} (h : P s i = none) : U s i = none := by
  unfold P at h; simpa using h
theorem P_of_At {s : ByteArray} {i k : Nat} {acc : List UInt8} (h : At s i k acc) : P s k = P s i := by
  unfold At at h; unfold P; rw [h, Option.map_map]; rfl

/-- The second pass at its end. -/
theorem pass2_end {s : ByteArray} {i k m : Nat} {acc : List UInt8} (h : At s i k acc) (hp : P s i = some (m + 1)) (hk : k ≤ s.size) (hm : m ≤ k) : U s i = some (acc, m + 1) ∧ k = m := by
  obtain ⟨l, hl⟩ := U_of_P ((P_of_At h).trans hp)
  have := U_ge s k _ hk hl
  simp only at this
  have e : k = m := by omega
  have hn : l = [] := this.2.2.1 (by omega)
  unfold At at h
  rw [h, hl, hn]
  simp [e]
/-- .. and before it. -/
theorem pass2_lt {s : ByteArray} {i k m : Nat} {acc : List UInt8} (h : At s i k acc) (hp : P s i = some (m + 1)) (hk : k ≤ s.size) : k ≤ m ∧ m < s.size := by
  obtain ⟨l, hl⟩ := U_of_P ((P_of_At h).trans hp)
  have := U_ge s k _ hk hl
  simp only at this
  omega
theorem pass2_pair {s : ByteArray} {i k m : Nat} {acc : List UInt8} (h : At s i k acc) (hp : P s i = some (m + 1)) (hk : k < s.size) (hm : k < m) (hc : s[k] = 96) : ∃ h' : k + 1 < s.size, s[k + 1] = 96 := by
  have hq := (P_of_At h).trans hp
  rcases Classical.em (∃ h' : k + 1 < s.size, s[k + 1] = 96) with h' | h'
  · exact h'
  · rw [P_close s k hk hc (fun h1 h2 => h' ⟨h1, h2⟩)] at hq
    simp at hq
    omega

theorem Pass_none {s : ByteArray} {i k : Nat} {c : Int} (h : Pass s i k c) (hc : c < 0) : P s i = P s k := by
  rcases h with ⟨_, h⟩ | ⟨m, h, _⟩
  · exact h
  · omega
theorem Pass_some {s : ByteArray} {i k : Nat} {c : Int} (h : Pass s i k c) (hc : ¬ c < 0) : ∃ m : Nat, c = (m : Int) ∧ P s i = some (m + 1) := by
  rcases h with ⟨h, _⟩ | h
  · omega
  · exact h

set_option maxHeartbeats 2000000 in
theorem model_any (s : ByteArray) (st : Nat) (w : World) (hs : s.size ≤ 16777216) (hst : st ≤ s.size) :
    Calls Try.prog 8 #[.string s, .int .i64 (st : Int)] w fun e w' => e = .returned (res (U s (st + 1))) ∧ Below w.heap.size w w' := by
  obtain ⟨i0, hi, hz0, hz1, hz2⟩ := info_parts infoByte
  go_enter Try.func8, Try.ntmps8
  go_wp2
  go_loop [7, 8] (fun c i => ∃ (k : Nat) (cc : Int), c = .int .i64 cc ∧ i = .int .i64 (k : Int) ∧ k ≤ s.size + 1 ∧ -1 ≤ cc ∧ cc ≤ 16777216 ∧ Hid (Pass s (st + 1) k cc)) (fun _ i => s.size + 1 - (intOf i).toNat)
  case atStart => exact ⟨st + 1, -1, rfl, by go_num, by omega, by omega, by omega, .inl ⟨rfl, rfl⟩⟩
  case round =>
    obtain ⟨k, cc, rfl, rfl, hk, hc0, hc1, hp⟩ := hrel
    by_cases hneg : cc < 0
    · have hpn : Hid (P s (st + 1) = P s k) := Pass_none hp.out hneg
      by_cases hlt : k < s.size
      · by_cases hq : ((s[k].toNat : Int) == 96) = true
        · have hqq : Hid (s[k] = 96) := eq96 hq
          go_wp2
          go_loop [9] (fun j => ∃ jj : Nat, j = .int .i64 (jj : Int) ∧ k ≤ jj ∧ jj ≤ s.size ∧ Hid (Run s k jj)) (fun j => s.size - (intOf j).toNat)
          case atStart => exact ⟨k, rfl, Nat.le_refl _, by omega, fun t _ h1 h2 => absurd h1 (by omega)⟩
          case round =>
            obtain ⟨jj, rfl, hj0, hj1, hrun⟩ := hrel
            by_cases hjl : jj < s.size
            · by_cases hjq : ((s[jj].toNat : Int) == 96) = true
              · go_wp2
                go_round
                case rel => exact ⟨jj + 1, by go_num, by omega, by omega, Run_next hrun.out hjl (eq96 hjq)⟩
                case measure => simp [intOf]; omega
              · have hjq' : ((s[jj].toNat : Int) == 96) = false := by simpa using hjq
                clear hjq
                have hend : Hid (∀ h : jj < s.size, s[jj] ≠ 96) := fun _ => ne96 hjq'
                have hkj : k < jj := by
                  rcases Nat.lt_or_ge k jj with h | h
                  · exact h
                  · exfalso; have e : jj = k := by omega
                    subst e; exact ne96 hjq' hqq.out
                by_cases hodd : (jj - k) % 2 = 1
                · have hP := (P_of_run hrun.out hj0 hj1 hend.out).1 hodd
                  have HP : Hid (P s k = some jj) := hP
                  clear hP
                  have ho : ((jj : Int) - (k : Int)) % 2 = 1 := by omega
                  go_wp2
                  go_round
                  case rel => exact ⟨jj, (jj : Int) - 1, rfl, rfl, by omega, by omega, by omega, .inr ⟨jj - 1, by omega, by rw [hpn.out, HP.out]; congr 1; omega⟩⟩
                  case measure => simp [intOf]; omega
                · have HP : Hid (P s k = P s jj) := (P_of_run hrun.out hj0 hj1 hend.out).2 (by omega)
                  have ho : ((jj : Int) - (k : Int)) % 2 = 0 := by omega
                  go_wp2
                  go_round
                  case rel => exact ⟨jj, cc, rfl, rfl, by omega, hc0, hc1, .inl ⟨by omega, hpn.out.trans HP.out⟩⟩
                  case measure => simp [intOf]; omega
            · have hg : decide ((jj : Int) < (s.size : Int)) = false := by simp; omega
              have hend : Hid (∀ h : jj < s.size, s[jj] ≠ 96) := fun h => absurd h hjl
              have hkj : k < jj := by omega
              by_cases hodd : (jj - k) % 2 = 1
              · have HP : Hid (P s k = some jj) := (P_of_run hrun.out hj0 hj1 hend.out).1 hodd
                have ho : ((jj : Int) - (k : Int)) % 2 = 1 := by omega
                go_wp2
                go_round
                case rel => exact ⟨jj, (jj : Int) - 1, rfl, rfl, by omega, by omega, by omega, .inr ⟨jj - 1, by omega, by rw [hpn.out, HP.out]; congr 1; omega⟩⟩
                case measure => simp [intOf]; omega
              · have HP : Hid (P s k = P s jj) := (P_of_run hrun.out hj0 hj1 hend.out).2 (by omega)
                have ho : ((jj : Int) - (k : Int)) % 2 = 0 := by omega
                go_wp2
                go_round
                case rel => exact ⟨jj, cc, rfl, rfl, by omega, hc0, hc1, .inl ⟨by omega, hpn.out.trans HP.out⟩⟩
                case measure => simp [intOf]; omega
        · have hq' : ((s[k].toNat : Int) == 96) = false := by simpa using hq
          clear hq
          go_wp2
          go_round
          case rel => exact ⟨k + 1, cc, rfl, by go_num, by omega, hc0, hc1, .inl ⟨by omega, hpn.out.trans (P_other s k hlt (ne96 hq'))⟩⟩
          case measure => simp [intOf]; omega
      · have hg : decide ((k : Int) < (s.size : Int)) = false := by simp; omega
        go_wp2
        go_ret3
        exact ⟨by rw [U_of_P_none (hpn.out.trans (P_end s k (by omega)))]; rfl, Below.refl _ _⟩
    · obtain ⟨m, hm, hpm⟩ := Pass_some hp.out hneg
      subst hm
      have HM : Hid (P s (st + 1) = some (m + 1)) := hpm
      clear hp hpm hneg
      have hm0 : (0 : Int) ≤ (m : Int) := by omega
      have hst1 : st + 1 ≤ s.size := by
        rcases Nat.lt_or_ge st s.size with h | h
        · exact h
        · have := HM.out; rw [P_end s (st + 1) (by omega)] at this; cases this
      by_cases hlt : k < s.size
      all_goals
        first
          | (have hg : decide ((k : Int) < (s.size : Int)) = false := by simp; omega)
          | skip
        go_wp2
        go_loopw [10, 11] (fun v i wr => ∃ (j : Nat) (acc : List UInt8), i = .int .i64 (j : Int) ∧ j ≤ s.size ∧ acc.length ≤ j ∧ Hid (At s (st + 1) j acc) ∧ wr.ownsRow w.heap.size 5 1 v acc.length (Lib.byteCells acc) ∧ Below w.heap.size w wr)
          (fun _ i _ => s.size + 1 - (intOf i).toNat)
        case atStart => exact ⟨st + 1, [], by go_num, hst1, by simp, At_start _ _, World.ownsRow_nil _ _ _ _, Below.refl _ _⟩
        case round =>
          obtain ⟨j, acc, rfl, hj, hal, hat, hown, hbw⟩ := hrel
          have hjm := pass2_lt hat.out HM.out hj
          have hsz := hbw.size
          have hcv := convert_own wr _ _ _ hown
          by_cases hjl : j < m
          · have hjs : j < s.size := by omega
            clear hcv
            go_wp2_with (at_builtin; refine wpList_append_own _ rfl _ _ 30 rfl w.heap.size 5 i0 (.int .u8 0) 1 1 Try.underlying30 hi hz0 hz1 hz2 rfl (by decide) _ _ _ rfl (hown.alloc _) ⟨wr.heap.size, 0, none⟩ 1 1 [.int .u8 (s[j].toNat : Int)] rfl rfl ?c1 ?c2 ?c3 ?c4 ?c5 ?_)
            case c1 =>
              intro a u ha
              match a, ha with
              | 0, ha => simp at ha; subst ha; simp [Addr.add]
            case c2 => intro u hu; simp at hu; subst hu; rfl
            case c3 => unfold maxLen; omega
            case c4 => omega
            case c5 => simp; omega
            intro v' w1 hown' hgrow _
            have hbw' : Below w.heap.size w w1 := (hbw.alloc (by omega) _).grown hgrow (by simp; omega) (fun k hk => (hown.lt k hk).1)
            clear hgrow
            by_cases hq : ((s[j].toNat : Int) == 96) = true
            · obtain ⟨hj2, hq2⟩ := pass2_pair hat.out HM.out hjs hjl (eq96 hq)
              have HQ : Hid (s[j + 1] = 96) := hq2
              clear hq2
              go_wp2
              go_roundw
              case rel => exact ⟨j + 2, acc ++ [s[j]], by go_num, by omega, by simp; omega, by rw [eq96 hq]; exact At_pair hat.out hj2 (eq96 hq) HQ.out, by rw [Lib.byteCells_append, List.length_append]; exact hown', hbw'⟩
              case measure => simp [intOf]; omega
            · have hq' : ((s[j].toNat : Int) == 96) = false := by simpa using hq
              clear hq
              go_wp2
              go_roundw
              case rel => exact ⟨j + 1, acc ++ [s[j]], by go_num, by omega, by simp; omega, At_other hat.out hjs (ne96 hq'), by rw [Lib.byteCells_append, List.length_append]; exact hown', hbw'⟩
              case measure => simp [intOf]; omega
          · go_wp2
            go_ret3
            exact ⟨by rw [(pass2_end hat.out HM.out hj (by omega)).1]; rfl, hbw⟩
end Go.Proofs.Qxb6605666a
