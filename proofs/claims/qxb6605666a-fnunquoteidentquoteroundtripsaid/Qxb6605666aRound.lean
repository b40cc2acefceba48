/- The walks of zzQuoteIdent and of FnUnquoteIdentQuoteRoundTrip. -/
import Derived.Test.Qxb6605666aModel
namespace Go.Proofs.Qxb6605666a.RoundWalk
open Go.RowKit Plain

theorem take_snoc (s : ByteArray) (k : Nat) (h : k < s.size) : s.data.toList.take (k + 1) = s.data.toList.take k ++ [s[k]] := by
  rw [List.take_succ_eq_append_getElem (by simpa using h)]; rfl

/-- The quoted text so far: the opening backquote and the first k bytes, doubled. -/
def quo (s : ByteArray) (k : Nat) : List UInt8 := 96 :: dbl (s.data.toList.take k)
theorem quo_le (s : ByteArray) (k : Nat) : (quo s k).length ≤ 2 * k + 1 := by
  have h1 := dbl_le (s.data.toList.take k)
  have h2 : (s.data.toList.take k).length ≤ k := List.length_take_le _ _
  simp only [quo, List.length_cons]; omega
theorem quo_pair (s : ByteArray) (k : Nat) (h : k < s.size) (hc : s[k] = 96) : quo s (k + 1) = quo s k ++ [s[k]] ++ [96] := by
  simp [quo, take_snoc s k h, dbl_snoc, hc]
theorem quo_other (s : ByteArray) (k : Nat) (h : k < s.size) (hc : s[k] ≠ 96) : quo s (k + 1) = quo s k ++ [s[k]] := by
  simp [quo, take_snoc s k h, dbl_snoc, hc]

/-- The whole quoted text. -/
def quoted (s : ByteArray) : List UInt8 := 96 :: (dbl s.data.toList ++ [96])
theorem quo_all (s : ByteArray) (k : Nat) (h : s.size ≤ k) : quo s k ++ [96] = quoted s := by
  simp [quo, quoted, List.take_of_length_le (show s.data.toList.length ≤ k by simpa using h)]

theorem own_snoc {w : World} {B : Nat} {v : Value} {l : List UInt8} {c : UInt8} (h : w.ownsRow B 5 1 v (l.length + 1) (Lib.byteCells l ++ [.int .u8 (c.toNat : Int)])) :
    w.ownsRow B 5 1 v (l ++ [c]).length (Lib.byteCells (l ++ [c])) := by
  rw [Lib.byteCells_append, List.length_append]; exact h

set_option maxHeartbeats 2000000 in
theorem quote_any (s : ByteArray) (w : World) (hs : s.size ≤ 1048576) :
    Calls Try.prog 10 #[.string s] w fun e w' => e = .returned (.string ⟨(quoted s).toArray⟩) ∧ Below w.heap.size w w' := by
  obtain ⟨i0, hi, hz0, hz1, hz2⟩ := info_parts infoByte
  go_enter Try.func10, Try.ntmps10
  go_wp2_with (at_make; refine wpList_make_own _ rfl _ _ 30 rfl w.heap.size 5 i0 (.int .u8 0) 1 Try.underlying30 hi hz0 hz1 _ _ _ (2 * s.size + 2) rfl rfl (by omega) ?b2 ?b3 (Nat.le_refl _) ?_)
  case b2 => rw [hz2]; omega
  case b3 => unfold maxLen; omega
  intro wm hownm hgm
  have hbm : Below w.heap.size w wm := (Below.refl _ _).grown hgm (Nat.le_refl _) (fun k hk => by cases hk)
  have hszm := hbm.size
  clear hgm
  go_wp2_with (at_builtin; refine wpList_append_own _ rfl _ _ 30 rfl w.heap.size 5 i0 (.int .u8 0) 1 1 Try.underlying30 hi hz0 hz1 hz2 rfl (by decide) _ _ _ rfl (hownm.alloc _) ⟨wm.heap.size, 0, none⟩ 1 1 [.int .u8 96] rfl rfl ?c1 ?c2 ?c3 ?c4 ?c5 ?_)
  case c1 =>
    intro a u ha
    match a, ha with
    | 0, ha => simp at ha; subst ha; simp [Addr.add]
  case c2 => intro u hu; simp at hu; subst hu; rfl
  case c3 => unfold maxLen; omega
  case c4 => omega
  case c5 => simp; omega
  intro v1 w1 hown1 hg1 _
  have hb1 : Below w.heap.size w w1 := (hbm.alloc (by omega) _).grown hg1 (by simp; omega) (fun k hk => (hownm.lt k hk).1)
  have hown1' : w1.ownsRow w.heap.size 5 1 v1 (quo s 0).length (Lib.byteCells (quo s 0)) := by simpa [quo, dbl, Lib.byteCells] using hown1
  clear hg1 hown1 hownm
  go_wp2
  go_loopw [3, 4] (fun v i wr => ∃ k : Nat, i = .int .i64 (k : Int) ∧ k ≤ s.size ∧ wr.ownsRow w.heap.size 5 1 v (quo s k).length (Lib.byteCells (quo s k)) ∧ Below w.heap.size w wr) (fun _ i _ => s.size - (intOf i).toNat)
  case atStart => exact ⟨0, rfl, Nat.zero_le _, hown1', hb1⟩
  case round =>
    clear hown1' hb1
    obtain ⟨k, rfl, hk, hown, hbw⟩ := hrel
    have hsz := hbw.size
    have hql := quo_le s k
    by_cases hlt : k < s.size
    · go_wp2_with (at_builtin; refine wpList_append_own _ rfl (.tmp 19) (.tmp 23) 30 rfl w.heap.size 5 i0 (.int .u8 0) 1 1 Try.underlying30 hi hz0 hz1 hz2 rfl (by decide) _ _ _ rfl (hown.alloc _) ⟨wr.heap.size, 0, none⟩ 1 1 [.int .u8 (s[k].toNat : Int)] rfl rfl ?c1 ?c2 ?c3 ?c4 ?c5 ?_)
      case c1 =>
        intro a u ha
        match a, ha with
        | 0, ha => simp at ha; subst ha; simp [Addr.add]
      case c2 => intro u hu; simp at hu; subst hu; rfl
      case c3 => unfold maxLen; omega
      case c4 => omega
      case c5 => simp; omega
      intro v2 w2 hown2 hg2 _
      have hb2 : Below w.heap.size w w2 := (hbw.alloc (by omega) _).grown hg2 (by simp; omega) (fun k hk => (hown.lt k hk).1)
      have hown2' := own_snoc hown2
      have hsz2 := hb2.size
      clear hg2 hown2 hown hbw
      by_cases hq : ((s[k].toNat : Int) == 96) = true
      · go_wp2_with (at_builtin; refine wpList_append_own _ rfl (.tmp 29) (.tmp 30) 30 rfl w.heap.size 5 i0 (.int .u8 0) 1 1 Try.underlying30 hi hz0 hz1 hz2 rfl (by decide) _ _ _ rfl (hown2'.alloc _) ⟨w2.heap.size, 0, none⟩ 1 1 [.int .u8 96] rfl rfl ?d1 ?d2 ?d3 ?d4 ?d5 ?_)
        case d1 =>
          intro a u ha
          match a, ha with
          | 0, ha => simp at ha; subst ha; simp [Addr.add]
        case d2 => intro u hu; simp at hu; subst hu; rfl
        case d3 => unfold maxLen; simp; omega
        case d4 => simp; omega
        case d5 => simp; omega
        intro v3 w3 hown3 hg3 _
        have hb3 : Below w.heap.size w w3 := (hb2.alloc (by omega) _).grown hg3 (by simp; omega) (fun k hk => (hown2'.lt k hk).1)
        have hown3' := own_snoc (l := quo s k ++ [s[k]]) (c := 96) (by rw [List.length_append]; exact hown3)
        rw [← quo_pair s k hlt (eq96 hq)] at hown3'
        clear hg3 hown3 hown2' hb2
        go_wp2
        go_roundw
        case rel => exact ⟨k + 1, by go_num, by omega, hown3', hb3⟩
        case measure => simp [intOf]; omega
      · have hq' : ((s[k].toNat : Int) == 96) = false := by simpa using hq
        clear hq
        rw [← quo_other s k hlt (ne96 hq')] at hown2'
        go_wp2
        go_roundw
        case rel => exact ⟨k + 1, by go_num, by omega, hown2', hb2⟩
        case measure => simp [intOf]; omega
    · go_wp2_with (at_builtin; refine wpList_append_own _ rfl (.tmp 32) (.tmp 33) 30 rfl w.heap.size 5 i0 (.int .u8 0) 1 1 Try.underlying30 hi hz0 hz1 hz2 rfl (by decide) _ _ _ rfl (hown.alloc _) ⟨wr.heap.size, 0, none⟩ 1 1 [.int .u8 96] rfl rfl ?e1 ?e2 ?e3 ?e4 ?e5 ?_)
      case e1 =>
        intro a u ha
        match a, ha with
        | 0, ha => simp at ha; subst ha; simp [Addr.add]
      case e2 => intro u hu; simp at hu; subst hu; rfl
      case e3 => unfold maxLen; omega
      case e4 => omega
      case e5 => simp; omega
      intro v2 w2 hown2 hg2 _
      have hb2 : Below w.heap.size w w2 := (hbw.alloc (by omega) _).grown hg2 (by simp; omega) (fun k hk => (hown.lt k hk).1)
      have hown2' := own_snoc (c := 96) hown2
      rw [quo_all s k (by omega)] at hown2'
      have hcv := convert_own w2 _ _ _ hown2'
      clear hg2 hown2 hown hbw hown2'
      go_wp2
      go_ret
      exact ⟨rfl, hb2⟩

theorem U_round (a b c : ByteArray) (h : ∀ h0 : 0 < c.size, c[0] ≠ 96) :
    U (a ++ (⟨(quoted b).toArray⟩ : ByteArray) ++ c) (a.size + 1) = some (b.data.toList, a.size + (quoted b).length) := by
  have e : (a ++ (⟨(quoted b).toArray⟩ : ByteArray) ++ c).data.toList = (a.data.toList ++ [96]) ++ (dbl b.data.toList ++ 96 :: c.data.toList) := by
    simp [ByteArray.data_append, quoted]
  have hl : (a.data.toList ++ [(96 : UInt8)]).length = a.size + 1 := by simp
  unfold U
  rw [e, List.drop_append_of_le_length (by rw [hl]; exact Nat.le_refl _), List.drop_eq_nil_of_le (by rw [hl]; exact Nat.le_refl _), List.nil_append, unq_dbl]
  · simp [quoted]; omega
  · by_cases h0 : 0 < c.size
    · have := h h0
      have e2 := drop_at c 0 h0
      simp only [List.drop_zero] at e2
      rw [e2]; simpa using this
    · have : c.data.toList = [] := List.eq_nil_of_length_eq_zero (by rw [Array.length_toList]; show c.size = 0; omega)
      rw [this]; simp

theorem bytes_yes (a b c : ByteArray) (w : World) (h : a.size + b.size + c.size ≤ 1048576) :
    Calls Try.prog 9 #[.string a, .string b, .string c] w fun e w' => e = .returned (.bool true) ∧ w' = w := by
  have h1 : a.size ≤ 1048576 := by omega
  have h2 : b.size ≤ 1048576 := by omega
  have h3 : c.size ≤ 1048576 := by omega
  have h4 : a.size + b.size ≤ 1048576 := by omega
  go_enter Try.func9, Try.ntmps9
  go_wp2
  go_ret
  exact ⟨rfl, rfl⟩
theorem bytes_no (a b c : ByteArray) (w : World) (ha : a.size ≤ maxLen) (hb : b.size ≤ maxLen) (hc : c.size ≤ maxLen) (h : 1048576 < a.size + b.size + c.size) :
    Calls Try.prog 9 #[.string a, .string b, .string c] w fun e w' => e = .returned (.bool false) ∧ w' = w := by
  unfold maxLen at ha hb hc
  by_cases h1 : 1048576 < a.size
  · go_enter Try.func9, Try.ntmps9
    go_wp2
    go_ret
    exact ⟨rfl, rfl⟩
  by_cases h2 : 1048576 < b.size
  · go_enter Try.func9, Try.ntmps9
    go_wp2
    go_ret
    exact ⟨rfl, rfl⟩
  by_cases h3 : 1048576 < a.size + b.size
  · go_enter Try.func9, Try.ntmps9
    go_wp2
    go_ret
    exact ⟨rfl, rfl⟩
  by_cases h4 : 1048576 < c.size
  · go_enter Try.func9, Try.ntmps9
    go_wp2
    go_ret
    exact ⟨rfl, rfl⟩
  · go_enter Try.func9, Try.ntmps9
    go_wp2
    go_ret
    exact ⟨rfl, rfl⟩

theorem res_round (b : ByteArray) (n : Nat) : res (some (b.data.toList, n)) = .tuple #[.string b, .int .i64 (n : Int), .bool true] := by
  simp [res]

theorem walk (a0 : ByteArray) (a1 : ByteArray) (a2 : ByteArray) (w0 : a0.size ≤ maxLen) (w1 : a1.size ≤ maxLen) (w2 : a2.size ≤ maxLen) (w : World) :
    Calls Try.prog 4 #[.string a0, .string a1, .string a2] w fun e w' => e = .returned (.bool true) ∧ Below w.heap.size w w' := by
  by_cases hb : a0.size + a1.size + a2.size ≤ 1048576
  · have h1 : a0.size ≤ 1048576 := by omega
    have h2 : a1.size ≤ 1048576 := by omega
    have h3 : a2.size ≤ 1048576 := by omega
    clear w0 w1 w2
    have tail : (∀ h0 : 0 < a2.size, a2[0] ≠ 96) → ((0 < a2.size ∧ ∀ h0 : 0 < a2.size, ((a2[0].toNat : Int) == 96) = false) ∨ a2.size = 0) →
        Calls Try.prog 4 #[.string a0, .string a1, .string a2] w fun e w' => e = .returned (.bool true) ∧ Below w.heap.size w w' := by
      intro hsuf hway
      have HU : Hid (U (a0 ++ (⟨(quoted a1).toArray⟩ : ByteArray) ++ a2) (a0.size + 1) = some (a1.data.toList, a0.size + (quoted a1).length)) := U_round a0 a1 a2 hsuf
      have hql : (quoted a1).length ≤ 2 * a1.size + 2 := by
        have := dbl_le a1.data.toList
        simp [quoted]; simpa using this
      have hqs : (a0 ++ (⟨(quoted a1).toArray⟩ : ByteArray) ++ a2).size = a0.size + (quoted a1).length + a2.size := by
        rw [ByteArray.size_append, ByteArray.size_append]; show a0.size + (quoted a1).toArray.size + a2.size = _; rw [List.size_toArray]
      have HQ : Hid ((a0 ++ (⟨(quoted a1).toArray⟩ : ByteArray) ++ a2).size = a0.size + (quoted a1).length + a2.size) := hqs
      clear hqs
      rcases hway with ⟨hp, hz⟩ | hz
      · have hz' := hz hp
        clear hz hsuf
        go_enter Try.func4, Try.ntmps4
        go_wp2_with (first
          | (go_at_call 9; refine (bytes_yes _ _ _ _ hb).mono ?_; rintro e w' ⟨rfl, rfl⟩)
          | (go_at_call 10; refine (quote_any _ _ h2).mono ?_))
        rintro e wa ⟨rfl, ba⟩
        go_wp2_with fail
        refine (zzunquote_any _ a0.size _ (by rw [HQ.out]; omega) (by rw [HQ.out]; omega)).mono ?_
        rintro e wb ⟨rfl, bb⟩
        rw [HU.out, res_round]
        go_wp2
        go_ret
        exact ⟨rfl, ba.trans (bb.mono ba.size)⟩
      · have hg : decide ((0 : Int) < (a2.size : Int)) = false := decide_eq_false (by omega)
        clear hsuf
        go_enter Try.func4, Try.ntmps4
        go_wp2_with (first
          | (go_at_call 9; refine (bytes_yes _ _ _ _ hb).mono ?_; rintro e w' ⟨rfl, rfl⟩)
          | (go_at_call 10; refine (quote_any _ _ h2).mono ?_))
        rintro e wa ⟨rfl, ba⟩
        go_wp2_with fail
        refine (zzunquote_any _ a0.size _ (by rw [HQ.out]; omega) (by rw [HQ.out]; omega)).mono ?_
        rintro e wb ⟨rfl, bb⟩
        rw [HU.out, res_round]
        go_wp2
        go_ret
        exact ⟨rfl, ba.trans (bb.mono ba.size)⟩
    by_cases hp : 0 < a2.size
    · by_cases hq : ((a2[0].toNat : Int) == 96) = true
      · clear tail
        go_enter Try.func4, Try.ntmps4
        go_wp2_with (go_at_call 9; refine (bytes_yes _ _ _ _ hb).mono ?_; rintro e w' ⟨rfl, rfl⟩)
        go_ret
        exact ⟨rfl, Below.refl _ _⟩
      · have hq' : ((a2[0].toNat : Int) == 96) = false := by simpa using hq
        exact tail (fun _ => ne96 hq') (.inl ⟨hp, fun _ => hq'⟩)
    · exact tail (fun h => absurd h hp) (.inr (by omega))
  · go_enter Try.func4, Try.ntmps4
    go_wp2_with (go_at_call 9; refine (bytes_no _ _ _ _ w0 w1 w2 (by omega)).mono ?_; rintro e w' ⟨rfl, rfl⟩)
    go_ret
    exact ⟨rfl, Below.refl _ _⟩
end Go.Proofs.Qxb6605666a.RoundWalk
