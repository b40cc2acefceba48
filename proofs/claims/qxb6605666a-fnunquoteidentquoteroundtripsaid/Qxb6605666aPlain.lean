/- Plain mathematics: how a backquoted identifier is read. No Go in sight. -/
namespace Go.Proofs.Qxb6605666a.Plain

/-- Read a quoted identifier from position p on, the bytes from there being the list: the identifier and the place behind the closing backquote. -/
def unq : List UInt8 → Nat → Option (List UInt8 × Nat)
  | [], _ => none
  | [c], p => if c = 96 then some ([], p + 1) else none
  | c :: d :: r, p =>
    if c = 96 then (if d = 96 then (unq r (p + 2)).map (fun x => (96 :: x.1, x.2)) else some ([], p + 1))
    else (unq (d :: r) (p + 1)).map (fun x => (c :: x.1, x.2))

theorem unq_other (c : UInt8) (r : List UInt8) (p : Nat) (h : c ≠ 96) : unq (c :: r) p = (unq r (p + 1)).map (fun x => (c :: x.1, x.2)) := by
  cases r with
  | nil => simp [unq, h]
  | cons d r => simp [unq, h]
theorem unq_pair (r : List UInt8) (p : Nat) : unq (96 :: 96 :: r) p = (unq r (p + 2)).map (fun x => (96 :: x.1, x.2)) := by
  simp [unq]
theorem unq_close (r : List UInt8) (p : Nat) (h : r.head? ≠ some 96) : unq (96 :: r) p = some ([], p + 1) := by
  cases r with
  | nil => simp [unq]
  | cons d r =>
    have : d ≠ 96 := by simpa using h
    simp [unq, this]
theorem unq_ge : ∀ (n : Nat) (l : List UInt8) (p : Nat) (x : List UInt8 × Nat), l.length ≤ n → unq l p = some x → p + 1 ≤ x.2 ∧ x.2 ≤ p + l.length ∧ (x.2 = p + 1 → x.1 = []) ∧ x.1.length + p < x.2
  | 0, l, p, x, hl, h => by
    have : l = [] := List.eq_nil_of_length_eq_zero (by omega)
    subst this; simp [unq] at h
  | n + 1, [], p, x, _, h => by simp [unq] at h
  | n + 1, c :: r, p, x, hl, h => by
    simp only [List.length_cons] at hl
    by_cases hc : c = 96
    · subst hc
      match r, hl, h with
      | [], _, h => simp [unq] at h; subst h; simp
      | d :: r, hl, h =>
        by_cases hd : d = 96
        · subst hd
          rw [unq_pair] at h
          simp only [List.length_cons] at hl
          cases hu : unq r (p + 2) with
          | none => rw [hu] at h; simp at h
          | some y =>
            rw [hu] at h
            simp only [Option.map_some, Option.some.injEq] at h
            have := unq_ge n r (p + 2) y (by omega) hu
            subst h
            simp only [List.length_cons]
            refine ⟨by omega, by omega, fun e => by omega, by omega⟩
        · rw [unq_close _ _ (by simpa using hd)] at h
          simp only [Option.some.injEq] at h
          subst h
          simp
    · rw [unq_other _ _ _ hc] at h
      cases hu : unq r (p + 1) with
      | none => rw [hu] at h; simp at h
      | some y =>
        rw [hu] at h
        simp only [Option.map_some, Option.some.injEq] at h
        have := unq_ge n r (p + 1) y (by omega) hu
        subst h
        simp only [List.length_cons]
        refine ⟨by omega, by omega, fun e => by omega, by omega⟩

/-- The same at place i of the text s. -/
def U (s : ByteArray) (i : Nat) : Option (List UInt8 × Nat) := unq (s.data.toList.drop i) i

theorem drop_at (s : ByteArray) (i : Nat) (h : i < s.size) : s.data.toList.drop i = s[i] :: s.data.toList.drop (i + 1) := by
  rw [List.drop_eq_getElem_cons (by simpa using h)]; rfl
theorem U_end (s : ByteArray) (i : Nat) (h : s.size ≤ i) : U s i = none := by
  unfold U; rw [List.drop_eq_nil_of_le (by simpa using h)]; rfl
theorem U_other (s : ByteArray) (i : Nat) (h : i < s.size) (hc : s[i] ≠ 96) : U s i = (U s (i + 1)).map (fun x => (s[i] :: x.1, x.2)) := by
  unfold U; rw [drop_at s i h, unq_other _ _ _ hc]
theorem U_pair (s : ByteArray) (i : Nat) (h : i + 1 < s.size) (hc : s[i] = 96) (hd : s[i + 1] = 96) : U s i = (U s (i + 2)).map (fun x => (96 :: x.1, x.2)) := by
  unfold U; rw [drop_at s i (by omega), drop_at s (i + 1) h, hc, hd, unq_pair]
theorem U_close (s : ByteArray) (i : Nat) (h : i < s.size) (hc : s[i] = 96) (hd : ∀ h' : i + 1 < s.size, s[i + 1] ≠ 96) : U s i = some ([], i + 1) := by
  unfold U; rw [drop_at s i h, hc, unq_close]
  by_cases h' : i + 1 < s.size
  · rw [drop_at s (i + 1) h']; simpa using hd h'
  · rw [List.drop_eq_nil_of_le (by simp; omega)]; simp
theorem U_ge (s : ByteArray) (i : Nat) (x : List UInt8 × Nat) (hi : i ≤ s.size) (h : U s i = some x) : i + 1 ≤ x.2 ∧ x.2 ≤ s.size ∧ (x.2 = i + 1 → x.1 = []) ∧ x.1.length + i < x.2 := by
  have := unq_ge _ _ _ _ (Nat.le_refl _) h
  have hl : (s.data.toList.drop i).length = s.size - i := by simp
  rw [hl] at this
  exact ⟨this.1, by omega, this.2.2.1, this.2.2.2⟩

/-! ### Runs of backquotes: where the reader closes -/
/-- Where the reader closes, from place i on. -/
def P (s : ByteArray) (i : Nat) : Option Nat := (U s i).map (fun x => x.2)
theorem P_other (s : ByteArray) (i : Nat) (h : i < s.size) (hc : s[i] ≠ 96) : P s i = P s (i + 1) := by
  unfold P; rw [U_other s i h hc, Option.map_map]; rfl
theorem P_pair (s : ByteArray) (i : Nat) (h : i + 1 < s.size) (hc : s[i] = 96) (hd : s[i + 1] = 96) : P s i = P s (i + 2) := by
  unfold P; rw [U_pair s i h hc hd, Option.map_map]; rfl
theorem P_close (s : ByteArray) (i : Nat) (h : i < s.size) (hc : s[i] = 96) (hd : ∀ h' : i + 1 < s.size, s[i + 1] ≠ 96) : P s i = some (i + 1) := by
  unfold P; rw [U_close s i h hc hd]; rfl
theorem P_end (s : ByteArray) (i : Nat) (h : s.size ≤ i) : P s i = none := by unfold P; rw [U_end s i h]; rfl
/-- A run of m backquotes at i, behind which no backquote stands. -/
theorem P_run (s : ByteArray) : ∀ (m i : Nat), i + m ≤ s.size → (∀ t (h : t < s.size), i ≤ t → t < i + m → s[t] = 96) → (∀ h : i + m < s.size, s[i + m] ≠ 96) →
    (m % 2 = 1 → P s i = some (i + m)) ∧ (m % 2 = 0 → P s i = P s (i + m))
  | 0, i, _, _, _ => ⟨fun h => by omega, fun _ => rfl⟩
  | 1, i, hl, hr, he => ⟨fun _ => P_close s i (by omega) (hr i (by omega) (by omega) (by omega)) he, fun h => by omega⟩
  | m + 2, i, hl, hr, he => by
    have h := P_run s m (i + 2) (by omega) (fun t h h1 h2 => hr t h (by omega) (by omega)) (fun h => by have e : i + 2 + m = i + (m + 2) := by omega
                                                                                                        have := he (by omega); simpa only [e] using this)
    rw [P_pair s i (by omega) (hr i (by omega) (by omega) (by omega)) (hr (i + 1) (by omega) (by omega) (by omega))]
    have e : i + 2 + m = i + (m + 2) := by omega
    rw [e] at h
    exact ⟨fun h' => h.1 (by omega), fun h' => h.2 (by omega)⟩

/-! ### Quoting -/
/-- Each backquote doubled. -/
def dbl : List UInt8 → List UInt8
  | [] => []
  | c :: r => if c = 96 then 96 :: 96 :: dbl r else c :: dbl r
theorem dbl_snoc (l : List UInt8) (c : UInt8) : dbl (l ++ [c]) = dbl l ++ (if c = 96 then [96, 96] else [c]) := by
  induction l with
  | nil => by_cases h : c = 96 <;> simp [dbl, h]
  | cons d l ih => by_cases h : d = 96 <;> simp [dbl, h, ih]
theorem dbl_le (l : List UInt8) : (dbl l).length ≤ 2 * l.length := by
  induction l with
  | nil => simp [dbl]
  | cons d l ih => by_cases h : d = 96 <;> simp [dbl, h] <;> omega
theorem unq_dbl (l suf : List UInt8) (p : Nat) (h : suf.head? ≠ some 96) : unq (dbl l ++ 96 :: suf) p = some (l, p + (dbl l).length + 1) := by
  induction l generalizing p with
  | nil => simp [dbl, unq_close _ _ h]
  | cons d l ih =>
    by_cases hd : d = 96
    · subst hd
      simp only [dbl, if_true, List.cons_append, List.length_cons]
      rw [unq_pair, ih]
      simp; omega
    · simp only [dbl, if_neg hd, List.cons_append, List.length_cons]
      rw [unq_other _ _ _ hd, ih]
      simp; omega
end Go.Proofs.Qxb6605666a.Plain
