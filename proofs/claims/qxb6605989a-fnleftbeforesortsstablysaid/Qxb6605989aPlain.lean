/- Plain mathematics: the order of servers by what they have left, ties by number; a bottom-up merge sort and an insertion sort, by functions on indices. No Go in sight. -/
namespace Go.Proofs.Qxb6605989a.Plain

/-- Server i comes before server j. -/
def lt (K : Nat → Int) (i j : Nat) : Prop := K i < K j ∨ (K i = K j ∧ i < j)
theorem lt_trans {K : Nat → Int} {a b c : Nat} (h1 : lt K a b) (h2 : lt K b c) : lt K a c := by unfold lt at *; omega
theorem lt_irrefl {K : Nat → Int} {a : Nat} : ¬ lt K a a := by unfold lt; omega
theorem lt_asymm {K : Nat → Int} {a b : Nat} (h : lt K a b) : ¬ lt K b a := by unfold lt at *; omega
theorem lt_total {K : Nat → Int} {a b : Nat} (h : a ≠ b) : lt K a b ∨ lt K b a := by unfold lt; omega
theorem lt_ne {K : Nat → Int} {a b : Nat} (h : lt K a b) : a ≠ b := by rintro rfl; exact lt_irrefl h
def ltb (K : Nat → Int) (i j : Nat) : Bool := decide (K i < K j) || (decide (K i = K j) && decide (i < j))
theorem ltb_iff {K : Nat → Int} {i j : Nat} : ltb K i j = true ↔ lt K i j := by unfold ltb lt; simp
theorem ltb_false {K : Nat → Int} {i j : Nat} : ltb K i j = false ↔ ¬ lt K i j := by
  rw [← ltb_iff]; simp

/-- A function turned at one place. -/
def upd (f : Nat → Nat) (i v : Nat) : Nat → Nat := fun j => if j = i then v else f j
theorem upd_at (f : Nat → Nat) (i v : Nat) : upd f i v i = v := by simp [upd]
theorem upd_off (f : Nat → Nat) (i v j : Nat) (h : j ≠ i) : upd f i v j = f j := by simp [upd, h]

/-- A block: its servers are those of its own places, in order. -/
def Into (A : Nat → Nat) (lo hi : Nat) : Prop := ∀ i, lo ≤ i → i < hi → lo ≤ A i ∧ A i < hi
def Inc (K : Nat → Int) (A : Nat → Nat) (lo hi : Nat) : Prop := ∀ i j, lo ≤ i → i < j → j < hi → lt K (A i) (A j)
def Blk (K : Nat → Int) (A : Nat → Nat) (lo hi : Nat) : Prop := Into A lo hi ∧ Inc K A lo hi
theorem Blk_congr {K : Nat → Int} {A B : Nat → Nat} {lo hi : Nat} (h : Blk K A lo hi) (e : ∀ i, lo ≤ i → i < hi → B i = A i) : Blk K B lo hi :=
  ⟨fun i h1 h2 => by rw [e i h1 h2]; exact h.1 i h1 h2, fun i j h1 h2 h3 => by rw [e i h1 (by omega), e j (by omega) h3]; exact h.2 i j h1 h2 h3⟩

/-! ### A merge -/
/-- The merge of [lo, mid) and [mid, hi) of A into B, x and y taken so far. -/
def Mrg (K : Nat → Int) (A B : Nat → Nat) (lo mid hi x y k : Nat) : Prop :=
  lo ≤ x ∧ x ≤ mid ∧ mid ≤ y ∧ y ≤ hi ∧ k + mid = x + y ∧ (∀ i, lo ≤ i → i < k → lo ≤ B i ∧ B i < hi) ∧ Inc K B lo k ∧
  (∀ i, lo ≤ i → i < k → (∀ j, x ≤ j → j < mid → lt K (B i) (A j)) ∧ (∀ j, y ≤ j → j < hi → lt K (B i) (A j)))
theorem Mrg_start (K : Nat → Int) (A B : Nat → Nat) (lo mid hi : Nat) (h1 : lo ≤ mid) (h2 : mid ≤ hi) : Mrg K A B lo mid hi lo mid lo :=
  ⟨Nat.le_refl _, h1, Nat.le_refl _, h2, rfl, fun i a b => by omega, fun i j a b c => by omega, fun i a b => by omega⟩
/-- What holds of the chosen one makes the next state. -/
theorem Mrg_put {K : Nat → Int} {A B : Nat → Nat} {lo mid hi x y k x' y' v : Nat} (h : Mrg K A B lo mid hi x y k) (hx : x ≤ x') (hx' : x' ≤ mid) (hy : y ≤ y') (hy' : y' ≤ hi) (hs : x' + y' = x + y + 1)
    (hv : lo ≤ v ∧ v < hi) (hb : ∀ i, lo ≤ i → i < k → lt K (B i) v) (h1 : ∀ j, x' ≤ j → j < mid → lt K v (A j)) (h2 : ∀ j, y' ≤ j → j < hi → lt K v (A j)) :
    Mrg K A (upd B k v) lo mid hi x' y' (k + 1) := by
  obtain ⟨a1, a2, a3, a4, a5, a6, a7, a8⟩ := h
  refine ⟨by omega, hx', by omega, hy', by omega, ?_, ?_, ?_⟩
  · intro i i1 i2
    by_cases e : i = k
    · subst e; rw [upd_at]; exact hv
    · rw [upd_off _ _ _ _ e]; exact a6 i i1 (by omega)
  · intro i j i1 i2 i3
    by_cases e : j = k
    · subst e; rw [upd_at, upd_off _ _ _ _ (by omega)]; exact hb i i1 i2
    · rw [upd_off _ _ _ _ e, upd_off _ _ _ _ (by omega)]; exact a7 i j i1 i2 (by omega)
  · intro i i1 i2
    by_cases e : i = k
    · subst e; rw [upd_at]; exact ⟨h1, h2⟩
    · rw [upd_off _ _ _ _ e]
      exact ⟨fun j j1 j2 => (a8 i i1 (by omega)).1 j (by omega) j2, fun j j1 j2 => (a8 i i1 (by omega)).2 j (by omega) j2⟩
theorem Mrg_left {K : Nat → Int} {A B : Nat → Nat} {lo mid hi x y k : Nat} (h : Mrg K A B lo mid hi x y k) (b1 : Blk K A lo mid) (b2 : Blk K A mid hi) (hk : k < hi)
    (hc : hi ≤ y ∨ (x < mid ∧ K (A x) ≤ K (A y))) : x < mid ∧ Mrg K A (upd B k (A x)) lo mid hi (x + 1) y (k + 1) := by
  have hxm : x < mid := by obtain ⟨a1, a2, a3, a4, a5, _⟩ := h; omega
  refine ⟨hxm, ?_⟩
  have hh := h
  obtain ⟨a1, a2, a3, a4, a5, a6, a7, a8⟩ := hh
  have hax := b1.1 x a1 hxm
  refine Mrg_put h (by omega) (by omega) (Nat.le_refl _) a4 (by omega) ⟨by omega, by omega⟩ (fun i i1 i2 => (a8 i i1 i2).1 x (Nat.le_refl _) hxm) (fun j j1 j2 => b1.2 x j a1 (by omega) j2) ?_
  intro j j1 j2
  rcases hc with hc | ⟨_, hc⟩
  · omega
  · have hay := b2.1 y a3 (by omega)
    have hxy : lt K (A x) (A y) := by unfold lt; omega
    by_cases e : j = y
    · subst e; exact hxy
    · exact lt_trans hxy (b2.2 y j a3 (by omega) j2)
theorem Mrg_right {K : Nat → Int} {A B : Nat → Nat} {lo mid hi x y k : Nat} (h : Mrg K A B lo mid hi x y k) (b1 : Blk K A lo mid) (b2 : Blk K A mid hi) (hy : y < hi)
    (hc : mid ≤ x ∨ K (A y) < K (A x)) : Mrg K A (upd B k (A y)) lo mid hi x (y + 1) (k + 1) := by
  have hh := h
  obtain ⟨a1, a2, a3, a4, a5, a6, a7, a8⟩ := hh
  have hay := b2.1 y a3 hy
  refine Mrg_put h (Nat.le_refl _) a2 (by omega) (by omega) (by omega) ⟨by omega, by omega⟩ (fun i i1 i2 => (a8 i i1 i2).2 y (Nat.le_refl _) hy) ?_ (fun j j1 j2 => b2.2 y j a3 (by omega) j2)
  intro j j1 j2
  rcases hc with hc | hc
  · omega
  · have hyx : lt K (A y) (A x) := Or.inl hc
    by_cases e : j = x
    · subst e; exact hyx
    · exact lt_trans hyx (b1.2 x j a1 (by omega) j2)
theorem Mrg_end {K : Nat → Int} {A B : Nat → Nat} {lo mid hi x y k : Nat} (h : Mrg K A B lo mid hi x y k) (hk : hi ≤ k) : Blk K B lo hi := by
  obtain ⟨a1, a2, a3, a4, a5, a6, a7, a8⟩ := h
  have e : k = hi := by omega
  subst e
  exact ⟨a6, a7⟩

/-! ### A pass, and all passes -/
def Lvl (K : Nat → Int) (A : Nat → Nat) (w n : Nat) : Prop := ∀ q, w * q < n → Blk K A (w * q) (min (w * q + w) n)
/-- The first q pairs of blocks are merged. -/
def Pass (K : Nat → Int) (B : Nat → Nat) (w n q : Nat) : Prop := ∀ p, p < q → Blk K B (2 * (w * p)) (min (2 * (w * p) + 2 * w) n)
theorem Lvl_start (K : Nat → Int) (A : Nat → Nat) (n : Nat) (h : ∀ i, i < n → A i = i) : Lvl K A 1 n := by
  intro q hq
  refine ⟨fun i h1 h2 => ?_, fun i j h1 h2 h3 => ?_⟩
  · rw [h i (by omega)]; omega
  · omega
theorem Pass_start (K : Nat → Int) (B : Nat → Nat) (w n : Nat) : Pass K B w n 0 := fun p hp => by omega
theorem mul_lt {w p q : Nat} (h : p < q) : w * p + w ≤ w * q := by
  have := Nat.mul_le_mul_left w (show p + 1 ≤ q from h)
  rw [Nat.mul_add, Nat.mul_one] at this
  exact this
theorem Pass_keep {K : Nat → Int} {B B' : Nat → Nat} {w n q : Nat} (h : Pass K B w n q) (e : ∀ i, i < 2 * (w * q) → B' i = B i) : Pass K B' w n q := by
  intro p hp
  have := mul_lt (w := w) hp
  exact Blk_congr (h p hp) (fun i h1 h2 => e i (by omega))
theorem Pass_next {K : Nat → Int} {B : Nat → Nat} {w n q : Nat} (h : Pass K B w n q) (hb : Blk K B (2 * (w * q)) (min (2 * (w * q) + 2 * w) n)) : Pass K B w n (q + 1) := by
  intro p hp
  by_cases e : p = q
  · subst e; exact hb
  · exact h p (by omega)
theorem Pass_end {K : Nat → Int} {B : Nat → Nat} {w n q : Nat} (h : Pass K B w n q) (hq : n ≤ 2 * (w * q)) : Lvl K B (2 * w) n := by
  intro p hp
  have e : 2 * w * p = 2 * (w * p) := Nat.mul_assoc 2 w p
  rw [e] at hp ⊢
  refine h p ?_
  rcases Nat.lt_or_ge p q with h' | h'
  · exact h'
  · have := Nat.mul_le_mul_left w h'
    omega
theorem Lvl_pair {K : Nat → Int} {A : Nat → Nat} {w n q : Nat} (h : Lvl K A w n) (hq : 2 * (w * q) < n) :
    Blk K A (2 * (w * q)) (min (2 * (w * q) + w) n) ∧ Blk K A (min (2 * (w * q) + w) n) (min (2 * (w * q) + 2 * w) n) := by
  have e0 : w * (2 * q) = 2 * (w * q) := by rw [Nat.mul_left_comm]
  have e1 : w * (2 * q + 1) = 2 * (w * q) + w := by rw [Nat.mul_add, e0, Nat.mul_one]
  have h0 := h (2 * q)
  have h1 := h (2 * q + 1)
  rw [e0] at h0
  rw [e1] at h1
  refine ⟨h0 hq, ?_⟩
  by_cases hl : 2 * (w * q) + w < n
  · have := h1 hl
    rw [show min (2 * (w * q) + w) n = 2 * (w * q) + w by omega, show 2 * (w * q) + 2 * w = 2 * (w * q) + w + w by omega]
    exact this
  · exact ⟨fun i i1 i2 => by omega, fun i j i1 i2 i3 => by omega⟩
theorem Lvl_end {K : Nat → Int} {A : Nat → Nat} {w n : Nat} (h : Lvl K A w n) (hw : n ≤ w) : Blk K A 0 n := by
  by_cases h0 : n = 0
  · subst h0; exact ⟨fun i i1 i2 => by omega, fun i j i1 i2 i3 => by omega⟩
  · have := h 0 (by rw [Nat.mul_zero]; omega)
    rw [Nat.mul_zero, show min (0 + w) n = n by omega] at this
    exact this
theorem Blk_lt {K : Nat → Int} {A : Nat → Nat} {n q x : Nat} (h : Blk K A q x) {i : Nat} (h1 : q ≤ i) (h2 : i < x) (hx : x ≤ n) : A i < n := by
  have := h.1 i h1 h2; omega

/-! ### Pigeons -/
theorem pigeon : ∀ (n : Nat) (f : Nat → Nat), (∀ i, i < n + 1 → f i < n) → ∃ i j, i < j ∧ j < n + 1 ∧ f i = f j
  | 0, f, h => by have := h 0 (by omega); omega
  | n + 1, f, h => by
    rcases Classical.em (∃ i, i < n + 1 ∧ f i = f (n + 1)) with ⟨i, hi, e⟩ | hno
    · exact ⟨i, n + 1, by omega, by omega, e⟩
    · have hlast := h (n + 1) (by omega)
      obtain ⟨i, j, hij, hj, e⟩ := pigeon n (fun i => if f i = n then f (n + 1) else f i) (fun i hi => by
        have h1 := h i (by omega)
        have h2 : f i ≠ f (n + 1) := fun e => hno ⟨i, hi, e⟩
        show (if f i = n then f (n + 1) else f i) < n
        split <;> omega)
      refine ⟨i, j, hij, by omega, ?_⟩
      have h2 : f i ≠ f (n + 1) := fun e => hno ⟨i, by omega, e⟩
      have h3 : f j ≠ f (n + 1) := fun e => hno ⟨j, hj, e⟩
      have e' : (if f i = n then f (n + 1) else f i) = (if f j = n then f (n + 1) else f j) := e
      split at e' <;> split at e' <;> omega
def Inj (A : Nat → Nat) (n : Nat) : Prop := ∀ i j, i < n → j < n → A i = A j → i = j
theorem surj {A : Nat → Nat} {n : Nat} (hi : ∀ i, i < n → A i < n) (hj : Inj A n) (s : Nat) (hs : s < n) : ∃ r, r < n ∧ A r = s := by
  rcases Classical.em (∃ r, r < n ∧ A r = s) with h | h
  · exact h
  · obtain ⟨i, j, hij, hjn, e⟩ := pigeon n (fun i => if i = n then s else A i) (fun i hi' => by
      show (if i = n then s else A i) < n
      split
      · exact hs
      · exact hi i (by omega))
    have e' : (if i = n then s else A i) = (if j = n then s else A j) := e
    clear e
    have e := e'
    rw [if_neg (show ¬ i = n by omega)] at e
    by_cases hjj : j = n
    · rw [if_pos hjj] at e; exact absurd ⟨i, by omega, e⟩ h
    · rw [if_neg hjj] at e
      have := hj i j (by omega) (by omega) e
      omega
theorem Inc_inj {K : Nat → Int} {A : Nat → Nat} {n : Nat} (h : Inc K A 0 n) : Inj A n := by
  intro i j hi hj e
  rcases Nat.lt_trichotomy i j with h1 | h1 | h1
  · exact absurd e (lt_ne (h i j (by omega) h1 hj))
  · exact h1
  · exact absurd e.symm (lt_ne (h j i (by omega) h1 hi))
theorem Inc_lt_iff {K : Nat → Int} {A : Nat → Nat} {n i j : Nat} (h : Inc K A 0 n) (hi : i < n) (hj : j < n) : i < j ↔ lt K (A i) (A j) := by
  constructor
  · exact fun h1 => h i j (by omega) h1 hj
  · intro h1
    rcases Nat.lt_trichotomy i j with h2 | h2 | h2
    · exact h2
    · subst h2; exact absurd h1 lt_irrefl
    · exact absurd h1 (lt_asymm (h j i (by omega) h2 hi))

/-- The law of places: pos is the inverse of the order. -/
theorem pos_law {K : Nat → Int} {A P : Nat → Nat} {n s t : Nat} (h : Blk K A 0 n) (hp : ∀ r, r < n → P (A r) = r) (hs : s < n) (ht : t < n) : ltb K s t = decide (P s < P t) := by
  have hinj := Inc_inj h.2
  obtain ⟨a, ha, rfl⟩ := surj (fun i hi => (h.1 i (by omega) hi).2) hinj s hs
  obtain ⟨b, hb, rfl⟩ := surj (fun i hi => (h.1 i (by omega) hi).2) hinj t ht
  rw [hp a ha, hp b hb]
  rw [Bool.eq_iff_iff, ltb_iff, decide_eq_true_eq]
  exact (Inc_lt_iff h.2 ha hb).symm

/-- Two orders are one. -/
theorem order_eq {K : Nat → Int} {A B : Nat → Nat} {n : Nat} (hA : Blk K A 0 n) (hB : Blk K B 0 n) : ∀ m i, i < m → i < n → A i = B i
  | 0, i, h, _ => by omega
  | m + 1, i, _, hi => by
    rcases Classical.em (A i = B i) with e | e
    · exact e
    exfalso
    have ih : ∀ j, j < i → A j = B j := fun j hj => order_eq hA hB m j (by omega) (by omega)
    have key : ∀ (X Y : Nat → Nat), Blk K X 0 n → Blk K Y 0 n → (∀ j, j < i → X j = Y j) → lt K (X i) (Y i) → False := by
      intro X Y hX hY hj hlt
      obtain ⟨j, hjn, ej⟩ := surj (fun i hi => (hY.1 i (by omega) hi).2) (Inc_inj hY.2) (X i) (hX.1 i (by omega) hi).2
      rcases Nat.lt_trichotomy j i with h1 | h1 | h1
      · have := Inc_inj hX.2 j i hjn hi ((hj j h1).trans ej)
        omega
      · subst h1; rw [ej] at hlt; exact lt_irrefl hlt
      · have := hY.2 i j (by omega) h1 hjn
        rw [ej] at this
        exact lt_asymm hlt this
    rcases lt_total (K := K) e with h | h
    · exact key A B hA hB ih h
    · exact key B A hB hA (fun j hj => (ih j hj).symm) h

/-! ### Insertion -/
/-- a[y] and a[y-1] exchanged. -/
def swp (A : Nat → Nat) (y : Nat) : Nat → Nat := upd (upd A y (A (y - 1))) (y - 1) (A y)
theorem swp_at {A : Nat → Nat} {y : Nat} (i : Nat) (hy : 0 < y) : swp A y i = if i = y then A (y - 1) else if i = y - 1 then A y else A i := by
  unfold swp upd
  by_cases h1 : i = y
  · subst h1; rw [if_neg (by omega), if_pos rfl, if_pos rfl]
  · by_cases h2 : i = y - 1
    · rw [if_pos h2, if_neg h1, if_pos h2]
    · rw [if_neg h2, if_neg h1, if_neg h1, if_neg h2]
def Perm (A : Nat → Nat) (n : Nat) : Prop := (∀ i, i < n → A i < n) ∧ Inj A n
theorem Perm_swp {A : Nat → Nat} {n y : Nat} (h : Perm A n) (hy : 0 < y) (hn : y < n) : Perm (swp A y) n := by
  refine ⟨fun i hi => ?_, fun i j hi hj e => ?_⟩
  · rw [swp_at i hy]
    split
    · exact h.1 _ (by omega)
    · split
      · exact h.1 _ hn
      · exact h.1 i hi
  · have key : ∀ a b, a < n → b < n → A a = A b → a = b := h.2
    rw [swp_at i hy, swp_at j hy] at e
    by_cases i1 : i = y
    · rw [if_pos i1] at e
      by_cases j1 : j = y
      · omega
      · rw [if_neg j1] at e
        by_cases j2 : j = y - 1
        · rw [if_pos j2] at e; have := key _ _ (by omega) hn e; omega
        · rw [if_neg j2] at e; have := key _ _ (by omega) hj e; omega
    · rw [if_neg i1] at e
      by_cases i2 : i = y - 1
      · rw [if_pos i2] at e
        by_cases j1 : j = y
        · rw [if_pos j1] at e; have := key _ _ hn (by omega) e; omega
        · rw [if_neg j1] at e
          by_cases j2 : j = y - 1
          · omega
          · rw [if_neg j2] at e; have := key _ _ hn hj e; omega
      · rw [if_neg i2] at e
        by_cases j1 : j = y
        · rw [if_pos j1] at e; have := key _ _ hi (by omega) e; omega
        · rw [if_neg j1] at e
          by_cases j2 : j = y - 1
          · rw [if_pos j2] at e; have := key _ _ hi hn e; omega
          · rw [if_neg j2] at e; exact key _ _ hi hj e
/-- a[y] is on its way down through a[0..x], which is in order but for it. -/
def Ins (K : Nat → Int) (A : Nat → Nat) (x y : Nat) : Prop := (∀ i j, i < j → j ≤ x → i ≠ y → j ≠ y → lt K (A i) (A j)) ∧ (∀ j, y < j → j ≤ x → lt K (A y) (A j))
theorem Ins_start {K : Nat → Int} {A : Nat → Nat} {x : Nat} (h : Inc K A 0 x) : Ins K A x x :=
  ⟨fun i j h1 h2 _ h4 => h i j (by omega) h1 (by omega), fun j h1 h2 => by omega⟩
theorem Ins_swap {K : Nat → Int} {A : Nat → Nat} {x y : Nat} (h : Ins K A x y) (hy : 0 < y) (hx : y ≤ x) (hlt : lt K (A y) (A (y - 1))) : Ins K (swp A y) x (y - 1) := by
  refine ⟨fun i j h1 h2 h3 h4 => ?_, fun j h1 h2 => ?_⟩
  · rw [swp_at i hy, swp_at j hy, if_neg h3, if_neg h4]
    by_cases i1 : i = y
    · rw [if_pos i1, if_neg (by omega)]
      exact h.1 (y - 1) j (by omega) h2 (by omega) (by omega)
    · rw [if_neg i1]
      by_cases j1 : j = y
      · rw [if_pos j1]; exact h.1 i (y - 1) (by omega) (by omega) (by omega) (by omega)
      · rw [if_neg j1]; exact h.1 i j h1 h2 (by omega) (by omega)
  · rw [swp_at (y - 1) hy, swp_at j hy, if_neg (by omega), if_pos rfl, if_neg (show ¬ j = y - 1 by omega)]
    by_cases j1 : j = y
    · rw [if_pos j1]; exact hlt
    · rw [if_neg j1]; exact h.2 j (by omega) h2
theorem Ins_end {K : Nat → Int} {A : Nat → Nat} {n x y : Nat} (h : Ins K A x y) (hp : Perm A n) (hx : x < n) (hy : y ≤ x) (hc : y = 0 ∨ ¬ lt K (A y) (A (y - 1))) : Inc K A 0 (x + 1) := by
  intro i j _ hij hj
  have hdown : 0 < y → lt K (A (y - 1)) (A y) := by
    intro h0
    rcases hc with hc | hc
    · omega
    · have hne : A y ≠ A (y - 1) := fun e => by have := hp.2 y (y - 1) (by omega) (by omega) e; omega
      rcases lt_total (K := K) hne with h1 | h1
      · exact absurd h1 hc
      · exact h1
  by_cases i1 : i = y
  · subst i1; exact h.2 j hij (by omega)
  · by_cases j1 : j = y
    · subst j1
      by_cases e : i = j - 1
      · subst e; exact hdown (by omega)
      · exact lt_trans (h.1 i (j - 1) (by omega) (by omega) i1 (by omega)) (hdown (by omega))
    · exact h.1 i j hij (by omega) i1 j1
theorem Perm_blk {K : Nat → Int} {A : Nat → Nat} {n : Nat} (hp : Perm A n) (h : Inc K A 0 n) : Blk K A 0 n :=
  ⟨fun i _ h2 => ⟨by omega, hp.1 i h2⟩, h⟩
theorem Perm_down {A : Nat → Nat} {n : Nat} (h : ∀ i, i < n → A i = n - 1 - i) : Perm A n :=
  ⟨fun i hi => by rw [h i hi]; omega, fun i j hi hj e => by rw [h i hi, h j hj] at e; omega⟩
end Go.Proofs.Qxb6605989a.Plain
