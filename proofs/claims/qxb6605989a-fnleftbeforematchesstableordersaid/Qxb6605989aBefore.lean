/- left, before and their shim. -/
import Derived.Test.Qxb6605989aBuild
import Derived.BigQuiet
import Derived.Deep.QuietTactic
namespace Go.Proofs.Qxb6605989a
open Go.RowKit Plain

set_option maxHeartbeats 1000000 in
set_option maxRecDepth 8000 in
theorem left_any {w : World} {p n N : Nat} {L : Nat → Nat} {Z : Nat → Nat → Int} (o s x : Nat) (hC : Clus w p n N L) (hR : Rows w N n L Z) (hs : s < n) (hx : x < L s)
    (c0 : w.cell? ⟨o, 0, none⟩ = some (.pointer (some ⟨p, 0, none⟩))) (c1 : w.cell? ⟨o, 1, none⟩ = some (.int .i64 (x : Int))) :
    Calls Try.prog 42 #[.pointer (some ⟨o, 0, none⟩), .int .i64 (s : Int)] w fun e w' => e = .returned (.int .i64 (Z s x)) ∧ ∃ m, w' = w.drewN m := by
  obtain ⟨sb, d1, d2⟩ := hC
  have d3 := d2 s hs
  have d4 : w.cell? ⟨N + 1 + s, x, none⟩ = some (.int .i64 (Z s x)) := (hR.2 s hs).cell hx
  have i1 : (s : Int) < (n : Int) := by omega
  have i2 : (x : Int) < (L s : Int) := by omega
  clear d2 hR
  go_enter Try.func42, Try.ntmps42
  go_wp2
  go_quiet (fail)
  go_wp2
  go_ret
  exact ⟨rfl, _, rfl⟩

/-- What server i has left of resource x. -/
def key (Z : Nat → Nat → Int) (x : Nat) : Nat → Int := fun i => Z i x

theorem Clus.drewN {w : World} {p n N m : Nat} {L : Nat → Nat} (h : Clus w p n N L) : Clus (w.drewN m) p n N L := h
theorem Rows.drewN {w : World} {N n m : Nat} {L : Nat → Nat} {Z : Nat → Nat → Int} (h : Rows w N n L Z) : Rows (w.drewN m) N n L Z := h

set_option maxHeartbeats 1000000 in
set_option maxRecDepth 8000 in
theorem before_any {w : World} {p n N : Nat} {L : Nat → Nat} {Z : Nat → Nat → Int} (o s t x : Nat) (hC : Clus w p n N L) (hR : Rows w N n L Z) (hs : s < n) (ht : t < n) (hx : x < L s) (hy : x < L t)
    (c0 : w.cell? ⟨o, 0, none⟩ = some (.pointer (some ⟨p, 0, none⟩))) (c1 : w.cell? ⟨o, 1, none⟩ = some (.int .i64 (x : Int))) :
    Calls Try.prog 40 #[.pointer (some ⟨o, 0, none⟩), .int .i64 (s : Int), .int .i64 (t : Int)] w fun e w' => e = .returned (.bool (ltb (key Z x) s t)) ∧ ∃ m, w' = w.drewN m := by
  have HS : Hid (∀ m, Calls Try.prog 42 #[.pointer (some ⟨o, 0, none⟩), .int .i64 (s : Int)] (w.drewN m) fun e w' => e = .returned (.int .i64 (Z s x)) ∧ ∃ m', w' = (w.drewN m).drewN m') :=
    fun m => left_any o s x hC.drewN hR.drewN hs hx c0 c1
  have HT : Hid (∀ m, Calls Try.prog 42 #[.pointer (some ⟨o, 0, none⟩), .int .i64 (t : Int)] (w.drewN m) fun e w' => e = .returned (.int .i64 (Z t x)) ∧ ∃ m', w' = (w.drewN m).drewN m') :=
    fun m => left_any o t x hC.drewN hR.drewN ht hy c0 c1
  have HS0 : Hid (Calls Try.prog 42 #[.pointer (some ⟨o, 0, none⟩), .int .i64 (s : Int)] w fun e w' => e = .returned (.int .i64 (Z s x)) ∧ ∃ m', w' = w.drewN m') := left_any o s x hC hR hs hx c0 c1
  clear hC hR hs ht hx hy c0 c1
  by_cases g1 : Z s x < Z t x
  · have hL : ltb (key Z x) s t = true := ltb_iff.2 (Or.inl g1)
    have HL : Hid (ltb (key Z x) s t = true) := hL
    clear hL
    go_enter Try.func40, Try.ntmps40
    go_wp2_with fail
    refine HS0.out.mono ?_
    rintro e w1 ⟨rfl, m1, rfl⟩
    go_wp2_with fail
    refine (HT.out m1).mono ?_
    rintro e w1 ⟨rfl, m2, rfl⟩
    go_wp2
    go_ret
    exact ⟨by rw [HL.out]; rfl, _, rfl⟩
  · have hd : decide (Z s x < Z t x) = false := decide_eq_false g1
    by_cases g2 : Z s x = Z t x
    · have hg : (Z s x == Z t x) = true := by simp [g2]
      have HG : Hid (Z s x = Z t x) := g2
      clear g2
      by_cases g3 : s < t
      · have hL : ltb (key Z x) s t = true := ltb_iff.2 (Or.inr ⟨HG.out, g3⟩)
        have HL : Hid (ltb (key Z x) s t = true) := hL
        clear hL
        go_enter Try.func40, Try.ntmps40
        go_wp2_with fail
        refine HS0.out.mono ?_
        rintro e w1 ⟨rfl, m1, rfl⟩
        go_wp2_with fail
        refine (HT.out m1).mono ?_
        rintro e w1 ⟨rfl, m2, rfl⟩
        go_wp2_with fail
        refine (HS.out _).mono ?_
        rintro e w1 ⟨rfl, m3, rfl⟩
        go_wp2_with fail
        refine (HT.out _).mono ?_
        rintro e w1 ⟨rfl, m4, rfl⟩
        go_wp2
        go_ret
        exact ⟨by rw [HL.out]; rfl, _, rfl⟩
      · have hL : ltb (key Z x) s t = false := ltb_false.2 (fun h => by unfold lt key at h; omega)
        have HL : Hid (ltb (key Z x) s t = false) := hL
        clear hL
        go_enter Try.func40, Try.ntmps40
        go_wp2_with fail
        refine HS0.out.mono ?_
        rintro e w1 ⟨rfl, m1, rfl⟩
        go_wp2_with fail
        refine (HT.out m1).mono ?_
        rintro e w1 ⟨rfl, m2, rfl⟩
        go_wp2_with fail
        refine (HS.out _).mono ?_
        rintro e w1 ⟨rfl, m3, rfl⟩
        go_wp2_with fail
        refine (HT.out _).mono ?_
        rintro e w1 ⟨rfl, m4, rfl⟩
        go_wp2
        go_ret
        exact ⟨by rw [HL.out]; rfl, _, rfl⟩
    · have hg : (Z s x == Z t x) = false := by simp [g2]
      have hL : ltb (key Z x) s t = false := ltb_false.2 (fun h => by unfold lt key at h; omega)
      have HL : Hid (ltb (key Z x) s t = false) := hL
      clear hL
      go_enter Try.func40, Try.ntmps40
      go_wp2_with fail
      refine HS0.out.mono ?_
      rintro e w1 ⟨rfl, m1, rfl⟩
      go_wp2_with fail
      refine (HT.out m1).mono ?_
      rintro e w1 ⟨rfl, m2, rfl⟩
      go_wp2_with fail
      refine (HS.out _).mono ?_
      rintro e w1 ⟨rfl, m3, rfl⟩
      go_wp2_with fail
      refine (HT.out _).mono ?_
      rintro e w1 ⟨rfl, m4, rfl⟩
      go_wp2
      go_ret
      exact ⟨by rw [HL.out]; rfl, _, rfl⟩

set_option maxHeartbeats 1000000 in
set_option maxRecDepth 8000 in
theorem zzbefore_any {w : World} {p n N : Nat} {L : Nat → Nat} {Z : Nat → Nat → Int} (s t x : Nat) (hC : Clus w p n N L) (hR : Rows w N n L Z) (hN : N + 1 + n ≤ w.heap.size) (hs : s < n) (ht : t < n) (hx : x < L s) (hy : x < L t) :
    Calls Try.prog 33 #[.pointer (some ⟨p, 0, none⟩), .int .i64 (x : Int), .int .i64 (s : Int), .int .i64 (t : Int)] w fun e w' => e = .returned (.bool (ltb (key Z x) s t)) ∧ ∃ c m, w' = (w.alloc (.cells c 100)).drewN m := by
  have HC : Hid (∀ c, Clus (w.alloc (.cells c 100)) p n N L ∧ Rows (w.alloc (.cells c 100)) N n L Z) := fun c =>
    ⟨hC.keep ((Below.refl _ w).alloc (Nat.le_refl _) _), hR.keep ((Below.refl w.heap.size w).alloc (Nat.le_refl _) _) hN⟩
  have HX : Hid (s < n ∧ t < n ∧ x < L s ∧ x < L t) := ⟨hs, ht, hx, hy⟩
  clear hC hR hN hs ht hx hy
  go_enter Try.func33, Try.ntmps33
  go_wp2_with fail
  refine (before_any w.heap.size s t x (HC.out _).1 (HC.out _).2 HX.out.1 HX.out.2.1 HX.out.2.2.1 HX.out.2.2.2 (by simp) (by simp)).mono ?_
  rintro e w1 ⟨rfl, m, rfl⟩
  go_wp2
  go_ret
  exact ⟨rfl, _, _, rfl⟩
end Go.Proofs.Qxb6605989a
