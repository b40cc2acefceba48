/- The walk of FnLeftBeforeMatchesStableOrder. -/
import Derived.Test.Qxb6605989aSort
import Derived.Deep.RegionHeld3
namespace Go.Proofs.Qxb6605989a.StableWalk
open Go.RowKit Plain

/-- The places laid down so far. -/
def Placed (w3 wr : World) (n r : Nat) (A P : Nat → Nat) : Prop :=
  wr.rowIs w3.heap.size 3 n (nums P) ∧ (∀ i, i < r → P (A i) = i) ∧ Below w3.heap.size w3 wr
theorem Placed_step {w3 wr : World} {n r : Nat} {A P : Nat → Nat} (h : Placed w3 wr n r A P) (hi : Inj A n) (hr : r < n) :
    Placed w3 (wr.setCell ⟨w3.heap.size, A r, none⟩ (.int .i64 ((r : Nat) : Int))) n (r + 1) A (upd P (A r) r) := by
  refine ⟨nums_set h.1, fun i hi' => ?_, h.2.2.setCell (p := ⟨w3.heap.size, A r, none⟩) (Nat.le_refl _) _⟩
  by_cases e : i = r
  · rw [e, upd_at]
  · rw [upd_off _ _ _ _ (fun e2 => e (hi i r (by omega) hr e2))]
    exact h.2.1 i (by omega)

set_option maxHeartbeats 4000000 in
set_option maxRecDepth 8000 in
theorem walk {w : World} {ao : Option Addr} {n : Nat} {A0 : Nat → Option Addr} {L C : Nat → Nat} {Z : Nat → Nat → Int} (h : Grid w ao n A0 L C Z) (cap : Nat) (x s t : Int) :
    Calls Try.prog 7 #[.slice ao n cap, .int .i64 x, .int .i64 s, .int .i64 t] w fun e w' => e = .returned (.bool true) ∧ Below w.heap.size w w' := by
  have HG : Hid (Grid w ao n A0 L C Z) := h
  clear h
  go_enter Try.func7, Try.ntmps7
  go_wp2_with fail
  refine (bytes_one HG.out cap x s t).mono ?_
  rintro e w' ⟨r, rfl, rfl, _⟩
  cases r with
  | false =>
    go_wp2
    go_ret
    exact ⟨rfl, Below.refl _ _⟩
  | true =>
    go_wp2_with fail
    refine (too_big HG.out cap).mono ?_
    rintro e w2 ⟨r, rfl, rfl, hq⟩
    cases r with
    | true =>
      go_wp2
      go_ret
      exact ⟨rfl, Below.refl _ _⟩
    | false =>
      have hn := (hq rfl).1
      have HL : Hid (∀ i, i < n → L i ≤ 1048576) := (hq rfl).2
      clear hq
      go_wp2_with fail
      refine (lefts_ok HG.out cap x).mono ?_
      rintro e w3 ⟨r, rfl, rfl, hq⟩
      cases r with
      | false =>
        go_wp2
        go_ret
        exact ⟨rfl, Below.refl _ _⟩
      | true =>
        have hx0 := (hq rfl).1
        have HX : Hid (∀ i, i < n → x < (L i : Int)) := (hq rfl).2
        clear hq
        obtain ⟨xN, rfl⟩ := Int.eq_ofNat_of_zero_le hx0
        by_cases hs : s < 0
        · go_wp2
          go_ret
          exact ⟨rfl, Below.refl _ _⟩
        obtain ⟨sN, rfl⟩ := Int.eq_ofNat_of_zero_le (show 0 ≤ s by omega)
        have d1 : decide ((sN : Int) < 0) = false := decide_eq_false (by omega)
        by_cases hsn : n ≤ sN
        · go_wp2
          go_ret
          exact ⟨rfl, Below.refl _ _⟩
        have d2 : decide ((n : Int) ≤ (sN : Int)) = false := decide_eq_false (by omega)
        by_cases ht : t < 0
        · go_wp2
          go_ret
          exact ⟨rfl, Below.refl _ _⟩
        obtain ⟨tN, rfl⟩ := Int.eq_ofNat_of_zero_le (show 0 ≤ t by omega)
        have d3 : decide ((tN : Int) < 0) = false := decide_eq_false (by omega)
        by_cases htn : n ≤ tN
        · go_wp2
          go_ret
          exact ⟨rfl, Below.refl _ _⟩
        have d4 : decide ((n : Int) ≤ (tN : Int)) = false := decide_eq_false (by omega)
        have hs' : sN < n := by omega
        have ht' : tN < n := by omega
        clear hs ht hsn htn
        go_wp2_with fail
        refine (clone_lefts HG.out cap hn (fun r hr => ⟨by have := HX.out r hr; omega, HL.out r hr⟩)).mono ?_
        rintro e w1 ⟨ao', cap', rfl, hcl, bel1⟩
        obtain ⟨rfl, hR1, hN1⟩ : ao' = some ⟨w3.heap.size, 0, none⟩ ∧ Rows w1 w3.heap.size n L Z ∧ w3.heap.size + 1 + n ≤ w1.heap.size := by
          rcases hcl with h0 | h0
          · omega
          · exact h0
        have HR1 : Hid (Rows w1 w3.heap.size n L Z ∧ w3.heap.size + 1 + n ≤ w1.heap.size ∧ Below w3.heap.size w3 w1) := ⟨hR1, hN1, bel1⟩
        clear hR1 hN1 bel1 hcl HG
        go_wp2_with fail
        refine (build_any hn (.inr ⟨rfl, HR1.out.1⟩)).mono ?_
        rintro e w2 ⟨pc, rfl, hC2, bel2⟩
        have HC2 : Hid (Clus w2 pc n w3.heap.size L ∧ Below w1.heap.size w1 w2) := ⟨hC2, bel2⟩
        clear hC2 bel2
        have HR2 : Hid (Rows w2 w3.heap.size n L Z ∧ w3.heap.size + 1 + n ≤ w2.heap.size ∧ Below w3.heap.size w3 w2) := by
          obtain ⟨r1, r2, r3⟩ := HR1.out
          have b2 := HC2.out.2
          have := b2.size
          exact ⟨r1.keep b2 r2, by omega, r3.trans (b2.mono (by omega))⟩
        clear HR1
        go_wp2_with fail
        refine (order_any hn (by omega) HR2.out.1 HR2.out.2.1 (fun r hr => by have := HX.out r hr; omega)).mono ?_
        rintro e w4 ⟨g, A, rfl, hrow, hblk, hg, bel4⟩
        have hmk := make_ints n hn
        have H4 : Hid (w4.rowIs g 3 n (nums A) ∧ Blk (key Z xN) A 0 n ∧ w2.heap.size ≤ g ∧ Below w2.heap.size w2 w4 ∧ g < w4.heap.size) := ⟨hrow, hblk, hg, bel4, hrow.lt⟩
        clear hrow hblk hg bel4
        go_wp2
        go_loopw [12] (fun i wr => ∃ (r : Nat) (P : Nat → Nat), r ≤ n ∧ i = .int .i64 (r : Int) ∧ Hid (Placed w4 wr n r A P)) (fun i _ => n - (intOf i).toNat)
        case atStart => exact ⟨0, fun _ => 0, by omega, rfl, World.rowIs_made w4 (.int .i64 0) n 3, fun i hi => by omega, (Below.refl _ w4).alloc (Nat.le_refl _) _⟩
        case round =>
          obtain ⟨r, P, hr, rfl, hH⟩ := hrel
          by_cases hrn : r < n
          · have hA : A r < n := Blk_lt H4.out.2.1 (by omega) hrn (Nat.le_refl _)
            have hi1 : ((A r : Nat) : Int) < (n : Int) := by omega
            have c1 : wr.cell? ⟨g, r, none⟩ = some (.int .i64 ((A r : Nat) : Int)) := (hH.out.2.2.cell (p := ⟨g, r, none⟩) H4.out.2.2.2.2).trans (H4.out.1.cell hrn)
            have c2 : wr.cell? ⟨w4.heap.size, A r, none⟩ = some (.int .i64 ((P (A r) : Nat) : Int)) := hH.out.1.cell hA
            have f2 : wr.frozen? ⟨w4.heap.size, A r, none⟩ = false := hH.out.1.frozen _
            go_wp2
            go_roundw
            case rel => exact ⟨r + 1, upd P (A r) r, by omega, by go_num, Placed_step hH.out (Inc_inj H4.out.2.1.2) hrn⟩
            case measure => simp [intOf]; omega
          · have e : n = r := by omega
            subst e
            have hlaw := pos_law H4.out.2.1 (fun i hi => hH.out.2.1 i hi) hs' ht'
            have HLAW : Hid (ltb (key Z xN) sN tN = decide (P sN < P tN)) := hlaw
            clear hlaw
            have HB : Hid (Below w2.heap.size w2 wr) := H4.out.2.2.2.1.trans (hH.out.2.2.mono H4.out.2.2.2.1.size)
            have c1 : wr.cell? ⟨w4.heap.size, sN, none⟩ = some (.int .i64 ((P sN : Nat) : Int)) := hH.out.1.cell hs'
            have c2 : wr.cell? ⟨w4.heap.size, tN, none⟩ = some (.int .i64 ((P tN : Nat) : Int)) := hH.out.1.cell ht'
            have HCALL : Hid (Calls Try.prog 33 #[.pointer (some ⟨pc, 0, none⟩), .int .i64 (xN : Int), .int .i64 (sN : Int), .int .i64 (tN : Int)] wr.drew fun e w' => e = .returned (.bool (ltb (key Z xN) sN tN)) ∧ ∃ c m, w' = (wr.drew.alloc (.cells c 100)).drewN m) := by
              have hC : Clus wr pc n w3.heap.size L := HC2.out.1.keep HB.out
              have hRR : Rows wr w3.heap.size n L Z := HR2.out.1.keep HB.out HR2.out.2.1
              have := HB.out.size
              have h2 := HR2.out.2.1
              exact zzbefore_any (w := wr.drew) sN tN xN hC hRR (show w3.heap.size + 1 + n ≤ wr.heap.size by omega) hs' ht' (by have := HX.out sN hs'; omega) (by have := HX.out tN ht'; omega)
            have HEND : Hid (Below w3.heap.size w3 wr) := by
              have := HR2.out.2.1
              exact HR2.out.2.2.trans (HB.out.mono (by omega))
            have hszw : w4.heap.size < wr.heap.size := hH.out.1.lt
            have j1 : (sN : Int) < (n : Int) := by omega
            have j2 : (tN : Int) < (n : Int) := by omega
            clear hH H4 HB HC2 HR2 HL HX
            have HSZ : Hid (w3.heap.size ≤ wr.heap.size) := HEND.out.size
            by_cases hpp : P sN < P tN
            · rw [HLAW.out, decide_eq_true hpp] at HCALL
              have hpp' : ((P sN : Nat) : Int) < ((P tN : Nat) : Int) := by omega
              go_wp2
              go_region_held3 (fun w' => w'.cell? ⟨w4.heap.size, sN, none⟩ = some (.int .i64 ((P sN : Nat) : Int)) ∧ w'.cell? ⟨w4.heap.size, tN, none⟩ = some (.int .i64 ((P tN : Nat) : Int))) (go_keep)
                (first | (go_at_call 33; refine HCALL.out.mono ?_; rintro e w' ⟨rfl, c, m, rfl⟩))
              all_goals go_wp2
              all_goals go_ret
              all_goals
                rename_i c _
                have hb := HEND.out.alloc HSZ.out (.cells c 100)
                exact ⟨rfl, ⟨hb.os, hb.tape, hb.output, hb.size, hb.block⟩⟩
            · rw [HLAW.out, decide_eq_false hpp] at HCALL
              have hpp' : ((P tN : Nat) : Int) ≤ ((P sN : Nat) : Int) := by omega
              go_wp2
              go_region_held3 (fun w' => w'.cell? ⟨w4.heap.size, sN, none⟩ = some (.int .i64 ((P sN : Nat) : Int)) ∧ w'.cell? ⟨w4.heap.size, tN, none⟩ = some (.int .i64 ((P tN : Nat) : Int))) (go_keep)
                (first | (go_at_call 33; refine HCALL.out.mono ?_; rintro e w' ⟨rfl, c, m, rfl⟩))
              all_goals go_wp2
              all_goals go_ret
              all_goals
                rename_i c _
                have hb := HEND.out.alloc HSZ.out (.cells c 100)
                exact ⟨rfl, ⟨hb.os, hb.tape, hb.output, hb.size, hb.block⟩⟩
end Go.Proofs.Qxb6605989a.StableWalk
