/- The walk of FnLeftBeforeSortsStably: the insertion sort. -/
import Derived.Test.Qxb6605989aSort
import Derived.Deep.RegionHeld3
namespace Go.Proofs.Qxb6605989a.SortWalk
open Go.RowKit Plain

theorem make_none (w : World) : (Instr.makeSlice 34 (.int .i64 0) (.int .i64 0)).run Try.prog w = .ok (.slice (some ⟨w.heap.size, 0, none⟩) 0 0) (w.alloc (.cells (madeCells #[.int .i64 0] 0) 3)) := make_ints 0 (by omega) w

set_option maxRecDepth 8000 in
theorem order_zero (ao : Option Addr) (cap : Nat) (x : Int) (w : World) :
    Calls Try.prog 32 #[.slice ao 0 cap, .int .i64 x] w fun e w' => e = .returned (.slice (some ⟨w.heap.size, 0, none⟩) 0 0) ∧ Below w.heap.size w w' := by
  have hmk := make_none
  go_enter Try.func32, Try.ntmps32
  go_wp2
  go_loop [7] (fun i => i = .int .i64 0) (fun _ => 0)
  case atStart => rfl
  case round =>
    subst hrel
    go_wp2
    go_loop [6, 9] (fun a i => a = .slice (some ⟨w.heap.size, 0, none⟩) 0 0 ∧ i = .int .i64 1) (fun _ _ => 0)
    case atStart => exact ⟨rfl, rfl⟩
    case round =>
      obtain ⟨rfl, rfl⟩ := hrel
      go_wp2
      go_ret
      exact ⟨rfl, ((Below.refl _ w).alloc (Nat.le_refl _) _).alloc (by simp) _⟩

/-- The row that is sorted, in block M, over the cluster's world. -/
def Arr (w2 wr : World) (n : Nat) (A : Nat → Nat) : Prop := wr.rowIs w2.heap.size 3 n (nums A) ∧ Below w2.heap.size w2 wr
theorem Arr_put {w2 wr : World} {n k v : Nat} {A : Nat → Nat} (h : Arr w2 wr n A) : Arr w2 (wr.setCell ⟨w2.heap.size, k, none⟩ (.int .i64 ((v : Nat) : Int))) n (upd A k v) :=
  ⟨nums_set h.1, h.2.setCell (p := ⟨w2.heap.size, k, none⟩) (Nat.le_refl _) _⟩
theorem Arr_more {w2 wr : World} {n : Nat} {A : Nat → Nat} (h : Arr w2 wr n A) (c : Array Value) : Arr w2 (wr.alloc (.cells c 100)) n A :=
  ⟨h.1.alloc _, h.2.alloc h.2.size _⟩
theorem Arr_keep {w2 wr w5 : World} {n : Nat} {A : Nat → Nat} (h : Arr w2 wr n A) (hb : Below wr.heap.size wr w5) : Arr w2 w5 n A :=
  ⟨h.1.of_block (hb.block _ h.1.lt), h.2.trans (hb.mono h.2.size)⟩
theorem Arr_dn {w2 wr : World} {n m : Nat} {A : Nat → Nat} (h : Arr w2 wr n A) : Arr w2 (wr.drewN m) n A := ⟨h.1, ⟨h.2.os, h.2.tape, h.2.output, h.2.size, h.2.block⟩⟩
theorem Arr_swap {w2 wr : World} {n y z : Nat} {A : Nat → Nat} (h : Arr w2 wr n A) (hy : y = z + 1) :
    Arr w2 ((wr.setCell ⟨w2.heap.size, y, none⟩ (.int .i64 ((A z : Nat) : Int))).setCell ⟨w2.heap.size, z, none⟩ (.int .i64 ((A y : Nat) : Int))) n (swp A y) := by
  subst hy
  exact Arr_put (Arr_put h)

set_option maxHeartbeats 4000000 in
set_option maxRecDepth 8000 in
theorem walk {w : World} {ao : Option Addr} {n : Nat} {A0 : Nat → Option Addr} {L C : Nat → Nat} {Z : Nat → Nat → Int} (h : Grid w ao n A0 L C Z) (cap : Nat) (x : Int) :
    Calls Try.prog 8 #[.slice ao n cap, .int .i64 x] w fun e w' => e = .returned (.bool true) ∧ Below w.heap.size w w' := by
  have HG : Hid (Grid w ao n A0 L C Z) := h
  have hlen := h.len
  clear h
  go_enter Try.func8, Try.ntmps8
  go_wp2_with fail
  refine (bytes_two HG.out cap x).mono ?_
  rintro e w' ⟨r, rfl, rfl, _⟩
  cases r with
  | false =>
    go_wp2
    go_ret
    exact ⟨rfl, Below.refl _ _⟩
  | true =>
    by_cases h4 : 4096 < n
    · go_wp2
      go_ret
      exact ⟨rfl, Below.refl _ _⟩
    go_wp2_with fail
    refine (too_big HG.out cap).mono ?_
    rintro e w2 ⟨r, rfl, rfl, hq⟩
    cases r with
    | true =>
      go_wp2
      go_ret
      exact ⟨rfl, Below.refl _ _⟩
    | false =>
      have hn := (hq rfl).1
      have HL : Hid (∀ i, i < n → L i ≤ 1048576) := (hq rfl).2
      clear hq
      go_wp2_with fail
      refine (lefts_ok HG.out cap x).mono ?_
      rintro e w3 ⟨r, rfl, rfl, hq⟩
      cases r with
      | false =>
        go_wp2
        go_ret
        exact ⟨rfl, Below.refl _ _⟩
      | true =>
        have hx0 := (hq rfl).1
        have HX : Hid (∀ i, i < n → x < (L i : Int)) := (hq rfl).2
        clear hq
        obtain ⟨xN, rfl⟩ := Int.eq_ofNat_of_zero_le hx0
        go_wp2_with fail
        refine (clone_lefts HG.out cap hn (fun r hr => ⟨by have := HX.out r hr; omega, HL.out r hr⟩)).mono ?_
        rintro e w1 ⟨ao', cap', rfl, hcl, bel1⟩
        have HR1 : Hid ((n = 0 ∨ (ao' = some ⟨w3.heap.size, 0, none⟩ ∧ Rows w1 w3.heap.size n L Z ∧ w3.heap.size + 1 + n ≤ w1.heap.size)) ∧ Below w3.heap.size w3 w1) := ⟨hcl, bel1⟩
        clear hcl bel1 HG
        go_wp2_with fail
        refine (build_any (N := w3.heap.size) (L := L) (Z := Z) hn (by rcases HR1.out.1 with h | h; exact .inl h; exact .inr ⟨h.1, h.2.1⟩)).mono ?_
        rintro e w2 ⟨pc, rfl, hC2, bel2⟩
        have HC2 : Hid (Clus w2 pc n w3.heap.size L ∧ Below w1.heap.size w1 w2) := ⟨hC2, bel2⟩
        clear hC2 bel2
        have HW : Hid (Below w3.heap.size w3 w2) := HR1.out.2.trans (HC2.out.2.mono HR1.out.2.size)
        by_cases hn0 : n = 0
        · subst hn0
          have hmk := make_none
          go_wp2
          go_loop [8] (fun i => i = .int .i64 0) (fun _ => 0)
          case atStart => rfl
          case round =>
            subst hrel
            go_wp2
            go_loop [9] (fun i => i = .int .i64 1) (fun _ => 0)
            case atStart => rfl
            case round =>
              subst hrel
              go_wp2_with fail
              refine (order_zero _ _ _ _).mono ?_
              rintro e w5 ⟨rfl, bel5⟩
              have HB5 : Hid (Below w3.heap.size w3 w5) := (HW.out.alloc HW.out.size _).trans (bel5.mono (by have := HW.out.size; simp; omega))
              clear bel5
              go_wp2
              go_loop [13] (fun i => i = .int .i64 0) (fun _ => 0)
              case atStart => rfl
              case round =>
                subst hrel
                go_wp2
                go_ret
                exact ⟨rfl, HB5.out⟩
        · obtain ⟨rfl, hR1, hN1⟩ : ao' = some ⟨w3.heap.size, 0, none⟩ ∧ Rows w1 w3.heap.size n L Z ∧ w3.heap.size + 1 + n ≤ w1.heap.size := by
            rcases HR1.out.1 with h0 | h0
            · exact absurd h0 hn0
            · exact h0
          have HR2 : Hid (Rows w2 w3.heap.size n L Z ∧ w3.heap.size + 1 + n ≤ w2.heap.size) := ⟨hR1.keep HC2.out.2 hN1, by have := HC2.out.2.size; omega⟩
          clear hR1 hN1 HR1
          have hmk := make_ints n hn
          have hpos : 0 < n := by omega
          clear hn0
          go_wp2
          go_loopw [8] (fun i wr => ∃ (k : Nat) (A : Nat → Nat), k ≤ n ∧ i = .int .i64 (k : Int) ∧ Hid (Arr w2 wr n A ∧ ∀ i, i < k → A i = n - 1 - i)) (fun i _ => n - (intOf i).toNat)
          case atStart => exact ⟨0, fun _ => 0, by omega, rfl, ⟨World.rowIs_made w2 (.int .i64 0) n 3, (Below.refl _ w2).alloc (Nat.le_refl _) _⟩, fun i hi => by omega⟩
          case round =>
            obtain ⟨k, A, hk, rfl, hH⟩ := hrel
            by_cases hkn : k < n
            · have c1 : wr.cell? ⟨w2.heap.size, k, none⟩ = some (.int .i64 ((A k : Nat) : Int)) := hH.out.1.1.cell hkn
              have f1 : wr.frozen? ⟨w2.heap.size, k, none⟩ = false := hH.out.1.1.frozen _
              go_wp2
              go_roundw
              case rel =>
                have e : (n : Int) - 1 - (k : Int) = ((n - 1 - k : Nat) : Int) := by omega
                rw [e]
                refine ⟨k + 1, upd A k (n - 1 - k), by omega, by go_num, Arr_put hH.out.1, fun i hi => ?_⟩
                by_cases e2 : i = k
                · rw [e2, upd_at]
                · rw [upd_off _ _ _ _ e2]; exact hH.out.2 i (by omega)
              case measure => simp [intOf]; omega
            · have e : n = k := by omega
              subst e
              have HP : Hid (Arr w2 wr n A ∧ Perm A n) := ⟨hH.out.1, Perm_down hH.out.2⟩
              clear hH
              go_wp2
              go_loopw [9] (fun vx wq => ∃ (xx : Nat) (A : Nat → Nat), 1 ≤ xx ∧ xx ≤ n ∧ vx = .int .i64 (xx : Int) ∧ Hid (Arr w2 wq n A ∧ Perm A n ∧ Inc (key Z xN) A 0 xx)) (fun vx _ => n - (intOf vx).toNat)
              case atStart => exact ⟨1, A, by omega, by omega, rfl, HP.out.1, HP.out.2, fun i j _ h1 h2 => by omega⟩
              case round =>
                clear HP
                obtain ⟨xx, A, hx1, hx2, rfl, hH⟩ := hrel
                by_cases hxn : xx < n
                · go_wp2
                  go_loopw [10] (fun vy wz => ∃ (yy : Nat) (A : Nat → Nat), yy ≤ xx ∧ vy = .int .i64 (yy : Int) ∧ Hid (Arr w2 wz n A ∧ Perm A n ∧ Ins (key Z xN) A xx yy)) (fun vy _ => (intOf vy).toNat)
                  case atStart => exact ⟨xx, A, Nat.le_refl _, rfl, hH.out.1, hH.out.2.1, Ins_start hH.out.2.2⟩
                  case round =>
                    clear hH
                    obtain ⟨yy, A, hyx, rfl, hH⟩ := hrel
                    cases yy with
                    | zero =>
                      have hd : decide ((0 : Int) < ((0 : Nat) : Int)) = false := rfl
                      have HE : Hid (Inc (key Z xN) A 0 (xx + 1)) := Ins_end hH.out.2.2 hH.out.2.1 hxn (by omega) (.inl rfl)
                      go_wp2
                      go_quiet (fail)
                      go_wp2
                      go_roundw
                      case rel => exact ⟨xx + 1, A, by omega, by omega, by go_num, Arr_dn hH.out.1, hH.out.2.1, HE.out⟩
                      case measure => simp [intOf]; omega
                    | succ z =>
                      obtain ⟨yy, hyz⟩ : ∃ yy, yy = z + 1 := ⟨_, rfl⟩
                      rw [← hyz] at hyx hH ⊢
                      have HYZ : Hid (yy = z + 1) := hyz
                      have g1 : (yy : Int) < (n : Int) := by omega
                      have g2 : (0 : Int) < (yy : Int) := by omega
                      have hgd : decide ((0 : Int) < (yy : Int)) = true := decide_eq_true g2
                      have hgd2 : decide (0 < yy) = true := decide_eq_true (by omega)
                      have g3 : (z : Int) < (n : Int) := by omega
                      have hz1 : yy < n := by omega
                      have hz0 : z < n := by omega
                      have hw1 : IntKind.i64.wrap ((yy : Int) - 1) = (z : Int) := by rw [IntKind.wrap_i64]; omega
                      have hw2 : (yy : Int) - 1 = (z : Int) := by omega
                      have hw3 : IntKind.i64.wrap (z : Int) = (z : Int) := by rw [IntKind.wrap_i64]; omega
                      clear hyz
                      have a1 : A yy < n := hH.out.2.1.1 _ hz1
                      have a0 : A z < n := hH.out.2.1.1 _ hz0
                      have c1 : wr.cell? ⟨w2.heap.size, yy, none⟩ = some (.int .i64 ((A yy : Nat) : Int)) := hH.out.1.1.cell hz1
                      have c0 : wr.cell? ⟨w2.heap.size, z, none⟩ = some (.int .i64 ((A z : Nat) : Int)) := hH.out.1.1.cell hz0
                      have HCALL : Hid (Calls Try.prog 33 #[.pointer (some ⟨pc, 0, none⟩), .int .i64 (xN : Int), .int .i64 ((A yy : Nat) : Int), .int .i64 ((A z : Nat) : Int)] wr.drew fun e w' => e = .returned (.bool (ltb (key Z xN) (A yy) (A z))) ∧ ∃ c m, w' = (wr.drew.alloc (.cells c 100)).drewN m) := by
                        have hb := hH.out.1.2
                        have hC : Clus wr pc n w3.heap.size L := HC2.out.1.keep hb
                        have hRR : Rows wr w3.heap.size n L Z := HR2.out.1.keep hb HR2.out.2
                        have h1 := hb.size
                        have h2 := HR2.out.2
                        exact zzbefore_any (w := wr.drew) (A yy) (A z) xN hC hRR (show w3.heap.size + 1 + n ≤ wr.heap.size by omega) a1 a0 (by have := HX.out _ a1; omega) (by have := HX.out _ a0; omega)
                      have HM : Hid (w2.heap.size < wr.heap.size) := hH.out.1.1.lt
                      have hlt1 : w2.heap.size < wr.heap.size := HM.out
                      by_cases hl : lt (key Z xN) (A yy) (A z)
                      · rw [ltb_iff.2 hl] at HCALL
                        have HLT : Hid (lt (key Z xN) (A yy) (A z)) := hl
                        clear hl
                        go_wp2
                        go_region_held3 (fun w' => w'.cell? ⟨w2.heap.size, yy, none⟩ = some (.int .i64 ((A yy : Nat) : Int)) ∧ w'.cell? ⟨w2.heap.size, z, none⟩ = some (.int .i64 ((A z : Nat) : Int))) (go_keep)
                          (first | (go_at_call 33; refine HCALL.out.mono ?_; rintro e w' ⟨rfl, c, m, rfl⟩))
                        rename_i c m
                        have fz1 : ∀ c, (wr.alloc (.cells c 100)).frozen? ⟨w2.heap.size, yy, none⟩ = false := fun c => (hH.out.1.1.alloc _).frozen _
                        have fz0 : ∀ c, (wr.alloc (.cells c 100)).frozen? ⟨w2.heap.size, z, none⟩ = false := fun c => (hH.out.1.1.alloc _).frozen _
                        have cz1 : ∀ c, (wr.alloc (.cells c 100)).cell? ⟨w2.heap.size, yy, none⟩ = some (.int .i64 ((A yy : Nat) : Int)) := fun c => (hH.out.1.1.alloc _).cell hz1
                        have cz0 : ∀ c, (wr.alloc (.cells c 100)).cell? ⟨w2.heap.size, z, none⟩ = some (.int .i64 ((A z : Nat) : Int)) := fun c => (hH.out.1.1.alloc _).cell hz0
                        have hne : z < yy := by omega
                        go_wp2
                        go_roundw
                        case rel => exact ⟨z, swp A yy, by omega, rfl, Arr_swap (Arr_dn (Arr_more hH.out.1 _)) HYZ.out, Perm_swp hH.out.2.1 (by omega) hz1, by
                          have := Ins_swap hH.out.2.2 (by omega) hyx (by rw [show yy - 1 = z by omega]; exact HLT.out)
                          rw [show yy - 1 = z by omega] at this
                          exact this⟩
                        case measure => simp [intOf]; omega
                      · rw [ltb_false.2 hl] at HCALL
                        have HE : Hid (Inc (key Z xN) A 0 (xx + 1)) := Ins_end hH.out.2.2 hH.out.2.1 hxn hyx (.inr (by rw [show yy - 1 = z by omega]; exact hl))
                        clear hl
                        go_wp2
                        go_region_held3 (fun w' => w'.cell? ⟨w2.heap.size, yy, none⟩ = some (.int .i64 ((A yy : Nat) : Int)) ∧ w'.cell? ⟨w2.heap.size, z, none⟩ = some (.int .i64 ((A z : Nat) : Int))) (go_keep)
                          (first | (go_at_call 33; refine HCALL.out.mono ?_; rintro e w' ⟨rfl, c, m, rfl⟩))
                        go_wp2
                        go_roundw
                        case rel => exact ⟨xx + 1, A, by omega, by omega, by go_num, Arr_dn (Arr_more hH.out.1 _), hH.out.2.1, HE.out⟩
                        case measure => simp [intOf]; omega
                · have e : n = xx := by omega
                  subst e
                  have HR4 : Hid (Rows wr w3.heap.size n L Z ∧ w3.heap.size + 1 + n ≤ wr.heap.size) := ⟨HR2.out.1.keep hH.out.1.2 HR2.out.2, by have := hH.out.1.2.size; have := HR2.out.2; omega⟩
                  go_wp2_with fail
                  refine (order_any hn hpos HR4.out.1 HR4.out.2 (fun r hr => by have := HX.out r hr; omega)).mono ?_
                  rintro e w5 ⟨g, B, rfl, hrow, hblk, hg, bel5⟩
                  have HA5 : Hid (Arr w2 w5 n A) := Arr_keep hH.out.1 bel5
                  have HEQ : Hid (∀ k, k < n → A k = B k) := fun k hk => order_eq (Perm_blk hH.out.2.1 hH.out.2.2) hblk n k hk hk
                  have HROW : Hid (w5.rowIs g 3 n (nums B)) := hrow
                  have HBEL : Hid (Below w3.heap.size w3 w5) := by
                    have h2 := HR2.out.2
                    exact HW.out.trans (HA5.out.2.mono (by omega))
                  clear hrow hblk hg bel5 hH HR4
                  go_wp2
                  go_loopw [13] (fun vk wz => ∃ k m : Nat, k ≤ n ∧ vk = .int .i64 (k : Int) ∧ wz = w5.drewN m) (fun vk _ => n - (intOf vk).toNat)
                  case atStart => exact ⟨0, 0, by omega, rfl, rfl⟩
                  case round =>
                    obtain ⟨k, m, hk, rfl, rfl⟩ := hrel
                    by_cases hkn : k < n
                    · have c1 : w5.cell? ⟨w2.heap.size, k, none⟩ = some (.int .i64 ((A k : Nat) : Int)) := HA5.out.1.cell hkn
                      have c2 : w5.cell? ⟨g, k, none⟩ = some (.int .i64 ((A k : Nat) : Int)) := by rw [HEQ.out k hkn]; exact HROW.out.cell hkn
                      have i1 : (k : Int) < (n : Int) := by omega
                      go_wp2
                      go_quiet (fail)
                      go_wp2
                      go_roundw
                      case rel => exact ⟨k + 1, _, by omega, by go_num, rfl⟩
                      case measure => simp [intOf]; omega
                    · go_wp2
                      go_ret
                      exact ⟨rfl, ⟨HBEL.out.os, HBEL.out.tape, HBEL.out.output, HBEL.out.size, HBEL.out.block⟩⟩
end Go.Proofs.Qxb6605989a.SortWalk
