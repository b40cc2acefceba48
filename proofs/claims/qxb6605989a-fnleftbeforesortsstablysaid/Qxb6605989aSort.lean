/- stableOrderByLeft: the merge sort, walked. -/
import Derived.Test.Qxb6605989aBefore
namespace Go.Proofs.Qxb6605989a
open Go.RowKit Plain

theorem min_any (a b : Int) (m : Nat) (w : World) (h : (a < b ∧ a = (m : Int)) ∨ (b ≤ a ∧ b = (m : Int))) :
    Calls Try.prog 39 #[.int .i64 a, .int .i64 b] w fun e w' => e = .returned (.int .i64 (m : Int)) ∧ w' = w := by
  rcases h with ⟨h1, h2⟩ | ⟨h1, h2⟩
  · have HH : Hid (a = (m : Int)) := h2
    clear h2
    go_enter Try.func39, Try.ntmps39
    go_wp2
    go_ret
    exact ⟨by rw [← HH.out]; rfl, rfl⟩
  · have HH : Hid (b = (m : Int)) := h2
    clear h2
    go_enter Try.func39, Try.ntmps39
    go_wp2
    go_ret
    exact ⟨by rw [← HH.out]; rfl, rfl⟩

/-- A row of server numbers. -/
def nums (A : Nat → Nat) : Nat → Value := fun i => .int .i64 ((A i : Nat) : Int)
theorem nums_set {w : World} {b n k v : Nat} {B : Nat → Nat} (h : w.rowIs b 3 n (nums B)) : (w.setCell ⟨b, k, none⟩ (.int .i64 ((v : Nat) : Int))).rowIs b 3 n (nums (upd B k v)) :=
  (h.set k _).congr (fun i _ => by
    unfold nums upd
    by_cases e : i = k
    · simp [e]
    · simp [e])

/-- What stableOrderByLeft hands back. -/
def Ordered (w : World) (n : Nat) (K : Nat → Int) (e : Ending) (w' : World) : Prop :=
  ∃ g A, e = .returned (.slice (some ⟨g, 0, none⟩) n n) ∧ w'.rowIs g 3 n (nums A) ∧ Blk K A 0 n ∧ w.heap.size ≤ g ∧ Below w.heap.size w w'

/-- The two rows between two passes. -/
def Two (w wr : World) (n ba bb : Nat) (A B : Nat → Nat) : Prop :=
  wr.rowIs ba 3 n (nums A) ∧ wr.rowIs bb 3 n (nums B) ∧ ba ≠ bb ∧ w.heap.size ≤ ba ∧ w.heap.size ≤ bb ∧ Below w.heap.size w wr

theorem Two_swap {w wr : World} {n ba bb : Nat} {A B : Nat → Nat} (h : Two w wr n ba bb A B) : Two w wr n bb ba B A :=
  ⟨h.2.1, h.1, fun e => h.2.2.1 e.symm, h.2.2.2.2.1, h.2.2.2.1, h.2.2.2.2.2⟩
theorem Two_put {w wr : World} {n ba bb k v : Nat} {A B : Nat → Nat} (h : Two w wr n ba bb A B) : Two w (wr.setCell ⟨bb, k, none⟩ (.int .i64 ((v : Nat) : Int))) n ba bb A (upd B k v) :=
  ⟨h.1.setOther (a := ⟨bb, k, none⟩) h.2.2.1 _, nums_set h.2.1, h.2.2.1, h.2.2.2.1, h.2.2.2.2.1, h.2.2.2.2.2.setCell (p := ⟨bb, k, none⟩) h.2.2.2.2.1 _⟩
theorem Two_drew {w wr : World} {n ba bb m : Nat} {A B : Nat → Nat} (h : Two w wr n ba bb A B) : Two w (wr.drewN m) n ba bb A B :=
  ⟨h.1, h.2.1, h.2.2.1, h.2.2.2.1, h.2.2.2.2.1, ⟨h.2.2.2.2.2.os, h.2.2.2.2.2.tape, h.2.2.2.2.2.output, h.2.2.2.2.2.size, h.2.2.2.2.2.block⟩⟩

theorem make_ints (n : Nat) (hn : n ≤ 65536) (w : World) :
    (Instr.makeSlice 34 (.int .i64 (n : Int)) (.int .i64 (n : Int))).run Try.prog w = .ok (.slice (some ⟨w.heap.size, 0, none⟩) n n) (w.alloc (.cells (madeCells #[.int .i64 0] n) 3)) :=
  run_make_row' (P := Try.prog) 34 3 (.int .i64 0) 8 Try.underlying34 info3 rfl .i64 .i64 n (by omega) (by omega) w

set_option maxHeartbeats 4000000 in
set_option maxRecDepth 8000 in
theorem order_any {w : World} {n N x cap : Nat} {L : Nat → Nat} {Z : Nat → Nat → Int} (hn : n ≤ 65536) (hn0 : 0 < n) (hR : Rows w N n L Z) (hN : N + 1 + n ≤ w.heap.size) (hx : ∀ r, r < n → x < L r) :
    Calls Try.prog 32 #[.slice (some ⟨N, 0, none⟩) n cap, .int .i64 (x : Int)] w (Ordered w n (key Z x)) := by
  have hmk := make_ints n hn
  have HX : Hid (∀ r, r < n → x < L r) := hx
  have HR : Hid (Rows w N n L Z) := hR
  clear hx hR
  go_enter Try.func32, Try.ntmps32
  go_wp2
  go_loopw [7] (fun i wr => ∃ (k : Nat) (A : Nat → Nat), k ≤ n ∧ i = .int .i64 (k : Int) ∧ Hid (wr.rowIs w.heap.size 3 n (nums A) ∧ (∀ i, i < k → A i = i) ∧ wr.heap.size = w.heap.size + 1 ∧ Below w.heap.size w wr)) (fun i _ => n - (intOf i).toNat)
  case atStart => exact ⟨0, fun _ => 0, by omega, rfl, World.rowIs_made w (.int .i64 0) n 3, fun i hi => by omega, by simp, (Below.refl _ w).alloc (Nat.le_refl _) _⟩
  case round =>
    obtain ⟨k, A, hk, rfl, hH⟩ := hrel
    by_cases hlt : k < n
    · have hc : wr.cell? ⟨w.heap.size, k, none⟩ = some (.int .i64 ((A k : Nat) : Int)) := hH.out.1.cell hlt
      have hf : wr.frozen? ⟨w.heap.size, k, none⟩ = false := hH.out.1.frozen k
      go_wp2
      go_roundw
      case rel =>
        refine ⟨k + 1, upd A k k, by omega, by go_num, nums_set hH.out.1, fun i hi => ?_, by simp [World.setCell, hH.out.2.2.1], hH.out.2.2.2.setCell (p := ⟨w.heap.size, k, none⟩) (Nat.le_refl _) _⟩
        by_cases e : i = k
        · rw [e, upd_at]
        · rw [upd_off _ _ _ _ e]; exact hH.out.2.1 i (by omega)
      case measure => simp [intOf]; omega
    · have e : n = k := by omega
      subst e
      have hsz := hH.out.2.2.1
      have HT : Hid (Two w (wr.alloc (.cells (madeCells #[.int .i64 0] n) 3)) n w.heap.size (w.heap.size + 1) A (fun _ => 0) ∧ Lvl (key Z x) A 1 n) := by
        refine ⟨⟨hH.out.1.alloc _, ?_, by omega, Nat.le_refl _, by omega, hH.out.2.2.2.alloc (by omega) _⟩, Lvl_start _ _ _ hH.out.2.1⟩
        rw [← hsz]; exact World.rowIs_made wr (.int .i64 0) n 3
      clear hH
      go_wp2
      go_loopw [6, 8, 9] (fun va vb vw wp => ∃ (A B : Nat → Nat) (ba bb wd : Nat), va = .slice (some ⟨ba, 0, none⟩) n n ∧ vb = .slice (some ⟨bb, 0, none⟩) n n ∧ vw = .int .i64 (wd : Int) ∧ 1 ≤ wd ∧ wd ≤ 131072 ∧ Hid (Two w wp n ba bb A B ∧ Lvl (key Z x) A wd n)) (fun _ _ vw _ => n - (intOf vw).toNat)
      case atStart => exact ⟨A, fun _ => 0, w.heap.size, w.heap.size + 1, 1, rfl, rfl, rfl, by omega, by omega, HT.out⟩
      case round =>
        clear HT
        obtain ⟨A, B, ba, bb, wd, rfl, rfl, rfl, hw1, hw2, hH⟩ := hrel
        by_cases hwn : wd < n
        · go_wp2
          go_loopw [10] (fun vl wq => ∃ (B : Nat → Nat) (q lo : Nat), vl = .int .i64 (lo : Int) ∧ lo ≤ 393216 ∧ Hid (lo = 2 * (wd * q) ∧ Two w wq n ba bb A B ∧ Pass (key Z x) B wd n q)) (fun vl _ => n - (intOf vl).toNat)
          case atStart => exact ⟨B, 0, 0, rfl, by omega, by omega, hH.out.1, Pass_start _ _ _ _⟩
          case round =>
            obtain ⟨B, q, lo, rfl, hlo, hP⟩ := hrel
            by_cases hln : lo < n
            · have hmid : ((lo : Int) + (wd : Int) < (n : Int) ∧ (lo : Int) + (wd : Int) = ((min (lo + wd) n : Nat) : Int)) ∨ ((n : Int) ≤ (lo : Int) + (wd : Int) ∧ (n : Int) = ((min (lo + wd) n : Nat) : Int)) := by omega
              have hhi : ((lo : Int) + 2 * (wd : Int) < (n : Int) ∧ (lo : Int) + 2 * (wd : Int) = ((min (lo + 2 * wd) n : Nat) : Int)) ∨ ((n : Int) ≤ (lo : Int) + 2 * (wd : Int) ∧ (n : Int) = ((min (lo + 2 * wd) n : Nat) : Int)) := by omega
              obtain ⟨mid, hmd⟩ : ∃ mid, mid = min (lo + wd) n := ⟨_, rfl⟩
              obtain ⟨hi, hhd⟩ : ∃ hi, hi = min (lo + 2 * wd) n := ⟨_, rfl⟩
              rw [← hmd] at hmid
              rw [← hhd] at hhi
              have HM : Hid (mid = min (lo + wd) n ∧ hi = min (lo + 2 * wd) n) := ⟨hmd, hhd⟩
              have b1 : lo ≤ mid := by omega
              have b2 : mid ≤ hi := by omega
              have b3 : hi ≤ n := by omega
              have HMID : Hid _ := hmid
              have HHI : Hid _ := hhi
              clear hmd hhd hmid hhi
              go_wp2_with fail
              refine (min_any _ _ mid _ HMID.out).mono ?_
              rintro e w1 ⟨rfl, rfl⟩
              go_wp2_with fail
              refine (min_any _ _ hi _ HHI.out).mono ?_
              rintro e w2 ⟨rfl, rfl⟩
              go_wp2
              have HB : Hid (Blk (key Z x) A lo mid ∧ Blk (key Z x) A mid hi) := by
                obtain ⟨hq, _, _⟩ := hP.out
                obtain ⟨h1, h2⟩ := HM.out
                have := Lvl_pair (q := q) hH.out.2 (by omega)
                rw [← hq, ← h1, ← h2] at this
                exact this
              go_loopw [13, 14, 15] (fun vx vy vk wz => ∃ (B' : Nat → Nat) (xx yy kk : Nat), vx = .int .i64 (xx : Int) ∧ vy = .int .i64 (yy : Int) ∧ vk = .int .i64 (kk : Int) ∧ xx ≤ mid ∧ yy ≤ hi ∧ kk ≤ hi ∧ Hid (Two w wz n ba bb A B' ∧ Mrg (key Z x) A B' lo mid hi xx yy kk ∧ ∀ i, i < lo → B' i = B i)) (fun _ _ vk _ => hi - (intOf vk).toNat)
              case atStart => exact ⟨B, lo, mid, lo, rfl, rfl, rfl, b1, b2, by omega, hP.out.2.1, Mrg_start _ _ _ _ _ _ b1 b2, fun _ _ => rfl⟩
              case round =>
                obtain ⟨B', xx, yy, kk, rfl, rfl, rfl, hxm, hyh, hkh, hZ⟩ := hrel
                by_cases hkl : kk < hi
                · have hT := hZ.out.1
                  have hM := hZ.out.2.1
                  have hkn : kk < n := by omega
                  have cB : wr.cell? ⟨bb, kk, none⟩ = some (.int .i64 ((B' kk : Nat) : Int)) := hT.2.1.cell hkn
                  have fB := hT.2.1.frozen kk
                  have HMM : Hid (Mrg (key Z x) A B' lo mid hi xx yy kk) := hM
                  have HTT : Hid _ := hT
                  have hlk : lo ≤ kk := by have := HMM.out; unfold Mrg at this; omega
                  by_cases hy : hi ≤ yy
                  · have HL := Mrg_left HMM.out HB.out.1 HB.out.2 hkl (.inl hy)
                    have hxm' : xx < mid := HL.1
                    have HL' : Hid _ := HL.2
                    have cA : wr.cell? ⟨ba, xx, none⟩ = some (.int .i64 ((A xx : Nat) : Int)) := hT.1.cell (show xx < n by omega)
                    clear hT hM HL
                    go_wp2
                    go_quiet (fail)
                    go_wp2
                    go_roundw
                    case rel => exact ⟨upd B' kk (A xx), xx + 1, yy, kk + 1, by go_num, rfl, by go_num, by omega, hyh, by omega, Two_put (Two_drew HTT.out), HL'.out, fun i hi' => by rw [upd_off _ _ _ _ (by omega)]; exact hZ.out.2.2 i hi'⟩
                    case measure => simp [intOf]; omega
                  · have hyl : yy < hi := by omega
                    have hd1 : decide ((hi : Int) ≤ (yy : Int)) = false := decide_eq_false (by omega)
                    have cAy : wr.cell? ⟨ba, yy, none⟩ = some (.int .i64 ((A yy : Nat) : Int)) := hT.1.cell (show yy < n by omega)
                    by_cases hxl : xx < mid
                    · have cAx : wr.cell? ⟨ba, xx, none⟩ = some (.int .i64 ((A xx : Nat) : Int)) := hT.1.cell (show xx < n by omega)
                      have hax : A xx < n := Blk_lt HB.out.1 (by have := hM; unfold Mrg at this; omega) hxl (by omega)
                      have hay : A yy < n := Blk_lt HB.out.2 (by have := hM; unfold Mrg at this; omega) hyl b3
                      have hRr := HR.out.keep hT.2.2.2.2.2 hN
                      have n1 : wr.cell? ⟨N, A xx, none⟩ = some (.slice (some ⟨N + 1 + A xx, 0, none⟩) (L (A xx)) (L (A xx))) := hRr.1.cell hax
                      have n2 : wr.cell? ⟨N, A yy, none⟩ = some (.slice (some ⟨N + 1 + A yy, 0, none⟩) (L (A yy)) (L (A yy))) := hRr.1.cell hay
                      have z1 : wr.cell? ⟨N + 1 + A xx, x, none⟩ = some (.int .i64 (Z (A xx) x)) := (hRr.2 _ hax).cell (HX.out _ hax)
                      have z2 : wr.cell? ⟨N + 1 + A yy, x, none⟩ = some (.int .i64 (Z (A yy) x)) := (hRr.2 _ hay).cell (HX.out _ hay)
                      have i1 : ((A xx : Nat) : Int) < (n : Int) := by omega
                      have i2 : ((A yy : Nat) : Int) < (n : Int) := by omega
                      have i3 : (x : Int) < (L (A xx) : Int) := by have := HX.out _ hax; omega
                      have i4 : (x : Int) < (L (A yy) : Int) := by have := HX.out _ hay; omega
                      by_cases hc : Z (A xx) x ≤ Z (A yy) x
                      · have HL := Mrg_left HMM.out HB.out.1 HB.out.2 hkl (.inr ⟨hxl, hc⟩)
                        have HL' : Hid _ := HL.2
                        clear hT hM HL hRr
                        go_wp2
                        go_quiet (fail)
                        go_wp2
                        go_roundw
                        case rel => exact ⟨upd B' kk (A xx), xx + 1, yy, kk + 1, by go_num, rfl, by go_num, by omega, hyh, by omega, Two_put (Two_drew HTT.out), HL'.out, fun i hi' => by rw [upd_off _ _ _ _ (by omega)]; exact hZ.out.2.2 i hi'⟩
                        case measure => simp [intOf]; omega
                      · have HL' : Hid _ := Mrg_right HMM.out HB.out.1 HB.out.2 hyl (.inr (show key Z x (A yy) < key Z x (A xx) by unfold key; omega))
                        have hc' : decide (Z (A xx) x ≤ Z (A yy) x) = false := decide_eq_false hc
                        clear hT hM hRr
                        go_wp2
                        go_quiet (fail)
                        go_wp2
                        go_roundw
                        case rel => exact ⟨upd B' kk (A yy), xx, yy + 1, kk + 1, rfl, by go_num, by go_num, hxm, by omega, by omega, Two_put (Two_drew HTT.out), HL'.out, fun i hi' => by rw [upd_off _ _ _ _ (by omega)]; exact hZ.out.2.2 i hi'⟩
                        case measure => simp [intOf]; omega
                    · have HL' : Hid _ := Mrg_right HMM.out HB.out.1 HB.out.2 hyl (.inl (by omega))
                      have hd2 : decide ((xx : Int) < (mid : Int)) = false := decide_eq_false (by omega)
                      clear hT hM
                      go_wp2
                      go_quiet (fail)
                      go_wp2
                      go_roundw
                      case rel => exact ⟨upd B' kk (A yy), xx, yy + 1, kk + 1, rfl, by go_num, by go_num, hxm, by omega, by omega, Two_put (Two_drew HTT.out), HL'.out, fun i hi' => by rw [upd_off _ _ _ _ (by omega)]; exact hZ.out.2.2 i hi'⟩
                      case measure => simp [intOf]; omega
                · have HE : Hid (lo + 2 * wd = 2 * (wd * (q + 1)) ∧ Pass (key Z x) B' wd n (q + 1)) := by
                    obtain ⟨hq, _, hp⟩ := hP.out
                    obtain ⟨h1, h2⟩ := HM.out
                    have hm : wd * (q + 1) = wd * q + wd := Nat.mul_succ wd q
                    refine ⟨by omega, Pass_next (Pass_keep hp (fun i hi' => hZ.out.2.2 i (by omega))) ?_⟩
                    have := Mrg_end hZ.out.2.1 (by omega)
                    rw [h2, hq] at this
                    exact this
                  go_wp2
                  go_roundw
                  case rel => exact ⟨B', q + 1, lo + 2 * wd, by go_num, by omega, HE.out.1, hZ.out.1, HE.out.2⟩
                  case measure => simp [intOf]; omega
            · have HE : Hid (Lvl (key Z x) B (2 * wd) n) := Pass_end hP.out.2.2 (by have := hP.out.1; omega)
              go_wp2
              go_roundw
              case rel => exact ⟨B, A, bb, ba, 2 * wd, rfl, rfl, by go_num, by omega, by omega, Two_swap hP.out.2.1, HE.out⟩
              case measure => simp [intOf]; omega
        · go_wp2
          go_ret
          exact ⟨ba, A, rfl, hH.out.1.1, Lvl_end hH.out.2 (by omega), hH.out.1.2.2.2.1, hH.out.1.2.2.2.2.2⟩
end Go.Proofs.Qxb6605989a
