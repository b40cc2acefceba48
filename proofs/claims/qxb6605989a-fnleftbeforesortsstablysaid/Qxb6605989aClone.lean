/- The clones: every row in a block of its own. -/
import Derived.Test.Qxb6605989aRead
import Derived.Deep.OwnRows
import Derived.Laws.CopyOwn
import Derived.WalkSpells
namespace Go.Proofs.Qxb6605989a
open Go.RowKit

theorem info2 : (Try.prog.info? 2).map (fun i => (i.zero, i.size, i.bytes)) = some (some (.int .i64 0), 1, 8) := by kernel_rfl
theorem info2s : (Try.prog.info? 2).map (·.size) = some 1 := by kernel_rfl
theorem info3 : (Try.prog.info? 3).map (fun i => (i.zero, i.size, i.bytes)) = some (some (.int .i64 0), 1, 8) := by kernel_rfl
theorem info22 : (Try.prog.info? 22).map (fun i => (i.zero, i.size, i.bytes)) = some (some (.slice none 0 0), 1, 24) := by kernel_rfl

theorem cell_lt {w : World} {b o : Nat} {v : Value} (h : w.cell? ⟨b, o, none⟩ = some v) : b < w.heap.size := by
  rcases Nat.lt_or_ge b w.heap.size with h' | h'
  · exact h'
  · exfalso; simp [World.cell?, Array.getElem?_eq_none h'] at h

/-- 'copy(c, s)' onto a row just made: some world in which the row holds what s held. -/
theorem copy_made (b o l c : Nat) (Z : Nat → Int) (w : World) (hc : ∀ i, i < l → w.cell? ⟨b, o + i, none⟩ = some (.int .i64 (Z i))) (hb : b < w.heap.size) :
    ∃ w2, (∀ ty, (Builtin.copy_ #[22, 22] ty #[.slice (some ⟨w.heap.size, 0, none⟩) l l, .slice (some ⟨b, o, none⟩) l c]).run Try.prog (w.alloc (.cells (madeCells #[.int .i64 0] l) 2)) = .ok (goInt l) w2) ∧
      w2.rowIs w.heap.size 2 l (fun i => .int .i64 (Z i)) ∧ Below w.heap.size w w2 ∧ w2.heap.size = w.heap.size + 1 := by
  have hg : (w.alloc (.cells (madeCells #[.int .i64 0] l) 2)).heap[w.heap.size]? = some (.cells (madeCells #[.int .i64 0] l) 2 (0, 0)) := Deep.blk_alloc_new _ _
  have hlen : ((List.range l).map fun i => Value.int .i64 (Z i)).length = l := by simp
  have hrun := fun ty => run_copy_row (P := Try.prog) (w.alloc (.cells (madeCells #[.int .i64 0] l) 2)) 22 22 ty 2 w.heap.size 0 l l ⟨b, o, none⟩ l c (madeCells #[.int .i64 0] l) 2 ((List.range l).map fun i => .int .i64 (Z i))
    Try.underlying22 info2s hg (by rw [hlen]; exact (Nat.min_self l).symm) (fun j v hj => by
      have hjl : j < l := by
        have := (List.getElem?_eq_some_iff.1 hj).1
        simpa using this
      simp [hjl] at hj
      subst hj
      have e : (⟨b, o, none⟩ : Addr).add j = ⟨b, o + j, none⟩ := by simp [Addr.add]
      rw [e]
      rw [World.cell?_alloc_lt _ _ _ hb]
      exact hc j hjl) (by rw [hlen, size_madeCells]; omega) (by intro v hv; simp at hv; obtain ⟨j, _, rfl⟩ := hv; rfl)
  rw [hlen] at hrun
  refine ⟨_, hrun, ?_, below_setRow ((Below.refl _ w).alloc (Nat.le_refl _) _) (Nat.le_refl _) _, by simp⟩
  refine ⟨_, setRow_heap _ _ _ _ _ _ hg, ?_, fun i hi => ?_⟩
  · simp [size_madeCells]
  · simp only [List.take_zero, List.nil_append, List.getElem?_toArray]
    rw [List.getElem?_append_left (by simpa using hi)]
    simp [hi]

set_option maxRecDepth 8000 in
theorem clone_row (b o l c : Nat) (Z : Nat → Int) (w : World) (hc : ∀ i, i < l → w.cell? ⟨b, o + i, none⟩ = some (.int .i64 (Z i))) (h0 : 0 < l) (hl : l ≤ 1048576) :
    Calls Try.prog 11 #[.slice (some ⟨b, o, none⟩) l c] w fun e w' => e = .returned (.slice (some ⟨w.heap.size, 0, none⟩) l l) ∧ w'.rowIs w.heap.size 2 l (fun i => .int .i64 (Z i)) ∧ Below w.heap.size w w' ∧ w'.heap.size = w.heap.size + 1 := by
  have hb : b < w.heap.size := cell_lt (hc 0 h0)
  have q22 : ∀ (w : World), (binOp .eql 22 (.slice (some ⟨b, o, none⟩) l c) (.slice none 0 0)).run Try.prog w = .ok (.bool false) w := fun w => Lib.run_eql_slice_nil w _ _ _ _ _ _ _ Try.underlying22
  have hmk := run_make_row' (P := Try.prog) 22 2 (.int .i64 0) 8 Try.underlying22 info2 rfl .i64 .i64 l (by omega) (by omega)
  obtain ⟨w2, hcp, hrow, hbel, hsz⟩ := copy_made b o l c Z w hc hb
  clear hc
  have HR : Hid (w2.rowIs w.heap.size 2 l (fun i => .int .i64 (Z i)) ∧ Below w.heap.size w w2 ∧ w2.heap.size = w.heap.size + 1) := ⟨hrow, hbel, hsz⟩
  clear hrow hbel hsz
  go_enter Try.func11, Try.ntmps11
  go_wp2
  go_ret
  exact ⟨rfl, HR.out⟩

/-- A grid of the call's own: the outer row in block N, row r in block N + 1 + r. -/
def Rows (w : World) (N n : Nat) (L : Nat → Nat) (Z : Nat → Nat → Int) : Prop :=
  w.rowIs N 22 n (fun r => .slice (some ⟨N + 1 + r, 0, none⟩) (L r) (L r)) ∧ ∀ r, r < n → w.rowIs (N + 1 + r) 2 (L r) (fun c => .int .i64 (Z r c))
theorem Rows.keep {w w' : World} {N n B : Nat} {L : Nat → Nat} {Z : Nat → Nat → Int} (h : Rows w N n L Z) (hb : Below B w w') (hB : N + 1 + n ≤ B) : Rows w' N n L Z :=
  ⟨h.1.of_block (hb.block N (by omega)), fun r hr => (h.2 r hr).of_block (hb.block _ (by omega))⟩
/-- What cloneLefts hands back. -/
def Cloned (w : World) (n : Nat) (L : Nat → Nat) (Z : Nat → Nat → Int) (e : Ending) (w' : World) : Prop :=
  ∃ ao cap, e = .returned (.slice ao n cap) ∧ (n = 0 ∨ (ao = some ⟨w.heap.size, 0, none⟩ ∧ Rows w' w.heap.size n L Z ∧ w.heap.size + 1 + n ≤ w'.heap.size)) ∧ Below w.heap.size w w'

/-- cloneLefts, k rows done. -/
def Half (w wr : World) (N n k : Nat) (L : Nat → Nat) (Z : Nat → Nat → Int) : Prop :=
  wr.rowIs N 22 n (fun r => if r < k then .slice (some ⟨N + 1 + r, 0, none⟩) (L r) (L r) else .slice none 0 0) ∧ (∀ r, r < k → wr.rowIs (N + 1 + r) 2 (L r) (fun c => .int .i64 (Z r c))) ∧ wr.heap.size = N + 1 + k ∧ Below N w wr
theorem Half_step {w wr w1 : World} {N n k : Nat} {L : Nat → Nat} {Z : Nat → Nat → Int} (h : Half w wr N n k L Z) (hr : w1.rowIs wr.heap.size 2 (L k) (fun i => .int .i64 (Z k i))) (hb : Below wr.heap.size wr w1) (hs : w1.heap.size = wr.heap.size + 1) :
    Half w (w1.setCell ⟨N, k, none⟩ (.slice (some ⟨wr.heap.size, 0, none⟩) (L k) (L k))) N n (k + 1) L Z := by
  obtain ⟨h1, h2, h3, h4⟩ := h
  rw [h3] at hr hb hs ⊢
  have hrow : w1.rowIs N 22 n _ := h1.of_block (hb.block N (by omega))
  refine ⟨(hrow.set k _).congr (fun i hi => ?_), fun r hr' => ?_, by simp [World.setCell, hs]; omega, ?_⟩
  · by_cases e : i = k
    · subst e; simp
    · simp only [if_neg e]
      by_cases e2 : i < k
      · rw [if_pos e2, if_pos (by omega)]
      · rw [if_neg e2, if_neg (by omega)]
  · by_cases e : r = k
    · subst e; exact hr.setOther (a := ⟨N, r, none⟩) (by show N + 1 + r ≠ N; omega) _
    · exact ((h2 r (by omega)).of_block (hb.block _ (by omega))).setOther (a := ⟨N, k, none⟩) (by show N + 1 + r ≠ N; omega) _
  · exact (h4.trans (hb.mono (by omega))).setCell (p := ⟨N, k, none⟩) (Nat.le_refl _) _
theorem Half_end {w wr : World} {N n : Nat} {L : Nat → Nat} {Z : Nat → Nat → Int} (h : Half w wr N n n L Z) : Rows wr N n L Z ∧ N + 1 + n ≤ wr.heap.size ∧ Below N w wr := by
  obtain ⟨h1, h2, h3, h4⟩ := h
  exact ⟨⟨h1.congr (fun i hi => by simp [hi]), h2⟩, by omega, h4⟩

set_option maxHeartbeats 1000000 in
set_option maxRecDepth 8000 in
theorem clone_lefts {w : World} {ao : Option Addr} {n : Nat} {A : Nat → Option Addr} {L C : Nat → Nat} {Z : Nat → Nat → Int} (h : Grid w ao n A L C Z) (cap : Nat) (hn : n ≤ 65536) (hl : ∀ r, r < n → 0 < L r ∧ L r ≤ 1048576) :
    Calls Try.prog 30 #[.slice ao n cap] w (Cloned w n L Z) := by
  have q45 : ∀ (w : World), (binOp .eql 45 (.slice ao n cap) (.slice none 0 0)).run Try.prog w = .ok (.bool ao.isNone) w := fun w => Lib.run_eql_slice_nil w _ _ _ _ _ _ _ Try.underlying45
  have hmk := run_make_row' (P := Try.prog) 45 22 (.slice none 0 0) 24 Try.underlying45 info22 rfl .i64 .i64 n (by omega) (by omega)
  rcases h.top with h0 | ⟨b, off, rfl, hc⟩
  · subst h0
    cases ao with
    | none =>
      go_enter Try.func30, Try.ntmps30
      go_wp2
      go_ret
      exact ⟨none, 0, rfl, .inl rfl, Below.refl _ _⟩
    | some x =>
      have hmk0 : ∀ w : World, (Instr.makeSlice 45 (.int .i64 0) (.int .i64 0)).run Try.prog w = .ok (.slice (some ⟨w.heap.size, 0, none⟩) 0 0) (w.alloc (.cells (madeCells #[.slice none 0 0] 0) 22)) :=
        fun w => run_make_row' (P := Try.prog) 45 22 (.slice none 0 0) 24 Try.underlying45 info22 rfl .i64 .i64 0 (by omega) (by omega) w
      clear hmk
      go_enter Try.func30, Try.ntmps30
      go_wp2
      go_loop [4] (fun i => i = .int .i64 0) (fun _ => 0)
      case atStart => rfl
      case round =>
        subst hrel
        go_wp2
        go_ret
        exact ⟨_, _, rfl, .inl rfl, (Below.refl _ w).alloc (Nat.le_refl _) _⟩
  · go_enter Try.func30, Try.ntmps30
    go_wp2
    go_loopw [4] (fun i wr => ∃ k : Nat, k ≤ n ∧ i = .int .i64 (k : Int) ∧ Hid (Half w wr w.heap.size n k L Z)) (fun i _ => n - (intOf i).toNat)
    case atStart =>
      refine ⟨0, by omega, rfl, ?_, fun r hr => by omega, by simp, (Below.refl _ w).alloc (Nat.le_refl _) _⟩
      exact (World.rowIs_made w (.slice none 0 0) n 22).congr (fun i _ => by simp)
    case round =>
      obtain ⟨k, hk, rfl, hH⟩ := hrel
      by_cases hlt : k < n
      · have hb : b < w.heap.size := cell_lt (hc k hlt)
        have hlk := hl k hlt
        obtain ⟨rb, ro, hA, hz⟩ : ∃ rb ro, A k = some ⟨rb, ro, none⟩ ∧ ∀ c, c < L k → w.cell? ⟨rb, ro + c, none⟩ = some (.int .i64 (Z k c)) := by
          rcases h.row k hlt with h0 | h0
          · omega
          · exact h0
        have hrb : rb < w.heap.size := cell_lt (hz 0 hlk.1)
        have hck : wr.cell? ⟨b, off + k, none⟩ = some (.slice (some ⟨rb, ro, none⟩) (L k) (C k)) := by
          rw [← hA]; exact (hH.out.2.2.2.cell (p := ⟨b, off + k, none⟩) hb).trans (hc k hlt)
        have HZ : Hid (∀ c, c < L k → wr.cell? ⟨rb, ro + c, none⟩ = some (.int .i64 (Z k c))) := fun c hc' => (hH.out.2.2.2.cell (p := ⟨rb, ro + c, none⟩) hrb).trans (hz c hc')
        have HL : Hid (0 < L k ∧ L k ≤ 1048576) := hlk
        clear hz hA hlk hl hc
        go_wp2_with fail
        refine (clone_row rb ro (L k) (C k) (Z k) wr HZ.out HL.out.1 HL.out.2).mono ?_
        rintro e w1 ⟨rfl, hr1, hb1, hs1⟩
        have hN : w.heap.size < wr.heap.size := by have := hH.out.2.2.1; omega
        have hrow1 := hH.out.1.of_block (hb1.block w.heap.size hN)
        have hcell1 : w1.cell? ⟨w.heap.size, k, none⟩ = some (.slice none 0 0) := by rw [hrow1.cell hlt, if_neg (Nat.lt_irrefl _)]
        have hfr1 : w1.frozen? ⟨w.heap.size, k, none⟩ = false := hrow1.frozen k
        have HS := Half_step hH.out hr1 hb1 hs1
        have HS' : Hid (Half w (w1.setCell ⟨w.heap.size, k, none⟩ (.slice (some ⟨wr.heap.size, 0, none⟩) (L k) (L k))) w.heap.size n (k + 1) L Z) := HS
        clear HS hr1 hb1 hs1 hrow1 hH
        go_wp2
        go_roundw
        case rel => exact ⟨k + 1, by omega, by go_num, HS'.out⟩
        case measure => simp [intOf]; omega
      · have e : k = n := by omega
        subst e
        have HE := Half_end hH.out
        have HE' : Hid (Rows wr w.heap.size k L Z ∧ w.heap.size + 1 + k ≤ wr.heap.size ∧ Below w.heap.size w wr) := HE
        clear HE hH
        go_wp2
        go_ret
        exact ⟨_, _, rfl, .inr ⟨rfl, HE'.out.1, HE'.out.2.1⟩, HE'.out.2.2⟩
end Go.Proofs.Qxb6605989a
