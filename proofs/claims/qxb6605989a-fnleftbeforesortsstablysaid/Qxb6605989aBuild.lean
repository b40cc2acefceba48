/- buildCluster: the rows laid out as the servers' Left amounts. -/
import Derived.Test.Qxb6605989aClone
namespace Go.Proofs.Qxb6605989a
open Go.RowKit

/-- A Server's zero cells. -/
def zeroServer : Array Value := #[.string ⟨#[]⟩, .slice none 0 0, .slice none 0 0, .slice none 0 0, .string ⟨#[]⟩, .int .i64 0]
theorem info81 : (Try.prog.info? 81).map (fun i => (i.zero, i.size, i.bytes)) = some (some (.agg zeroServer), 6, 112) := by kernel_rfl

theorem make_servers (n : Nat) (hn : n ≤ 65536) (w : World) :
    (Instr.makeSlice 79 (.int .i64 (n : Int)) (.int .i64 (n : Int))).run Try.prog w = .ok (.slice (some ⟨w.heap.size, 0, none⟩) n n) (w.alloc (.cells (madeCells zeroServer (n * 6)) 81)) := by
  obtain ⟨i, hi, hzz⟩ := Option.map_eq_some_iff.1 info81
  simp only [Prod.mk.injEq] at hzz
  obtain ⟨hz, hs, hb⟩ := hzz
  have hr := run_make (P := Try.prog) w 79 81 i (.agg zeroServer) Try.underlying79 hi hz .i64 .i64 n n (by omega) (Int.le_refl _) (by rw [hb]; omega) (by omega)
  simp only [Int.toNat_natCast, hs] at hr
  exact hr

/-- The servers' row, the first k filled. -/
def Srv (w : World) (sb n k N : Nat) (L : Nat → Nat) : Prop :=
  ∃ g : Nat → Value, w.rowIs sb 81 (n * 6) g ∧ ∀ r, r < k → g (r * 6 + 2) = .slice (some ⟨N + 1 + r, 0, none⟩) (L r) (L r)
theorem Srv_start (w : World) (n N : Nat) (L : Nat → Nat) : Srv (w.alloc (.cells (madeCells zeroServer (n * 6)) 81)) w.heap.size n 0 N L := by
  refine ⟨fun i => zeroServer[i % zeroServer.size]!, ⟨_, Deep.blk_alloc_new _ _, size_madeCells _ _, fun i hi => ?_⟩, fun r hr => by omega⟩
  simp [madeCells, hi]
theorem Srv_step {w : World} {sb n k N : Nat} {L : Nat → Nat} (h : Srv w sb n k N L) :
    Srv (w.setCell ⟨sb, k * 6 + 2, none⟩ (.slice (some ⟨N + 1 + k, 0, none⟩) (L k) (L k))) sb n (k + 1) N L := by
  obtain ⟨g, h1, h2⟩ := h
  refine ⟨_, h1.set (k * 6 + 2) _, fun r hr => ?_⟩
  by_cases e : r = k
  · subst e; simp
  · rw [if_neg (by omega)]; exact h2 r (by omega)

/-- A cluster: its servers' Left fields are the rows' slices. -/
def Clus (w : World) (p n N : Nat) (L : Nat → Nat) : Prop :=
  ∃ sb, w.cell? ⟨p, 1, none⟩ = some (.slice (some ⟨sb, 0, none⟩) n n) ∧ ∀ r, r < n → w.cell? ⟨sb, r * 6 + 2, none⟩ = some (.slice (some ⟨N + 1 + r, 0, none⟩) (L r) (L r))
theorem Clus.keep {w w' : World} {p n N : Nat} {L : Nat → Nat} (h : Clus w p n N L) (hb : Below w.heap.size w w') : Clus w' p n N L := by
  obtain ⟨sb, h1, h2⟩ := h
  exact ⟨sb, (hb.cell (p := ⟨p, 1, none⟩) (cell_lt h1)).trans h1, fun r hr => (hb.cell (p := ⟨sb, r * 6 + 2, none⟩) (cell_lt (h2 r hr))).trans (h2 r hr)⟩
/-- What buildCluster hands back. -/
def Built (w : World) (n N : Nat) (L : Nat → Nat) (e : Ending) (w' : World) : Prop :=
  ∃ p, e = .returned (.pointer (some ⟨p, 0, none⟩)) ∧ Clus w' p n N L ∧ Below w.heap.size w w'

theorem built_end {w : World} {sb n N p : Nat} {L : Nat → Nat} {a b c : Value} (h : Srv w sb n n N L) (hp : p = w.heap.size) : Clus (w.alloc (.cells #[a, .slice (some ⟨sb, 0, none⟩) n n, b, c] 85)) p n N L := by
  subst hp
  obtain ⟨g, h1, h2⟩ := h
  refine ⟨sb, by simp, fun r hr => ?_⟩
  rw [World.cell?_alloc_lt _ _ _ h1.lt, h1.cell (by omega), h2 r hr]

set_option maxHeartbeats 1000000 in
set_option maxRecDepth 8000 in
theorem build_any {w : World} {ao : Option Addr} {n N cap : Nat} {L : Nat → Nat} {Z : Nat → Nat → Int} (hn : n ≤ 65536) (h : n = 0 ∨ (ao = some ⟨N, 0, none⟩ ∧ Rows w N n L Z)) :
    Calls Try.prog 31 #[.slice ao n cap] w (Built w n N L) := by
  have hmk := make_servers n hn
  rcases h with h0 | ⟨rfl, hR⟩
  · subst h0
    have hmk0 : ∀ w : World, (Instr.makeSlice 79 (.int .i64 0) (.int .i64 0)).run Try.prog w = .ok (.slice (some ⟨w.heap.size, 0, none⟩) 0 0) (w.alloc (.cells (madeCells zeroServer (0 * 6)) 81)) := make_servers 0 (by omega)
    clear hmk
    go_enter Try.func31, Try.ntmps31
    go_wp2
    go_loop [4] (fun i => i = .int .i64 0) (fun _ => 0)
    case atStart => rfl
    case round =>
      subst hrel
      go_wp2
      go_ret
      exact ⟨_, rfl, built_end (show Srv (w.alloc (.cells (madeCells zeroServer 0) 81)) w.heap.size 0 0 N L from Srv_start w 0 N L) (by simp), ((Below.refl _ w).alloc (Nat.le_refl _) _).alloc (by simp) _⟩
  · go_enter Try.func31, Try.ntmps31
    go_wp2
    go_loopw [4] (fun i wr => ∃ k : Nat, k ≤ n ∧ i = .int .i64 (k : Int) ∧ Hid (Srv wr w.heap.size n k N L ∧ Below w.heap.size w wr)) (fun i _ => n - (intOf i).toNat)
    case atStart => exact ⟨0, by omega, rfl, Srv_start w n N L, (Below.refl _ w).alloc (Nat.le_refl _) _⟩
    case round =>
      obtain ⟨k, hk, rfl, hH⟩ := hrel
      by_cases hlt : k < n
      · have hNw : N < w.heap.size := hR.1.lt
        have hck : wr.cell? ⟨N, k, none⟩ = some (.slice (some ⟨N + 1 + k, 0, none⟩) (L k) (L k)) := (hH.out.2.cell (p := ⟨N, k, none⟩) hNw).trans (hR.1.cell hlt)
        obtain ⟨g, hg1, hg2⟩ := hH.out.1
        have hcs : wr.cell? ⟨w.heap.size, k * 6 + 2, none⟩ = some (g (k * 6 + 2)) := hg1.cell (by omega)
        have hfs : wr.frozen? ⟨w.heap.size, k * 6 + 2, none⟩ = false := hg1.frozen _
        obtain ⟨y, hy⟩ : ∃ y, y = g (k * 6 + 2) := ⟨_, rfl⟩
        rw [← hy] at hcs
        clear hg1 hg2 hy
        go_wp2
        go_roundw
        case rel => exact ⟨k + 1, by omega, by go_num, Srv_step hH.out.1, hH.out.2.setCell (p := ⟨w.heap.size, k * 6 + 2, none⟩) (Nat.le_refl _) _⟩
        case measure => simp [intOf]; omega
      · have e : k = n := by omega
        subst e
        go_wp2
        go_ret
        exact ⟨_, rfl, built_end hH.out.1 rfl, hH.out.2.alloc hH.out.2.size _⟩
end Go.Proofs.Qxb6605989a
