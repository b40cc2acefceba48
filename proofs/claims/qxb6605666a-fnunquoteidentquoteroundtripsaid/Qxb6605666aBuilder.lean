/- strings.Builder at this dump: String by the shelf's contract, in plain words; copyCheck and WriteByte walked here (the dump's copyCheck ends in a refused statement, so the shelf's laying does not fit). -/
import Derived.Shelf.Strings.Builder1
import Derived.Test.Qxb6605666aRows
import Derived.WalkKit
namespace Go.Proofs.Qxb6605666a
open Go.Shelf Go.RowKit
def bld169_ren : Go.Shelf.Ren := ⟨fun | 169 => 17 | n => n, fun | 70 => 34 | 9 => 9 | 0 => 0 | 72 => 36 | 37 => 30 | 127 => 40 | 3 => 3 | 5 => 5 | n => n, fun | n => n⟩
theorem bld169 : Go.Proofs.Lays.n169 Try.prog bld169_ren := {
  mixed := by kernel_rfl
  f169 := Try.func17.trans (congrArg some (by kernel_rfl))
  t0 := Try.underlying0
  a0 := Try.isAgg0
  z0 := Try.sizeOf0
  v0 := Try.zeroValue0
  t3 := Try.underlying3
  a3 := Try.isAgg3
  z3 := Try.sizeOf3
  v3 := Try.zeroValue3
  t9 := Try.underlying9
  a9 := Try.isAgg9
  z9 := Try.sizeOf9
  v9 := Try.zeroValue9
  t37 := Try.underlying30
  a37 := Try.isAgg30
  z37 := Try.sizeOf30
  v37 := Try.zeroValue30
  t70 := Try.underlying34
  a70 := Try.isAgg34
  z70 := Try.sizeOf34
  v70 := Try.zeroValue34
  t72 := Try.underlying36
  a72 := Try.isAgg36
  z72 := Try.sizeOf36
  v72 := Try.zeroValue36
  t127 := Try.underlying40
  a127 := Try.isAgg40
  z127 := Try.sizeOf40
  v127 := Try.zeroValue40 }
theorem bldExtra : Builder.Extra Try.prog bld169_ren := {
  sizeBuilder := by kernel_rfl
  liesBuilder := by kernel_rfl
  t5 := Try.underlying5
  a5 := Try.isAgg5
  z5 := Try.sizeOf5
  v5 := Try.zeroValue5
  infoByte := by kernel_rfl
  cellsByte := by kernel_rfl
  sizeByte := by kernel_rfl
  neB5 := by decide }

/-- String: the accumulated bytes. -/
theorem bldString (B b : Nat) (l : List UInt8) (w : World) (h : Lib.IsBuilder 36 5 B b (Lib.byteCells l) w) (hBw : B ≤ w.heap.size) :
    Calls Try.prog 17 #[.pointer (some ⟨b, 0, none⟩)] w fun e w' => e = .returned (.string ⟨l.toArray⟩) ∧ Below B w w' := Any.Builder_String_any bld169 bldExtra B b l w h hBw

theorem infoBld : (Try.prog.info? 36).map (fun i => i.size) = some 2 := by kernel_rfl
theorem infoByte : (Try.prog.info? 5).map (fun i => (i.zero, i.size, i.bytes)) = some (some (.int .u8 0), 1, 1) := by kernel_rfl
theorem liesBld : liesAt Try.prog Try.prog.depth 36 (2 / Try.prog.cellsOf 36) 0 36 1 = true := by kernel_rfl

/-! A pointer turned to a raw one and back, at the builder's own block. ('show' lays the model's conversion open.) -/
theorem toRaw (b : Nat) (w : World) (hsh : w.shape? b = some (36, 2)) :
    (convert 34 41 (.pointer (some ⟨b, 0, none⟩))).run Try.prog w = .ok (.pointer (some ⟨b, 0, none⟩)) w := by
  obtain ⟨j, hj, hjs⟩ := Option.map_eq_some_iff.1 infoBld
  simp only [convert, run_underlying Try.underlying34, run_underlying Try.underlying41, Sem.run_bind, Result.andThen]
  show Sem.run Try.prog (underlying 34 >>= _) w = _
  simp [run_underlying Try.underlying34, run_underlying Try.underlying41, Conv.seenAt, viewAt, cellsIn, hsh, sizeOf, typeInfo, hj, hjs]
theorem fromRaw (b : Nat) (w : World) (hsh : w.shape? b = some (36, 2)) :
    (convert 41 34 (.pointer (some ⟨b, 0, none⟩))).run Try.prog w = .ok (.pointer (some ⟨b, 0, none⟩)) w := by
  obtain ⟨j, hj, hjs⟩ := Option.map_eq_some_iff.1 infoBld
  simp only [convert, run_underlying Try.underlying34, run_underlying Try.underlying41, Sem.run_bind, Result.andThen]
  show Sem.run Try.prog (underlying 41 >>= _) w = _
  simp [run_underlying Try.underlying34, run_underlying Try.underlying41, Conv.seenAt, viewAt, hsh, sizeOf, typeInfo, hj, variablesAt, liesBld]

/-- copyCheck at a builder that has been used: nothing turns. -/
theorem copyCheck_used (b : Nat) (w : World) (h0 : w.cell? ⟨b, 0, none⟩ = some (.pointer (some ⟨b, 0, none⟩))) :
    Calls Try.prog 18 #[.pointer (some ⟨b, 0, none⟩)] w fun e w' => e = .returned (.tuple #[]) ∧ w' = w := by
  obtain ⟨j, hj, _⟩ := Option.map_eq_some_iff.1 infoBld
  go_enter Try.func18, Try.ntmps18
  go_wp2
  rw [Lib.run_neq_ptr_same w _ Try.underlying34 hj]
  go_wp2
  go_end0
  exact ⟨rfl, rfl⟩

/-- copyCheck at a fresh builder: it stores its own address. -/
theorem copyCheck_fresh (b : Nat) (w : World) (h0 : w.cell? ⟨b, 0, none⟩ = some (.pointer none)) (hsh : w.shape? b = some (36, 2)) (hfz : w.frozen? ⟨b, 0, none⟩ = false) :
    Calls Try.prog 18 #[.pointer (some ⟨b, 0, none⟩)] w fun e w' => e = .returned (.tuple #[]) ∧ w' = w.setCell ⟨b, 0, none⟩ (.pointer (some ⟨b, 0, none⟩)) := by
  go_enter Try.func18, Try.ntmps18
  go_wp2
  rw [toRaw b w hsh]
  simp only [Result.andThen]
  rw [Oper.upon_value]
  go_wp2
  rw [run_callFunc_extern Try.func19 (by kernel_rfl) (by kernel_rfl) (by kernel_rfl) (e := Extern.AbiNoEscape.same) (by kernel_rfl)]
  rw [Lib.run_noEscape]
  simp only [Result.andThen]
  rw [Oper.upon_value]
  go_wp2
  rw [fromRaw b w hsh]
  simp only [Result.andThen]
  rw [Oper.upon_value]
  go_wp2
  go_end0
  exact ⟨rfl, rfl⟩

theorem copyCheck_any (B b : Nat) (bs : List Value) (w : World) (h : Lib.IsBuilder 36 5 B b bs w) :
    Calls Try.prog 18 #[.pointer (some ⟨b, 0, none⟩)] w fun e w' => e = .returned (.tuple #[]) ∧ (Lib.BuilderAt 36 5 B b (.pointer (some ⟨b, 0, none⟩)) bs w' ∧ Below B w w') := by
  rcases h with h | h
  · refine (copyCheck_fresh b w h.cell0 h.shape h.frozen0).mono ?_
    rintro e w' ⟨rfl, rfl⟩
    exact ⟨rfl, h.used _, (Below.refl B w).setCell (p := ⟨b, 0, none⟩) h.1 _⟩
  · refine (copyCheck_used b w h.cell0).mono ?_
    rintro e w' ⟨rfl, rfl⟩
    exact ⟨rfl, h, Below.refl B _⟩

set_option maxHeartbeats 2000000 in
set_option maxRecDepth 100000 in
theorem bldWriteByte (B b : Nat) (bs : List Value) (c : Int) (w : World) (h : Lib.IsBuilder 36 5 B b bs w) (hlen : bs.length + 1 ≤ 140737488355328) :
    Calls Try.prog 16 #[.pointer (some ⟨b, 0, none⟩), .int .u8 c] w fun e w' => e = .returned .nilIface ∧ (Lib.BuilderAt 36 5 B b (.pointer (some ⟨b, 0, none⟩)) (bs ++ [.int .u8 c]) w' ∧ Below B w w') := by
  obtain ⟨i0, hi, hz0, hz1, hz2⟩ := info_parts infoByte
  go_enter Try.func16, Try.ntmps16
  go_wp2_with (go_at_call 18; refine (copyCheck_any B b bs _ h).mono ?_)
  rintro e w1 ⟨rfl, h1, hb1⟩
  obtain ⟨hB, v, hbk, hown, hne⟩ := h1
  have c0 : w1.cell? ⟨b, 0, none⟩ = some (.pointer (some ⟨b, 0, none⟩)) := by rw [Lib.cell_of_heap hbk]; rfl
  have c1 : w1.cell? ⟨b, 1, none⟩ = some v := by rw [Lib.cell_of_heap hbk]; rfl
  have hlt : b < w1.heap.size := by
    rcases Nat.lt_or_ge b w1.heap.size with h' | h'
    · exact h'
    · simp [Array.getElem?_eq_none h'] at hbk
  go_wp2_with (at_builtin; refine wpList_append_own _ rfl _ _ 30 rfl B 5 i0 (.int .u8 0) 1 1 Try.underlying30 hi hz0 hz1 hz2 rfl (by decide) _ _ _ rfl (hown.alloc _) ⟨w1.heap.size, 0, none⟩ 1 1 [.int .u8 c] rfl rfl ?c1 ?c2 ?c3 ?c4 ?c5 ?_)
  case c1 =>
    intro j u hj
    match j, hj with
    | 0, hj => simp at hj; subst hj; simp [Addr.add]
  case c2 => intro u hu; simp at hu; subst hu; rfl
  case c3 => unfold maxLen; omega
  case c4 => omega
  case c5 => simp; omega
  intro v' w2 hown' hgrow _
  have hb2 : w2.heap[b]? = some (.cells #[.pointer (some ⟨b, 0, none⟩), v] 36 (0, 0)) := by
    rw [hgrow.block b (by simp; omega) (fun e => hne e.symm), Lib.alloc_old w1 _ b hlt]
    exact hbk
  have d0 : w2.cell? ⟨b, 0, none⟩ = some (.pointer (some ⟨b, 0, none⟩)) := by rw [Lib.cell_of_heap hb2]; rfl
  have d1 : w2.cell? ⟨b, 1, none⟩ = some v := by rw [Lib.cell_of_heap hb2]; rfl
  have f1 : w2.frozen? ⟨b, 1, none⟩ = false := Lib.frozen_of_heap hb2 1
  obtain ⟨g, cap, rfl⟩ : ∃ g cap, v' = .slice (some ⟨g, 0, none⟩) (bs.length + 1) cap := by
    rcases hown'.2 with ⟨_, h0⟩ | ⟨g, cap, cur, hv, _⟩
    · omega
    · exact ⟨g, cap, hv⟩
  go_wp2
  go_ret
  refine ⟨rfl, ?_, ?_⟩
  · exact Lib.BuilderAt.put (T := 36) (e := 5) hB hb2 (bs' := bs ++ [.int .u8 c]) (by simpa using hown') (by decide)
  · exact ((hb1.alloc (by omega) _).grown hgrow (by simp; omega) (fun k hk => (hown.lt k hk).1)).setCell (p := ⟨b, 1, none⟩) hB _
end Go.Proofs.Qxb6605666a
