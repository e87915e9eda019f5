/-
  Seat b6603465a: the builder's methods at this program. (The shelf's three contracts on copyCheck, WriteString and WriteByte cannot be laid here: in this dump the statement behind copyCheck's failed test is one that the loader refuses, so the bodies part.)
-/
import Derived.Test.Qxb6603465aShelf
import Derived.Test.Qxb6603465aProg
import Derived.Shelf.Strings.Builder1
import Derived.WalkKit
import Derived.WalkSpells
import Derived.WalkLawsBesides
namespace Go.Proofs.Qxb6603465a
open Go.RowKit

theorem info47 : (Try.prog.info? 47).map (·.size) = some 2 := by kernel_rfl
theorem info5 : (Try.prog.info? 5).map (fun i => (i.zero, i.size, i.bytes)) = some (some (.int .u8 0), 1, 1) := by kernel_rfl
theorem lies47 : liesAt Try.prog Try.prog.depth 47 (2 / Try.prog.cellsOf 47) 0 47 1 = true := by kernel_rfl

/-- A pointer to the builder, made bare. -/
theorem to_raw (b : Nat) (w : World) (hsh : w.shape? b = some (47, 2)) :
    (convert 45 59 (.pointer (some ⟨b, 0, none⟩))).run Try.prog w = .ok (.pointer (some ⟨b, 0, none⟩)) w := by
  obtain ⟨j, hj, hjs⟩ := Option.map_eq_some_iff.1 info47
  have hj0 : j.size ≠ 0 := by omega
  simp only [convert, Sem.run_bind, run_underlying Try.underlying45, run_underlying Try.underlying59, Result.andThen]
  change Sem.run Try.prog (Bind.bind (underlying 45) _) w = _
  simp [run_underlying Try.underlying45, run_underlying Try.underlying59, Conv.seenAt, viewAt, cellsIn, hsh, sizeOf, typeInfo, hj, hj0]

/-- .. and taken back. -/
theorem from_raw (b : Nat) (w : World) (hsh : w.shape? b = some (47, 2)) :
    (convert 59 45 (.pointer (some ⟨b, 0, none⟩))).run Try.prog w = .ok (.pointer (some ⟨b, 0, none⟩)) w := by
  obtain ⟨j, hj, hjs⟩ := Option.map_eq_some_iff.1 info47
  simp only [convert, Sem.run_bind, run_underlying Try.underlying45, run_underlying Try.underlying59, Result.andThen]
  change Sem.run Try.prog (Bind.bind (underlying 59) _) w = _
  simp [run_underlying Try.underlying45, run_underlying Try.underlying59, Conv.seenAt, viewAt, hsh, variablesAt, lies47, sizeOf, typeInfo, hj]

set_option maxRecDepth 100000 in
set_option maxHeartbeats 1000000 in
/-- copyCheck of a builder that has been written. -/
theorem copy_used (b : Nat) (w : World) (h0 : w.cell? ⟨b, 0, none⟩ = some (.pointer (some ⟨b, 0, none⟩))) :
    Calls Try.prog 14 #[.pointer (some ⟨b, 0, none⟩)] w fun e w' => e = .returned (.tuple #[]) ∧ w' = w := by
  obtain ⟨j, hj, _⟩ := Option.map_eq_some_iff.1 info47
  go_enter Try.func14, Try.ntmps14
  go_wp2
  rw [Lib.run_neq_ptr_same w _ Try.underlying45 hj]
  go_wp2
  go_end0
  exact ⟨rfl, rfl⟩

set_option maxRecDepth 100000 in
set_option maxHeartbeats 1000000 in
/-- copyCheck of a new builder: it notes its own address. -/
theorem copy_fresh (b : Nat) (w : World) (h0 : w.cell? ⟨b, 0, none⟩ = some (.pointer none)) (hsh : w.shape? b = some (47, 2)) (hfz : w.frozen? ⟨b, 0, none⟩ = false) :
    Calls Try.prog 14 #[.pointer (some ⟨b, 0, none⟩)] w fun e w' => e = .returned (.tuple #[]) ∧ w' = w.setCell ⟨b, 0, none⟩ (.pointer (some ⟨b, 0, none⟩)) := by
  go_enter Try.func14, Try.ntmps14
  go_wp2
  rw [to_raw b w hsh]
  simp only [Result.andThen]
  rw [Oper.upon_value]
  go_wp2
  rw [run_callFunc_extern Try.func19 (by kernel_rfl) (by kernel_rfl) (by kernel_rfl) (e := Extern.AbiNoEscape.same) (by kernel_rfl)]
  rw [Lib.run_noEscape]
  simp only [Result.andThen]
  rw [Oper.upon_value]
  go_wp2
  rw [from_raw b w hsh]
  simp only [Result.andThen]
  rw [Oper.upon_value]
  go_wp2
  go_end0
  exact ⟨rfl, rfl⟩

/-- A builder that has been written, holding the bytes l: in block b, its row one of the call's own from B on. -/
def Bld (B b : Nat) (l : List UInt8) (w : World) : Prop := Lib.BuilderAt 47 5 B b (.pointer (some ⟨b, 0, none⟩)) (Lib.byteCells l) w

theorem byteCells_snoc (l : List UInt8) (c : UInt8) : Lib.byteCells (l ++ [c]) = Lib.byteCells l ++ [.int .u8 c.toNat] := by
  simp [Lib.byteCells]

set_option maxRecDepth 100000 in
set_option maxHeartbeats 2000000 in
theorem writeByte (B b : Nat) (l : List UInt8) (c : UInt8) (w : World) (h : Bld B b l w) (hlen : l.length + 1 ≤ 140737488355328) (hBw : B ≤ w.heap.size) :
    Calls Try.prog 18 #[.pointer (some ⟨b, 0, none⟩), .int .u8 c.toNat] w fun e w' => e = .returned .nilIface ∧ Bld B b (l ++ [c]) w' ∧ Below B w w' := by
  obtain ⟨hB, v, hbk, hown, hne⟩ := h
  obtain ⟨i0, hi, hz⟩ := Option.map_eq_some_iff.1 info5
  simp only [Prod.mk.injEq] at hz
  obtain ⟨hz0, hz1, hz2⟩ := hz
  have hll : (Lib.byteCells l).length = l.length := by simp [Lib.byteCells]
  have c0 : w.cell? ⟨b, 0, none⟩ = some (.pointer (some ⟨b, 0, none⟩)) := by rw [Lib.cell_of_heap hbk]; rfl
  have c1 : w.cell? ⟨b, 1, none⟩ = some v := by rw [Lib.cell_of_heap hbk]; rfl
  have hlt : b < w.heap.size := by
    rcases Nat.lt_or_ge b w.heap.size with h' | h'
    · exact h'
    · simp [Array.getElem?_eq_none h'] at hbk
  have HL : Hid ((Lib.byteCells l).length = l.length) := hll
  clear hll
  go_enter Try.func18, Try.ntmps18
  go_wp2_with fail
  refine (copy_used b _ c0).mono ?_
  rintro e w1 ⟨rfl, hw1⟩
  rw [hw1]
  clear hw1
  go_wp2_with (at_builtin; refine wpList_append_own _ rfl _ _ 24 rfl B 5 i0 (.int .u8 0) 1 1 Try.underlying24 hi hz0 hz1 hz2 rfl (by decide) _ _ _ rfl (hown.alloc _) ⟨w.heap.size, 0, none⟩ 1 1 [.int .u8 c.toNat] rfl rfl ?c1 ?c2 ?c3 ?c4 ?c5 ?_)
  case c1 =>
    intro j u hj
    match j, hj with
    | 0, hj => simp at hj; subst hj; simp [Addr.add]
  case c2 => intro u hu; simp at hu; subst hu; rfl
  case c3 => have := HL.out; unfold maxLen; omega
  case c4 => have := HL.out; omega
  case c5 => simp; omega
  intro v' w2 hown' hgrow _
  have hb2 : w2.heap[b]? = some (.cells #[.pointer (some ⟨b, 0, none⟩), v] 47 (0, 0)) := by
    rw [hgrow.block b (by simp; omega) (fun e => hne e.symm), Lib.alloc_old w _ b hlt]
    exact hbk
  have d1 : w2.cell? ⟨b, 1, none⟩ = some v := by rw [Lib.cell_of_heap hb2]; rfl
  have f1 : w2.frozen? ⟨b, 1, none⟩ = false := Lib.frozen_of_heap hb2 1
  obtain ⟨g, cap, rfl⟩ : ∃ g cap, v' = .slice (some ⟨g, 0, none⟩) ((Lib.byteCells l).length + 1) cap := by
    rcases hown'.2 with ⟨_, h0⟩ | ⟨g, cap, cur, hv, _⟩
    · omega
    · exact ⟨g, cap, hv⟩
  go_wp2
  go_ret
  refine ⟨rfl, ?_, ?_⟩
  · unfold Bld
    rw [byteCells_snoc]
    exact Lib.BuilderAt.put (T := 47) (e := 5) hB hb2 (bs' := Lib.byteCells l ++ [.int .u8 c.toNat]) (by simpa using hown') (by decide)
  · exact (((Below.refl B w).alloc hBw _).grown hgrow (by simp; omega) (fun k hk => (hown.lt k hk).1)).setCell (p := ⟨b, 1, none⟩) hB _

set_option maxRecDepth 100000 in
set_option maxHeartbeats 2000000 in
/-- WriteString into a new builder. -/
theorem writeString (B b : Nat) (s : ByteArray) (w : World) (hB : B ≤ b) (hbk : w.heap[b]? = some (.cells #[.pointer none, .slice none 0 0] 47 (0, 0))) (hlen : s.size ≤ 140737488355328) :
    Calls Try.prog 11 #[.pointer (some ⟨b, 0, none⟩), .string s] w fun e w' => e = .returned (.tuple #[.int .i64 s.size, .nilIface]) ∧ Bld B b s.data.toList w' ∧ Below B w w' := by
  obtain ⟨i0, hi, hz⟩ := Option.map_eq_some_iff.1 info5
  simp only [Prod.mk.injEq] at hz
  obtain ⟨hz0, hz1, hz2⟩ := hz
  have hlt : b < w.heap.size := by
    rcases Nat.lt_or_ge b w.heap.size with h' | h'
    · exact h'
    · simp [Array.getElem?_eq_none h'] at hbk
  have hold : Lib.BuilderAt 47 5 B b (.pointer none) [] w := ⟨hB, _, hbk, ⟨rfl, Or.inl ⟨rfl, rfl⟩⟩, by simp [Value.ownBlock]⟩
  obtain ⟨w1, hw1⟩ : ∃ w1, w1 = w.setCell ⟨b, 0, none⟩ (.pointer (some ⟨b, 0, none⟩)) := ⟨_, rfl⟩
  have hu : Lib.BuilderAt 47 5 B b (.pointer (some ⟨b, 0, none⟩)) [] w1 := by rw [hw1]; exact hold.used _
  have hb1 : Below B w w1 := by rw [hw1]; exact (Below.refl B w).setCell (p := ⟨b, 0, none⟩) hB _
  have c0 : w.cell? ⟨b, 0, none⟩ = some (.pointer none) := hold.cell0
  have hcp := copy_fresh b w c0 hold.shape hold.frozen0
  rw [← hw1] at hcp
  have HCP : Hid (Calls Try.prog 14 #[.pointer (some ⟨b, 0, none⟩)] w fun e w' => e = .returned (.tuple #[]) ∧ w' = w1) := hcp
  clear hcp hw1 hold c0 hbk
  obtain ⟨_, v, hbk, hown, hne⟩ := hu
  have c1 : w1.cell? ⟨b, 1, none⟩ = some v := by rw [Lib.cell_of_heap hbk]; rfl
  have hs1 := hb1.size
  go_enter Try.func11, Try.ntmps11
  go_wp2_with fail
  refine HCP.out.mono ?_
  rintro e w1' ⟨rfl, hw1'⟩
  rw [hw1']
  clear hw1'
  go_wp2_with (at_builtin; refine Lib.wpList_append_own_string _ rfl _ _ 24 9 rfl B 5 i0 Try.underlying24 Try.underlying9 hi hz0 hz1 hz2 _ _ _ rfl hown s rfl ?c3 ?c4 ?c5 ?_)
  case c3 => simp; unfold maxLen; omega
  case c4 => simp; omega
  case c5 => omega
  intro v' w2 hown' hgrow _
  have hb2 : w2.heap[b]? = some (.cells #[.pointer (some ⟨b, 0, none⟩), v] 47 (0, 0)) := by
    rw [hgrow.block b (by omega) (fun e => hne e.symm)]
    exact hbk
  have d1 : w2.cell? ⟨b, 1, none⟩ = some v := by rw [Lib.cell_of_heap hb2]; rfl
  have f1 : w2.frozen? ⟨b, 1, none⟩ = false := Lib.frozen_of_heap hb2 1
  obtain ⟨ao, n', cap, rfl⟩ : ∃ ao n' cap, v' = .slice ao n' cap := by
    rcases hown'.2 with ⟨hv, _⟩ | ⟨g, cap, cur, hv, _⟩
    · exact ⟨_, _, _, hv⟩
    · exact ⟨_, _, _, hv⟩
  go_wp2
  go_ret2
  refine ⟨rfl, ?_, ?_⟩
  · have hsc : Lib.byteCells s.data.toList = [] ++ Lib.strCells s := rfl
    unfold Bld
    rw [hsc]
    exact Lib.BuilderAt.put (T := 47) (e := 5) hB hb2 (bs' := [] ++ Lib.strCells s) (by simpa [Lib.strCells_length] using hown') (by decide)
  · exact (hb1.grown hgrow (by omega) (fun k hk => (hown.lt k hk).1)).setCell (p := ⟨b, 1, none⟩) hB _

end Go.Proofs.Qxb6603465a
