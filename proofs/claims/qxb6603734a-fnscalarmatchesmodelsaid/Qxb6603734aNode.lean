/- Seat b6603734a: the reader in memory; newNode. -/
import Derived.Test.Qxb6603734aW1
import Derived.WalkSmall
import Derived.Deep.QuietTactic
import Derived.BigQuiet
import Derived.Deep.LoopGhost
import Derived.Deep.OwnRows
import Derived.Deep.RegionLawGrows
import Derived.Deep.RegionHeldLaw
import Derived.Lib.Builder
namespace Go.Proofs.Qxb6603734a
open Go.RowKit

theorem info38 : (Try.prog.info? 38).map (fun i => (i.zero, i.size, i.bytes)) = some (some (.agg #[.int .u8 0, .bool false, .int .i32 0, .int .i32 0, .int .i32 0, .int .i32 0, .int .i32 0]), 7, 24) := by kernel_rfl

/-- The reader and its tree in memory. -/
structure Sm (text : ByteArray) (pb tb : Nat) (a ln fr : Int) (v : Value) (w : World) : Prop where
  p0 : w.cell? ⟨pb, 0, none⟩ = some (.string text)
  p1 : w.cell? ⟨pb, 1, none⟩ = some (.pointer (some ⟨tb, 0, none⟩))
  p2 : w.cell? ⟨pb, 2, none⟩ = some (.int .i64 a)
  p3 : w.cell? ⟨pb, 3, none⟩ = some (.int .i64 ln)
  p5 : w.cell? ⟨pb, 5, none⟩ = some (.int .i64 fr)
  f2 : w.frozen? ⟨pb, 2, none⟩ = false
  f5 : w.frozen? ⟨pb, 5, none⟩ = false
  t1 : w.cell? ⟨tb, 1, none⟩ = some v
  g1 : w.frozen? ⟨tb, 1, none⟩ = false

/-- A scalar's node in memory, at offset o of block g. -/
structure NodeAt (g o : Nat) (nl : Bool) (ln fr to : Int) (w : World) : Prop where
  n0 : w.cell? ⟨g, o, none⟩ = some (.int .u8 1)
  n1 : w.cell? ⟨g, o + 1, none⟩ = some (.bool nl)
  n2 : w.cell? ⟨g, o + 2, none⟩ = some (.int .i32 ln)
  n3 : w.cell? ⟨g, o + 3, none⟩ = some (.int .i32 fr)
  n4 : w.cell? ⟨g, o + 4, none⟩ = some (.int .i32 to)
  n5 : w.cell? ⟨g, o + 5, none⟩ = some (.int .i32 0)
  n6 : w.cell? ⟨g, o + 6, none⟩ = some (.int .i32 0)
  fz : ∀ i, w.frozen? ⟨g, i, none⟩ = false

/-- What newNode leaves. -/
def NnPost (text : ByteArray) (pb tb n A : Nat) (a ln fr : Int) (w : World) (e : Ending) (w' : World) : Prop :=
  e = .returned (.int .i32 n) ∧ Below A w w' ∧ ∃ g cap, w.heap.size ≤ g ∧ g < w'.heap.size ∧ n + 1 ≤ cap ∧ Sm text pb tb a ln fr (.slice (some ⟨g, 0, none⟩) (n + 1) cap) w' ∧ NodeAt g (n * 7) false (IntKind.i32.wrap ln) 0 0 w'

theorem add_off (b j : Nat) : (⟨b, 0, none⟩ : Addr).add j = ⟨b, j, none⟩ := by
  unfold Addr.add
  split
  · rename_i h; rw [h]
  · simp

theorem wrap_i32 (x : Int) (h0 : 0 ≤ x) (h1 : x ≤ 2147483647) : IntKind.i32.wrap x = x := by
  unfold IntKind.wrap
  simp [IntKind.bits, IntKind.signed]
  omega

theorem NodeAt.other {g o : Nat} {nl : Bool} {ln fr to : Int} {w : World} (h : NodeAt g o nl ln fr to w) (x : Addr) (v : Value) (hx : x.block ≠ g) : NodeAt g o nl ln fr to (w.setCell x v) := by
  have hc : ∀ i, (w.setCell x v).cell? ⟨g, i, none⟩ = w.cell? ⟨g, i, none⟩ := fun i => World.cell?_setCell_other _ _ _ _ (fun e => hx (by rw [e]))
  exact ⟨(hc _).trans h.n0, (hc _).trans h.n1, (hc _).trans h.n2, (hc _).trans h.n3, (hc _).trans h.n4, (hc _).trans h.n5, (hc _).trans h.n6, fun i => (World.frozen?_setCell _ _ _ _).trans (h.fz i)⟩

theorem Sm.below {text : ByteArray} {pb tb : Nat} {a ln fr : Int} {v : Value} {w w' : World} {B : Nat} (h : Sm text pb tb a ln fr v w) (hb : Below B w w') (h1 : pb < B) (h2 : tb < B) : Sm text pb tb a ln fr v w' :=
  ⟨(hb.cell (p := ⟨pb, 0, none⟩) h1).trans h.p0, (hb.cell (p := ⟨pb, 1, none⟩) h1).trans h.p1, (hb.cell (p := ⟨pb, 2, none⟩) h1).trans h.p2, (hb.cell (p := ⟨pb, 3, none⟩) h1).trans h.p3, (hb.cell (p := ⟨pb, 5, none⟩) h1).trans h.p5,
    (hb.frozen (p := ⟨pb, 2, none⟩) h1).trans h.f2, (hb.frozen (p := ⟨pb, 5, none⟩) h1).trans h.f5, (hb.cell (p := ⟨tb, 1, none⟩) h2).trans h.t1, (hb.frozen (p := ⟨tb, 1, none⟩) h2).trans h.g1⟩

theorem Sm.setNodes {text : ByteArray} {pb tb : Nat} {a ln fr : Int} {v : Value} {w : World} (h : Sm text pb tb a ln fr v w) (hne : pb ≠ tb) (v' : Value) : Sm text pb tb a ln fr v' (w.setCell ⟨tb, 1, none⟩ v') := by
  have hc : ∀ i, (w.setCell ⟨tb, 1, none⟩ v').cell? ⟨pb, i, none⟩ = w.cell? ⟨pb, i, none⟩ := fun i => World.cell?_setCell_other _ _ _ _ (fun e => hne (by have := congrArg Addr.block e; exact this.symm))
  exact ⟨(hc _).trans h.p0, (hc _).trans h.p1, (hc _).trans h.p2, (hc _).trans h.p3, (hc _).trans h.p5, (World.frozen?_setCell _ _ _ _).trans h.f2, (World.frozen?_setCell _ _ _ _).trans h.f5, World.cell?_setCell_same _ _ _ h.t1, (World.frozen?_setCell _ _ _ _).trans h.g1⟩

/-- The seven cells of a new scalar's node. -/
def fresh7 (ln : Int) : List Value := [.int .u8 1, .bool false, .int .i32 (IntKind.i32.wrap ln), .int .i32 0, .int .i32 0, .int .i32 0, .int .i32 0]

theorem nodeAt_of (g n : Nat) (ln : Int) (cur : Array Value) (olds : List Value) (w : World) (hg : w.heap[g]? = some (.cells cur 38 (0, 0))) (hlo : olds.length = n * 7) (ht : cur.toList.take ((n + 1) * 7) = olds ++ fresh7 ln) : NodeAt g (n * 7) false (IntKind.i32.wrap ln) 0 0 w := by
  have hcell : ∀ i u, (fresh7 ln)[i]? = some u → w.cell? ⟨g, n * 7 + i, none⟩ = some u := by
    intro i u hu
    rw [Lib.cell_of_heap hg]
    have hi : i < 7 := by
      have := (List.getElem?_eq_some_iff.1 hu).1
      simpa [fresh7] using this
    have h1 : (cur.toList.take ((n + 1) * 7))[n * 7 + i]? = some u := by
      rw [ht, List.getElem?_append_right (by omega), hlo, show n * 7 + i - n * 7 = i by omega]
      exact hu
    rw [List.getElem?_take_of_lt (by omega)] at h1
    simpa using h1
  exact ⟨hcell 0 _ rfl, hcell 1 _ rfl, hcell 2 _ rfl, hcell 3 _ rfl, hcell 4 _ rfl, hcell 5 _ rfl, hcell 6 _ rfl, fun i => Lib.frozen_of_heap hg i⟩

/-- The append in newNode, as one step of its region. -/
theorem step_nodes {ops : Array Oper} {o : Oper} {a : Act} {w : World} {K : Act → World → Prop} {Q : Exit → Act → World → Prop} {E : Prop} (n nb h : Nat) (ln : Int) (olds : List Value)
    (hg : o.guard = none) (hop : o.op = Op.call { callee := Callee.builtin Builtin.append, args := #[.tmp 15, .tmp 23], argTypes := #[29, 29] })
    (hs : a.eval (.tmp 15) = .slice (some ⟨nb, 0, none⟩) n n) (hx : a.eval (.tmp 23) = .slice (some ⟨h, 0, none⟩) 1 1) (hn : n ≤ 65536) (hlo : olds.length = n * 7)
    (holds : ∀ j u, olds[j]? = some u → w.cell? ⟨nb, j, none⟩ = some u) (hnew : w.heap[h]? = some (.cells (fresh7 ln).toArray 38 (0, 0)))
    (hK : ∀ g cap w2, w.heap.size ≤ g → g < w2.heap.size → n + 1 ≤ cap → NodeAt g (n * 7) false (IntKind.i32.wrap ln) 0 0 w2 → Below w.heap.size w w2 → K (a.put o.dst (.slice (some ⟨g, 0, none⟩) (n + 1) cap)) w2) :
    if Region.wanted o (yielded ops a.tmps) = true then Oper.wp Try.prog o a w K Q else E := by
  obtain ⟨i0, hi, hz⟩ := Option.map_eq_some_iff.1 info38
  simp only [Prod.mk.injEq] at hz
  obtain ⟨hz0, hz1, hz2⟩ := hz
  refine step_append_grows hg (.tmp 15) (.tmp 23) 29 hop 38 i0 _ 7 24 Try.underlying29 hi hz0 hz1 hz2 rfl (by decide) (some ⟨nb, 0, none⟩) n n olds hs (fun h => by cases h) hlo ?_ ⟨h, 0, none⟩ 1 1 (fresh7 ln) hx rfl ?_ ?_ (by omega) (by unfold maxLen; omega) (by omega) ?_
  · intro b hb j u hu
    cases hb
    rw [add_off]
    exact holds j u hu
  · intro j u hu
    rw [add_off, Lib.cell_of_heap hnew]
    simpa using hu
  · intro u hu
    simp [fresh7] at hu
    rcases hu with rfl | rfl | rfl | rfl <;> rfl
  · intro v' w2 hown hgrow
    rcases hown.2 with ⟨_, h0⟩ | ⟨g, cap, cur, rfl, hge, hblk, hcap, _, _, htake⟩
    · omega
    · refine hK g cap w2 hge ?_ hcap (nodeAt_of g n ln cur olds w2 hblk hlo htake) ⟨hgrow.os, hgrow.tape, hgrow.output, hgrow.size, fun k hk => hgrow.block k hk (by simp)⟩
      rcases Nat.lt_or_ge g w2.heap.size with h' | h'
      · exact h'
      · simp [Array.getElem?_eq_none h'] at hblk

set_option maxRecDepth 100000 in
set_option maxHeartbeats 4000000 in
theorem newNode_any (text : ByteArray) (pb tb nb n A : Nat) (a ln fr : Int) (olds : List Value) (w : World) (hA : A ≤ tb) (hpb : pb < w.heap.size) (htb : tb < w.heap.size) (hnb : nb < w.heap.size) (hne : pb ≠ tb) (hn : n ≤ 65536) (hA2 : A ≤ w.heap.size)
    (hsm : Sm text pb tb a ln fr (.slice (some ⟨nb, 0, none⟩) n n) w) (hlo : olds.length = n * 7) (holds : ∀ j u, olds[j]? = some u → w.cell? ⟨nb, j, none⟩ = some u) :
    Calls Try.prog 11 #[.pointer (some ⟨pb, 0, none⟩), .int .u8 1] w (NnPost text pb tb n A a ln fr w) := by
  obtain ⟨p0, p1, p2, p3, p5, f2, f5, t1, g1⟩ := id hsm
  have hn' : (n : Int) ≤ 65536 := by omega
  have hwr : IntKind.i32.wrap (n : Int) = n := wrap_i32 _ (by omega) (by omega)
  have HO : Hid (∀ j u, olds[j]? = some u → (w.alloc (.cells (fresh7 ln).toArray 38 (0, 0))).cell? ⟨nb, j, none⟩ = some u) := fun j u hu => by rw [World.cell?_alloc_old _ _ _ (by simp; omega)]; exact holds j u hu
  have HN : Hid ((w.alloc (.cells (fresh7 ln).toArray 38 (0, 0))).heap[w.heap.size]? = some (.cells (fresh7 ln).toArray 38 (0, 0))) := Deep.blk_alloc_new _ _
  clear holds
  go_enter Try.func11, Try.ntmps11
  go_wp2_with fail
  have HP : Hid (∀ g cap w2, w.heap.size + 1 ≤ g → g < w2.heap.size → n + 1 ≤ cap → NodeAt g (n * 7) false (IntKind.i32.wrap ln) 0 0 w2 → Below w.heap.size w w2 → NnPost text pb tb n A a ln fr w (.returned (.int .i32 n)) (w2.setCell ⟨tb, 1, none⟩ (.slice (some ⟨g, 0, none⟩) (n + 1) cap))) := by
    intro g cap w2 h1 h2 h3 h4 h5
    exact ⟨rfl, (h5.mono hA2).setCell hA _, g, cap, by omega, by simpa [World.setCell] using h2, h3, (hsm.below h5 hpb htb).setNodes hne _, h4.other _ _ (by simp; omega)⟩
  go_region_law (refine step_nodes n nb w.heap.size ln olds rfl rfl (by simp [Act.eval]) (by simp [Act.eval]) hn hlo (by exact HO.out) (by exact HN.out) ?_; intro g cap w2 hg1 hg2 hcap hnode hbel; have hb0 : Below w.heap.size w w2 := ((((Below.refl _ _).alloc (Nat.le_refl _) _).drew).trans (hbel.mono (by simp))); have hg1' : w.heap.size + 1 ≤ g := (by simpa using hg1); have k1 : w2.cell? ⟨pb, 1, none⟩ = some (.pointer (some ⟨tb, 0, none⟩)) := (hb0.cell (p := ⟨pb, 1, none⟩) hpb).trans p1; have k2 : w2.cell? ⟨tb, 1, none⟩ = some (.slice (some ⟨nb, 0, none⟩) n n) := (hb0.cell (p := ⟨tb, 1, none⟩) htb).trans t1; have k3 : w2.frozen? ⟨tb, 1, none⟩ = false := (hb0.frozen (p := ⟨tb, 1, none⟩) htb).trans g1)
  all_goals
    go_wp2_with fail
    go_ret
    exact HP.out _ _ _ ‹_› ‹_› ‹_› ‹_› ‹_›

end Go.Proofs.Qxb6603734a
