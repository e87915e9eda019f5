/- Seat b6603734a: ZZScalar. -/
import Derived.Test.Qxb6603734aScalar
namespace Go.Proofs.Qxb6603734a
open Go.RowKit

/-- scalar, wherever it is called. -/
theorem scalar_any (text : ByteArray) (pb tb nb n A a : Nat) (ln fr : Int) (flow : Bool) (w : World) (hst : Start text pb tb nb n A w) (ha : a ≤ text.size) (hsm : Sm text pb tb a ln fr (.slice (some ⟨nb, 0, none⟩) n n) w) :
    Calls Try.prog 7 #[.pointer (some ⟨pb, 0, none⟩), .bool flow] w (ScPost text pb tb nb n A a ln fr (Plain.outcome text.data.toList a flow) w) := by
  by_cases he : a = text.size
  · exact scalar_end text pb tb nb n A a ln fr flow w he hsm
  · by_cases hq : Plain.bt text.data.toList a = 34 ∨ Plain.bt text.data.toList a = 39
    · exact scalar_quote text pb tb nb n A a ln fr flow w hst (by omega) hsm hq
    · cases hr : Plain.refB text.data.toList a
      · exact scalar_plain text pb tb nb n A a ln fr flow w hst (by omega) hsm hq hr
      · exact scalar_refused text pb tb nb n A a ln fr flow w hst (by omega) hsm hq hr

/-- What ZZScalar hands back. -/
def zzRes (pre : Nat) (a : Nat) (ln fr : Int) (o : Option (Nat × Nat × Nat × Bool)) : Value :=
  match o with
  | none => .tuple #[.int .i32 (-1), .int .i64 a, .int .i64 fr, .int .i64 pre, .int .u8 0, .bool false, .int .i32 0, .int .i32 0, .int .i32 0, .int .i32 0, .int .i32 0]
  | some (x, f, t, nl) => .tuple #[.int .i32 pre, .int .i64 x, .int .i64 a, .int .i64 (pre + 1 : Nat), .int .u8 1, .bool nl, .int .i32 (IntKind.i32.wrap ln), .int .i32 (IntKind.i32.wrap f), .int .i32 (IntKind.i32.wrap t), .int .i32 0, .int .i32 0]

theorem make38 (n : Nat) (hn : n ≤ 65536) (w : World) :
    (Instr.makeSlice 29 (.int .i64 n) (.int .i64 n)).run Try.prog w = .ok (.slice (some ⟨w.heap.size, 0, none⟩) n n) (w.alloc (.cells (madeCells #[.int .u8 0, .bool false, .int .i32 0, .int .i32 0, .int .i32 0, .int .i32 0, .int .i32 0] (n * 7)) 38)) := by
  obtain ⟨i0, hi, hz⟩ := Option.map_eq_some_iff.1 info38
  simp only [Prod.mk.injEq] at hz
  obtain ⟨hz0, hz1, hz2⟩ := hz
  have h := run_make (P := Try.prog) w 29 38 i0 _ Try.underlying29 hi hz0 .i64 .i64 n n (by omega) (by omega) (by rw [hz2]; omega) (by omega)
  rw [hz1] at h
  exact h

/-- The zero node's cells. -/
def zero7 : Array Value := #[.int .u8 0, .bool false, .int .i32 0, .int .i32 0, .int .i32 0, .int .i32 0, .int .i32 0]

/-- The world behind the making of the nodes, the tree and the reader. -/
def mk3 (text : ByteArray) (a pre : Nat) (ln fr : Int) (w : World) : World :=
  ((w.alloc (.cells (madeCells zero7 (pre * 7)) 38)).alloc (.cells #[.string text, .slice (some ⟨w.heap.size, 0, none⟩) pre pre, .slice none 0 0] 32)).alloc
    (.cells #[.string text, .pointer (some ⟨w.heap.size + 1, 0, none⟩), .int .i64 a, .int .i64 ln, .int .i64 0, .int .i64 fr, .int .i64 0, .int .i64 0, .slice none 0 0] 34)

theorem three_blocks (w : World) (O1 O2 O3 : Obj) : (((w.alloc O1).alloc O2).alloc O3).heap[w.heap.size]? = some O1 ∧ (((w.alloc O1).alloc O2).alloc O3).heap[w.heap.size + 1]? = some O2 ∧ (((w.alloc O1).alloc O2).alloc O3).heap[w.heap.size + 2]? = some O3 := by
  refine ⟨?_, ?_, ?_⟩
  · rw [Deep.blk_alloc_lt _ _ _ (by simp; omega), Deep.blk_alloc_lt _ _ _ (by simp)]
    exact Deep.blk_alloc_new w O1
  · rw [Deep.blk_alloc_lt _ _ _ (by simp)]
    have := Deep.blk_alloc_new (w.alloc O1) O2
    simpa using this
  · have := Deep.blk_alloc_new ((w.alloc O1).alloc O2) O3
    simpa using this

theorem mk3_facts (text : ByteArray) (a pre : Nat) (ln fr : Int) (w : World) (ht : text.size ≤ 1048576) (hp : pre ≤ 65536) :
    Start text (w.heap.size + 1 + 1) (w.heap.size + 1) w.heap.size pre w.heap.size (mk3 text a pre ln fr w) ∧ Sm text (w.heap.size + 1 + 1) (w.heap.size + 1) a ln fr (.slice (some ⟨w.heap.size, 0, none⟩) pre pre) (mk3 text a pre ln fr w) ∧
    (mk3 text a pre ln fr w).heap.size = w.heap.size + 3 ∧ Below w.heap.size w (mk3 text a pre ln fr w) := by
  obtain ⟨b0, b1, b2⟩ := three_blocks w (.cells (madeCells zero7 (pre * 7)) 38) (.cells #[.string text, .slice (some ⟨w.heap.size, 0, none⟩) pre pre, .slice none 0 0] 32)
    (.cells #[.string text, .pointer (some ⟨w.heap.size + 1, 0, none⟩), .int .i64 a, .int .i64 ln, .int .i64 0, .int .i64 fr, .int .i64 0, .int .i64 0, .slice none 0 0] 34)
  have hsz : (mk3 text a pre ln fr w).heap.size = w.heap.size + 3 := by simp [mk3]
  refine ⟨⟨Nat.le_refl _, by omega, by omega, by omega, hp, b0, ht⟩, ⟨?_, ?_, ?_, ?_, ?_, ?_, ?_, ?_, ?_⟩, hsz, (((Below.refl _ _).alloc (Nat.le_refl _) _).alloc (by simp) _).alloc (by simp; omega) _⟩
  · unfold mk3; rw [Lib.cell_of_heap b2]; rfl
  · unfold mk3; rw [Lib.cell_of_heap b2]; rfl
  · unfold mk3; rw [Lib.cell_of_heap b2]; rfl
  · unfold mk3; rw [Lib.cell_of_heap b2]; rfl
  · unfold mk3; rw [Lib.cell_of_heap b2]; rfl
  · exact Lib.frozen_of_heap b2 2
  · exact Lib.frozen_of_heap b2 5
  · unfold mk3; rw [Lib.cell_of_heap b1]; rfl
  · exact Lib.frozen_of_heap b1 1

/-- A zero node among those that were made. -/
theorem zero_cell (nb pre j i : Nat) (v : Value) (w : World) (hb : w.heap[nb]? = some (.cells (madeCells zero7 (pre * 7)) 38 (0, 0))) (hj : j < pre) (hi : i < 7) (hv : zero7[i]? = some v) : w.cell? ⟨nb, j * 7 + i, none⟩ = some v := by
  rw [Lib.cell_of_heap hb]
  have h1 : j * 7 + i < pre * 7 := by omega
  have h2 : (j * 7 + i) % 7 = i := by omega
  have h3 : zero7.size = 7 := rfl
  have hv' : zero7[i]! = v := by
    rw [Array.getElem!_eq_getD, Array.getD_eq_getD_getElem?, hv]
    rfl
  simp [madeCells, h1, h3, h2, hv']

/-- What ZZScalar leaves. -/
def ZzPost (text : ByteArray) (a pre : Nat) (ln fr : Int) (flow : Bool) (w : World) (e : Ending) (w' : World) : Prop :=
  Below w.heap.size w w' ∧ e = .returned (zzRes pre a ln (if a = text.size then fr else a) (Plain.outcome text.data.toList a flow))

set_option maxRecDepth 100000 in
set_option maxHeartbeats 4000000 in
theorem zz_any (text : ByteArray) (a pre : Nat) (ln fr : Int) (flow : Bool) (w : World) (ht : text.size ≤ 1048576) (ha : a ≤ text.size) (hp : pre ≤ 65536) :
    Calls Try.prog 5 #[.string text, .int .i64 a, .int .i64 ln, .int .i64 fr, .int .i64 pre, .bool flow] w (ZzPost text a pre ln fr flow w) := by
  have hmk := make38 pre hp
  have hp' : (pre : Int) ≤ 65536 := by omega
  obtain ⟨hst, hsm, hsz, hbel⟩ := mk3_facts text a pre ln fr w ht hp
  have hsc := scalar_any text (w.heap.size + 1 + 1) (w.heap.size + 1) w.heap.size pre w.heap.size a ln fr flow (mk3 text a pre ln fr w) hst ha hsm
  have hrow := hst.row
  clear hst hsm
  go_enter Try.func5, Try.ntmps5
  go_wp2_with fail
  show Calls Try.prog 7 #[.pointer (some ⟨w.heap.size + 1 + 1, 0, none⟩), .bool flow] (mk3 text a pre ln fr w) _
  refine hsc.mono ?_
  rintro e w1 ⟨hb1, hcase⟩
  have hz1 := hb1.size
  rw [hsz] at hz1
  have HB1 : Hid (Below w.heap.size w w1) := hbel.trans hb1
  have HN : Hid (w1.heap[w.heap.size]? = (mk3 text a pre ln fr w).heap[w.heap.size]? → w1.heap[w.heap.size]? = some (.cells (madeCells zero7 (pre * 7)) 38 (0, 0))) := fun h => h.trans hrow
  clear hsc hb1 hbel hrow hsz
  have hpl : w.heap.size + 1 + 1 < w1.heap.size := by omega
  have htl : w.heap.size + 1 < w1.heap.size := by omega
  have hnl : w.heap.size < w1.heap.size := by omega
  generalize hpb : w.heap.size + 1 + 1 = pb at *
  generalize htb : w.heap.size + 1 = tb at *
  clear hz1 hpb htb
  rcases hcase with ⟨ho, rfl, hs1, hnb⟩ | ⟨x, f, t, nl, ho, rfl, g, cap, hcap, hAg, hgp, hgt, hs1, hnd⟩
  · have HO : Hid (Plain.outcome text.data.toList a flow = none) := ho
    have hrow1 := HN.out hnb
    clear ho hnb
    generalize hfr : (if a = text.size then fr else (a : Int)) = fr' at hs1
    have HFR : Hid ((if a = text.size then fr else (a : Int)) = fr') := hfr
    clear hfr
    obtain ⟨p0, p1, p2, p3, p5, f2, f5, t1, g1⟩ := id hs1
    by_cases hpos : 0 < pre
    · obtain ⟨m, rfl⟩ : ∃ m, pre = m + 1 := ⟨pre - 1, by omega⟩
      have z0 := zero_cell _ _ m 0 (.int .u8 0) w1 hrow1 (by omega) (by omega) rfl
      have z1 := zero_cell _ _ m 1 (.bool false) w1 hrow1 (by omega) (by omega) rfl
      have z2 := zero_cell _ _ m 2 (.int .i32 0) w1 hrow1 (by omega) (by omega) rfl
      have z3 := zero_cell _ _ m 3 (.int .i32 0) w1 hrow1 (by omega) (by omega) rfl
      have z4 := zero_cell _ _ m 4 (.int .i32 0) w1 hrow1 (by omega) (by omega) rfl
      have z5 := zero_cell _ _ m 5 (.int .i32 0) w1 hrow1 (by omega) (by omega) rfl
      have z6 := zero_cell _ _ m 6 (.int .i32 0) w1 hrow1 (by omega) (by omega) rfl
      rw [Nat.add_zero] at z0
      clear hrow1
      have hmm : (m : Int) < (m : Int) + 1 := by omega
      have hw64 : IntKind.i64.wrap ((m : Int) + 1 - 1) = m := by rw [wrap_i64 _ (by omega) (by omega)]; omega
      have hw64' : IntKind.i64.wrap (m : Int) = m := wrap_i64 _ (by omega) (by omega)
      go_wp2_with fail
      go_region_held3 (fun w' => w'.cell? ⟨pb, 1, none⟩ = some (.pointer (some ⟨tb, 0, none⟩)) ∧ w'.cell? ⟨tb, 1, none⟩ = some (.slice (some ⟨w.heap.size, 0, none⟩) (m + 1) (m + 1)) ∧ w'.cell? ⟨w.heap.size, m * 7, none⟩ = some (.int .u8 0) ∧ w'.cell? ⟨w.heap.size, m * 7 + 1, none⟩ = some (.bool false) ∧ w'.cell? ⟨w.heap.size, m * 7 + 2, none⟩ = some (.int .i32 0) ∧ w'.cell? ⟨w.heap.size, m * 7 + 3, none⟩ = some (.int .i32 0) ∧ w'.cell? ⟨w.heap.size, m * 7 + 4, none⟩ = some (.int .i32 0) ∧ w'.cell? ⟨w.heap.size, m * 7 + 5, none⟩ = some (.int .i32 0) ∧ w'.cell? ⟨w.heap.size, m * 7 + 6, none⟩ = some (.int .i32 0)) (go_keep) (fail)
      go_wp2_with fail
      go_quiet (fail)
      go_wp2_with fail
      refine bodyPost_ret (v := .tuple #[.int .i32 (-1), .int .i64 a, .int .i64 fr', .int .i64 ((m : Int) + 1), .int .u8 0, .bool false, .int .i32 0, .int .i32 0, .int .i32 0, .int .i32 0, .int .i32 0]) (by simp [results, Try.results5, go_sem]) rfl ⟨?_, ?_⟩
      · exact below_drewN ((HB1.out.alloc (by omega) _).drew) _
      · rw [HO.out, HFR.out]; rfl
    · obtain rfl : pre = 0 := by omega
      go_wp2_with fail
      go_quiet (fail)
      go_wp2_with fail
      refine bodyPost_ret (v := .tuple #[.int .i32 (-1), .int .i64 a, .int .i64 fr', .int .i64 0, .int .u8 0, .bool false, .int .i32 0, .int .i32 0, .int .i32 0, .int .i32 0, .int .i32 0]) (by simp [results, Try.results5, go_sem]) rfl ⟨?_, ?_⟩
      · exact below_drewN (HB1.out.alloc (by omega) _) _
      · rw [HO.out, HFR.out]; rfl
  · have HO : Hid (Plain.outcome text.data.toList a flow = some (x, f, t, nl)) := ho
    clear ho HN
    obtain ⟨p0, p1, p2, p3, p5, f2, f5, t1, g1⟩ := id hs1
    obtain ⟨n0, n1, n2, n3, n4, n5, n6, nfz⟩ := id hnd
    have hgl : g < w1.heap.size := World.block_lt_of_cell? _ _ n0
    generalize hiln : IntKind.i32.wrap ln = iln at *
    generalize hifr : IntKind.i32.wrap (f : Int) = ifr at *
    generalize hito : IntKind.i32.wrap (t : Int) = ito at *
    have HI : Hid (IntKind.i32.wrap ln = iln ∧ IntKind.i32.wrap (f : Int) = ifr ∧ IntKind.i32.wrap (t : Int) = ito) := ⟨hiln, hifr, hito⟩
    clear hiln hifr hito
    have hmm : (pre : Int) < (pre : Int) + 1 := by omega
    have hw64 : IntKind.i64.wrap ((pre : Int) + 1 - 1) = pre := by rw [wrap_i64 _ (by omega) (by omega)]; omega
    have hw64' : IntKind.i64.wrap (pre : Int) = pre := wrap_i64 _ (by omega) (by omega)
    go_wp2_with fail
    go_region_held3 (fun w' => w'.cell? ⟨pb, 1, none⟩ = some (.pointer (some ⟨tb, 0, none⟩)) ∧ w'.cell? ⟨tb, 1, none⟩ = some (.slice (some ⟨g, 0, none⟩) (pre + 1) cap) ∧ w'.cell? ⟨g, pre * 7, none⟩ = some (.int .u8 1) ∧ w'.cell? ⟨g, pre * 7 + 1, none⟩ = some (.bool nl) ∧ w'.cell? ⟨g, pre * 7 + 2, none⟩ = some (.int .i32 iln) ∧ w'.cell? ⟨g, pre * 7 + 3, none⟩ = some (.int .i32 ifr) ∧ w'.cell? ⟨g, pre * 7 + 4, none⟩ = some (.int .i32 ito) ∧ w'.cell? ⟨g, pre * 7 + 5, none⟩ = some (.int .i32 0) ∧ w'.cell? ⟨g, pre * 7 + 6, none⟩ = some (.int .i32 0)) (go_keep) (fail)
    go_wp2_with fail
    go_quiet (fail)
    go_wp2_with fail
    refine bodyPost_ret (v := .tuple #[.int .i32 pre, .int .i64 x, .int .i64 a, .int .i64 ((pre : Int) + 1), .int .u8 1, .bool nl, .int .i32 iln, .int .i32 ifr, .int .i32 ito, .int .i32 0, .int .i32 0]) (by simp [results, Try.results5, go_sem]) rfl ⟨?_, ?_⟩
    · exact below_drewN ((HB1.out.alloc (by omega) _).drew) _
    · rw [HO.out, ← HI.out.1, ← HI.out.2.1, ← HI.out.2.2]; rfl

end Go.Proofs.Qxb6603734a
