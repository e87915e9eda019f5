/- Seat b6604027a: the law's walk. -/
import Derived.Test.Qxb6604027aCut
import Derived.Deep.DeepAppendRoom
namespace Go.Proofs.Qxb6604027a
open Go.RowKit

theorem Rowb.below {a : Option Addr} {n : Nat} {A : Nat → Int} {w w' : World} (h : Rowb a n A w) (hb : Below w.heap.size w w') : Rowb a n A w' := by
  rcases h with h | ⟨b, o, rfl, hlt, hc⟩
  · exact Or.inl h
  · exact Or.inr ⟨b, o, rfl, Nat.lt_of_lt_of_le hlt hb.size, fun i hi => (hb.cell (p := ⟨b, o + i, none⟩) hlt).trans (hc i hi)⟩

theorem Cp.below {a : Option Addr} {n c : Nat} {A : Nat → Int} {B : Nat} {w w' : World} (h : Cp a n c A B w) (hb : Below w.heap.size w w') : Cp a n c A B w' := by
  rcases h with h | ⟨b, rfl, h1, h2, hlt, hc⟩
  · exact Or.inl h
  · exact Or.inr ⟨b, rfl, h1, h2, Nat.lt_of_lt_of_le hlt hb.size, fun i hi => (hb.cell (p := ⟨b, i, none⟩) hlt).trans (hc i hi)⟩

theorem Cp.nil {a : Option Addr} {n c : Nat} {A : Nat → Int} {B : Nat} {w : World} (h : Cp a n c A B w) (ha : a = none) : n = 0 ∧ c = 0 := by
  rcases h with ⟨_, h1, h2⟩ | ⟨b, rfl, _⟩
  · exact ⟨h1, h2⟩
  · cases ha

theorem Cp.row {a : Option Addr} {n c : Nat} {A : Nat → Int} {B : Nat} {w : World} (h : Cp a n c A B w) : Rowb a n A w := by
  rcases h with ⟨_, h1, _⟩ | ⟨b, rfl, _, _, hlt, hc⟩
  · exact Or.inl h1
  · exact Or.inr ⟨b, 0, rfl, hlt, fun i hi => by rw [Nat.zero_add]; exact hc i hi⟩

theorem Below.grown {B : Nat} {w w' w'' : World} {row : Option Nat} (h : Below B w w') (hg : w'.grownBy w'' row) (hB : B ≤ w'.heap.size) (hr : ∀ k, row = some k → B ≤ k) : Below B w w'' :=
  h.trans ⟨hg.os, hg.tape, hg.output, hg.size, fun k hk => hg.block k (by omega) (by intro e; have := hr k e.symm; omega)⟩

/-- The sixteen bytes in the box. -/
def Box (bx : Nat) (F : Nat → Int) (w : World) : Prop := bx < w.heap.size ∧ ∀ i, i < 16 → w.cell? ⟨bx, i, none⟩ = some (.int .u8 (F i))

theorem Box.below {bx : Nat} {F : Nat → Int} {w w' : World} (h : Box bx F w) (hb : Below w.heap.size w w') : Box bx F w' :=
  ⟨Nat.lt_of_lt_of_le h.1 hb.size, fun i hi => (hb.cell (p := ⟨bx, i, none⟩) h.1).trans (h.2 i hi)⟩

theorem box_new (F : Nat → Int) (w : World) (t : TypeId) : Box w.heap.size F (w.alloc (.cells #[.int .u8 (F 0), .int .u8 (F 1), .int .u8 (F 2), .int .u8 (F 3), .int .u8 (F 4), .int .u8 (F 5), .int .u8 (F 6), .int .u8 (F 7), .int .u8 (F 8), .int .u8 (F 9), .int .u8 (F 10), .int .u8 (F 11), .int .u8 (F 12), .int .u8 (F 13), .int .u8 (F 14), .int .u8 (F 15)] t)) := by
  refine ⟨by simp, fun i hi => ?_⟩
  rw [Lib.cell_of_heap (Deep.blk_alloc_new w _)]
  obtain rfl | rfl | rfl | rfl | rfl | rfl | rfl | rfl | rfl | rfl | rfl | rfl | rfl | rfl | rfl | rfl : i = 0 ∨ i = 1 ∨ i = 2 ∨ i = 3 ∨ i = 4 ∨ i = 5 ∨ i = 6 ∨ i = 7 ∨ i = 8 ∨ i = 9 ∨ i = 10 ∨ i = 11 ∨ i = 12 ∨ i = 13 ∨ i = 14 ∨ i = 15 := by omega
  all_goals rfl

/-- The key under hand: block g, n bytes of it X, room for cap. -/
def Own (g n cap : Nat) (X : List Int) (w : World) : Prop := w.ownsRow 0 5 1 (.slice (some ⟨g, 0, none⟩) n cap) n (X.map (Value.int .u8))

theorem Own.cell {g n cap : Nat} {X : List Int} {w : World} (h : Own g n cap X w) (i : Nat) (hi : i < X.length) : w.cell? ⟨g, i, none⟩ = some (.int .u8 (X.getD i 0)) := by
  have := World.ownsRow.cells h (g := g) rfl i (.int .u8 (X.getD i 0)) (by simp [List.getD_eq_getElem?_getD, hi])
  have hadd : (⟨g, 0, none⟩ : Addr).add i = ⟨g, i, none⟩ := by unfold Addr.add; split <;> simp_all
  rwa [hadd] at this

theorem Own.lt {g n cap : Nat} {X : List Int} {w : World} (h : Own g n cap X w) : g < w.heap.size := (World.ownsRow.lt h g rfl).2

theorem Own.alloc {g n cap : Nat} {X : List Int} {w : World} (h : Own g n cap X w) (o : Obj) : Own g n cap X (w.alloc o) := World.ownsRow.alloc h o

theorem info5' : ∃ i, Try.prog.info? 5 = some i ∧ i.zero = some (.int .u8 0) ∧ i.size = 1 ∧ i.bytes = 1 := info_parts info5

/-- make([]byte, 0, C). -/
theorem make0 (C : Nat) (hC : C ≤ 4194304) (w : World) :
    (Instr.makeSlice 22 (.int .i64 0) (.int .i64 C)).run Try.prog w = .ok (.slice (some ⟨w.heap.size, 0, none⟩) 0 C) (w.alloc (.cells (madeCells #[.int .u8 0] C) 5)) := by
  obtain ⟨i0, hi, hz0, hz1, hz2⟩ := info5'
  have h := run_make (P := Try.prog) w 22 5 i0 _ Try.underlying22 hi hz0 .i64 .i64 0 C (by omega) (by omega) (by rw [hz2]; omega) (by omega)
  rw [hz1] at h
  simpa [Value.cells] using h

theorem own0 (C : Nat) (hC : C ≤ 4194304) (w : World) : Own w.heap.size 0 C [] (w.alloc (.cells (madeCells #[.int .u8 0] C) 5)) := by
  refine ⟨by simp, Or.inr ⟨_, C, _, rfl, Nat.zero_le _, Deep.blk_alloc_new w _, Nat.zero_le _, ?_, by simp [madeCells], by simp⟩⟩
  unfold maxLen
  omega

/-- append within the capacity, whatever is appended: a law for the walk. -/
theorem wpApp {w : World} {ops : Array Oper} {rest : List Oper} {o : Oper} {a : Act} {Q : Exit → Act → World → Prop} (hg : o.guard = none) (s x : Operand)
    (hop : o.op = Op.call { callee := Callee.builtin Builtin.append, args := #[s, x], argTypes := #[22, 22] }) {g n cap : Nat} {X : List Int} (hown : Own g n cap X w) (ao : Option Addr) (m c : Nat) (Y : List Int)
    (hs : a.eval s = .slice (some ⟨g, 0, none⟩) n cap) (hx : a.eval x = .slice ao m c) (hY : Y.length = m) (hnone : ao = none → m = 0 ∧ c = 0)
    (hc : ∀ ad, ao = some ad → ∀ j, j < m → w.cell? (ad.add j) = some (.int .u8 (Y.getD j 0))) (hroom : n + m ≤ cap)
    (hK : ∀ w', Own g (n + m) cap (X ++ Y) w' → w.grownBy w' (some g) → wpList Try.prog ops Q rest (a.put o.dst (.slice (some ⟨g, 0, none⟩) (n + m) cap)) w') :
    wpList Try.prog ops Q (o :: rest) a w := by
  obtain ⟨i0, hi, hz0, hz1, hz2⟩ := info5'
  refine wpList_append_fits_any w hg s x 22 hop 0 5 i0 1 Try.underlying22 hi hz1 g n cap _ hs hown ao m c (Y.map (Value.int .u8)) hx (by simp [hY]) hnone (fun ad h j u hu => ?_) (ints_oneCell _ _) hroom (fun w' h1 h2 => hK w' ?_ h2)
  · rw [List.getElem?_map, Option.map_eq_some_iff] at hu
    obtain ⟨y, hy, rfl⟩ := hu
    have hj : j < Y.length := (List.getElem?_eq_some_iff.1 hy).1
    rw [hc ad h j (by omega), List.getD_eq_getElem?_getD, hy]
    rfl
  · unfold Own
    rw [List.map_append]
    exact h1

theorem add_off (b o j : Nat) : (⟨b, o, none⟩ : Addr).add j = ⟨b, o + j, none⟩ := by unfold Addr.add; split <;> simp_all

/-- One byte, new. -/
theorem one_new (w : World) (x : Int) : ∀ ad, some (⟨w.heap.size, 0, none⟩ : Addr) = some ad → ∀ j, j < 1 → (w.alloc (.cells #[.int .u8 x] 5)).cell? (ad.add j) = some (.int .u8 ([x].getD j 0)) := by
  intro ad h j hj
  obtain rfl : j = 0 := by omega
  cases h
  rw [add_off, Lib.cell_of_heap (Deep.blk_alloc_new w _)]
  rfl

/-- The list of what a row holds. -/
def ls (n : Nat) (A : Nat → Int) : List Int := (List.range n).map A

theorem ls_length (n : Nat) (A : Nat → Int) : (ls n A).length = n := by simp [ls]

theorem ls_get (n : Nat) (A : Nat → Int) (i : Nat) (hi : i < n) : (ls n A).getD i 0 = A i := by simp [ls, List.getD_eq_getElem?_getD, hi]

theorem Box.src {bx : Nat} {F : Nat → Int} {w : World} (h : Box bx F w) (m : Nat) (hm : m ≤ 16) : ∀ ad, some (⟨bx, 0, none⟩ : Addr) = some ad → ∀ j, j < m → w.cell? (ad.add j) = some (.int .u8 ((ls m F).getD j 0)) := by
  intro ad he j hj
  cases he
  rw [add_off, Nat.zero_add, ls_get m F j hj]
  exact h.2 j (by omega)

theorem Cp.src {a : Option Addr} {n c : Nat} {A : Nat → Int} {B : Nat} {w : World} (h : Cp a n c A B w) : ∀ ad, a = some ad → ∀ j, j < n → w.cell? (ad.add j) = some (.int .u8 ((ls n A).getD j 0)) := by
  intro ad he j hj
  rcases h with ⟨h0, _⟩ | ⟨b, h0, _, _, _, hc⟩
  · rw [h0] at he; cases he
  · rw [h0] at he
    cases he
    rw [add_off, Nat.zero_add, ls_get n A j hj]
    exact hc j hj

theorem Rowb.asList {a : Option Addr} {n : Nat} {A : Nat → Int} {w : World} (h : Rowb a n A w) : Rowb a n (fun i => (ls n A).getD i 0) w := by
  rcases h with h | ⟨b, o, rfl, hlt, hc⟩
  · exact Or.inl h
  · exact Or.inr ⟨b, o, rfl, hlt, fun i hi => by
      show _ = some (Value.int .u8 ((ls n A).getD i 0))
      rw [ls_get n A i hi]
      exact hc i hi⟩

set_option maxRecDepth 100000 in
set_option maxHeartbeats 4000000 in
theorem key_other (x0 : Int) (F : Nat → Int) (a1 a3 : Option Addr) (n1 c1 n3 c3 : Nat) (A1 A3 : Nat → Int) (w : World) (hx : x0 ≠ 7) (h1 : n1 ≤ 524288) (h3 : n3 ≤ 524288)
    (r1 : Rowb a1 n1 A1 w) (r3 : Rowb a3 n3 A3 w) (z1 : a1 = none → n1 = 0) (z3 : a3 = none → n3 = 0) :
    Calls Try.prog 5 #[.int .u8 x0, .slice a1 n1 c1, arr F, .slice a3 n3 c3] w fun e w' => e = .returned (.bool true) ∧ Below w.heap.size w w' := by
  have h1' : (n1 : Int) ≤ 524288 := by omega
  have h3' : (n3 : Int) ≤ 524288 := by omega
  have hx7 : (x0 == 7) = false := beq_eq_false_iff_ne.2 hx
  have H14 : Hid (∀ w, Calls Try.prog 14 #[.int .u8 x0, .slice a1 n1 c1, arr F, .slice a3 n3 c3] w fun e w' => e = .returned (.bool true) ∧ Below w.heap.size w w') := fun w => bytes14_yes x0 F a1 a3 n1 c1 n3 c3 w (by omega)
  have HC1 : Hid (∀ w' : World, Below w.heap.size w w' → Calls Try.prog 7 #[.slice a1 n1 c1] w' (CpPost n1 A1 w')) := fun w' hb => copy_any a1 n1 c1 A1 w' (by omega) (r1.below hb) z1
  have HC3 : Hid (∀ w' : World, Below w.heap.size w w' → Calls Try.prog 7 #[.slice a3 n3 c3] w' (CpPost n3 A3 w')) := fun w' hb => copy_any a3 n3 c3 A3 w' (by omega) (r3.below hb) z3
  have HBX := box_new F w 27
  clear r1 r3 z1 z3
  have hmk := make0 (9 + n3) (by omega)
  have ec : ((9 + n3 : Nat) : Int) = 9 + (n3 : Int) := by omega
  rw [ec] at hmk
  clear ec
  have HB0 : Below w.heap.size w (w.alloc (.cells #[.int .u8 (F 0), .int .u8 (F 1), .int .u8 (F 2), .int .u8 (F 3), .int .u8 (F 4), .int .u8 (F 5), .int .u8 (F 6), .int .u8 (F 7), .int .u8 (F 8), .int .u8 (F 9), .int .u8 (F 10), .int .u8 (F 11), .int .u8 (F 12), .int .u8 (F 13), .int .u8 (F 14), .int .u8 (F 15)] 27)) := (Below.refl _ _).alloc (Nat.le_refl _) _
  have HZ : Hid (Box w.heap.size F _ ∧ Below w.heap.size w _) := ⟨HBX, HB0⟩
  clear HBX HB0
  go_enter Try.func5, Try.ntmps5
  go_wp2_with fail
  refine (H14.out _).mono ?_
  rintro e w1 ⟨rfl, hb1⟩
  have HB1 : Hid (Below w.heap.size w w1) := HZ.out.2.trans (hb1.mono HZ.out.2.size)
  have BX1 : Hid (Box w.heap.size F w1) := HZ.out.1.below hb1
  clear hb1 HZ H14
  go_wp2_with fail
  refine (HC1.out _ HB1.out).mono ?_
  rintro e w2 ⟨hb2, a1', c1', rfl, hcp1⟩
  have HB2 : Hid (Below w.heap.size w w2) := HB1.out.trans (hb2.mono HB1.out.size)
  have BX2 : Hid (Box w.heap.size F w2) := BX1.out.below hb2
  clear hb2 HB1 BX1 HC1 hcp1
  go_wp2_with fail
  refine (HC3.out _ HB2.out).mono ?_
  rintro e w3 ⟨hb3, a3', c3', rfl, hcp3⟩
  have HB3 : Hid (Below w.heap.size w w3) := HB2.out.trans (hb3.mono HB2.out.size)
  have BX3 : Hid (Box w.heap.size F w3) := BX2.out.below hb3
  have HC : Hid (Cp a3' n3 c3' A3 w2.heap.size w3) := hcp3
  clear hb3 HB2 BX2 HC3 hcp3
  have hown4 := (own0 (9 + n3) (by omega) w3).alloc (.cells #[.int .u8 x0] 5)
  have hb4 : Below w3.heap.size w3 ((w3.alloc (.cells (madeCells #[.int .u8 0] (9 + n3)) 5)).alloc (.cells #[.int .u8 x0] 5)) := ((Below.refl _ _).alloc (Nat.le_refl _) _).alloc (by simp) _
  have HO4 : Hid (Own w3.heap.size 0 (9 + n3) [] ((w3.alloc (.cells (madeCells #[.int .u8 0] (9 + n3)) 5)).alloc (.cells #[.int .u8 x0] 5))) := hown4
  have HN4 := one_new (w3.alloc (.cells (madeCells #[.int .u8 0] (9 + n3)) 5)) x0
  rw [show (w3.alloc (.cells (madeCells #[.int .u8 0] (9 + n3)) 5)).heap.size = w3.heap.size + 1 by simp] at HN4
  have HN4' : Hid (∀ ad, some (⟨w3.heap.size + 1, 0, none⟩ : Addr) = some ad → ∀ j, j < 1 → ((w3.alloc (.cells (madeCells #[.int .u8 0] (9 + n3)) 5)).alloc (.cells #[.int .u8 x0] 5)).cell? (ad.add j) = some (.int .u8 ([x0].getD j 0))) := HN4
  have HB4 : Hid (Below w3.heap.size w3 ((w3.alloc (.cells (madeCells #[.int .u8 0] (9 + n3)) 5)).alloc (.cells #[.int .u8 x0] 5))) := hb4
  clear hown4 hb4 HN4
  go_upto_region 24 with (at_builtin; refine wpApp rfl (.tmp 70) (.tmp 72) rfl HO4.out (some ⟨w3.heap.size + 1, 0, none⟩) 1 1 [x0] rfl rfl rfl (fun h => by cases h) HN4'.out (by omega) ?_; intro w5 hown5 hgr5)
  have HB5 : Hid (Below w3.heap.size w3 w5) := Below.grown HB4.out hgr5 HB4.out.size (fun k hk => by cases hk; exact Nat.le_refl _)
  have HO5 : Hid (Own w3.heap.size 1 (9 + n3) [x0] w5) := hown5
  have HS5 : Hid (∀ ad, some (⟨w.heap.size, 0, none⟩ : Addr) = some ad → ∀ j, j < 8 → w5.cell? (ad.add j) = some (.int .u8 ((ls 8 F).getD j 0))) := (BX3.out.below HB5.out).src 8 (by omega)
  have hbxl : w.heap.size < w5.heap.size := (BX3.out.below HB5.out).1
  clear hown5 hgr5 HO4 HN4' HB4 hmk
  go_upto_region 25 with (at_builtin; refine wpApp rfl (.tmp 74) (.tmp 75) rfl HO5.out (some ⟨w.heap.size, 0, none⟩) 8 16 (ls 8 F) rfl rfl (ls_length _ _) (fun h => by cases h) HS5.out (by omega) ?_; intro w6 hown6 hgr6)
  have HB6 : Hid (Below w3.heap.size w3 w6) := Below.grown HB5.out hgr6 HB5.out.size (fun k hk => by cases hk; exact Nat.le_refl _)
  have HO6 : Hid (Own w3.heap.size 9 (9 + n3) ([x0] ++ ls 8 F) w6) := hown6
  have HC6 : Hid (Cp a3' n3 c3' A3 w2.heap.size w6) := HC.out.below HB6.out
  clear hown6 hgr6 HO5 HS5 HB5 hbxl
  go_upto_region 26 with (at_builtin; refine wpApp rfl (.tmp 77) (.tmp 78) rfl HO6.out a3' n3 c3' (ls n3 A3) rfl rfl (ls_length _ _) HC6.out.nil HC6.out.src (by omega) ?_; intro w7 hown7 hgr7)
  have HB7 : Hid (Below w3.heap.size w3 w7) := Below.grown HB6.out hgr7 HB6.out.size (fun k hk => by cases hk; exact Nat.le_refl _)
  have HC7 : Hid (Cp a3' n3 c3' A3 w2.heap.size w7) := HC.out.below HB7.out
  have HT : Hid (Calls Try.prog 15 #[.slice (some ⟨w3.heap.size, 0, none⟩) (9 + n3) (9 + n3)] w7 (ItPost (ls n3 A3) w7)) := by
    refine zz_tail _ _ _ (tail_other w3.heap.size n3 x0 (ls 8 F) (ls n3 A3) w7 hx (ls_length _ _) (ls_length _ _) (by omega) (fun i hi => ?_))
    exact hown7.cell i (by simp [ls_length]; omega)
  clear hown7 hgr7 HO6 HC6 HB6
  go_wp2_with fail
  refine HT.out.mono ?_
  rintro e w8 ⟨hb8, g8, rfl, hrow8⟩
  rw [ls_length] at hrow8 ⊢
  have HE : Hid (Calls Try.prog 10 #[.slice g8 n3 n3, .slice a3' n3 c3'] w8 fun e w' => e = .returned (.bool true) ∧ Below w8.heap.size w8 w') :=
    equal_yes g8 a3' n3 n3 c3' _ w8 (by omega) hrow8 (HC7.out.below hb8).row.asList
  have HB8 : Hid (Below w.heap.size w w8) := HB3.out.trans ((HB7.out.mono HB3.out.size).trans (hb8.mono (Nat.le_trans HB3.out.size HB7.out.size)))
  clear hb8 hrow8 HT HC7
  go_wp2_with fail
  refine HE.out.mono ?_
  rintro e w9 ⟨rfl, hb9⟩
  have HB9 : Hid (Below w.heap.size w w9) := HB8.out.trans (hb9.mono HB8.out.size)
  clear hb9
  go_wp2_with fail
  go_ret
  exact ⟨rfl, HB9.out⟩

end Go.Proofs.Qxb6604027a
