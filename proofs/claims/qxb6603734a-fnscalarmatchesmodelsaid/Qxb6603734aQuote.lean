/- Seat b6603734a: scalar, where a quote stands, and where nothing stands. -/
import Derived.Test.Qxb6603734aNode
import Derived.Deep.RegionHeld3
import Derived.WalkMore
namespace Go.Proofs.Qxb6603734a
open Go.RowKit

theorem Sm.drewN {text : ByteArray} {pb tb : Nat} {a ln fr : Int} {v : Value} {w : World} (h : Sm text pb tb a ln fr v w) (n : Nat) : Sm text pb tb a ln fr v (w.drewN n) := ⟨h.p0, h.p1, h.p2, h.p3, h.p5, h.f2, h.f5, h.t1, h.g1⟩
theorem NodeAt.drewN {g o : Nat} {nl : Bool} {ln fr to : Int} {w : World} (h : NodeAt g o nl ln fr to w) (n : Nat) : NodeAt g o nl ln fr to (w.drewN n) := ⟨h.n0, h.n1, h.n2, h.n3, h.n4, h.n5, h.n6, h.fz⟩
theorem Sm.drew {text : ByteArray} {pb tb : Nat} {a ln fr : Int} {v : Value} {w : World} (h : Sm text pb tb a ln fr v w) : Sm text pb tb a ln fr v w.drew := ⟨h.p0, h.p1, h.p2, h.p3, h.p5, h.f2, h.f5, h.t1, h.g1⟩
theorem NodeAt.drew {g o : Nat} {nl : Bool} {ln fr to : Int} {w : World} (h : NodeAt g o nl ln fr to w) : NodeAt g o nl ln fr to w.drew := ⟨h.n0, h.n1, h.n2, h.n3, h.n4, h.n5, h.n6, h.fz⟩

theorem Sm.setFrom {text : ByteArray} {pb tb : Nat} {a ln fr : Int} {v : Value} {w : World} (h : Sm text pb tb a ln fr v w) (x : Int) : Sm text pb tb a ln x v (w.setCell ⟨pb, 5, none⟩ (.int .i64 x)) := by
  refine ⟨?_, ?_, ?_, ?_, World.cell?_setCell_same _ _ _ h.p5, (World.frozen?_setCell _ _ _ _).trans h.f2, (World.frozen?_setCell _ _ _ _).trans h.f5, ?_, (World.frozen?_setCell _ _ _ _).trans h.g1⟩
  · rw [World.cell?_setCell_other _ _ _ _ (by simp)]; exact h.p0
  · rw [World.cell?_setCell_other _ _ _ _ (by simp)]; exact h.p1
  · rw [World.cell?_setCell_other _ _ _ _ (by simp)]; exact h.p2
  · rw [World.cell?_setCell_other _ _ _ _ (by simp)]; exact h.p3
  · rw [World.cell?_setCell_other _ _ _ _ (by simp)]; exact h.t1

theorem Sm.setAt {text : ByteArray} {pb tb : Nat} {a ln fr : Int} {v : Value} {w : World} (h : Sm text pb tb a ln fr v w) (x : Int) : Sm text pb tb x ln fr v (w.setCell ⟨pb, 2, none⟩ (.int .i64 x)) := by
  refine ⟨?_, ?_, World.cell?_setCell_same _ _ _ h.p2, ?_, ?_, (World.frozen?_setCell _ _ _ _).trans h.f2, (World.frozen?_setCell _ _ _ _).trans h.f5, ?_, (World.frozen?_setCell _ _ _ _).trans h.g1⟩
  · rw [World.cell?_setCell_other _ _ _ _ (by simp)]; exact h.p0
  · rw [World.cell?_setCell_other _ _ _ _ (by simp)]; exact h.p1
  · rw [World.cell?_setCell_other _ _ _ _ (by simp)]; exact h.p3
  · rw [World.cell?_setCell_other _ _ _ _ (by simp)]; exact h.p5
  · rw [World.cell?_setCell_other _ _ _ _ (by simp)]; exact h.t1

theorem Sm.other {text : ByteArray} {pb tb : Nat} {a ln fr : Int} {v : Value} {w : World} (h : Sm text pb tb a ln fr v w) (x : Addr) (u : Value) (h1 : x.block ≠ pb) (h2 : x.block ≠ tb) : Sm text pb tb a ln fr v (w.setCell x u) := by
  have hc : ∀ i, (w.setCell x u).cell? ⟨pb, i, none⟩ = w.cell? ⟨pb, i, none⟩ := fun i => World.cell?_setCell_other _ _ _ _ (fun e => h1 (by rw [e]))
  have ht : ∀ i, (w.setCell x u).cell? ⟨tb, i, none⟩ = w.cell? ⟨tb, i, none⟩ := fun i => World.cell?_setCell_other _ _ _ _ (fun e => h2 (by rw [e]))
  exact ⟨(hc _).trans h.p0, (hc _).trans h.p1, (hc _).trans h.p2, (hc _).trans h.p3, (hc _).trans h.p5, (World.frozen?_setCell _ _ _ _).trans h.f2, (World.frozen?_setCell _ _ _ _).trans h.f5, (ht _).trans h.t1, (World.frozen?_setCell _ _ _ _).trans h.g1⟩

theorem NodeAt.setF {g o : Nat} {nl : Bool} {ln fr to : Int} {w : World} (h : NodeAt g o nl ln fr to w) (x : Int) : NodeAt g o nl ln x to (w.setCell ⟨g, o + 3, none⟩ (.int .i32 x)) := by
  refine ⟨?_, ?_, ?_, World.cell?_setCell_same _ _ _ h.n3, ?_, ?_, ?_, fun i => (World.frozen?_setCell _ _ _ _).trans (h.fz i)⟩
  · rw [World.cell?_setCell_other _ _ _ _ (by simp)]; exact h.n0
  · rw [World.cell?_setCell_other _ _ _ _ (by simp)]; exact h.n1
  · rw [World.cell?_setCell_other _ _ _ _ (by simp)]; exact h.n2
  · rw [World.cell?_setCell_other _ _ _ _ (by simp)]; exact h.n4
  · rw [World.cell?_setCell_other _ _ _ _ (by simp)]; exact h.n5
  · rw [World.cell?_setCell_other _ _ _ _ (by simp)]; exact h.n6

theorem NodeAt.setT {g o : Nat} {nl : Bool} {ln fr to : Int} {w : World} (h : NodeAt g o nl ln fr to w) (x : Int) : NodeAt g o nl ln fr x (w.setCell ⟨g, o + 4, none⟩ (.int .i32 x)) := by
  refine ⟨?_, ?_, ?_, ?_, World.cell?_setCell_same _ _ _ h.n4, ?_, ?_, fun i => (World.frozen?_setCell _ _ _ _).trans (h.fz i)⟩
  · rw [World.cell?_setCell_other _ _ _ _ (by simp)]; exact h.n0
  · rw [World.cell?_setCell_other _ _ _ _ (by simp)]; exact h.n1
  · rw [World.cell?_setCell_other _ _ _ _ (by simp)]; exact h.n2
  · rw [World.cell?_setCell_other _ _ _ _ (by simp)]; exact h.n3
  · rw [World.cell?_setCell_other _ _ _ _ (by simp)]; exact h.n5
  · rw [World.cell?_setCell_other _ _ _ _ (by simp)]; exact h.n6

theorem NodeAt.setN {g o : Nat} {nl : Bool} {ln fr to : Int} {w : World} (h : NodeAt g o nl ln fr to w) (x : Bool) : NodeAt g o x ln fr to (w.setCell ⟨g, o + 1, none⟩ (.bool x)) := by
  refine ⟨?_, World.cell?_setCell_same _ _ _ h.n1, ?_, ?_, ?_, ?_, ?_, fun i => (World.frozen?_setCell _ _ _ _).trans (h.fz i)⟩
  · rw [World.cell?_setCell_other _ _ _ _ (by simp)]; exact h.n0
  · rw [World.cell?_setCell_other _ _ _ _ (by simp)]; exact h.n2
  · rw [World.cell?_setCell_other _ _ _ _ (by simp)]; exact h.n3
  · rw [World.cell?_setCell_other _ _ _ _ (by simp)]; exact h.n4
  · rw [World.cell?_setCell_other _ _ _ _ (by simp)]; exact h.n5
  · rw [World.cell?_setCell_other _ _ _ _ (by simp)]; exact h.n6

theorem wrap_i64 (x : Int) (h0 : 0 ≤ x) (h1 : x ≤ 9223372036854775807) : IntKind.i64.wrap x = x := by
  rw [IntKind.wrap_i64]
  omega

/-- What scalar leaves, where the outcome is o. -/
def ScPost (text : ByteArray) (pb tb nb n A a : Nat) (ln fr : Int) (o : Option (Nat × Nat × Nat × Bool)) (w : World) (e : Ending) (w' : World) : Prop :=
  Below A w w' ∧
    ((o = none ∧ e = .returned (.int .i32 (-1)) ∧ Sm text pb tb a ln (if a = text.size then fr else a) (.slice (some ⟨nb, 0, none⟩) n n) w' ∧ w'.heap[nb]? = w.heap[nb]?) ∨
     (∃ (x f t : Nat) (nl : Bool), o = some (x, f, t, nl) ∧ e = .returned (.int .i32 n) ∧ ∃ g cap, n + 1 ≤ cap ∧ A ≤ g ∧ g ≠ pb ∧ g ≠ tb ∧ Sm text pb tb x ln a (.slice (some ⟨g, 0, none⟩) (n + 1) cap) w' ∧ NodeAt g (n * 7) nl (IntKind.i32.wrap ln) (IntKind.i32.wrap f) (IntKind.i32.wrap t) w'))

/-- What is known of the memory when scalar is called. -/
structure Start (text : ByteArray) (pb tb nb n A : Nat) (w : World) : Prop where
  hA : A ≤ nb
  hnt : nb < tb
  htp : tb < pb
  hp : pb < w.heap.size
  hn : n ≤ 65536
  row : w.heap[nb]? = some (.cells (madeCells #[.int .u8 0, .bool false, .int .i32 0, .int .i32 0, .int .i32 0, .int .i32 0, .int .i32 0] (n * 7)) 38 (0, 0))
  ht : text.size ≤ 1048576

/-- newNode, called in a world behind the first. -/
theorem newNode_later {text : ByteArray} {pb tb nb n A : Nat} {w w' : World} (hst : Start text pb tb nb n A w) (hsz : w.heap.size ≤ w'.heap.size) (hnb : w'.heap[nb]? = w.heap[nb]?) (a ln fr : Int) (hsm : Sm text pb tb a ln fr (.slice (some ⟨nb, 0, none⟩) n n) w') :
    Calls Try.prog 11 #[.pointer (some ⟨pb, 0, none⟩), .int .u8 1] w' (NnPost text pb tb n A a ln fr w') := by
  have h1 := hst.hA; have h2 := hst.hnt; have h3 := hst.htp; have h4 := hst.hp
  refine newNode_any text pb tb nb n A a ln fr (madeCells #[.int .u8 0, .bool false, .int .i32 0, .int .i32 0, .int .i32 0, .int .i32 0, .int .i32 0] (n * 7)).toList w' (by omega) (by omega) (by omega) (by omega) (by omega) hst.hn (by omega) hsm (by rw [Array.length_toList, size_madeCells]) ?_
  intro j u hu
  rw [Lib.cell_of_heap (hnb.trans hst.row)]
  simpa using hu

set_option maxRecDepth 100000 in
set_option maxHeartbeats 4000000 in
theorem scalar_end (text : ByteArray) (pb tb nb n A a : Nat) (ln fr : Int) (flow : Bool) (w : World) (ha : a = text.size) (hsm : Sm text pb tb a ln fr (.slice (some ⟨nb, 0, none⟩) n n) w) :
    Calls Try.prog 7 #[.pointer (some ⟨pb, 0, none⟩), .bool flow] w (ScPost text pb tb nb n A a ln fr (Plain.outcome text.data.toList a flow) w) := by
  have ho : Plain.outcome text.data.toList a flow = none := Plain.out_end _ _ _ (by simpa using ha)
  rw [ho]
  clear ho
  obtain ⟨p0, p1, p2, p3, p5, f2, f5, t1, g1⟩ := id hsm
  have ha' : ((a : Int) == (text.size : Int)) = true := by simp [ha]
  have HA : Hid (a = text.size) := ha
  clear ha
  go_enter Try.func7, Try.ntmps7
  go_wp2_with fail
  go_step3
  go_wp2_with fail
  go_quiet (fail)
  go_wp2_with fail
  go_ret
  refine ⟨below_drewN (Below.refl _ _) _, Or.inl ⟨rfl, rfl, ?_, rfl⟩⟩
  rw [if_pos HA.out]
  exact hsm.drewN _

set_option maxRecDepth 100000 in
set_option maxHeartbeats 4000000 in
theorem scalar_quote (text : ByteArray) (pb tb nb n A a : Nat) (ln fr : Int) (flow : Bool) (w : World) (hst : Start text pb tb nb n A w) (ha : a < text.size) (hsm : Sm text pb tb a ln fr (.slice (some ⟨nb, 0, none⟩) n n) w)
    (hq : Plain.bt text.data.toList a = 34 ∨ Plain.bt text.data.toList a = 39) :
    Calls Try.prog 7 #[.pointer (some ⟨pb, 0, none⟩), .bool flow] w (ScPost text pb tb nb n A a ln fr (Plain.outcome text.data.toList a flow) w) := by
  obtain ⟨p0, p1, p2, p3, p5, f2, f5, t1, g1⟩ := id hsm
  have hlen : text.data.toList.length = text.size := by simp
  have HL : Hid (text.data.toList.length = text.size) := hlen
  clear hlen
  have ha' : (a : Int) < text.size := by omega
  have hs' : (text.size : Int) ≤ 1048576 := by have := hst.ht; omega
  have hae : ((a : Int) == (text.size : Int)) = false := beq_eq_false_iff_ne.2 (by omega)
  have hne : pb ≠ tb := by have := hst.htp; omega
  generalize hv : (text[a].toNat : Int) = q
  have HQ : Hid (Plain.bt text.data.toList a = q) := (bt_at text a ha).symm.trans hv
  rw [HQ.out] at hq
  have hnbp : nb ≠ pb := by have := hst.hnt; have := hst.htp; omega
  have hAp : A ≤ pb := by have := hst.hA; have := hst.hnt; have := hst.htp; omega
  have hAt : A ≤ tb := by have := hst.hA; have := hst.hnt; omega
  have hps : pb < w.heap.size := hst.hp
  have hts : tb < w.heap.size := by have := hst.htp; omega
  rcases hq with hq | hq
  all_goals
    subst hq
    go_enter Try.func7, Try.ntmps7
    go_wp2_with fail
    go_step3
    go_wp2_with fail
    go_quiet (fail)
    go_wp2_with fail
    have hsm1 := (hsm.drewN nq).setFrom (a : Int)
    have hb1 : Below A w ((w.drewN nq).setCell ⟨pb, 5, none⟩ (.int .i64 (a : Int))) := (below_drewN (Below.refl _ _) _).setCell hAp _
    have hnb1 : ((w.drewN nq).setCell ⟨pb, 5, none⟩ (.int .i64 (a : Int))).heap[nb]? = w.heap[nb]? := Below.heap_setCell _ _ _ _ hnbp
    have hz1 : ((w.drewN nq).setCell ⟨pb, 5, none⟩ (.int .i64 (a : Int))).heap.size = w.heap.size := by simp [World.setCell]
    generalize (w.drewN nq).setCell ⟨pb, 5, none⟩ (.int .i64 (a : Int)) = w1 at hsm1 hb1 hnb1 hz1
    have HS1 : Hid (Sm text pb tb a ln a (.slice (some ⟨nb, 0, none⟩) n n) w1) := hsm1
    obtain ⟨q0, q1, q2, q3, q5, e2, e5, s1, d1⟩ := id hsm1
    clear hsm1 p0 p1 p2 p3 p5 f2 f5 t1 g1 hsm
    have HB1 : Hid (Below A w w1 ∧ w1.heap[nb]? = w.heap[nb]? ∧ w1.heap.size = w.heap.size) := ⟨hb1, hnb1, hz1⟩
    clear hb1 hnb1 hz1
    go_loop [8] (fun v => ∃ k : Nat, a + 1 ≤ k ∧ k ≤ text.size ∧ v = .int .i64 k ∧ Hid ((∀ i, a + 1 ≤ i → i < k → Plain.bt text.data.toList i ≠ Plain.bt text.data.toList a) ∧ (∀ i, a + 1 ≤ i → i < k → Plain.badB text.data.toList (Plain.bt text.data.toList a) i = false))) (fun v => text.size - (intOf v).toNat)
    case atStart => exact ⟨a + 1, Nat.le_refl _, by omega, by go_num, ⟨fun i h1 h2 => by omega, fun i h1 h2 => by omega⟩⟩
    case round =>
      obtain ⟨k, hk1, hk2, rfl, HK⟩ := hrel
      by_cases hlt : k < text.size
      · have hlt' : (k : Int) < text.size := by omega
        generalize hu : (text[k].toNat : Int) = u
        have HU : Hid (Plain.bt text.data.toList k = u) := (bt_at text k hlt).symm.trans hu
        have Hnone : Hid (Plain.badB text.data.toList (Plain.bt text.data.toList a) k = true → Plain.bt text.data.toList k ≠ Plain.bt text.data.toList a → ScPost text pb tb nb n A a ln fr (Plain.outcome text.data.toList a flow) w (.returned (.int .i32 (-1))) w1) := by
          intro hbad hnq
          obtain ⟨b1, b2, b3⟩ := HB1.out
          refine ⟨b1, Or.inl ⟨?_, rfl, ?_, b2⟩⟩
          · refine Plain.out_quote_bad _ _ k _ (by rw [HL.out]; exact ha) (by rw [HQ.out]; decide) hk1 (fun i h1 h2 => ?_) hbad
            by_cases hik : i = k
            · subst hik; exact hnq
            · exact HK.out.1 i h1 (by omega)
          · rw [if_neg (by omega)]; exact HS1.out
        by_cases h10 : u = 10
        · subst h10
          go_wp2_with fail
          go_ret
          exact Hnone.out (by unfold Plain.badB; rw [HU.out]; simp) (by rw [HU.out, HQ.out]; decide)
        · by_cases h13 : u = 13
          · subst h13
            go_wp2_with fail
            go_ret
            exact Hnone.out (by unfold Plain.badB; rw [HU.out]; simp) (by rw [HU.out, HQ.out]; decide)
          · have h10b : (u == 10) = false := by simpa using h10
            have h13b : (u == 13) = false := by simpa using h13
            by_cases h92 : u = 92
            · subst h92
              go_wp2_with fail
              first
                | (go_ret; exact Hnone.out (by unfold Plain.badB; rw [HU.out, HQ.out]; decide) (by rw [HU.out, HQ.out]; decide))
                | (go_round
                   case rel =>
                     refine ⟨k + 1, by omega, by omega, by go_num, ⟨fun i h1 h2 => ?_, fun i h1 h2 => ?_⟩⟩
                     · by_cases hik : i = k
                       · subst hik; rw [HU.out, HQ.out]; decide
                       · exact HK.out.1 i h1 (by omega)
                     · by_cases hik : i = k
                       · subst hik; unfold Plain.badB; rw [HU.out, HQ.out]; decide
                       · exact HK.out.2 i h1 (by omega)
                   case measure => simp [intOf]; omega)
            · have h92b : (u == 92) = false := by simpa using h92
              by_cases huq : u = Plain.bt text.data.toList a
              · rw [HQ.out] at huq
                subst huq
                have hke : ((k : Int) == (text.size : Int)) = false := beq_eq_false_iff_ne.2 (by omega)
                have hnn := newNode_later hst (w' := w1.setCell ⟨pb, 2, none⟩ (.int .i64 ((k : Int) + 1))) (by have := HB1.out.2.2; simp [World.setCell] at this ⊢; omega) ((Below.heap_setCell _ _ _ _ hnbp).trans HB1.out.2.1) ((k : Int) + 1) ln a (HS1.out.setAt _)
                have HNN : Hid (Calls Try.prog 11 #[.pointer (some ⟨pb, 0, none⟩), .int .u8 1] (w1.setCell ⟨pb, 2, none⟩ (.int .i64 ((k : Int) + 1))) (NnPost text pb tb n A ((k : Int) + 1) ln a (w1.setCell ⟨pb, 2, none⟩ (.int .i64 ((k : Int) + 1))))) := hnn
                have HO : Hid (Plain.outcome text.data.toList a flow = some (k + 1, a + 1, k, false)) := Plain.out_quote_made _ _ k _ (by rw [HL.out]; exact ha) (by rw [HQ.out]; decide) hk1 (by rw [HL.out]; exact hlt) HK.out.1 (HU.out.trans HQ.out.symm) HK.out.2
                clear hnn Hnone
                have hb2 : Below A w (w1.setCell ⟨pb, 2, none⟩ (.int .i64 ((k : Int) + 1))) := HB1.out.1.setCell hAp _
                have hz2 : (w1.setCell ⟨pb, 2, none⟩ (.int .i64 ((k : Int) + 1))).heap.size = w.heap.size := by have := HB1.out.2.2; simpa [World.setCell] using this
                have HB2 : Hid (Below A w (w1.setCell ⟨pb, 2, none⟩ (.int .i64 ((k : Int) + 1))) ∧ (w1.setCell ⟨pb, 2, none⟩ (.int .i64 ((k : Int) + 1))).heap.size = w.heap.size) := ⟨hb2, hz2⟩
                clear hb2 hz2
                go_wp2_with fail
                refine HNN.out.mono ?_
                rintro e w3 ⟨rfl, hb3, g, cap, hg1, hg2, hcap, hsm3, hnode3⟩
                have hgp : g ≠ pb := by have := HB2.out.2; omega
                have hgt : g ≠ tb := by have := HB2.out.2; omega
                have hAg : A ≤ g := by have := HB2.out.2; have := hst.hA; have := hst.hnt; have := hst.htp; omega
                have HB3 : Hid (Below A w w3) := HB2.out.1.trans hb3
                obtain ⟨r0, r1, r2, r3, r5, b2', b5', u1, v1⟩ := id hsm3
                obtain ⟨n0, n1, n2, n3, n4, n5, n6, nfz⟩ := id hnode3
                have nf3 := nfz (n * 7 + 3)
                have nf4 := nfz (n * 7 + 4)
                have hin : (n : Int) < (n : Int) + 1 := by omega
                have hw64 : IntKind.i64.wrap ((a : Int) + 1) = (a : Int) + 1 := wrap_i64 _ (by omega) (by omega)
                have HP : Hid (∀ w4, Below A w3 w4 → Sm text pb tb ((k : Int) + 1) ln a (.slice (some ⟨g, 0, none⟩) (n + 1) cap) w4 → NodeAt g (n * 7) false (IntKind.i32.wrap ln) (IntKind.i32.wrap ((a : Int) + 1)) (IntKind.i32.wrap (k : Int)) w4 → ScPost text pb tb nb n A a ln fr (Plain.outcome text.data.toList a flow) w (.returned (.int .i32 n)) w4) := by
                  intro w4 h1 h2 h3
                  refine ⟨HB3.out.trans h1, Or.inr ⟨k + 1, a + 1, k, false, HO.out, rfl, g, cap, hcap, hAg, hgp, hgt, ?_, ?_⟩⟩
                  · exact h2
                  · exact h3
                clear nfz hb3 hg1 hg2
                go_wp2_with fail
                go_region_held3 (fun w' => w'.cell? ⟨pb, 1, none⟩ = some (.pointer (some ⟨tb, 0, none⟩)) ∧ w'.cell? ⟨tb, 1, none⟩ = some (.slice (some ⟨g, 0, none⟩) (n + 1) cap)) (go_keep) (fail)
                all_goals
                  go_wp2_with fail
                  go_ret
                  refine HP.out _ ((((Below.refl _ _).setCell hAg _).setCell hAg _).drew) (((hsm3.other _ _ hgp hgt).other _ _ hgp hgt).drew) ?_
                  first
                    | exact (((hnode3.setF _).setT _).drew)
                    | (rw [hw64]; exact (((hnode3.setF _).setT _).drew))
              · rw [HQ.out] at huq
                have huqb := bne_iff_ne.2 huq
                go_wp2_with fail
                go_round
                case rel =>
                  refine ⟨k + 1, by omega, by omega, by go_num, ⟨fun i h1 h2 => ?_, fun i h1 h2 => ?_⟩⟩
                  · by_cases hik : i = k
                    · subst hik; rw [HU.out, HQ.out]; exact huq
                    · exact HK.out.1 i h1 (by omega)
                  · by_cases hik : i = k
                    · subst hik; unfold Plain.badB; rw [HU.out]; exact decide_eq_false (by omega)
                    · exact HK.out.2 i h1 (by omega)
                case measure => simp [intOf]; omega
      · have hge : ¬ (k : Int) < text.size := by omega
        have hee : ((k : Int) == (text.size : Int)) = true := by rw [beq_iff_eq]; omega
        go_wp2_with fail
        go_ret
        obtain ⟨b1, b2, b3⟩ := HB1.out
        refine ⟨b1, Or.inl ⟨?_, rfl, ?_, b2⟩⟩
        · exact Plain.out_quote_open _ _ _ (by rw [HL.out]; exact ha) (by rw [HQ.out]; decide) (fun i h1 h2 => HK.out.1 i h1 (by rw [HL.out] at h2; omega))
        · rw [if_neg (by omega)]; exact HS1.out

end Go.Proofs.Qxb6603734a
