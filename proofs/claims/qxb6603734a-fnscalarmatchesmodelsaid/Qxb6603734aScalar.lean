/- Seat b6603734a: scalar, where no quote stands. -/
import Derived.Test.Qxb6603734aQuote
import Derived.Deep.CutBlock
import Derived.Deep.DeepCutAuto
namespace Go.Proofs.Qxb6603734a
open Go.RowKit

set_option maxRecDepth 100000 in
set_option maxHeartbeats 4000000 in
theorem scalar_refused (text : ByteArray) (pb tb nb n A a : Nat) (ln fr : Int) (flow : Bool) (w : World) (hst : Start text pb tb nb n A w) (ha : a < text.size) (hsm : Sm text pb tb a ln fr (.slice (some ⟨nb, 0, none⟩) n n) w)
    (hq : ¬ (Plain.bt text.data.toList a = 34 ∨ Plain.bt text.data.toList a = 39)) (hr : Plain.refB text.data.toList a = true) :
    Calls Try.prog 7 #[.pointer (some ⟨pb, 0, none⟩), .bool flow] w (ScPost text pb tb nb n A a ln fr (Plain.outcome text.data.toList a flow) w) := by
  have ho : Plain.outcome text.data.toList a flow = none := Plain.out_refused _ _ _ (by simpa using ha) hq hr
  have HST : Hid (∀ w, Calls Try.prog 12 #[.string text, .int .i64 a] w fun e w' => e = .returned (.bool false) ∧ w' = w) := by
    intro w
    have := start_any text a w hst.ht ha hq
    rw [hr] at this
    exact this
  rw [ho]
  clear ho hr
  obtain ⟨p0, p1, p2, p3, p5, f2, f5, t1, g1⟩ := id hsm
  have ha' : (a : Int) < text.size := by omega
  have hs' : (text.size : Int) ≤ 1048576 := by have := hst.ht; omega
  have hae : ((a : Int) == (text.size : Int)) = false := beq_eq_false_iff_ne.2 (by omega)
  have hnbp : nb ≠ pb := by have := hst.hnt; have := hst.htp; omega
  have hAp : A ≤ pb := by have := hst.hA; have := hst.hnt; have := hst.htp; omega
  generalize hv : (text[a].toNat : Int) = q
  rw [← (bt_at text a ha), hv] at hq
  have h34 : (q == 34) = false := beq_eq_false_iff_ne.2 (fun h => hq (Or.inl h))
  have h39 : (q == 39) = false := beq_eq_false_iff_ne.2 (fun h => hq (Or.inr h))
  clear hq
  go_enter Try.func7, Try.ntmps7
  go_wp2_with fail
  go_step3
  go_wp2_with fail
  go_quiet (fail)
  go_wp2_with fail
  refine (HST.out _).mono ?_
  rintro e w1 ⟨rfl, rfl⟩
  go_wp2_with fail
  go_ret
  refine ⟨(below_drewN (Below.refl _ _) _).setCell hAp _, Or.inl ⟨rfl, rfl, ?_, Below.heap_setCell _ _ _ _ hnbp⟩⟩
  rw [if_neg (by omega)]
  exact (hsm.drewN _).setFrom _

/-- From a up to i nothing stops, and in a flow no mark of a key stands. -/
def NoStop (text : ByteArray) (flow : Bool) (a i : Nat) : Prop :=
  (∀ k, a ≤ k → k < i → Plain.stopB text.data.toList flow k = false) ∧ (flow = true → ∀ k, a ≤ k → k < i → Plain.bt text.data.toList k ≠ 63)

set_option maxRecDepth 100000 in
set_option maxHeartbeats 4000000 in
theorem scalar_plain (text : ByteArray) (pb tb nb n A a : Nat) (ln fr : Int) (flow : Bool) (w : World) (hst : Start text pb tb nb n A w) (ha : a < text.size) (hsm : Sm text pb tb a ln fr (.slice (some ⟨nb, 0, none⟩) n n) w)
    (hq : ¬ (Plain.bt text.data.toList a = 34 ∨ Plain.bt text.data.toList a = 39)) (hr : Plain.refB text.data.toList a = false) :
    Calls Try.prog 7 #[.pointer (some ⟨pb, 0, none⟩), .bool flow] w (ScPost text pb tb nb n A a ln fr (Plain.outcome text.data.toList a flow) w) := by
  have HST : Hid (∀ w, Calls Try.prog 12 #[.string text, .int .i64 a] w fun e w' => e = .returned (.bool true) ∧ w' = w) := by
    intro w
    have := start_any text a w hst.ht ha hq
    rw [hr] at this
    exact this
  have HQR : Hid (¬ (Plain.bt text.data.toList a = 34 ∨ Plain.bt text.data.toList a = 39) ∧ Plain.refB text.data.toList a = false) := ⟨hq, hr⟩
  obtain ⟨p0, p1, p2, p3, p5, f2, f5, t1, g1⟩ := id hsm
  have hlen : text.data.toList.length = text.size := by simp
  have HL : Hid (text.data.toList.length = text.size) := hlen
  clear hlen hr
  have ha' : (a : Int) < text.size := by omega
  have hs' : (text.size : Int) ≤ 1048576 := by have := hst.ht; omega
  have hae : ((a : Int) == (text.size : Int)) = false := beq_eq_false_iff_ne.2 (by omega)
  have hne : pb ≠ tb := by have := hst.htp; omega
  have hnbp : nb ≠ pb := by have := hst.hnt; have := hst.htp; omega
  have hAp : A ≤ pb := by have := hst.hA; have := hst.hnt; have := hst.htp; omega
  have hAt : A ≤ tb := by have := hst.hA; have := hst.hnt; omega
  have hps : pb < w.heap.size := hst.hp
  have hts : tb < w.heap.size := by have := hst.htp; omega
  generalize hv : (text[a].toNat : Int) = q
  rw [← (bt_at text a ha), hv] at hq
  have h34 : (q == 34) = false := beq_eq_false_iff_ne.2 (fun h => hq (Or.inl h))
  have h39 : (q == 39) = false := beq_eq_false_iff_ne.2 (fun h => hq (Or.inr h))
  clear hq
  go_enter Try.func7, Try.ntmps7
  go_wp2_with fail
  go_step3
  go_wp2_with fail
  go_quiet (fail)
  go_wp2_with fail
  refine (HST.out _).mono ?_
  rintro e w0 ⟨rfl, hw0⟩
  rw [hw0]
  clear hw0
  have hsm1 := (hsm.drewN nq).setFrom (a : Int)
  have hb1 : Below A w ((w.drewN nq).setCell ⟨pb, 5, none⟩ (.int .i64 (a : Int))) := (below_drewN (Below.refl _ _) _).setCell hAp _
  have hnb1 : ((w.drewN nq).setCell ⟨pb, 5, none⟩ (.int .i64 (a : Int))).heap[nb]? = w.heap[nb]? := Below.heap_setCell _ _ _ _ hnbp
  have hz1 : ((w.drewN nq).setCell ⟨pb, 5, none⟩ (.int .i64 (a : Int))).heap.size = w.heap.size := by simp [World.setCell]
  generalize (w.drewN nq).setCell ⟨pb, 5, none⟩ (.int .i64 (a : Int)) = w1 at hsm1 hb1 hnb1 hz1
  have HS1 : Hid (Sm text pb tb a ln a (.slice (some ⟨nb, 0, none⟩) n n) w1) := hsm1
  obtain ⟨q0, q1, q2, q3, q5, e2, e5, s1, d1⟩ := id hsm1
  clear hsm1 p0 p1 p2 p3 p5 f2 f5 t1 g1 hsm
  have HB1 : Hid (Below A w w1 ∧ w1.heap[nb]? = w.heap[nb]? ∧ w1.heap.size = w.heap.size) := ⟨hb1, hnb1, hz1⟩
  clear hb1 hnb1 hz1
  go_wp2_with fail
  go_step3
  go_upto_block 2 with fail
  go_cut [11] (fun ve wc => ∃ S : Nat, a ≤ S ∧ S ≤ text.size ∧ ve = .int .i64 (Plain.trim text.data.toList a S) ∧ wc = w1 ∧ Hid (NoStop text flow a S ∧ (S < text.size → Plain.stopB text.data.toList flow S = true)))
  case first =>
    go_wp2_with fail
    go_loopg [11, 12] (text.size + 1 - a) (fun g ve vi wr => ∃ i : Nat, g = text.size + 1 - i ∧ a ≤ i ∧ i ≤ text.size ∧ ve = .int .i64 (Plain.trim text.data.toList a i) ∧ vi = .int .i64 i ∧ wr = w1 ∧ Hid (NoStop text flow a i))
    case atStart => exact ⟨a, rfl, Nat.le_refl _, by omega, by rw [Plain.trim_here _ _ _ (Or.inl (by omega))], rfl, rfl, ⟨fun k h1 h2 => by omega, fun _ k h1 h2 => by omega⟩⟩
    case round =>
      obtain ⟨i, hg, hi1, hi2, rfl, rfl, rfl, HI⟩ := hrel
      have HG : Hid (gk = text.size + 1 - i) := hg
      clear hg
      generalize htr : Plain.trim text.data.toList a i = tr
      have HT : Hid (Plain.trim text.data.toList a i = tr) := htr
      clear htr
      by_cases hlt : i < text.size
      · have hlt' : (i : Int) < text.size := by omega
        generalize hu : (text[i].toNat : Int) = u
        have HU : Hid (Plain.bt text.data.toList i = u) := (bt_at text i hlt).symm.trans hu
        by_cases h32 : u = 32
        · -- a run of spaces
          subst h32
          obtain ⟨n1, n2⟩ := Plain.nn_le text.data.toList i (by rw [HL.out]; exact hi2)
          rw [HL.out] at n2
          have HNJ : Hid (∀ k, i ≤ k → k < Plain.nn text.data.toList i → Plain.bt text.data.toList k = 32) := fun k h1 h2 => Plain.nn_between _ _ _ h1 h2
          have hru := Plain.stop_space text.data.toList flow i HU.out
          rw [HL.out] at hru
          have hrun := fun k h1 h2 => Plain.stop_run text.data.toList flow i k (by rw [HL.out]; exact hlt) HU.out h1 h2
          have htr := fun j (hj : j = Plain.nn text.data.toList i) => Plain.trim_run text.data.toList a i hi1 (j - i) j (by omega) (fun k h1 h2 => Plain.nn_between _ _ _ h1 (by omega))
          have hne32 : ∀ h : Plain.nn text.data.toList i < text.size, Plain.bt text.data.toList (Plain.nn text.data.toList i) ≠ 32 := by
            intro h h'
            have e1 := Plain.nn_same text.data.toList i (Plain.nn text.data.toList i - i) (Plain.nn text.data.toList i) (by omega) (Nat.le_refl _) (by rw [HL.out]; exact n2)
            have e2 := Plain.nn_space text.data.toList (Plain.nn text.data.toList i) (by rw [HL.out]; exact h) h'
            have e3 := (Plain.nn_le text.data.toList (Plain.nn text.data.toList i + 1) (by rw [HL.out]; omega)).1
            omega
          generalize hJ : Plain.nn text.data.toList i = J at n1 n2 HNJ hru hrun htr hne32
          have HRU : Hid (Plain.stopB text.data.toList flow i = decide (J = text.size ∨ Plain.bt text.data.toList J = 10 ∨ Plain.bt text.data.toList J = 13 ∨ Plain.bt text.data.toList J = 35)) := hru
          have HRUN : Hid (∀ k, i ≤ k → k < J → Plain.stopB text.data.toList flow k = Plain.stopB text.data.toList flow i) := hrun
          have HTJ : Hid (Plain.trim text.data.toList a J = tr) := (htr J rfl).trans HT.out
          have HNE : Hid (∀ h : J < text.size, Plain.bt text.data.toList J ≠ 32) := hne32
          clear hru hrun htr hne32 hJ
          have hiJ : i < J := by
            refine Nat.lt_of_le_of_ne n1 fun he => ?_
            have := HNE.out (by omega)
            rw [← he, HU.out] at this
            exact this rfl
          go_wp2_with fail
          go_loopg [13] (J + 1 - i) (fun g vj wx => ∃ j : Nat, g = J + 1 - j ∧ i ≤ j ∧ j ≤ J ∧ vj = .int .i64 j ∧ wx = wr)
          case atStart => exact ⟨i, rfl, Nat.le_refl _, n1, rfl, rfl⟩
          case round =>
            obtain ⟨j, hgj, hj1, hj2, rfl, rfl⟩ := hrel
            have HGJ : Hid (gk = J + 1 - j) := hgj
            clear hgj
            by_cases hjJ : j < J
            · have hjs : j < text.size := by omega
              have hjs' : (j : Int) < text.size := by omega
              have hj32 : (text[j].toNat : Int) = 32 := (bt_at text j hjs).trans (HNJ.out j hj1 hjJ)
              go_wp2_with fail
              go_roundg (J + 1 - (j + 1))
              case measure => rw [HGJ.out]; omega
              case rel => exact ⟨j + 1, rfl, by omega, by omega, by go_num, rfl⟩
            · obtain rfl : j = J := by omega
              by_cases hJs : j < text.size
              · have hJs' : (j : Int) < text.size := by omega
                have hJe : ((j : Int) == (text.size : Int)) = false := beq_eq_false_iff_ne.2 (by omega)
                generalize hx : (text[j].toNat : Int) = nx
                have HX : Hid (Plain.bt text.data.toList j = nx) := (bt_at text j hJs).symm.trans hx
                have hx32 : (nx == 32) = false := beq_eq_false_iff_ne.2 (fun h => HNE.out hJs (HX.out.trans h))
                by_cases hstop : nx = 10 ∨ nx = 13 ∨ nx = 35
                · have HST2 : Hid (Plain.stopB text.data.toList flow i = true) := by
                    show _ = _
                    rw [HRU.out, HX.out]
                    exact decide_eq_true (Or.inr hstop)
                  rcases hstop with hstop | hstop | hstop
                  all_goals
                    subst hstop
                    go_wp2_with fail
                    go_meet
                    case rel => exact ⟨i, hi1, hi2, by rw [HT.out], rfl, ⟨HI.out, fun _ => HST2.out⟩⟩
                · have HNS : Hid (Plain.stopB text.data.toList flow i = false) := by
                    show _ = _
                    rw [HRU.out, HX.out]
                    exact decide_eq_false (fun h => h.elim (by omega) hstop)
                  have x1 : (nx == 10) = false := beq_eq_false_iff_ne.2 (fun h => hstop (Or.inl h))
                  have x2 : (nx == 13) = false := beq_eq_false_iff_ne.2 (fun h => hstop (Or.inr (Or.inl h)))
                  have x3 : (nx == 35) = false := beq_eq_false_iff_ne.2 (fun h => hstop (Or.inr (Or.inr h)))
                  clear hstop
                  go_wp2_with fail
                  go_roundg (text.size + 1 - j)
                  case measure => rw [HG.out]; omega
                  case rel =>
                    refine ⟨j, rfl, by omega, by omega, by rw [HTJ.out], by go_num, rfl, ⟨fun k h1 h2 => ?_, fun hf k h1 h2 => ?_⟩⟩
                    · by_cases hk : k < i
                      · exact HI.out.1 k h1 hk
                      · exact (HRUN.out k (by omega) h2).trans HNS.out
                    · by_cases hk : k < i
                      · exact HI.out.2 hf k h1 hk
                      · rw [HNJ.out k (by omega) h2]; decide
              · have hJe : ((j : Int) == (text.size : Int)) = true := by rw [beq_iff_eq]; omega
                have hJs' : ¬ (j : Int) < text.size := by omega
                have HST2 : Hid (Plain.stopB text.data.toList flow i = true) := by
                  show _ = _
                  rw [HRU.out]
                  exact decide_eq_true (Or.inl (by omega))
                go_wp2_with fail
                go_meet
                case rel => exact ⟨i, hi1, hi2, by rw [HT.out], rfl, ⟨HI.out, fun _ => HST2.out⟩⟩
        · -- no space
          have h32b : (u == 32) = false := by simpa using h32
          have HTR : Hid (Value.int .i64 ((i : Int) + 1) = .int .i64 ((Plain.trim text.data.toList a (i + 1) : Nat) : Int)) := by
            show _ = _
            rw [Plain.trim_here _ _ _ (Or.inr (by rw [show i + 1 - 1 = i by omega, HU.out]; exact h32))]
            go_num
          have HNX : Hid (Plain.stopB text.data.toList flow i = false → (flow = true → Plain.bt text.data.toList i ≠ 63) → Hid (NoStop text flow a (i + 1))) := by
            intro hs hm
            refine ⟨fun k h1 h2 => ?_, fun hf k h1 h2 => ?_⟩
            · by_cases hk : k = i
              · subst hk; exact hs
              · exact HI.out.1 k h1 (by omega)
            · by_cases hk : k = i
              · subst hk; exact hm hf
              · exact HI.out.2 hf k h1 (by omega)
          by_cases h58 : u = 58
          · subst h58
            have HNQ : Hid (flow = true → Plain.bt text.data.toList i ≠ 63) := fun _ => by rw [HU.out]; decide
            by_cases h1 : i + 1 < text.size
            · have h1' : (i : Int) + 1 < text.size := by omega
              have h1e : ((i : Int) + 1 == (text.size : Int)) = false := beq_eq_false_iff_ne.2 (by omega)
              generalize hx : (text[i + 1].toNat : Int) = nx
              have HX : Hid (Plain.bt text.data.toList (i + 1) = nx) := (bt_at text (i + 1) h1).symm.trans hx
              have hr : Plain.stopB text.data.toList flow i = decide (nx = 32 ∨ nx = 10 ∨ nx = 13) := by
                unfold Plain.stopB
                rw [HU.out, HX.out, HL.out]
                have : ¬ i + 1 = text.size := by omega
                simp [this]
              by_cases hnx : nx = 32 ∨ nx = 10 ∨ nx = 13
              · have HST2 : Hid (Plain.stopB text.data.toList flow i = true) := hr.trans (decide_eq_true hnx)
                clear hr
                rcases hnx with hnx | hnx | hnx
                all_goals
                  subst hnx
                  go_wp2_with fail
                  go_meet
                  case rel => exact ⟨i, hi1, hi2, by rw [HT.out], rfl, ⟨HI.out, fun _ => HST2.out⟩⟩
              · have HNS : Hid (Plain.stopB text.data.toList flow i = false) := hr.trans (decide_eq_false hnx)
                clear hr
                have x1 : (nx == 32) = false := beq_eq_false_iff_ne.2 (fun h => hnx (Or.inl h))
                have x2 : (nx == 10) = false := beq_eq_false_iff_ne.2 (fun h => hnx (Or.inr (Or.inl h)))
                have x3 : (nx == 13) = false := beq_eq_false_iff_ne.2 (fun h => hnx (Or.inr (Or.inr h)))
                clear hnx
                go_wp2_with fail
                go_roundg (text.size + 1 - (i + 1))
                case measure => rw [HG.out]; omega
                case rel => exact ⟨i + 1, rfl, by omega, by omega, HTR.out, by go_num, rfl, HNX.out HNS.out HNQ.out⟩
            · have h1' : ((i : Int) + 1 == (text.size : Int)) = true := by rw [beq_iff_eq]; omega
              have HST2 : Hid (Plain.stopB text.data.toList flow i = true) := by
                show _ = _
                unfold Plain.stopB
                rw [HU.out, HL.out]
                have : i + 1 = text.size := by omega
                simp [this]
              go_wp2_with fail
              go_meet
              case rel => exact ⟨i, hi1, hi2, by rw [HT.out], rfl, ⟨HI.out, fun _ => HST2.out⟩⟩
          · have h58b : (u == 58) = false := by simpa using h58
            have hr : Plain.stopB text.data.toList flow i = if u = 10 ∨ u = 13 then true else if u = 44 ∨ u = 91 ∨ u = 93 ∨ u = 123 ∨ u = 125 then flow else false := by
              unfold Plain.stopB
              rw [HU.out, if_neg h58, if_neg h32]
            by_cases hnl : u = 10 ∨ u = 13
            · have HST2 : Hid (Plain.stopB text.data.toList flow i = true) := by
                show _ = _
                rw [hr, if_pos hnl]
              clear hr
              rcases hnl with hnl | hnl
              all_goals
                subst hnl
                go_wp2_with fail
                go_meet
                case rel => exact ⟨i, hi1, hi2, by rw [HT.out], rfl, ⟨HI.out, fun _ => HST2.out⟩⟩
            · rw [if_neg hnl] at hr
              have y1 : (u == 10) = false := beq_eq_false_iff_ne.2 (fun h => hnl (Or.inl h))
              have y2 : (u == 13) = false := beq_eq_false_iff_ne.2 (fun h => hnl (Or.inr h))
              clear hnl
              by_cases hfl : u = 44 ∨ u = 91 ∨ u = 93 ∨ u = 123 ∨ u = 125
              · rw [if_pos hfl] at hr
                cases flow
                · have HNS : Hid (Plain.stopB text.data.toList false i = false) := hr
                  have HNQ : Hid (false = true → Plain.bt text.data.toList i ≠ 63) := fun h => by cases h
                  clear hr
                  rcases hfl with hfl | hfl | hfl | hfl | hfl
                  all_goals
                    subst hfl
                    go_wp2_with fail
                    go_roundg (text.size + 1 - (i + 1))
                    case measure => rw [HG.out]; omega
                    case rel => exact ⟨i + 1, rfl, by omega, by omega, HTR.out, by go_num, rfl, HNX.out HNS.out HNQ.out⟩
                · have HST2 : Hid (Plain.stopB text.data.toList true i = true) := hr
                  clear hr
                  rcases hfl with hfl | hfl | hfl | hfl | hfl
                  all_goals
                    subst hfl
                    go_wp2_with fail
                    go_meet
                    case rel => exact ⟨i, hi1, hi2, by rw [HT.out], rfl, ⟨HI.out, fun _ => HST2.out⟩⟩
              · rw [if_neg hfl] at hr
                have HNS : Hid (Plain.stopB text.data.toList flow i = false) := hr
                clear hr
                have z1 : (u == 44) = false := beq_eq_false_iff_ne.2 (fun h => hfl (Or.inl h))
                have z2 : (u == 91) = false := beq_eq_false_iff_ne.2 (fun h => hfl (Or.inr (Or.inl h)))
                have z3 : (u == 93) = false := beq_eq_false_iff_ne.2 (fun h => hfl (Or.inr (Or.inr (Or.inl h))))
                have z4 : (u == 123) = false := beq_eq_false_iff_ne.2 (fun h => hfl (Or.inr (Or.inr (Or.inr (Or.inl h)))))
                have z5 : (u == 125) = false := beq_eq_false_iff_ne.2 (fun h => hfl (Or.inr (Or.inr (Or.inr (Or.inr h)))))
                clear hfl
                by_cases h63 : u = 63
                · subst h63
                  cases flow
                  · have HNQ : Hid (false = true → Plain.bt text.data.toList i ≠ 63) := fun h => by cases h
                    go_wp2_with fail
                    go_roundg (text.size + 1 - (i + 1))
                    case measure => rw [HG.out]; omega
                    case rel => exact ⟨i + 1, rfl, by omega, by omega, HTR.out, by go_num, rfl, HNX.out HNS.out HNQ.out⟩
                  · have HO : Hid (Plain.outcome text.data.toList a true = none) := Plain.out_mark _ _ i (by rw [HL.out]; exact ha) HQR.out.1 HQR.out.2 hi1 (by rw [HL.out]; exact hlt) HI.out.1 HU.out
                    go_wp2_with fail
                    try rw [Exit.noGoto_ret]
                    go_ret
                    obtain ⟨b1, b2, b3⟩ := HB1.out
                    refine ⟨b1, Or.inl ⟨HO.out, rfl, ?_, b2⟩⟩
                    rw [if_neg (by omega)]
                    exact HS1.out
                · have HNQ : Hid (flow = true → Plain.bt text.data.toList i ≠ 63) := fun _ => by rw [HU.out]; exact h63
                  have h63b : (u == 63) = false := by simpa using h63
                  clear h63
                  go_wp2_with fail
                  go_roundg (text.size + 1 - (i + 1))
                  case measure => rw [HG.out]; omega
                  case rel => exact ⟨i + 1, rfl, by omega, by omega, HTR.out, by go_num, rfl, HNX.out HNS.out HNQ.out⟩
      · have hge : ¬ (i : Int) < text.size := by omega
        go_wp2_with fail
        go_meet
        case rel => exact ⟨i, hi1, hi2, by rw [HT.out], rfl, ⟨HI.out, fun h => by omega⟩⟩
  case rest =>
    obtain ⟨S, hS1, hS2, rfl, rfl, HS⟩ := hcut
    obtain ⟨te1, te2⟩ := Plain.trim_le text.data.toList a S hS1
    have HO : Hid (Plain.outcome text.data.toList a flow = some (Plain.trim text.data.toList a S, a, Plain.trim text.data.toList a S, Plain.nullB ((text.data.toList.drop a).take (Plain.trim text.data.toList a S - a)))) :=
      Plain.out_plain _ _ S _ (by rw [HL.out]; exact ha) HQR.out.1 HQR.out.2 hS1 (by rw [HL.out]; exact hS2) HS.out.1.1 (fun h => HS.out.2 (by rw [HL.out] at h; exact h)) HS.out.1.2
    generalize Plain.trim text.data.toList a S = e at te1 te2 HO
    clear HS
    have hnn := newNode_later hst (w' := wc.setCell ⟨pb, 2, none⟩ (.int .i64 (e : Int))) (by have := HB1.out.2.2; simp [World.setCell] at this ⊢; omega) ((Below.heap_setCell _ _ _ _ hnbp).trans HB1.out.2.1) (e : Int) ln a (HS1.out.setAt _)
    have HNN : Hid (Calls Try.prog 11 #[.pointer (some ⟨pb, 0, none⟩), .int .u8 1] (wc.setCell ⟨pb, 2, none⟩ (.int .i64 (e : Int))) (NnPost text pb tb n A (e : Int) ln a (wc.setCell ⟨pb, 2, none⟩ (.int .i64 (e : Int))))) := hnn
    clear hnn
    have hb2 : Below A w (wc.setCell ⟨pb, 2, none⟩ (.int .i64 (e : Int))) := HB1.out.1.setCell hAp _
    have hz2 : (wc.setCell ⟨pb, 2, none⟩ (.int .i64 (e : Int))).heap.size = w.heap.size := by have := HB1.out.2.2; simpa [World.setCell] using this
    have HB2 : Hid (Below A w (wc.setCell ⟨pb, 2, none⟩ (.int .i64 (e : Int))) ∧ (wc.setCell ⟨pb, 2, none⟩ (.int .i64 (e : Int))).heap.size = w.heap.size) := ⟨hb2, hz2⟩
    clear hb2 hz2
    have hea : (a : Int) ≤ e := by omega
    have hes : (e : Int) ≤ text.size := by omega
    go_wp2_with fail
    refine HNN.out.mono ?_
    rintro en w3 ⟨rfl, hb3, g, cap, hg1, hg2, hcap, hsm3, hnode3⟩
    have hgp : g ≠ pb := by have := HB2.out.2; omega
    have hgt : g ≠ tb := by have := HB2.out.2; omega
    have hAg : A ≤ g := by have := HB2.out.2; have := hst.hA; have := hst.hnt; have := hst.htp; omega
    have HB3 : Hid (Below A w w3) := HB2.out.1.trans hb3
    obtain ⟨r0, r1, r2, r3, r5, b2', b5', u1, v1⟩ := id hsm3
    obtain ⟨n0, n1, n2, n3, n4, n5, n6, nfz⟩ := id hnode3
    have nf3 := nfz (n * 7 + 3)
    have nf4 := nfz (n * 7 + 4)
    have nf1 := nfz (n * 7 + 1)
    have hin : (n : Int) < (n : Int) + 1 := by omega
    have hX : (text.extract a e).toList = (text.data.toList.drop a).take (e - a) := by rw [toList_bytes]; simp
    have HP : Hid (∀ w4 nl, nl = Plain.nullB (text.extract a e).toList → Below A w3 w4 → Sm text pb tb (e : Int) ln a (.slice (some ⟨g, 0, none⟩) (n + 1) cap) w4 → NodeAt g (n * 7) nl (IntKind.i32.wrap ln) (a : Int) (e : Int) w4 → ScPost text pb tb nb n A a ln fr (Plain.outcome text.data.toList a flow) w (.returned (.int .i32 n)) w4) := by
      intro w4 nl hnl h1 h2 h3
      refine ⟨HB3.out.trans h1, Or.inr ⟨e, a, e, nl, by rw [HO.out, hnl, hX], rfl, g, cap, hcap, hAg, hgp, hgt, h2, ?_⟩⟩
      rw [wrap_i32 (a : Int) (by omega) (by omega), wrap_i32 (e : Int) (by omega) (by omega)]
      exact h3
    clear nfz hb3 hg1 hg2 hX
    go_wp2_with fail
    go_region_held3 (fun w' => w'.cell? ⟨pb, 1, none⟩ = some (.pointer (some ⟨tb, 0, none⟩)) ∧ w'.cell? ⟨tb, 1, none⟩ = some (.slice (some ⟨g, 0, none⟩) (n + 1) cap)) (go_keep) (fail)
    have HTr : Hid (∀ nl : Bool, nl = Plain.nullB (text.extract a e).toList → nl = true → ScPost text pb tb nb n A a ln fr (Plain.outcome text.data.toList a flow) w (.returned (.int .i32 n)) ((((w3.setCell ⟨g, n * 7 + 3, none⟩ (.int .i32 (a : Int))).setCell ⟨g, n * 7 + 4, none⟩ (.int .i32 (e : Int))).setCell ⟨g, n * 7 + 1, none⟩ (.bool true)).drew)) := by
      intro nl hnl ht
      subst ht
      exact HP.out _ true hnl (((((Below.refl _ _).setCell hAg _).setCell hAg _).setCell hAg _).drew) ((((hsm3.other ⟨g, _, none⟩ _ hgp hgt).other ⟨g, _, none⟩ _ hgp hgt).other ⟨g, _, none⟩ _ hgp hgt).drew) ((((hnode3.setF _).setT _).setN true).drew)
    have HFa : Hid (false = Plain.nullB (text.extract a e).toList → ScPost text pb tb nb n A a ln fr (Plain.outcome text.data.toList a flow) w (.returned (.int .i32 n)) (((w3.setCell ⟨g, n * 7 + 3, none⟩ (.int .i32 (a : Int))).setCell ⟨g, n * 7 + 4, none⟩ (.int .i32 (e : Int))).drew)) := by
      intro hnl
      exact HP.out _ false hnl ((((Below.refl _ _).setCell hAg _).setCell hAg _).drew) (((hsm3.other ⟨g, _, none⟩ _ hgp hgt).other ⟨g, _, none⟩ _ hgp hgt).drew) (((hnode3.setF _).setT _).drew)
    by_cases z1 : ((text.extract a e).toList == [126]) = true
    · go_wp2_with fail
      try rw [Exit.noGoto_ret]
      go_ret
      exact HTr.out true (by simp [Plain.nullB, z1]) rfl
    · have z1' : ((text.extract a e).toList == [126]) = false := by simpa using z1
      clear z1
      by_cases z2 : ((text.extract a e).toList == [110, 117, 108, 108]) = true
      · go_wp2_with fail
        try rw [Exit.noGoto_ret]
        go_ret
        exact HTr.out true (by simp [Plain.nullB, z2]) rfl
      · have z2' : ((text.extract a e).toList == [110, 117, 108, 108]) = false := by simpa using z2
        clear z2
        by_cases z3 : ((text.extract a e).toList == [78, 117, 108, 108]) = true
        · go_wp2_with fail
          try rw [Exit.noGoto_ret]
          go_ret
          exact HTr.out true (by simp [Plain.nullB, z3]) rfl
        · have z3' : ((text.extract a e).toList == [78, 117, 108, 108]) = false := by simpa using z3
          clear z3
          by_cases z4 : ((text.extract a e).toList == [78, 85, 76, 76]) = true
          · go_wp2_with fail
            try rw [Exit.noGoto_ret]
            go_ret
            exact HTr.out true (by simp [Plain.nullB, z4]) rfl
          · have z4' : ((text.extract a e).toList == [78, 85, 76, 76]) = false := by simpa using z4
            clear z4
            go_wp2_with fail
            try rw [Exit.noGoto_ret]
            go_ret
            exact HFa.out (by simp [Plain.nullB, z1', z2', z3', z4'])

end Go.Proofs.Qxb6603734a
