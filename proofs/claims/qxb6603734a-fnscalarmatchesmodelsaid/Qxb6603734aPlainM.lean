/- Seat b6603734a: scalarModel, where no quote stands and nothing is refused. -/
import Derived.Test.Qxb6603734aModel
import Derived.Deep.OwnRows
namespace Go.Proofs.Qxb6603734a
open Go.RowKit

theorem info3' : (Try.prog.info? 3).map (fun i => (i.zero, i.size, i.bytes)) = some (some (.int .i64 0), 1, 8) := by kernel_rfl

set_option maxRecDepth 100000 in
set_option maxHeartbeats 4000000 in
theorem model_plain (text : ByteArray) (a : Nat) (fr : Int) (flow : Bool) (w : World) (ht : text.size ≤ 1048576) (ha : a < text.size)
    (hq : ¬ (Plain.bt text.data.toList a = 34 ∨ Plain.bt text.data.toList a = 39)) (hr : Plain.refB text.data.toList a = false) :
    Calls Try.prog 6 #[.string text, .int .i64 a, .int .i64 fr, .bool flow] w (MdPost text a fr flow w) := by
  have HQR : Hid (¬ (Plain.bt text.data.toList a = 34 ∨ Plain.bt text.data.toList a = 39) ∧ Plain.refB text.data.toList a = false) := ⟨hq, hr⟩
  have HR : Hid (∀ w, Calls Try.prog 8 #[.string text, .int .i64 a] w fun e w' => e = .returned (.bool false) ∧ w' = w) := by
    intro w
    have := refused_any text a w ht ha
    rw [hr] at this
    exact this
  have hlen : text.data.toList.length = text.size := by simp
  have HL : Hid (text.data.toList.length = text.size) := hlen
  clear hr hlen
  have ha' : (a : Int) < text.size := by omega
  have hs' : (text.size : Int) ≤ 1048576 := by omega
  have hae : ((a : Int) == (text.size : Int)) = false := beq_eq_false_iff_ne.2 (by omega)
  generalize hv : (text[a].toNat : Int) = q
  rw [← (bt_at text a ha), hv] at hq
  have h34 : (q == 34) = false := beq_eq_false_iff_ne.2 (fun h => hq (Or.inl h))
  have h39 : (q == 39) = false := beq_eq_false_iff_ne.2 (fun h => hq (Or.inr h))
  clear hq
  have hmk := run_make_row' (P := Try.prog) 40 3 (.int .i64 0) 8 Try.underlying40 info3' rfl .i64 .i64 (text.size + 1) (by omega) (by omega)
  have e1 : ((text.size + 1 : Nat) : Int) = (text.size : Int) + 1 := by omega
  rw [e1] at hmk
  clear e1
  have hlast : (text.size : Int) < (text.size : Int) + 1 := by omega
  go_enter Try.func6, Try.ntmps6
  go_wp2_with fail
  refine (HR.out _).mono ?_
  rintro e w0 ⟨rfl, rfl⟩
  have hrow0 := World.rowIs_made w0 (.int .i64 0) (text.size + 1) 3
  have hb0 : Below w0.heap.size w0 (w0.alloc (.cells (madeCells #[.int .i64 0] (text.size + 1)) 3)) := (Below.refl _ _).alloc (Nat.le_refl _) _
  go_upto_region 24 with fail
  go_cut [19] (fun v wc => v = .slice (some ⟨w0.heap.size, 0, none⟩) (text.size + 1) (text.size + 1) ∧ wc = w0.alloc (.cells (madeCells #[.int .i64 0] (text.size + 1)) 3))
  case first =>
    go_wp2_with fail
    go_meet
    case rel => exact ⟨rfl, rfl⟩
  case rest =>
    obtain ⟨rfl, rfl⟩ := hcut
    have hg0 : w0.heap.size < (w0.alloc (.cells (madeCells #[.int .i64 0] (text.size + 1)) 3)).heap.size := hrow0.lt
    generalize w0.alloc (.cells (madeCells #[.int .i64 0] (text.size + 1)) 3) = w1 at hrow0 hb0 hg0
    generalize hgg : w0.heap.size = g at *
    have HGG : Hid (w0.heap.size = g) := hgg
    have hc0 := hrow0.cell (i := text.size) (by omega)
    have hf0 := hrow0.frozen text.size
    have HB0 : Hid (Below g w0 w1) := hb0
    have HR0 : Hid (w1.rowIs g 3 (text.size + 1) (fun _ => .int .i64 0)) := hrow0
    clear hgg hmk hb0 hrow0
    go_wp2_with fail
    go_loopg [20] (text.size + 1) (fun gh v wr => ∃ k : Nat, gh = k + 1 ∧ k ≤ text.size ∧ (∃ j : Int, j = (k : Int) - 1 ∧ v = .int .i64 j) ∧ Hid (Below g w0 wr) ∧ Hid (wr.rowIs g 3 (text.size + 1) (fun i => .int .i64 (if k ≤ i then (Plain.nn text.data.toList i : Int) else 0))))
    case atStart =>
      refine ⟨text.size, rfl, Nat.le_refl _, ⟨_, rfl, rfl⟩, HB0.out.setCell (Nat.le_refl _) _, ?_⟩
      refine (HR0.out.set text.size (.int .i64 text.size)).congr fun i hi => ?_
      by_cases hik : i = text.size
      · subst hik
        have := Plain.nn_end text.data.toList
        rw [HL.out] at this
        simp [this]
      · have hn : ¬ text.size ≤ i := by omega
        simp [hik, hn]
    case round =>
      obtain ⟨k, hgh, hk, ⟨j, hj, rfl⟩, HB, HW⟩ := hrel
      have HG : Hid (gk = k + 1) := hgh
      clear hgh
      clear HB0 HR0 hc0 hf0 hg0
      cases k with
      | succ m =>
        obtain rfl : j = m := by omega
        clear hj
        have hm : m < text.size := by omega
        have hm' : (m : Int) < text.size := by omega
        have hm1 : (m : Int) < (text.size : Int) + 1 := by omega
        have hm2 : (m : Int) + 1 < (text.size : Int) + 1 := by omega
        have hm0 : (m : Int) ≥ 0 := by omega
        have hcell := HW.out.cell (i := m) (by omega)
        have hcell1 := HW.out.cell (i := m + 1) (by omega)
        rw [if_neg (by omega)] at hcell
        rw [if_pos (by omega)] at hcell1
        have hfz := HW.out.frozen m
        have hgl : g < wr.heap.size := HW.out.lt
        generalize hu : (text[m].toNat : Int) = u
        have HU : Hid (Plain.bt text.data.toList m = u) := (bt_at text m hm).symm.trans hu
        have HN : Hid (∀ v : Int, v = (Plain.nn text.data.toList m : Int) → (wr.setCell ⟨g, m, none⟩ (.int .i64 v)).rowIs g 3 (text.size + 1) (fun i => .int .i64 (if m ≤ i then (Plain.nn text.data.toList i : Int) else 0))) := by
          intro v hv
          refine (HW.out.set m (.int .i64 v)).congr fun i hi => ?_
          by_cases hik : i = m
          · subst hik
            simp [hv]
          · simp only [if_neg hik]
            by_cases h2 : m ≤ i
            · rw [if_pos h2, if_pos (by omega)]
            · rw [if_neg h2, if_neg (by omega)]
        generalize hnx : (Plain.nn text.data.toList (m + 1) : Int) = nx at hcell1
        have HNX : Hid ((Plain.nn text.data.toList (m + 1) : Int) = nx) := hnx
        clear hnx
        by_cases h32 : u = 32
        · subst h32
          go_wp2_with fail
          go_roundg (m + 1)
          case measure => rw [HG.out]; omega
          case rel =>
            refine ⟨m, rfl, by omega, ⟨_, rfl, rfl⟩, HB.out.setCell (Nat.le_refl _) _, HN.out _ ?_⟩
            rw [Plain.nn_space _ _ (by rw [HL.out]; exact hm) HU.out]
            exact HNX.out.symm
        · have h32b : (u == 32) = false := by simpa using h32
          have HNN : Hid (u ≠ 32) := h32
          clear h32
          go_wp2_with fail
          go_roundg (m + 1)
          case measure => rw [HG.out]; omega
          case rel =>
            refine ⟨m, rfl, by omega, ⟨_, rfl, rfl⟩, HB.out.setCell (Nat.le_refl _) _, HN.out _ ?_⟩
            rw [Plain.nn_here _ _ (by rw [HL.out]; exact hm) (by rw [HU.out]; exact HNN.out)]
      | zero =>
        obtain rfl : j = -1 := by omega
        have HW0 : Hid (∀ i, i < text.size → wr.cell? ⟨g, i, none⟩ = some (.int .i64 (Plain.nn text.data.toList i))) := by
          intro i hi
          have := HW.out.cell (i := i) (by omega)
          rwa [if_pos (by omega)] at this
        clear hj hk HG HW
        go_upto_block 6 with fail
        go_cut [21] (fun v wc => ∃ S : Nat, a ≤ S ∧ S ≤ text.size ∧ v = .int .i64 S ∧ wc = wr ∧ Hid ((∀ i, a ≤ i → i < S → Plain.stopB text.data.toList flow i = false) ∧ (S < text.size → Plain.stopB text.data.toList flow S = true)))
        case first =>
          go_wp2_with fail
          go_loopg [21, 22] (text.size + 1 - a) (fun gh vs v wx => ∃ i : Nat, gh = text.size + 1 - i ∧ a ≤ i ∧ i ≤ text.size ∧ vs = .int .i64 text.size ∧ v = .int .i64 i ∧ wx = wr ∧ Hid (∀ k, a ≤ k → k < i → Plain.stopB text.data.toList flow k = false))
          case atStart => exact ⟨a, rfl, Nat.le_refl _, by omega, rfl, rfl, rfl, fun k h1 h2 => by omega⟩
          case round =>
            obtain ⟨i, hgh, hi1, hi2, rfl, rfl, rfl, HI⟩ := hrel
            have HG : Hid (gk = text.size + 1 - i) := hgh
            clear hgh
            by_cases hlt : i < text.size
            · have hlt' : (i : Int) < text.size := by omega
              have hst := stops_any text i g flow wr ht hlt (HW0.out i hlt)
              generalize hsb : Plain.stopB text.data.toList flow i = sb at hst
              have HSB : Hid (Plain.stopB text.data.toList flow i = sb) := hsb
              have HST : Hid (Calls Try.prog 9 #[.string text, .slice (some ⟨g, 0, none⟩) (text.size + 1) (text.size + 1), .int .i64 i, .bool flow] wr fun e w' => e = .returned (.bool sb) ∧ w' = wr) := hst
              clear hst hsb
              go_wp2_with fail
              refine HST.out.mono ?_
              rintro e w2 ⟨rfl, rfl⟩
              cases sb with
              | true =>
                go_wp2_with fail
                go_meet
                case rel => exact ⟨i, hi1, hi2, rfl, rfl, HI.out, fun _ => HSB.out⟩
              | false =>
                go_wp2_with fail
                go_roundg (text.size + 1 - (i + 1))
                case measure => rw [HG.out]; omega
                case rel =>
                  refine ⟨i + 1, rfl, by omega, by omega, rfl, by go_num, rfl, fun k h1 h2 => ?_⟩
                  by_cases hki : k = i
                  · subst hki; exact HSB.out
                  · exact HI.out k h1 (by omega)
            · have hge : ¬ (i : Int) < text.size := by omega
              obtain rfl : i = text.size := by omega
              go_wp2_with fail
              go_meet
              case rel => exact ⟨text.size, hi1, hi2, rfl, rfl, HI.out, fun h => by omega⟩
        case rest =>
          obtain ⟨S, hS1, hS2, rfl, rfl, HS⟩ := hcut
          go_upto_if 143 with fail
          go_cut [21] (fun v wx => v = .int .i64 S ∧ wx = wc ∧ Hid (flow = true → ∀ i, a ≤ i → i < S → Plain.bt text.data.toList i ≠ 63))
          case first =>
            cases flow with
            | false =>
              go_wp2_with fail
              go_meet
              case rel => exact ⟨rfl, rfl, fun h => by cases h⟩
            | true =>
              go_wp2_with fail
              go_loopg [23] (S + 1 - a) (fun gh v wx => ∃ i : Nat, gh = S + 1 - i ∧ a ≤ i ∧ i ≤ S ∧ v = .int .i64 i ∧ wx = wc ∧ Hid (∀ k, a ≤ k → k < i → Plain.bt text.data.toList k ≠ 63))
              case atStart => exact ⟨a, rfl, Nat.le_refl _, hS1, rfl, rfl, fun k h1 h2 => by omega⟩
              case round =>
                obtain ⟨i, hgh, hi1, hi2, rfl, rfl, HI⟩ := hrel
                have HG : Hid (gk = S + 1 - i) := hgh
                clear hgh
                by_cases hlt : i < S
                · have hlt' : (i : Int) < S := by omega
                  have his : i < text.size := by omega
                  have his' : (i : Int) < text.size := by omega
                  generalize hu : (text[i].toNat : Int) = u
                  have HU : Hid (Plain.bt text.data.toList i = u) := (bt_at text i his).symm.trans hu
                  by_cases h63 : u = 63
                  · subst h63
                    have HO : Hid (Plain.outcome text.data.toList a true = none) := Plain.out_mark _ _ i (by rw [HL.out]; exact ha) HQR.out.1 HQR.out.2 hi1 (by rw [HL.out]; exact his) (fun k h1 h2 => HS.out.1 k h1 (by omega)) HU.out
                    go_wp2_with fail
                    exact bodyPost_ret (v := .tuple #[.bool false, .int .i64 a, .int .i64 a, .int .i64 0, .int .i64 0, .bool false]) (by simp [results, Try.results6, go_sem]) rfl (MdPost.none (by rw [HGG.out]; exact HB.out) ha HO.out)
                  · have h63b : (u == 63) = false := by simpa using h63
                    have HNE : Hid (u ≠ 63) := h63
                    clear h63
                    go_wp2_with fail
                    go_roundg (S + 1 - (i + 1))
                    case measure => rw [HG.out]; omega
                    case rel =>
                      refine ⟨i + 1, rfl, by omega, by omega, by go_num, rfl, fun k h1 h2 => ?_⟩
                      by_cases hki : k = i
                      · subst hki; rw [HU.out]; exact HNE.out
                      · exact HI.out k h1 (by omega)
                · have hlt' : ¬ (i : Int) < S := by omega
                  obtain rfl : i = S := by omega
                  go_wp2_with fail
                  go_meet
                  case rel => exact ⟨rfl, rfl, fun _ => HI.out⟩
          case rest =>
            obtain ⟨rfl, rfl, HM⟩ := hcut
            have HO : Hid (Plain.outcome text.data.toList a flow = some (Plain.trim text.data.toList a S, a, Plain.trim text.data.toList a S, Plain.nullB ((text.data.toList.drop a).take (Plain.trim text.data.toList a S - a)))) := Plain.out_plain _ _ S _ (by rw [HL.out]; exact ha) HQR.out.1 HQR.out.2 hS1 (by rw [HL.out]; exact hS2) HS.out.1 (fun h => HS.out.2 (by rw [HL.out] at h; exact h)) HM.out
            clear HS HM HQR HR HW0
            go_wp2_with fail
            go_loopg [24] (S + 1) (fun gh v wx => ∃ e : Nat, gh = e + 1 ∧ a ≤ e ∧ e ≤ S ∧ v = .int .i64 e ∧ wx = wc ∧ Hid (Plain.trim text.data.toList a S = Plain.trim text.data.toList a e))
            case atStart => exact ⟨S, rfl, hS1, Nat.le_refl _, rfl, rfl, rfl⟩
            case round =>
              obtain ⟨e, hgh, he1, he2, rfl, rfl, HE⟩ := hrel
              have HG : Hid (gk = e + 1) := hgh
              clear hgh
              have Hend : Hid (Plain.trim text.data.toList a e = e → Calls Try.prog 10 #[.string (text.extract a e)] wr fun en w' => w' = wr ∧ ∃ nl, en = .returned (.bool nl) ∧ MdPost text a fr flow w0 (.returned (.tuple #[.bool true, .int .i64 e, .int .i64 a, .int .i64 a, .int .i64 e, .bool nl])) wr) := by
                intro htr
                refine (null_any (text.extract a e) wr).mono ?_
                rintro en w' ⟨rfl, rfl⟩
                refine ⟨rfl, _, rfl, MdPost.some (by rw [HGG.out]; exact HB.out) ?_⟩
                rw [HO.out, HE.out, htr]
                simp
              have he1' : (a : Int) ≤ e := by omega
              have he2' : (e : Int) ≤ text.size := by omega
              by_cases hae2 : a < e
              · obtain ⟨m, rfl⟩ : ∃ m, e = m + 1 := ⟨e - 1, by omega⟩
                have ham : (a : Int) < (m : Int) + 1 := by omega
                have hm : m < text.size := by omega
                have hm' : (m : Int) < text.size := by omega
                generalize hu : (text[m].toNat : Int) = u
                have HU : Hid (Plain.bt text.data.toList m = u) := (bt_at text m hm).symm.trans hu
                by_cases h32 : u = 32
                · subst h32
                  go_wp2_with fail
                  go_roundg (m + 1)
                  case measure => rw [HG.out]; omega
                  case rel =>
                    refine ⟨m, rfl, by omega, by omega, by go_num, rfl, ?_⟩
                    exact HE.out.trans (Plain.trim_step _ _ _ hae2 HU.out)
                · have h32b : (u == 32) = false := by simpa using h32
                  have HC := Hend.out (Plain.trim_here _ _ _ (Or.inr (by rw [Nat.add_sub_cancel, HU.out]; exact h32)))
                  clear Hend h32
                  go_wp2_with fail
                  refine HC.mono ?_
                  rintro en w2 ⟨rfl, nl, rfl, hpost⟩
                  have HP : Hid (MdPost text a fr flow w0 (.returned (.tuple #[.bool true, .int .i64 ((m + 1 : Nat) : Int), .int .i64 a, .int .i64 a, .int .i64 ((m + 1 : Nat) : Int), .bool nl])) w2) := hpost
                  clear hpost HC
                  go_wp2_with fail
                  exact bodyPost_ret (v := .tuple #[.bool true, .int .i64 ((m + 1 : Nat) : Int), .int .i64 a, .int .i64 a, .int .i64 ((m + 1 : Nat) : Int), .bool nl]) (by simp [results, Try.results6, go_sem]) rfl HP.out
              · have hae3 : ¬ (a : Int) < e := by omega
                have HC := Hend.out (Plain.trim_here _ _ _ (Or.inl hae2))
                clear Hend
                go_wp2_with fail
                refine HC.mono ?_
                rintro en w2 ⟨rfl, nl, rfl, hpost⟩
                have HP : Hid (MdPost text a fr flow w0 (.returned (.tuple #[.bool true, .int .i64 e, .int .i64 a, .int .i64 a, .int .i64 e, .bool nl])) w2) := hpost
                clear hpost HC
                go_wp2_with fail
                exact bodyPost_ret (v := .tuple #[.bool true, .int .i64 e, .int .i64 a, .int .i64 a, .int .i64 e, .bool nl]) (by simp [results, Try.results6, go_sem]) rfl HP.out

end Go.Proofs.Qxb6603734a
