/- Seat b6603734a: scalarModel. -/
import Derived.Test.Qxb6603734aZz
namespace Go.Proofs.Qxb6603734a
open Go.RowKit

/-- What scalarModel hands back. -/
def mdRes (a : Nat) (fr : Int) (o : Option (Nat × Nat × Nat × Bool)) : Value :=
  match o with
  | none => .tuple #[.bool false, .int .i64 a, .int .i64 fr, .int .i64 0, .int .i64 0, .bool false]
  | some (x, f, t, nl) => .tuple #[.bool true, .int .i64 x, .int .i64 a, .int .i64 f, .int .i64 t, .bool nl]

/-- What scalarModel leaves. -/
def MdPost (text : ByteArray) (a : Nat) (fr : Int) (flow : Bool) (w : World) (e : Ending) (w' : World) : Prop :=
  Below w.heap.size w w' ∧ e = .returned (mdRes a (if a = text.size then fr else a) (Plain.outcome text.data.toList a flow))

theorem MdPost.none {text : ByteArray} {a : Nat} {fr : Int} {flow : Bool} {w w' : World} (hb : Below w.heap.size w w') (ha : a < text.size) (ho : Plain.outcome text.data.toList a flow = Option.none) :
    MdPost text a fr flow w (.returned (.tuple #[.bool false, .int .i64 a, .int .i64 a, .int .i64 0, .int .i64 0, .bool false])) w' := by
  refine ⟨hb, ?_⟩
  rw [ho, if_neg (by omega)]
  rfl

theorem MdPost.some {text : ByteArray} {a : Nat} {fr : Int} {flow : Bool} {w w' : World} (hb : Below w.heap.size w w') {x f t : Nat} {nl : Bool} (ho : Plain.outcome text.data.toList a flow = Option.some (x, f, t, nl)) :
    MdPost text a fr flow w (.returned (.tuple #[.bool true, .int .i64 x, .int .i64 a, .int .i64 f, .int .i64 t, .bool nl])) w' := by
  refine ⟨hb, ?_⟩
  rw [ho]
  rfl

set_option maxRecDepth 100000 in
set_option maxHeartbeats 4000000 in
theorem model_end (text : ByteArray) (a : Nat) (fr : Int) (flow : Bool) (w : World) (he : a = text.size) :
    Calls Try.prog 6 #[.string text, .int .i64 a, .int .i64 fr, .bool flow] w (MdPost text a fr flow w) := by
  have ho : Plain.outcome text.data.toList a flow = none := Plain.out_end _ _ _ (by simpa using he)
  have HO : Hid (Plain.outcome text.data.toList a flow = none) := ho
  have HE : Hid (a = text.size) := he
  clear ho
  have hae : ((a : Int) == (text.size : Int)) = true := by rw [beq_iff_eq]; omega
  clear he
  go_enter Try.func6, Try.ntmps6
  go_wp2_with fail
  refine bodyPost_ret (v := .tuple #[.bool false, .int .i64 a, .int .i64 fr, .int .i64 0, .int .i64 0, .bool false]) (by simp [results, Try.results6, go_sem]) rfl ⟨Below.refl _ _, ?_⟩
  rw [HO.out, if_pos HE.out]
  rfl

set_option maxRecDepth 100000 in
set_option maxHeartbeats 4000000 in
theorem model_refused (text : ByteArray) (a : Nat) (fr : Int) (flow : Bool) (w : World) (ht : text.size ≤ 1048576) (ha : a < text.size)
    (hq : ¬ (Plain.bt text.data.toList a = 34 ∨ Plain.bt text.data.toList a = 39)) (hr : Plain.refB text.data.toList a = true) :
    Calls Try.prog 6 #[.string text, .int .i64 a, .int .i64 fr, .bool flow] w (MdPost text a fr flow w) := by
  have HO : Hid (Plain.outcome text.data.toList a flow = none) := Plain.out_refused _ _ _ (by simpa using ha) hq hr
  have HR : Hid (∀ w, Calls Try.prog 8 #[.string text, .int .i64 a] w fun e w' => e = .returned (.bool true) ∧ w' = w) := by
    intro w
    have := refused_any text a w ht ha
    rw [hr] at this
    exact this
  clear hr
  have ha' : (a : Int) < text.size := by omega
  have hae : ((a : Int) == (text.size : Int)) = false := beq_eq_false_iff_ne.2 (by omega)
  generalize hv : (text[a].toNat : Int) = q
  rw [← (bt_at text a ha), hv] at hq
  have h34 : (q == 34) = false := beq_eq_false_iff_ne.2 (fun h => hq (Or.inl h))
  have h39 : (q == 39) = false := beq_eq_false_iff_ne.2 (fun h => hq (Or.inr h))
  clear hq
  go_enter Try.func6, Try.ntmps6
  go_wp2_with fail
  refine (HR.out _).mono ?_
  rintro e w1 ⟨rfl, rfl⟩
  go_wp2_with fail
  exact bodyPost_ret (v := .tuple #[.bool false, .int .i64 a, .int .i64 a, .int .i64 0, .int .i64 0, .bool false]) (by simp [results, Try.results6, go_sem]) rfl (MdPost.none (Below.refl _ _) ha HO.out)

set_option maxRecDepth 100000 in
set_option maxHeartbeats 4000000 in
theorem model_quote (text : ByteArray) (a : Nat) (fr : Int) (flow : Bool) (w : World) (ht : text.size ≤ 1048576) (ha : a < text.size)
    (hq : Plain.bt text.data.toList a = 34 ∨ Plain.bt text.data.toList a = 39) :
    Calls Try.prog 6 #[.string text, .int .i64 a, .int .i64 fr, .bool flow] w (MdPost text a fr flow w) := by
  have hlen : text.data.toList.length = text.size := by simp
  have HL : Hid (text.data.toList.length = text.size) := hlen
  clear hlen
  have ha' : (a : Int) < text.size := by omega
  have hs' : (text.size : Int) ≤ 1048576 := by omega
  have hae : ((a : Int) == (text.size : Int)) = false := beq_eq_false_iff_ne.2 (by omega)
  generalize hv : (text[a].toNat : Int) = q
  have HQ : Hid (Plain.bt text.data.toList a = q) := (bt_at text a ha).symm.trans hv
  rw [HQ.out] at hq
  rcases hq with hq | hq
  all_goals
    subst hq
    go_enter Try.func6, Try.ntmps6
    go_wp2_with fail
    go_loopg [15, 16] (text.size + 1 - (a + 1)) (fun g vc v wr => ∃ k : Nat, g = text.size + 1 - k ∧ a + 1 ≤ k ∧ k ≤ text.size ∧ vc = .int .i64 (-1) ∧ v = .int .i64 k ∧ wr = w ∧ Hid (∀ i, a + 1 ≤ i → i < k → Plain.bt text.data.toList i ≠ Plain.bt text.data.toList a))
    case atStart => exact ⟨a + 1, rfl, Nat.le_refl _, by omega, rfl, by go_num, rfl, fun i h1 h2 => by omega⟩
    case round =>
      obtain ⟨k, hg, hk1, hk2, rfl, rfl, rfl, HK⟩ := hrel
      have HG : Hid (gk = text.size + 1 - k) := hg
      clear hg
      by_cases hlt : k < text.size
      · have hlt' : (k : Int) < text.size := by omega
        generalize hu : (text[k].toNat : Int) = u
        have HU : Hid (Plain.bt text.data.toList k = u) := (bt_at text k hlt).symm.trans hu
        by_cases huq : u = Plain.bt text.data.toList a
        · rw [HQ.out] at huq
          subst huq
          have hk0 : ¬ (k : Int) < 0 := by omega
          have hak : (a : Int) + 1 ≤ k := by omega
          clear HG
          go_wp2_with fail
          go_loopg [17] (k + 1 - (a + 1)) (fun g v wx => ∃ j : Nat, g = k + 1 - j ∧ a + 1 ≤ j ∧ j ≤ k ∧ v = .int .i64 j ∧ wx = wr ∧ Hid (∀ i, a + 1 ≤ i → i < j → Plain.badB text.data.toList (Plain.bt text.data.toList a) i = false))
          case atStart => exact ⟨a + 1, rfl, Nat.le_refl _, hk1, by go_num, rfl, fun i h1 h2 => by omega⟩
          case round =>
            obtain ⟨j, hgj, hj1, hj2, rfl, rfl, HJ⟩ := hrel
            have HGJ : Hid (gk = k + 1 - j) := hgj
            clear hgj
            by_cases hjk : j < k
            · have hjk' : (j : Int) < k := by omega
              have hjs : j < text.size := by omega
              have hjs' : (j : Int) < text.size := by omega
              generalize hx : (text[j].toNat : Int) = x
              have HX : Hid (Plain.bt text.data.toList j = x) := (bt_at text j hjs).symm.trans hx
              have Hnone : Hid (Plain.badB text.data.toList (Plain.bt text.data.toList a) j = true → MdPost text a fr flow wr (.returned (.tuple #[.bool false, .int .i64 a, .int .i64 a, .int .i64 0, .int .i64 0, .bool false])) wr) := by
                intro hbad
                exact MdPost.none (Below.refl _ _) ha (Plain.out_quote_bad _ _ j _ (by rw [HL.out]; exact ha) (by rw [HQ.out]; decide) hj1 (fun i h1 h2 => HK.out i h1 (by omega)) hbad)
              have Hgo : Hid (Plain.badB text.data.toList (Plain.bt text.data.toList a) j = false → Hid (∀ i, a + 1 ≤ i → i < j + 1 → Plain.badB text.data.toList (Plain.bt text.data.toList a) i = false)) := by
                intro hb i h1 h2
                by_cases hij : i = j
                · subst hij; exact hb
                · exact HJ.out i h1 (by omega)
              by_cases h10 : x = 10
              · subst h10
                go_wp2_with fail
                exact bodyPost_ret (v := .tuple #[.bool false, .int .i64 a, .int .i64 a, .int .i64 0, .int .i64 0, .bool false]) (by simp [results, Try.results6, go_sem]) rfl (Hnone.out (by unfold Plain.badB; rw [HX.out]; simp))
              · by_cases h13 : x = 13
                · subst h13
                  go_wp2_with fail
                  exact bodyPost_ret (v := .tuple #[.bool false, .int .i64 a, .int .i64 a, .int .i64 0, .int .i64 0, .bool false]) (by simp [results, Try.results6, go_sem]) rfl (Hnone.out (by unfold Plain.badB; rw [HX.out]; simp))
                · have h10b : (x == 10) = false := by simpa using h10
                  have h13b : (x == 13) = false := by simpa using h13
                  by_cases h92 : x = 92
                  · subst h92
                    go_wp2_with fail
                    first
                      | (go_roundg (k + 1 - (j + 1))
                         case measure => rw [HGJ.out]; omega
                         case rel => exact ⟨j + 1, rfl, by omega, by omega, by go_num, rfl, Hgo.out (by unfold Plain.badB; rw [HX.out, HQ.out]; decide)⟩)
                      | exact bodyPost_ret (v := .tuple #[.bool false, .int .i64 a, .int .i64 a, .int .i64 0, .int .i64 0, .bool false]) (by simp [results, Try.results6, go_sem]) rfl (Hnone.out (by unfold Plain.badB; rw [HX.out, HQ.out]; decide))
                  · have h92b : (x == 92) = false := by simpa using h92
                    go_wp2_with fail
                    go_roundg (k + 1 - (j + 1))
                    case measure => rw [HGJ.out]; omega
                    case rel => exact ⟨j + 1, rfl, by omega, by omega, by go_num, rfl, Hgo.out (by unfold Plain.badB; rw [HX.out]; exact decide_eq_false (by omega))⟩
            · have hjk' : ¬ (j : Int) < k := by omega
              obtain rfl : j = k := by omega
              go_wp2_with fail
              exact bodyPost_ret (v := .tuple #[.bool true, .int .i64 ((j : Int) + 1), .int .i64 a, .int .i64 ((a : Int) + 1), .int .i64 j, .bool false]) (by simp [results, Try.results6, go_sem]) rfl (MdPost.some (x := j + 1) (f := a + 1) (Below.refl _ _) (Plain.out_quote_made _ _ j _ (by rw [HL.out]; exact ha) (by rw [HQ.out]; decide) hj1 (by rw [HL.out]; exact hlt) HK.out (HU.out.trans HQ.out.symm) HJ.out))
        · have HNE : Hid (¬ u = Plain.bt text.data.toList a) := huq
          rw [HQ.out] at huq
          have huqb := beq_eq_false_iff_ne.2 huq
          go_wp2_with fail
          go_roundg (text.size + 1 - (k + 1))
          case measure => rw [HG.out]; omega
          case rel =>
            refine ⟨k + 1, rfl, by omega, by omega, rfl, by go_num, rfl, fun i h1 h2 => ?_⟩
            by_cases hik : i = k
            · subst hik; rw [HU.out]; exact HNE.out
            · exact HK.out i h1 (by omega)
      · have hge : ¬ (k : Int) < text.size := by omega
        go_wp2_with fail
        exact bodyPost_ret (v := .tuple #[.bool false, .int .i64 a, .int .i64 a, .int .i64 0, .int .i64 0, .bool false]) (by simp [results, Try.results6, go_sem]) rfl (MdPost.none (Below.refl _ _) ha (Plain.out_quote_open _ _ _ (by rw [HL.out]; exact ha) (by rw [HQ.out]; decide) (fun i h1 h2 => HK.out i h1 (by rw [HL.out] at h2; omega))))

end Go.Proofs.Qxb6603734a
