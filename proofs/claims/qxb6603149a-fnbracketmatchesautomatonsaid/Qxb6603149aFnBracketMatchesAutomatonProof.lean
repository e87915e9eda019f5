/- The proof of 'Rows.FnBracketMatchesAutomatonSaid': the frame is the seat's shell; the walk stands in STEP 1. -/
import Derived.Test.Qxb6603149aRows
import Derived.WalkKit
import Derived.ProofKit
import Derived.OpenShut
import Derived.ShutString
import Derived.HandedShaped
import Derived.Test.Qxb6603149aModel
namespace Go.Proofs.Qxb6603149a.fnBracketMatchesAutomaton
open Go.ChangeShapes Go.WideShapes Go.ChangeAt Go.RowKit
open Go.ChangeMaps (open_string shut_string)
set_option linter.unusedVariables false      -- a walk need not use every 'w<i>' (that an integer argument fits its kind)

theorem own : ownKnob Try.prog.godebug = none := by kernel_rfl

/-! ### STEP 1: THE WALK -/
set_option maxRecDepth 100000 in
set_option maxHeartbeats 2000000 in
theorem walk (a0 : ByteArray) (a1 : Int) (a2 : Int) (w0 : a0.size ≤ maxLen) (w1 : (Lit.int .u8 a1).wf = true) (w2 : (Lit.int .i64 a2).wf = true) (w : World) (m : Int) (hm : w.cell? ⟨0, 0, none⟩ = some (.int .i64 m)) :
    Calls Try.prog 3 #[.string a0, .int .u8 a1, .int .i64 a2] w fun e w' => e = .returned (.bool true) ∧ Below w.heap.size w w' := by
  have hz0 : 0 < w.heap.size := World.block_lt_of_cell? _ _ hm
  by_cases hbig : a0.size ≤ 1048576
  · have hbig' : (a0.size : Int) ≤ 1048576 := by omega
    by_cases h3 : a2 < 0
    · go_enter Try.func3, Try.ntmps3
      go_wp2_with (go_at_call 9; refine (bytes9_yes _ _ _ _ hbig).mono ?_; rintro e w' ⟨rfl, rfl⟩)
      go_ret
      exact ⟨rfl, Below.refl _ _⟩
    · by_cases h4 : (a0.size : Int) ≤ a2
      · go_enter Try.func3, Try.ntmps3
        go_wp2_with (go_at_call 9; refine (bytes9_yes _ _ _ _ hbig).mono ?_; rintro e w' ⟨rfl, rfl⟩)
        go_ret
        exact ⟨rfl, Below.refl _ _⟩
      · obtain ⟨n2, rfl⟩ := Int.eq_ofNat_of_zero_le (by omega : 0 ≤ a2)
        have hn2 : n2 < a0.size := by omega
        rcases hR : Plain.R a0.data.toList (n2 + 1) 0 0 with _ | k
        · have HC1 : Hid (∀ w, w.cell? ⟨0, 0, none⟩ = some (.int .i64 m) → Calls Try.prog 10 #[.string a0, .int .u8 a1, .int .i64 n2] w fun e w' => Below w.heap.size w w' ∧ e = .returned (.tuple #[.bool false, .int .i64 n2])) := by
            intro w hm
            have := zzb_any a0 a1 n2 m w hbig hn2 hm
            rw [hR] at this
            exact this
          have HC2 : Hid (∀ w, Calls Try.prog 11 #[.string a0, .int .i64 n2] w fun e w' => e = .returned (.tuple #[.bool false, .int .i64 n2]) ∧ w' = w) := by
            intro w
            have := bmodel_any a0 n2 w hbig hn2
            rw [hR] at this
            exact this
          clear hR
          go_enter Try.func3, Try.ntmps3
          go_wp2_with fail
          refine (bytes9_yes _ _ _ _ hbig).mono ?_
          rintro e w' ⟨rfl, rfl⟩
          go_wp2_with fail
          refine (HC1.out _ hm).mono ?_
          rintro e w1 ⟨hb1, rfl⟩
          go_wp2_with fail
          refine (HC2.out _).mono ?_
          rintro e w2 ⟨rfl, rfl⟩
          go_wp2_with fail
          go_ret
          exact ⟨rfl, hb1⟩
        · have HC1 : Hid (∀ w, w.cell? ⟨0, 0, none⟩ = some (.int .i64 m) → Calls Try.prog 10 #[.string a0, .int .u8 a1, .int .i64 n2] w fun e w' => Below w.heap.size w w' ∧ e = .returned (.tuple #[.bool true, .int .i64 k])) := by
            intro w hm
            have := zzb_any a0 a1 n2 m w hbig hn2 hm
            rw [hR] at this
            exact this
          have HC2 : Hid (∀ w, Calls Try.prog 11 #[.string a0, .int .i64 n2] w fun e w' => e = .returned (.tuple #[.bool true, .int .i64 k]) ∧ w' = w) := by
            intro w
            have := bmodel_any a0 n2 w hbig hn2
            rw [hR] at this
            exact this
          clear hR
          go_enter Try.func3, Try.ntmps3
          go_wp2_with fail
          refine (bytes9_yes _ _ _ _ hbig).mono ?_
          rintro e w' ⟨rfl, rfl⟩
          go_wp2_with fail
          refine (HC1.out _ hm).mono ?_
          rintro e w1 ⟨hb1, rfl⟩
          go_wp2_with fail
          refine (HC2.out _).mono ?_
          rintro e w2 ⟨rfl, rfl⟩
          go_wp2_with fail
          go_ret
          exact ⟨rfl, hb1⟩
  · go_enter Try.func3, Try.ntmps3
    go_wp2_with (go_at_call 9; refine (bytes9_no _ _ _ _ w0 hbig).mono ?_; rintro e w' ⟨rfl, rfl⟩)
    go_ret
    exact ⟨rfl, Below.refl _ _⟩

/-! ### THE ROW's STEP: WRITTEN OUT: LEAVE IT -/
set_option maxRecDepth 100000 in
theorem lifted (os : Os) (started : os.Started) (H : Type) (enc : TypeId × Value → H) :
    ReturnsInHanded {} Try.checked os 3 .any (Rows.fnBracketMatchesAutomatonSpec.pre6 enc Try.prog Try.f3 Rows.fnBracketMatchesAutomatonRow.domain false) (Rows.fnBracketMatchesAutomatonSpec.post enc Try.prog Try.f3 false true false false) := by
  refine returnsInHanded_of_change_shaped (C := Try.checked) own started (by kernel_rfl) Try.func3
    (ChangeSpec.witness6 (enc := enc) (C := Try.checked) false ⟨#[], #[.string ByteArray.empty, .int .u8 0, .int .i64 0], []⟩ 8 (by kernel_rfl) (by kernel_rfl) (by kernel_rfl) (by kernel_rfl)) ?_
  intro W base args ds gs before hval0 hW hcnd _ hsh _
  have hval : ∀ (j : Nat) t v, Try.f3.params[j]? = some t → args[j]? = some v → Value.okWide Try.prog W .any base t v := hval0
  have hW' := hW
  obtain ⟨p, q, hA0, hV, rfl, hfz, hnd⟩ := hW
  have hA : DataW.TrodAll enc Try.prog W 0 (fun _ => true) true Try.f3.params.toList args.toList ds p := hA0
  rw [Try.params3] at hA hval
  obtain ⟨v0, vs0, d0, ds0, p0, q0, hargs, rfl, rfl, h0, r0⟩ := trodAll_cons hA
  obtain ⟨v1, vs1, d1, ds1, p1, q1, rfl, rfl, rfl, h1, r1⟩ := trodAll_cons r0
  obtain ⟨v2, vs2, d2, ds2, p2, q2, rfl, rfl, rfl, h2, r2⟩ := trodAll_cons r1
  obtain ⟨rfl, rfl, rfl⟩ := trodAll_nil r2
  obtain rfl : args = #[v0, v1, v2] := by cases args; simp_all
  obtain ⟨rfl, rfl⟩ := trodVars_none hV
  obtain ⟨a0, rfl, rfl, rfl, w0⟩ := open_string Try.underlying9 (hval 0 9 v0 rfl rfl) h0
  obtain ⟨a1, rfl, rfl, rfl, w1⟩ := open_int Try.underlying5 (hval 1 5 v1 rfl rfl) h1
  obtain ⟨a2, rfl, rfl, rfl, w2⟩ := open_int Try.underlying3 (hval 2 3 v2 rfl rfl) h2
  clear hA0 hval0
  obtain ⟨m, hm⟩ := maxLen_cell W hsh
  refine (walk a0 a1 a2 w0 w1 w2 W m hm).mono fun e W' ⟨he, bel⟩ => ?_
  subst he
  exact ⟨_, rfl, _, _, _, [], [], [], hW', trodAll_mk1 (shut_bool Try.underlying4 _), (trodAll_cons_mk (shut_string Try.underlying9 w0) (trodAll_cons_mk (shut_int Try.underlying5 w1) (trodAll_cons_mk (shut_int Try.underlying3 w2) trodAll_mk0))), rfl, bel.frame _, fun h => by cases h⟩

theorem over : Rows.fnBracketMatchesAutomatonRow.holds Try.pinned (OpenSpec.ofChange Rows.fnBracketMatchesAutomatonSpec) :=
  OpenClaim.holds_of_wide 3 Try.f3 rfl rfl rfl rfl rfl rfl rfl ⟨rfl, rfl, rfl, rfl, rfl⟩ rfl rfl rfl rfl rfl (by kernel_rfl) Try.func3 (by kernel_rfl)
    (of_decide_eq_true (by kernel_rfl)) (by unfold Func.isWrapper; first | (rw [if_pos (by decide +kernel)]; kernel_rfl) | (rw [if_neg (by decide +kernel)]; exact ⟨rfl, rfl⟩))
    (fun os started H enc _ => lifted os started H enc)

/-- ████ THE STATEMENT ████ -/
theorem proved : Rows.FnBracketMatchesAutomatonSaid :=
  over
#print axioms proved
end Go.Proofs.Qxb6603149a.fnBracketMatchesAutomaton
