/- The proof of 'Rows.FnScalarMatchesModelSaid': the frame is the seat's shell; the walk stands in STEP 1. -/
import Derived.Test.Qxb6603734aRows
import Derived.WalkKit
import Derived.ProofKit
import Derived.OpenShut
import Derived.ShutString
import Derived.Test.Qxb6603734aPlainM
namespace Go.Proofs.Qxb6603734a.fnScalarMatchesModel
open Go.ChangeShapes Go.WideShapes Go.ChangeAt Go.RowKit
open Go.ChangeMaps (open_string shut_string)
set_option linter.unusedVariables false      -- a walk need not use every 'w<i>' (that an integer argument fits its kind)

theorem own : ownKnob Try.prog.godebug = none := by kernel_rfl

/-! ### STEP 1: THE WALK -/
/-- scalarModel, wherever it is called. -/
theorem model_any (text : ByteArray) (a : Nat) (fr : Int) (flow : Bool) (w : World) (ht : text.size ≤ 1048576) (ha : a ≤ text.size) :
    Calls Try.prog 6 #[.string text, .int .i64 a, .int .i64 fr, .bool flow] w (MdPost text a fr flow w) := by
  by_cases he : a = text.size
  · exact model_end text a fr flow w he
  · by_cases hq : Plain.bt text.data.toList a = 34 ∨ Plain.bt text.data.toList a = 39
    · exact model_quote text a fr flow w ht (by omega) hq
    · cases hr : Plain.refB text.data.toList a
      · exact model_plain text a fr flow w ht (by omega) hq hr
      · exact model_refused text a fr flow w ht (by omega) hq hr

set_option maxRecDepth 100000 in
set_option maxHeartbeats 4000000 in
theorem walk (a0 : ByteArray) (a1 : Int) (a2 : Int) (a3 : Int) (a4 : Int) (a5 : Bool) (w0 : a0.size ≤ maxLen) (w : World) :
    Calls Try.prog 3 #[.string a0, .int .i64 a1, .int .i64 a2, .int .i64 a3, .int .i64 a4, .bool a5] w fun e w' => e = .returned (.bool true) ∧ Below w.heap.size w w' := by
  by_cases hbig : a0.size ≤ 1048576
  · have H4 : Hid (∀ w, Calls Try.prog 4 #[.string a0, .int .i64 a1, .int .i64 a2, .int .i64 a3, .int .i64 a4, .bool a5] w fun e w' => e = .returned (.bool true) ∧ w' = w) := fun w => bytes4_yes a0 a1 a2 a3 a4 a5 w hbig
    have hbig' : (a0.size : Int) ≤ 1048576 := by omega
    by_cases hp0 : a4 < 0
    · go_enter Try.func3, Try.ntmps3
      go_wp2_with (go_at_call 4; refine (H4.out _).mono ?_; rintro e w' ⟨rfl, rfl⟩)
      go_ret
      exact ⟨rfl, Below.refl _ _⟩
    · by_cases hp1 : 65536 < a4
      · go_enter Try.func3, Try.ntmps3
        go_wp2_with (go_at_call 4; refine (H4.out _).mono ?_; rintro e w' ⟨rfl, rfl⟩)
        go_ret
        exact ⟨rfl, Below.refl _ _⟩
      · by_cases ha0 : a1 < 0
        · go_enter Try.func3, Try.ntmps3
          go_wp2_with (go_at_call 4; refine (H4.out _).mono ?_; rintro e w' ⟨rfl, rfl⟩)
          go_ret
          exact ⟨rfl, Below.refl _ _⟩
        · by_cases ha1 : (a0.size : Int) < a1
          · go_enter Try.func3, Try.ntmps3
            go_wp2_with (go_at_call 4; refine (H4.out _).mono ?_; rintro e w' ⟨rfl, rfl⟩)
            go_ret
            exact ⟨rfl, Below.refl _ _⟩
          · obtain ⟨pre, rfl⟩ := Int.eq_ofNat_of_zero_le (by omega : 0 ≤ a4)
            obtain ⟨a, rfl⟩ := Int.eq_ofNat_of_zero_le (by omega : 0 ≤ a1)
            have hz := zz_any a0 a pre a2 a3 a5 w hbig (by omega) (by omega)
            have hm := fun w => model_any a0 a a3 a5 w hbig (by omega)
            unfold ZzPost at hz
            unfold MdPost at hm
            have hwp : IntKind.i32.wrap (pre : Int) = pre := wrap_i32 _ (by omega) (by omega)
            have hp2 : (pre : Int) ≤ 65536 := by omega
            have ha2 : (a : Int) ≤ a0.size := by omega
            generalize (if a = a0.size then a3 else (a : Int)) = fr' at hz hm
            rcases ho : Plain.outcome a0.data.toList a a5 with _ | ⟨x, f, t, nl⟩
            · rw [ho] at hz
              simp only [ho] at hm
              have HZ : Hid (Calls Try.prog 5 #[.string a0, .int .i64 a, .int .i64 a2, .int .i64 a3, .int .i64 pre, .bool a5] w fun e w' => Below w.heap.size w w' ∧ e = .returned (.tuple #[.int .i32 (-1), .int .i64 a, .int .i64 fr', .int .i64 pre, .int .u8 0, .bool false, .int .i32 0, .int .i32 0, .int .i32 0, .int .i32 0, .int .i32 0])) := hz
              have HM : Hid (∀ w, Calls Try.prog 6 #[.string a0, .int .i64 a, .int .i64 a3, .bool a5] w fun e w' => Below w.heap.size w w' ∧ e = .returned (.tuple #[.bool false, .int .i64 a, .int .i64 fr', .int .i64 0, .int .i64 0, .bool false])) := hm
              clear hz hm ho
              go_enter Try.func3, Try.ntmps3
              go_wp2_with fail
              refine (H4.out _).mono ?_
              rintro e w' ⟨rfl, rfl⟩
              go_wp2_with fail
              refine HZ.out.mono ?_
              rintro e w1 ⟨hb1, rfl⟩
              have HB1 : Hid (Below w'.heap.size w' w1) := hb1
              clear hb1
              go_wp2_with fail
              refine (HM.out _).mono ?_
              rintro e w2 ⟨hb2, rfl⟩
              have HB2 : Hid (Below w1.heap.size w1 w2) := hb2
              clear hb2
              go_wp2_with fail
              go_ret
              exact ⟨rfl, HB1.out.trans (HB2.out.mono HB1.out.size)⟩
            · rw [ho] at hz
              simp only [ho] at hm
              generalize hif : IntKind.i32.wrap (f : Int) = ifr
              generalize hit : IntKind.i32.wrap (t : Int) = ito
              generalize hil : IntKind.i32.wrap a2 = iln
              have hz' : Calls Try.prog 5 #[.string a0, .int .i64 a, .int .i64 a2, .int .i64 a3, .int .i64 pre, .bool a5] w fun e w' => Below w.heap.size w w' ∧ e = .returned (.tuple #[.int .i32 pre, .int .i64 x, .int .i64 a, .int .i64 ((pre : Int) + 1), .int .u8 1, .bool nl, .int .i32 (IntKind.i32.wrap a2), .int .i32 (IntKind.i32.wrap f), .int .i32 (IntKind.i32.wrap t), .int .i32 0, .int .i32 0]) := hz
              rw [hif, hit, hil] at hz'
              have HZ : Hid (Calls Try.prog 5 #[.string a0, .int .i64 a, .int .i64 a2, .int .i64 a3, .int .i64 pre, .bool a5] w fun e w' => Below w.heap.size w w' ∧ e = .returned (.tuple #[.int .i32 pre, .int .i64 x, .int .i64 a, .int .i64 ((pre : Int) + 1), .int .u8 1, .bool nl, .int .i32 iln, .int .i32 ifr, .int .i32 ito, .int .i32 0, .int .i32 0])) := hz'
              have HM : Hid (∀ w, Calls Try.prog 6 #[.string a0, .int .i64 a, .int .i64 a3, .bool a5] w fun e w' => Below w.heap.size w w' ∧ e = .returned (.tuple #[.bool true, .int .i64 x, .int .i64 a, .int .i64 f, .int .i64 t, .bool nl])) := hm
              clear hz hz' hm ho
              go_enter Try.func3, Try.ntmps3
              go_wp2_with fail
              refine (H4.out _).mono ?_
              rintro e w' ⟨rfl, rfl⟩
              go_wp2_with fail
              refine HZ.out.mono ?_
              rintro e w1 ⟨hb1, rfl⟩
              have HB1 : Hid (Below w'.heap.size w' w1) := hb1
              clear hb1
              go_wp2_with fail
              refine (HM.out _).mono ?_
              rintro e w2 ⟨hb2, rfl⟩
              have HB2 : Hid (Below w1.heap.size w1 w2) := hb2
              clear hb2
              go_wp2_with fail
              go_ret
              exact ⟨rfl, HB1.out.trans (HB2.out.mono HB1.out.size)⟩
  · go_enter Try.func3, Try.ntmps3
    go_wp2_with (go_at_call 4; refine (bytes4_no _ _ _ _ _ _ _ w0 hbig).mono ?_; rintro e w' ⟨rfl, rfl⟩)
    go_ret
    exact ⟨rfl, Below.refl _ _⟩

/-! ### THE ROW's STEP: WRITTEN OUT: LEAVE IT -/
set_option maxRecDepth 100000 in
theorem lifted (os : Os) (started : os.Started) (H : Type) (enc : TypeId × Value → H) :
    ReturnsInHanded {} Try.checked os 3 .any (Rows.fnScalarMatchesModelSpec.pre6 enc Try.prog Try.f3 Rows.fnScalarMatchesModelRow.domain false) (Rows.fnScalarMatchesModelSpec.post enc Try.prog Try.f3 false true false false) := by
  refine returnsInHanded_of_change (C := Try.checked) own started (by kernel_rfl) Try.func3
    (ChangeSpec.witness6 (enc := enc) (C := Try.checked) false ⟨#[], #[.string ByteArray.empty, .int .i64 0, .int .i64 0, .int .i64 0, .int .i64 0, .bool false], []⟩ 8 (by kernel_rfl) (by kernel_rfl) (by kernel_rfl) (by kernel_rfl)) ?_
  intro W base args ds gs before hval0 hW hcnd _
  have hval : ∀ (j : Nat) t v, Try.f3.params[j]? = some t → args[j]? = some v → Value.okWide Try.prog W .any base t v := hval0
  have hW' := hW
  obtain ⟨p, q, hA0, hV, rfl, hfz, hnd⟩ := hW
  have hA : DataW.TrodAll enc Try.prog W 0 (fun _ => true) true Try.f3.params.toList args.toList ds p := hA0
  rw [Try.params3] at hA hval
  obtain ⟨v0, vs0, d0, ds0, p0, q0, hargs, rfl, rfl, h0, r0⟩ := trodAll_cons hA
  obtain ⟨v1, vs1, d1, ds1, p1, q1, rfl, rfl, rfl, h1, r1⟩ := trodAll_cons r0
  obtain ⟨v2, vs2, d2, ds2, p2, q2, rfl, rfl, rfl, h2, r2⟩ := trodAll_cons r1
  obtain ⟨v3, vs3, d3, ds3, p3, q3, rfl, rfl, rfl, h3, r3⟩ := trodAll_cons r2
  obtain ⟨v4, vs4, d4, ds4, p4, q4, rfl, rfl, rfl, h4, r4⟩ := trodAll_cons r3
  obtain ⟨v5, vs5, d5, ds5, p5, q5, rfl, rfl, rfl, h5, r5⟩ := trodAll_cons r4
  obtain ⟨rfl, rfl, rfl⟩ := trodAll_nil r5
  obtain rfl : args = #[v0, v1, v2, v3, v4, v5] := by cases args; simp_all
  obtain ⟨rfl, rfl⟩ := trodVars_none hV
  obtain ⟨a0, rfl, rfl, rfl, w0⟩ := open_string Try.underlying9 (hval 0 9 v0 rfl rfl) h0
  obtain ⟨a1, rfl, rfl, rfl, w1⟩ := open_int Try.underlying3 (hval 1 3 v1 rfl rfl) h1
  obtain ⟨a2, rfl, rfl, rfl, w2⟩ := open_int Try.underlying3 (hval 2 3 v2 rfl rfl) h2
  obtain ⟨a3, rfl, rfl, rfl, w3⟩ := open_int Try.underlying3 (hval 3 3 v3 rfl rfl) h3
  obtain ⟨a4, rfl, rfl, rfl, w4⟩ := open_int Try.underlying3 (hval 4 3 v4 rfl rfl) h4
  obtain ⟨a5, rfl, rfl, rfl⟩ := open_bool Try.underlying4 (hval 5 4 v5 rfl rfl) h5
  clear hA0 hval0
  refine (walk a0 a1 a2 a3 a4 a5 w0 W).mono fun e W' ⟨he, bel⟩ => ?_
  subst he
  exact ⟨_, rfl, _, _, _, [], [], [], hW', trodAll_mk1 (shut_bool Try.underlying4 _), (trodAll_cons_mk (shut_string Try.underlying9 w0) (trodAll_cons_mk (shut_int Try.underlying3 w1) (trodAll_cons_mk (shut_int Try.underlying3 w2) (trodAll_cons_mk (shut_int Try.underlying3 w3) (trodAll_cons_mk (shut_int Try.underlying3 w4) (trodAll_cons_mk (shut_bool Try.underlying4 _) trodAll_mk0)))))), rfl, bel.frame _, fun h => by cases h⟩

theorem over : Rows.fnScalarMatchesModelRow.holds Try.pinned (OpenSpec.ofChange Rows.fnScalarMatchesModelSpec) :=
  OpenClaim.holds_of_wide 3 Try.f3 rfl rfl rfl rfl rfl rfl rfl ⟨rfl, rfl, rfl, rfl, rfl⟩ rfl rfl rfl rfl rfl (by kernel_rfl) Try.func3 (by kernel_rfl)
    (of_decide_eq_true (by kernel_rfl)) (by unfold Func.isWrapper; first | (rw [if_pos (by decide +kernel)]; kernel_rfl) | (rw [if_neg (by decide +kernel)]; exact ⟨rfl, rfl⟩))
    (fun os started H enc _ => lifted os started H enc)

/-- ████ THE STATEMENT ████ -/
theorem proved : Rows.FnScalarMatchesModelSaid :=
  over
#print axioms proved
end Go.Proofs.Qxb6603734a.fnScalarMatchesModel
