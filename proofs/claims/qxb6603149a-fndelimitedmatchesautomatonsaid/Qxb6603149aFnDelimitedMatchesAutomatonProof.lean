/- The proof of 'Rows.FnDelimitedMatchesAutomatonSaid': the frame is the seat's shell; the walk stands in STEP 1. -/
import Derived.Test.Qxb6603149aRows
import Derived.WalkKit
import Derived.ProofKit
import Derived.OpenShut
import Derived.ShutString
import Derived.HandedShaped
import Derived.Test.Qxb6603149aModel
namespace Go.Proofs.Qxb6603149a.fnDelimitedMatchesAutomaton
open Go.ChangeShapes Go.WideShapes Go.ChangeAt Go.RowKit
open Go.ChangeMaps (open_string shut_string)
set_option linter.unusedVariables false      -- a walk need not use every 'w<i>' (that an integer argument fits its kind)

theorem own : ownKnob Try.prog.godebug = none := by kernel_rfl

/-! ### STEP 1: THE WALK -/
set_option maxRecDepth 100000 in
set_option maxHeartbeats 2000000 in
theorem walk (a0 : ByteArray) (a1 : Int) (a2 : Int) (a3 : Int) (a4 : ByteArray) (a5 : Bool) (w0 : a0.size ≤ maxLen) (w1 : (Lit.int .u8 a1).wf = true) (w2 : (Lit.int .i64 a2).wf = true) (w3 : (Lit.int .u8 a3).wf = true) (w4 : a4.size ≤ maxLen) (w : World) (m : Int) (hm : w.cell? ⟨0, 0, none⟩ = some (.int .i64 m)) :
    Calls Try.prog 6 #[.string a0, .int .u8 a1, .int .i64 a2, .int .u8 a3, .string a4, .bool a5] w fun e w' => e = .returned (.bool true) ∧ Below w.heap.size w w' := by
  have hz0 : 0 < w.heap.size := World.block_lt_of_cell? _ _ hm
  by_cases hbig : a0.size + a4.size ≤ 1048576
  · have H14 : Hid (∀ w, Calls Try.prog 14 #[.string a0, .int .u8 a1, .int .i64 a2, .int .u8 a3, .string a4, .bool a5] w fun e w' => e = .returned (.bool true) ∧ w' = w) := fun w => bytes14_yes a0 a4 a1 a2 a3 a5 w hbig
    by_cases h1 : (524288 : Int) < a0.size
    · go_enter Try.func6, Try.ntmps6
      go_wp2_with (go_at_call 14; refine (H14.out _).mono ?_; rintro e w' ⟨rfl, rfl⟩)
      go_ret
      exact ⟨rfl, Below.refl _ _⟩
    · by_cases h2 : (524288 : Int) < a4.size
      · go_enter Try.func6, Try.ntmps6
        go_wp2_with (go_at_call 14; refine (H14.out _).mono ?_; rintro e w' ⟨rfl, rfl⟩)
        go_ret
        exact ⟨rfl, Below.refl _ _⟩
      · by_cases h3 : a2 < 0
        · go_enter Try.func6, Try.ntmps6
          go_wp2_with (go_at_call 14; refine (H14.out _).mono ?_; rintro e w' ⟨rfl, rfl⟩)
          go_ret
          exact ⟨rfl, Below.refl _ _⟩
        · obtain ⟨n2, rfl⟩ := Int.eq_ofNat_of_zero_le (by omega : 0 ≤ a2)
          have hn2 : n2 ≤ 9223372036854775807 := by
            have := (bounds_i64 w2).2
            omega
          have hs0 : a0.size ≤ 1048576 := by omega
          have hs4 : a4.size ≤ 1048576 := by omega
          obtain ⟨k, n, hD⟩ : ∃ k n, Plain.D a5 a3 a0.data.toList n2 = (k, n) := ⟨_, _, rfl⟩
          by_cases hk : k = 0
          · subst hk
            have HC1 : Hid (∀ w, w.cell? ⟨0, 0, none⟩ = some (.int .i64 m) → Calls Try.prog 15 #[.string a0, .int .u8 a1, .int .i64 n2, .int .u8 a3, .string a4, .bool a5] w fun e w' => e = .returned (.tuple #[.bool false, .int .i64 0, .string ⟨#[]⟩, .int .i64 n]) ∧ Below w.heap.size w w') :=
              fun w hm => zzd_ok a0 a4 a1 a3 a5 n2 n m w hs0 hs4 hn2 hm hD
            have HC2 : Hid (∀ w, Calls Try.prog 16 #[.string a0, .int .i64 n2, .int .u8 a3, .string a4, .bool a5] w fun e w' => e = .returned (.tuple #[.bool false, .int .i64 0, .string ⟨#[]⟩, .int .i64 n]) ∧ w' = w) := by
              intro w
              have := dmodel_any a0 a4 a5 a3 n2 w hs0 hs4 hn2
              rw [hD] at this
              exact this
            clear hD
            go_enter Try.func6, Try.ntmps6
            go_wp2_with fail
            refine (H14.out _).mono ?_
            rintro e w' ⟨rfl, rfl⟩
            go_wp2_with fail
            refine (HC1.out _ hm).mono ?_
            rintro e w1 ⟨rfl, hb1⟩
            go_wp2_with fail
            refine (HC2.out _).mono ?_
            rintro e w2 ⟨rfl, rfl⟩
            go_wp2_with fail
            go_ret
            exact ⟨rfl, hb1⟩
          · have HC1 : Hid (∀ w, w.cell? ⟨0, 0, none⟩ = some (.int .i64 m) → Calls Try.prog 15 #[.string a0, .int .u8 a1, .int .i64 n2, .int .u8 a3, .string a4, .bool a5] w fun e w' => e = .returned (.tuple #[.bool true, .int .i64 (fmin n a0.size), .string (whyOf k a4), .int .i64 n]) ∧ Below w.heap.size w w') :=
              fun w hm => zzd_bad a0 a4 a1 a3 a5 n2 k n m w hs0 hs4 hn2 hm hD hk
            have HC2 : Hid (∀ w, Calls Try.prog 16 #[.string a0, .int .i64 n2, .int .u8 a3, .string a4, .bool a5] w fun e w' => e = .returned (.tuple #[.bool true, .int .i64 (fmin n a0.size), .string (whyOf k a4), .int .i64 n]) ∧ w' = w) := by
              intro w
              have := dmodel_any a0 a4 a5 a3 n2 w hs0 hs4 hn2
              rw [hD] at this
              simp only [zzRes, if_neg hk] at this
              exact this
            clear hD
            go_enter Try.func6, Try.ntmps6
            go_wp2_with fail
            refine (H14.out _).mono ?_
            rintro e w' ⟨rfl, rfl⟩
            go_wp2_with fail
            refine (HC1.out _ hm).mono ?_
            rintro e w1 ⟨rfl, hb1⟩
            go_wp2_with fail
            refine (HC2.out _).mono ?_
            rintro e w2 ⟨rfl, rfl⟩
            go_wp2_with fail
            go_ret
            exact ⟨rfl, hb1⟩
  · go_enter Try.func6, Try.ntmps6
    go_wp2_with (go_at_call 14; refine (bytes14_no _ _ _ _ _ _ _ w0 w4 hbig).mono ?_; rintro e w' ⟨rfl, rfl⟩)
    go_ret
    exact ⟨rfl, Below.refl _ _⟩

/-! ### THE ROW's STEP: WRITTEN OUT: LEAVE IT -/
set_option maxRecDepth 100000 in
theorem lifted (os : Os) (started : os.Started) (H : Type) (enc : TypeId × Value → H) :
    ReturnsInHanded {} Try.checked os 6 .any (Rows.fnDelimitedMatchesAutomatonSpec.pre6 enc Try.prog Try.f6 Rows.fnDelimitedMatchesAutomatonRow.domain false) (Rows.fnDelimitedMatchesAutomatonSpec.post enc Try.prog Try.f6 false true false false) := by
  refine returnsInHanded_of_change_shaped (C := Try.checked) own started (by kernel_rfl) Try.func6
    (ChangeSpec.witness6 (enc := enc) (C := Try.checked) false ⟨#[], #[.string ByteArray.empty, .int .u8 0, .int .i64 0, .int .u8 0, .string ByteArray.empty, .bool false], []⟩ 8 (by kernel_rfl) (by kernel_rfl) (by kernel_rfl) (by kernel_rfl)) ?_
  intro W base args ds gs before hval0 hW hcnd _ hsh _
  have hval : ∀ (j : Nat) t v, Try.f6.params[j]? = some t → args[j]? = some v → Value.okWide Try.prog W .any base t v := hval0
  have hW' := hW
  obtain ⟨p, q, hA0, hV, rfl, hfz, hnd⟩ := hW
  have hA : DataW.TrodAll enc Try.prog W 0 (fun _ => true) true Try.f6.params.toList args.toList ds p := hA0
  rw [Try.params6] at hA hval
  obtain ⟨v0, vs0, d0, ds0, p0, q0, hargs, rfl, rfl, h0, r0⟩ := trodAll_cons hA
  obtain ⟨v1, vs1, d1, ds1, p1, q1, rfl, rfl, rfl, h1, r1⟩ := trodAll_cons r0
  obtain ⟨v2, vs2, d2, ds2, p2, q2, rfl, rfl, rfl, h2, r2⟩ := trodAll_cons r1
  obtain ⟨v3, vs3, d3, ds3, p3, q3, rfl, rfl, rfl, h3, r3⟩ := trodAll_cons r2
  obtain ⟨v4, vs4, d4, ds4, p4, q4, rfl, rfl, rfl, h4, r4⟩ := trodAll_cons r3
  obtain ⟨v5, vs5, d5, ds5, p5, q5, rfl, rfl, rfl, h5, r5⟩ := trodAll_cons r4
  obtain ⟨rfl, rfl, rfl⟩ := trodAll_nil r5
  obtain rfl : args = #[v0, v1, v2, v3, v4, v5] := by cases args; simp_all
  obtain ⟨rfl, rfl⟩ := trodVars_none hV
  obtain ⟨a0, rfl, rfl, rfl, w0⟩ := open_string Try.underlying9 (hval 0 9 v0 rfl rfl) h0
  obtain ⟨a1, rfl, rfl, rfl, w1⟩ := open_int Try.underlying5 (hval 1 5 v1 rfl rfl) h1
  obtain ⟨a2, rfl, rfl, rfl, w2⟩ := open_int Try.underlying3 (hval 2 3 v2 rfl rfl) h2
  obtain ⟨a3, rfl, rfl, rfl, w3⟩ := open_int Try.underlying5 (hval 3 5 v3 rfl rfl) h3
  obtain ⟨a4, rfl, rfl, rfl, w4⟩ := open_string Try.underlying9 (hval 4 9 v4 rfl rfl) h4
  obtain ⟨a5, rfl, rfl, rfl⟩ := open_bool Try.underlying4 (hval 5 4 v5 rfl rfl) h5
  clear hA0 hval0
  obtain ⟨m, hm⟩ := maxLen_cell W hsh
  refine (walk a0 a1 a2 a3 a4 a5 w0 w1 w2 w3 w4 W m hm).mono fun e W' ⟨he, bel⟩ => ?_
  subst he
  exact ⟨_, rfl, _, _, _, [], [], [], hW', trodAll_mk1 (shut_bool Try.underlying4 _), (trodAll_cons_mk (shut_string Try.underlying9 w0) (trodAll_cons_mk (shut_int Try.underlying5 w1) (trodAll_cons_mk (shut_int Try.underlying3 w2) (trodAll_cons_mk (shut_int Try.underlying5 w3) (trodAll_cons_mk (shut_string Try.underlying9 w4) (trodAll_cons_mk (shut_bool Try.underlying4 _) trodAll_mk0)))))), rfl, bel.frame _, fun h => by cases h⟩

theorem over : Rows.fnDelimitedMatchesAutomatonRow.holds Try.pinned (OpenSpec.ofChange Rows.fnDelimitedMatchesAutomatonSpec) :=
  OpenClaim.holds_of_wide 6 Try.f6 rfl rfl rfl rfl rfl rfl rfl ⟨rfl, rfl, rfl, rfl, rfl⟩ rfl rfl rfl rfl rfl (by kernel_rfl) Try.func6 (by kernel_rfl)
    (of_decide_eq_true (by kernel_rfl)) (by unfold Func.isWrapper; first | (rw [if_pos (by decide +kernel)]; kernel_rfl) | (rw [if_neg (by decide +kernel)]; exact ⟨rfl, rfl⟩))
    (fun os started H enc _ => lifted os started H enc)

/-- ████ THE STATEMENT ████ -/
theorem proved : Rows.FnDelimitedMatchesAutomatonSaid :=
  over
#print axioms proved
end Go.Proofs.Qxb6603149a.fnDelimitedMatchesAutomaton
