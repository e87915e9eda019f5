/- The proof of 'Rows.FnDelimitedBracketsOnlyReachFurtherSaid': the frame is the seat's shell; the walk stands in STEP 1. -/
import Derived.Test.Qxb6603149aRows
import Derived.WalkKit
import Derived.ProofKit
import Derived.OpenShut
import Derived.ShutString
import Derived.HandedShaped
import Derived.Test.Qxb6603149aZz
import Derived.Test.Qxb6603149aLaws
namespace Go.Proofs.Qxb6603149a.fnDelimitedBracketsOnlyReachFurther
open Go.ChangeShapes Go.WideShapes Go.ChangeAt Go.RowKit
open Go.ChangeMaps (open_string shut_string)
set_option linter.unusedVariables false      -- a walk need not use every 'w<i>' (that an integer argument fits its kind)

theorem own : ownKnob Try.prog.godebug = none := by kernel_rfl

/-! ### STEP 1: THE WALK -/
set_option maxRecDepth 100000 in
set_option maxHeartbeats 1000000 in
theorem walk (a0 : ByteArray) (a1 : Int) (a2 : Int) (a3 : Int) (a4 : ByteArray) (w0 : a0.size ≤ maxLen) (w2 : (Lit.int .i64 a2).wf = true) (w4 : a4.size ≤ maxLen) (w : World) (m : Int) (hm : w.cell? ⟨0, 0, none⟩ = some (.int .i64 m)) :
    Calls Try.prog 7 #[.string a0, .int .u8 a1, .int .i64 a2, .int .u8 a3, .string a4] w fun e w' => e = .returned (.bool true) ∧ Below w.heap.size w w' := by
  have hz0 : 0 < w.heap.size := World.block_lt_of_cell? _ _ hm
  by_cases hbig : a0.size + a4.size ≤ 1048576
  · by_cases h1 : (524288 : Int) < a0.size
    · go_enter Try.func7, Try.ntmps7
      go_wp2_with (go_at_call 17; refine (bytes17_yes _ _ _ _ _ _ hbig).mono ?_; rintro e w' ⟨rfl, rfl⟩)
      go_ret
      exact ⟨rfl, Below.refl _ _⟩
    · by_cases h2 : (524288 : Int) < a4.size
      · go_enter Try.func7, Try.ntmps7
        go_wp2_with (go_at_call 17; refine (bytes17_yes _ _ _ _ _ _ hbig).mono ?_; rintro e w' ⟨rfl, rfl⟩)
        go_ret
        exact ⟨rfl, Below.refl _ _⟩
      · by_cases h3 : a2 < 0
        · go_enter Try.func7, Try.ntmps7
          go_wp2_with (go_at_call 17; refine (bytes17_yes _ _ _ _ _ _ hbig).mono ?_; rintro e w' ⟨rfl, rfl⟩)
          go_ret
          exact ⟨rfl, Below.refl _ _⟩
        · obtain ⟨n2, rfl⟩ := Int.eq_ofNat_of_zero_le (by omega : 0 ≤ a2)
          have hn2 : n2 ≤ 9223372036854775807 := by
            have := (bounds_i64 w2).2
            omega
          obtain ⟨k, n, hD⟩ : ∃ k n, Plain.D true a3 a0.data.toList n2 = (k, n) := ⟨_, _, rfl⟩
          by_cases hk : k = 0
          · subst hk
            obtain ⟨n', hD', hlo, hhi⟩ := Plain.reach_further _ _ _ _ hD
            have HC1 := fun w => zzd_ok a0 a4 a1 a3 true n2 n m w (by omega) (by omega) hn2
            have HC2 := fun w => zzd_ok a0 a4 a1 a3 false n2 n' m w (by omega) (by omega) hn2
            have HD1 : Hid (Plain.D true a3 a0.data.toList n2 = (0, n)) := hD
            have HD2 : Hid (Plain.D false a3 a0.data.toList n2 = (0, n')) := hD'
            clear hD hD'
            have e1 : (n2 : Int) < n' := by omega
            have e2 : (n' : Int) ≤ n := by omega
            go_enter Try.func7, Try.ntmps7
            go_wp2_with fail
            refine (bytes17_yes _ _ _ _ _ _ hbig).mono ?_
            rintro e w' ⟨rfl, rfl⟩
            go_wp2_with fail
            refine (HC1 _ hm HD1.out).mono ?_
            rintro e w1 ⟨rfl, hb1⟩
            go_wp2_with fail
            refine (HC2 _ (by rw [hb1.cell hz0]; exact hm) HD2.out).mono ?_
            rintro e w2 ⟨rfl, hb2⟩
            go_wp2_with fail
            go_ret
            exact ⟨rfl, hb1.trans (hb2.mono hb1.size)⟩
          · have HC1 := fun w => zzd_bad a0 a4 a1 a3 true n2 k n m w (by omega) (by omega) hn2
            have HD1 : Hid (Plain.D true a3 a0.data.toList n2 = (k, n)) := hD
            clear hD
            go_enter Try.func7, Try.ntmps7
            go_wp2_with fail
            refine (bytes17_yes _ _ _ _ _ _ hbig).mono ?_
            rintro e w' ⟨rfl, rfl⟩
            go_wp2_with fail
            refine (HC1 _ hm HD1.out hk).mono ?_
            rintro e w1 ⟨rfl, hb1⟩
            go_wp2_with fail
            go_ret
            exact ⟨rfl, hb1⟩
  · go_enter Try.func7, Try.ntmps7
    go_wp2_with (go_at_call 17; refine (bytes17_no _ _ _ _ _ _ w0 w4 hbig).mono ?_; rintro e w' ⟨rfl, rfl⟩)
    go_ret
    exact ⟨rfl, Below.refl _ _⟩

/-! ### THE ROW's STEP: WRITTEN OUT: LEAVE IT -/
set_option maxRecDepth 100000 in
theorem lifted (os : Os) (started : os.Started) (H : Type) (enc : TypeId × Value → H) :
    ReturnsInHanded {} Try.checked os 7 .any (Rows.fnDelimitedBracketsOnlyReachFurtherSpec.pre6 enc Try.prog Try.f7 Rows.fnDelimitedBracketsOnlyReachFurtherRow.domain false) (Rows.fnDelimitedBracketsOnlyReachFurtherSpec.post enc Try.prog Try.f7 false true false false) := by
  refine returnsInHanded_of_change_shaped (C := Try.checked) own started (by kernel_rfl) Try.func7
    (ChangeSpec.witness6 (enc := enc) (C := Try.checked) false ⟨#[], #[.string ByteArray.empty, .int .u8 0, .int .i64 0, .int .u8 0, .string ByteArray.empty], []⟩ 8 (by kernel_rfl) (by kernel_rfl) (by kernel_rfl) (by kernel_rfl)) ?_
  intro W base args ds gs before hval0 hW hcnd _ hsh _
  have hval : ∀ (j : Nat) t v, Try.f7.params[j]? = some t → args[j]? = some v → Value.okWide Try.prog W .any base t v := hval0
  have hW' := hW
  obtain ⟨p, q, hA0, hV, rfl, hfz, hnd⟩ := hW
  have hA : DataW.TrodAll enc Try.prog W 0 (fun _ => true) true Try.f7.params.toList args.toList ds p := hA0
  rw [Try.params7] at hA hval
  obtain ⟨v0, vs0, d0, ds0, p0, q0, hargs, rfl, rfl, h0, r0⟩ := trodAll_cons hA
  obtain ⟨v1, vs1, d1, ds1, p1, q1, rfl, rfl, rfl, h1, r1⟩ := trodAll_cons r0
  obtain ⟨v2, vs2, d2, ds2, p2, q2, rfl, rfl, rfl, h2, r2⟩ := trodAll_cons r1
  obtain ⟨v3, vs3, d3, ds3, p3, q3, rfl, rfl, rfl, h3, r3⟩ := trodAll_cons r2
  obtain ⟨v4, vs4, d4, ds4, p4, q4, rfl, rfl, rfl, h4, r4⟩ := trodAll_cons r3
  obtain ⟨rfl, rfl, rfl⟩ := trodAll_nil r4
  obtain rfl : args = #[v0, v1, v2, v3, v4] := by cases args; simp_all
  obtain ⟨rfl, rfl⟩ := trodVars_none hV
  obtain ⟨a0, rfl, rfl, rfl, w0⟩ := open_string Try.underlying9 (hval 0 9 v0 rfl rfl) h0
  obtain ⟨a1, rfl, rfl, rfl, w1⟩ := open_int Try.underlying5 (hval 1 5 v1 rfl rfl) h1
  obtain ⟨a2, rfl, rfl, rfl, w2⟩ := open_int Try.underlying3 (hval 2 3 v2 rfl rfl) h2
  obtain ⟨a3, rfl, rfl, rfl, w3⟩ := open_int Try.underlying5 (hval 3 5 v3 rfl rfl) h3
  obtain ⟨a4, rfl, rfl, rfl, w4⟩ := open_string Try.underlying9 (hval 4 9 v4 rfl rfl) h4
  clear hA0 hval0
  obtain ⟨m, hm⟩ := maxLen_cell W hsh
  refine (walk a0 a1 a2 a3 a4 w0 w2 w4 W m hm).mono fun e W' ⟨he, bel⟩ => ?_
  subst he
  exact ⟨_, rfl, _, _, _, [], [], [], hW', trodAll_mk1 (shut_bool Try.underlying4 _), (trodAll_cons_mk (shut_string Try.underlying9 w0) (trodAll_cons_mk (shut_int Try.underlying5 w1) (trodAll_cons_mk (shut_int Try.underlying3 w2) (trodAll_cons_mk (shut_int Try.underlying5 w3) (trodAll_cons_mk (shut_string Try.underlying9 w4) trodAll_mk0))))), rfl, bel.frame _, fun h => by cases h⟩

theorem over : Rows.fnDelimitedBracketsOnlyReachFurtherRow.holds Try.pinned (OpenSpec.ofChange Rows.fnDelimitedBracketsOnlyReachFurtherSpec) :=
  OpenClaim.holds_of_wide 7 Try.f7 rfl rfl rfl rfl rfl rfl rfl ⟨rfl, rfl, rfl, rfl, rfl⟩ rfl rfl rfl rfl rfl (by kernel_rfl) Try.func7 (by kernel_rfl)
    (of_decide_eq_true (by kernel_rfl)) (by unfold Func.isWrapper; first | (rw [if_pos (by decide +kernel)]; kernel_rfl) | (rw [if_neg (by decide +kernel)]; exact ⟨rfl, rfl⟩))
    (fun os started H enc _ => lifted os started H enc)

/-- ████ THE STATEMENT ████ -/
theorem proved : Rows.FnDelimitedBracketsOnlyReachFurtherSaid :=
  over
#print axioms proved
end Go.Proofs.Qxb6603149a.fnDelimitedBracketsOnlyReachFurther
