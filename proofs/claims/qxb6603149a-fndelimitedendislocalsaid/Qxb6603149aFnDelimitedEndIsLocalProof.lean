/- The proof of 'Rows.FnDelimitedEndIsLocalSaid': the frame is the seat's shell; the walk stands in STEP 1. -/
import Derived.Test.Qxb6603149aRows
import Derived.WalkKit
import Derived.ProofKit
import Derived.OpenShut
import Derived.ShutString
import Derived.HandedShaped
import Derived.Test.Qxb6603149aZz
import Derived.Test.Qxb6603149aLaws
namespace Go.Proofs.Qxb6603149a.fnDelimitedEndIsLocal
open Go.ChangeShapes Go.WideShapes Go.ChangeAt Go.RowKit
open Go.ChangeMaps (open_string shut_string)
set_option linter.unusedVariables false      -- a walk need not use every 'w<i>' (that an integer argument fits its kind)

theorem own : ownKnob Try.prog.godebug = none := by kernel_rfl

/-! ### STEP 1: THE WALK -/
set_option maxRecDepth 100000 in
set_option maxHeartbeats 2000000 in
theorem walk (a0 : ByteArray) (a1 : Int) (a2 : Int) (a3 : Int) (a4 : ByteArray) (a5 : Bool) (a6 : ByteArray) (w0 : a0.size ≤ maxLen) (w1 : (Lit.int .u8 a1).wf = true) (w2 : (Lit.int .i64 a2).wf = true) (w3 : (Lit.int .u8 a3).wf = true) (w4 : a4.size ≤ maxLen) (w6 : a6.size ≤ maxLen) (w : World) (m : Int) (hm : w.cell? ⟨0, 0, none⟩ = some (.int .i64 m)) :
    Calls Try.prog 8 #[.string a0, .int .u8 a1, .int .i64 a2, .int .u8 a3, .string a4, .bool a5, .string a6] w fun e w' => e = .returned (.bool true) ∧ Below w.heap.size w w' := by
  have hz0 : 0 < w.heap.size := World.block_lt_of_cell? _ _ hm
  by_cases hbig : a0.size + a4.size + a6.size ≤ 1048576
  · have C18 := fun w => bytes18_yes a0 a4 a6 a1 a2 a3 a5 w hbig
    have H18 : Hid (∀ w, Calls Try.prog 18 #[.string a0, .int .u8 a1, .int .i64 a2, .int .u8 a3, .string a4, .bool a5, .string a6] w fun e w' => e = .returned (.bool true) ∧ w' = w) := C18
    clear C18
    by_cases h1 : (524288 : Int) < a0.size
    · go_enter Try.func8, Try.ntmps8
      go_wp2_with (go_at_call 18; refine (H18.out _).mono ?_; rintro e w' ⟨rfl, rfl⟩)
      go_ret
      exact ⟨rfl, Below.refl _ _⟩
    · by_cases h2 : (262144 : Int) < a4.size
      · go_enter Try.func8, Try.ntmps8
        go_wp2_with (go_at_call 18; refine (H18.out _).mono ?_; rintro e w' ⟨rfl, rfl⟩)
        go_ret
        exact ⟨rfl, Below.refl _ _⟩
      · by_cases h2' : (262144 : Int) < a6.size
        · go_enter Try.func8, Try.ntmps8
          go_wp2_with (go_at_call 18; refine (H18.out _).mono ?_; rintro e w' ⟨rfl, rfl⟩)
          go_ret
          exact ⟨rfl, Below.refl _ _⟩
        · by_cases h3 : a2 < 0
          · go_enter Try.func8, Try.ntmps8
            go_wp2_with (go_at_call 18; refine (H18.out _).mono ?_; rintro e w' ⟨rfl, rfl⟩)
            go_ret
            exact ⟨rfl, Below.refl _ _⟩
          · obtain ⟨n2, rfl⟩ := Int.eq_ofNat_of_zero_le (by omega : 0 ≤ a2)
            have hn2 : n2 ≤ 9223372036854775807 := by
              have := (bounds_i64 w2).2
              omega
            obtain ⟨k, n, hD⟩ : ∃ k n, Plain.D a5 a3 a0.data.toList n2 = (k, n) := ⟨_, _, rfl⟩
            by_cases hk : k = 0
            · subst hk
              obtain ⟨hlo, hhi, hd10, ⟨hq, hbyte⟩, hloc⟩ := Plain.end_is_local _ _ _ _ _ hD
              obtain ⟨q, rfl⟩ : ∃ q, n = q + 1 := ⟨n - 1, by omega⟩
              have hhi' : q + 1 ≤ a0.size := by simpa using hhi
              have e1 : (n2 : Int) < (q : Int) + 1 := by omega
              have e2 : (q : Int) + 1 ≤ a0.size := by omega
              have e3 : (a3 == 10) = false := beq_eq_false_iff_ne.2 hd10
              have e4 : (a0[q].toNat : Int) = a3 := hbyte
              have hD2 : Plain.D a5 a3 (a0.extract 0 (q + 1) ++ a6).data.toList n2 = (0, q + 1) := by
                have hx : (a0.extract 0 (q + 1) ++ a6).data.toList = a0.data.toList.take (q + 1) ++ a6.data.toList := by simp
                rw [hx]
                exact hloc _
              have hsz2 : (a0.extract 0 (q + 1) ++ a6).size ≤ 1048576 := by
                rw [ByteArray.size_append, ByteArray.size_extract]
                omega
              have HC1 := fun w => zzd_ok a0 a4 a1 a3 a5 n2 (q + 1) m w (by omega) (by omega) hn2
              have HC2 := fun w => zzd_ok (a0.extract 0 (q + 1) ++ a6) a4 a1 a3 a5 n2 (q + 1) m w hsz2 (by omega) hn2
              have HD1 : Hid (Plain.D a5 a3 a0.data.toList n2 = (0, q + 1)) := hD
              have HD2 : Hid (Plain.D a5 a3 (a0.extract 0 (q + 1) ++ a6).data.toList n2 = (0, q + 1)) := hD2
              clear hD hD2 hloc hsz2 hbyte hq hhi hlo hd10
              go_enter Try.func8, Try.ntmps8
              go_wp2_with fail
              refine (H18.out _).mono ?_
              rintro e w' ⟨rfl, rfl⟩
              go_wp2_with fail
              refine (HC1 _ hm HD1.out).mono ?_
              rintro e w1 ⟨rfl, hb1⟩
              go_wp2_with fail
              refine (HC2 _ (by rw [hb1.cell hz0]; exact hm) HD2.out).mono ?_
              rintro e w2 ⟨rfl, hb2⟩
              go_wp2_with fail
              go_ret
              exact ⟨rfl, hb1.trans (hb2.mono hb1.size)⟩
            · have HC1 := fun w => zzd_bad a0 a4 a1 a3 a5 n2 k n m w (by omega) (by omega) hn2
              have HD1 : Hid (Plain.D a5 a3 a0.data.toList n2 = (k, n)) := hD
              clear hD
              go_enter Try.func8, Try.ntmps8
              go_wp2_with fail
              refine (H18.out _).mono ?_
              rintro e w' ⟨rfl, rfl⟩
              go_wp2_with fail
              refine (HC1 _ hm HD1.out hk).mono ?_
              rintro e w1 ⟨rfl, hb1⟩
              go_wp2_with fail
              go_ret
              exact ⟨rfl, hb1⟩
  · go_enter Try.func8, Try.ntmps8
    go_wp2_with (go_at_call 18; refine (bytes18_no _ _ _ _ _ _ _ _ w0 w4 w6 hbig).mono ?_; rintro e w' ⟨rfl, rfl⟩)
    go_ret
    exact ⟨rfl, Below.refl _ _⟩

/-! ### THE ROW's STEP: WRITTEN OUT: LEAVE IT -/
set_option maxRecDepth 100000 in
theorem lifted (os : Os) (started : os.Started) (H : Type) (enc : TypeId × Value → H) :
    ReturnsInHanded {} Try.checked os 8 .any (Rows.fnDelimitedEndIsLocalSpec.pre6 enc Try.prog Try.f8 Rows.fnDelimitedEndIsLocalRow.domain false) (Rows.fnDelimitedEndIsLocalSpec.post enc Try.prog Try.f8 false true false false) := by
  refine returnsInHanded_of_change_shaped (C := Try.checked) own started (by kernel_rfl) Try.func8
    (ChangeSpec.witness6 (enc := enc) (C := Try.checked) false ⟨#[], #[.string ByteArray.empty, .int .u8 0, .int .i64 0, .int .u8 0, .string ByteArray.empty, .bool false, .string ByteArray.empty], []⟩ 8 (by kernel_rfl) (by kernel_rfl) (by kernel_rfl) (by kernel_rfl)) ?_
  intro W base args ds gs before hval0 hW hcnd _ hsh _
  have hval : ∀ (j : Nat) t v, Try.f8.params[j]? = some t → args[j]? = some v → Value.okWide Try.prog W .any base t v := hval0
  have hW' := hW
  obtain ⟨p, q, hA0, hV, rfl, hfz, hnd⟩ := hW
  have hA : DataW.TrodAll enc Try.prog W 0 (fun _ => true) true Try.f8.params.toList args.toList ds p := hA0
  rw [Try.params8] at hA hval
  obtain ⟨v0, vs0, d0, ds0, p0, q0, hargs, rfl, rfl, h0, r0⟩ := trodAll_cons hA
  obtain ⟨v1, vs1, d1, ds1, p1, q1, rfl, rfl, rfl, h1, r1⟩ := trodAll_cons r0
  obtain ⟨v2, vs2, d2, ds2, p2, q2, rfl, rfl, rfl, h2, r2⟩ := trodAll_cons r1
  obtain ⟨v3, vs3, d3, ds3, p3, q3, rfl, rfl, rfl, h3, r3⟩ := trodAll_cons r2
  obtain ⟨v4, vs4, d4, ds4, p4, q4, rfl, rfl, rfl, h4, r4⟩ := trodAll_cons r3
  obtain ⟨v5, vs5, d5, ds5, p5, q5, rfl, rfl, rfl, h5, r5⟩ := trodAll_cons r4
  obtain ⟨v6, vs6, d6, ds6, p6, q6, rfl, rfl, rfl, h6, r6⟩ := trodAll_cons r5
  obtain ⟨rfl, rfl, rfl⟩ := trodAll_nil r6
  obtain rfl : args = #[v0, v1, v2, v3, v4, v5, v6] := by cases args; simp_all
  obtain ⟨rfl, rfl⟩ := trodVars_none hV
  obtain ⟨a0, rfl, rfl, rfl, w0⟩ := open_string Try.underlying9 (hval 0 9 v0 rfl rfl) h0
  obtain ⟨a1, rfl, rfl, rfl, w1⟩ := open_int Try.underlying5 (hval 1 5 v1 rfl rfl) h1
  obtain ⟨a2, rfl, rfl, rfl, w2⟩ := open_int Try.underlying3 (hval 2 3 v2 rfl rfl) h2
  obtain ⟨a3, rfl, rfl, rfl, w3⟩ := open_int Try.underlying5 (hval 3 5 v3 rfl rfl) h3
  obtain ⟨a4, rfl, rfl, rfl, w4⟩ := open_string Try.underlying9 (hval 4 9 v4 rfl rfl) h4
  obtain ⟨a5, rfl, rfl, rfl⟩ := open_bool Try.underlying4 (hval 5 4 v5 rfl rfl) h5
  obtain ⟨a6, rfl, rfl, rfl, w6⟩ := open_string Try.underlying9 (hval 6 9 v6 rfl rfl) h6
  clear hA0 hval0
  obtain ⟨m, hm⟩ := maxLen_cell W hsh
  refine (walk a0 a1 a2 a3 a4 a5 a6 w0 w1 w2 w3 w4 w6 W m hm).mono fun e W' ⟨he, bel⟩ => ?_
  subst he
  exact ⟨_, rfl, _, _, _, [], [], [], hW', trodAll_mk1 (shut_bool Try.underlying4 _), (trodAll_cons_mk (shut_string Try.underlying9 w0) (trodAll_cons_mk (shut_int Try.underlying5 w1) (trodAll_cons_mk (shut_int Try.underlying3 w2) (trodAll_cons_mk (shut_int Try.underlying5 w3) (trodAll_cons_mk (shut_string Try.underlying9 w4) (trodAll_cons_mk (shut_bool Try.underlying4 _) (trodAll_cons_mk (shut_string Try.underlying9 w6) trodAll_mk0))))))), rfl, bel.frame _, fun h => by cases h⟩

theorem over : Rows.fnDelimitedEndIsLocalRow.holds Try.pinned (OpenSpec.ofChange Rows.fnDelimitedEndIsLocalSpec) :=
  OpenClaim.holds_of_wide 8 Try.f8 rfl rfl rfl rfl rfl rfl rfl ⟨rfl, rfl, rfl, rfl, rfl⟩ rfl rfl rfl rfl rfl (by kernel_rfl) Try.func8 (by kernel_rfl)
    (of_decide_eq_true (by kernel_rfl)) (by unfold Func.isWrapper; first | (rw [if_pos (by decide +kernel)]; kernel_rfl) | (rw [if_neg (by decide +kernel)]; exact ⟨rfl, rfl⟩))
    (fun os started H enc _ => lifted os started H enc)

/-- ████ THE STATEMENT ████ -/
theorem proved : Rows.FnDelimitedEndIsLocalSaid :=
  over
#print axioms proved
end Go.Proofs.Qxb6603149a.fnDelimitedEndIsLocal
