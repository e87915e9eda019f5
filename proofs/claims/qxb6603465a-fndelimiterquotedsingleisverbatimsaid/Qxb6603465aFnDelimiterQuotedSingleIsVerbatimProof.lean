/- The proof of 'Rows.FnDelimiterQuotedSingleIsVerbatimSaid': the frame is the seat's shell; the walk stands in STEP 1. -/
import Derived.Test.Qxb6603465aRows
import Derived.WalkKit
import Derived.ProofKit
import Derived.OpenShut
import Derived.ShutString
import Derived.ChangeOld
import Derived.Below
import Derived.Test.Qxb6603465aZz
import Derived.Test.Qxb6603465aSmall
namespace Go.Proofs.Qxb6603465a.fnDelimiterQuotedSingleIsVerbatim
open Go.ChangeShapes Go.WideShapes Go.ChangeAt Go.RowKit
open Go.ChangeMaps (open_string shut_string)
set_option linter.unusedVariables false

theorem own : ownKnob Try.prog.godebug = none := by kernel_rfl
theorem laidOut : laidOutB Try.prog = true := by kernel_rfl

/-- WHAT THE WALK IS TOLD OF A SLICE OF INTEGERS THAT CAME IN: it is nil; or it leads to a row of 'cap' cells, the numbers 'zs' (the first 'len' are its elements, the rest its spare room), each fitting its kind. -/
def IsRow (k : IntKind) (w : World) (a : Option Addr) (len cap : Nat) (zs : List Int) : Prop :=
  (a = none ∧ len = 0 ∧ cap = 0 ∧ zs = []) ∨
  ∃ x, a = some x ∧ len ≤ cap ∧ cap ≤ maxLen ∧ zs.length = cap ∧ (∀ i, i < zs.length → w.cell? (x.add i) = some (.int k (zs.getD i 0))) ∧ ∀ n ∈ zs, (Lit.int k n).wf = true

/-! ### STEP 1: THE WALK -/
set_option maxRecDepth 100000 in
set_option maxHeartbeats 4000000 in
theorem walk (a0 : ByteArray) (a1 : Int) (a2 : Int) (a3 : Int) (a4 : Option Addr) (len4 cap4 : Nat) (z4 : List Int) (a5 : ByteArray) (a6 : ByteArray) (a7 : ByteArray) (w : World) (w0 : a0.size ≤ maxLen) (w1 : (Lit.int .i64 a1).wf = true) (w2 : (Lit.int .i64 a2).wf = true) (w3 : (Lit.int .i64 a3).wf = true) (w4 : IsRow .i64 w a4 len4 cap4 z4) (w5 : a5.size ≤ maxLen) (w6 : a6.size ≤ maxLen) (w7 : a7.size ≤ maxLen) :
    Calls Try.prog 4 #[.string a0, .int .i64 a1, .int .i64 a2, .int .i64 a3, .slice a4 len4 cap4, .string a5, .string a6, .string a7] w fun e w' => e = .returned (.bool true) ∧ Below w.heap.size w w' := by
  have hlen : len4 ≤ maxLen := by
    rcases w4 with ⟨_, rfl, _, _⟩ | ⟨x, _, h1, h2, _⟩
    · exact Nat.zero_le _
    · omega
  by_cases hbig : a0.size + len4 + a5.size + a6.size + a7.size ≤ 1048576
  · have H8 : Hid (∀ w, Calls Try.prog 8 #[.string a0, .int .i64 a1, .int .i64 a2, .int .i64 a3, .slice a4 len4 cap4, .string a5, .string a6, .string a7] w fun x w' => x = .returned (.bool true) ∧ w' = w) := fun w => bytes8_yes a0 a5 a6 a7 a1 a2 a3 a4 len4 cap4 w hbig
    have z0 : (a0.size : Int) ≤ 1048576 := by omega
    have z5 : (a5.size : Int) ≤ 1048576 := by omega
    have z6 : (a6.size : Int) ≤ 1048576 := by omega
    have z7 : (a7.size : Int) ≤ 1048576 := by omega
    have z4 : (len4 : Int) ≤ 1048576 := by omega
    by_cases h1 : (131072 : Int) < len4
    · go_enter Try.func4, Try.ntmps4
      go_wp2_with (go_at_call 8; refine (H8.out _).mono ?_; rintro e w' ⟨rfl, rfl⟩)
      go_ret
      exact ⟨rfl, Below.refl _ _⟩
    · by_cases h2 : (1048576 : Int) < a0.size + 8 * len4 + a5.size + a6.size + a7.size
      · go_enter Try.func4, Try.ntmps4
        go_wp2_with (go_at_call 8; refine (H8.out _).mono ?_; rintro e w' ⟨rfl, rfl⟩)
        go_ret
        exact ⟨rfl, Below.refl _ _⟩
      · by_cases h3 : a5.size = 1
        · have h3' : ((a5.size : Int) != 1) = false := by simp; omega
          by_cases h4 : a1 < 0
          · go_enter Try.func4, Try.ntmps4
            go_wp2_with (go_at_call 8; refine (H8.out _).mono ?_; rintro e w' ⟨rfl, rfl⟩)
            go_ret
            exact ⟨rfl, Below.refl _ _⟩
          · by_cases h5 : (a0.size : Int) < a2
            · go_enter Try.func4, Try.ntmps4
              go_wp2_with (go_at_call 8; refine (H8.out _).mono ?_; rintro e w' ⟨rfl, rfl⟩)
              go_ret
              exact ⟨rfl, Below.refl _ _⟩
            · obtain ⟨i, rfl⟩ := Int.eq_ofNat_of_zero_le (by omega : 0 ≤ a1)
              have hrow : Row a4 len4 w := by
                rcases w4 with ⟨_, h, _, _⟩ | ⟨x, rfl, hl, _, hz, hc, _⟩
                · exact Or.inl h
                · rcases Nat.eq_zero_or_pos len4 with h | h
                  · exact Or.inl h
                  · obtain ⟨b, o, rfl, hcc⟩ := ints_at hc (by omega)
                    exact Or.inr ⟨b, o, rfl, World.block_lt_of_cell? _ _ (hcc 0 (by omega)), fun i hi => ⟨_, hcc i (by omega)⟩⟩
              have hnil : a4 = none → len4 = 0 := by
                rintro rfl
                rcases w4 with ⟨_, h, _, _⟩ | ⟨x, h, _⟩
                · exact h
                · cases h
              have hcl := clone_any a4 len4 cap4 w (by omega) hrow hnil
              have HCL : Hid (Calls Try.prog 9 #[.slice a4 len4 cap4] w (ClPost len4 w)) := hcl
              clear hcl hrow hnil w4
              by_cases h6 : a2 ≤ i
              · -- nothing to read
                have HZZ : Hid (∀ (a' : Option Addr) (cap' : Nat) (w' : World), Row a' len4 w' → Calls Try.prog 7 #[.string a0, .int .i64 i, .int .i64 a2, .int .i64 a3, .slice a' len4 cap', .string a5, .string a6, .string a7] w' fun e w'' => Below w'.heap.size w' w'' ∧ e = .returned (.tuple #[.string a7, .int .i64 i, .string (lostAfter a6)])) := by
                  intro a' cap' w' hr
                  refine (zz_any a0 a5 a6 a7 a5[0] i i len4 cap' a2 a3 a' w' (by omega) (by omega) h3 rfl (by omega) hr (by omega) (Nat.le_refl _) (Or.inr rfl) (fun k x y => by omega) (fun h => by omega)).mono ?_
                  rintro e w'' ⟨hb, ⟨h, _⟩ | ⟨_, rfl⟩⟩
                  · omega
                  · refine ⟨hb, ?_⟩
                    rw [show (⟨(a7.data.toList ++ (a0.data.toList.drop i).take (i - i)).toArray⟩ : ByteArray) = a7 from by simp]
                go_enter Try.func4, Try.ntmps4
                go_wp2_with fail
                refine (H8.out _).mono ?_
                rintro e w' ⟨rfl, rfl⟩
                go_wp2_with fail
                refine HCL.out.mono ?_
                rintro e w1 ⟨hb1, a', cap', rfl, hr1⟩
                go_wp2_with fail
                refine (HZZ.out a' cap' _ hr1).mono ?_
                rintro e w2 ⟨hb2, rfl⟩
                go_wp2_with fail
                refine (lostAfter_any a6 _).mono ?_
                rintro e w3 ⟨rfl, rfl⟩
                go_wp2_with fail
                go_ret
                exact ⟨rfl, hb1.trans (hb2.mono hb1.size)⟩
              · obtain ⟨n2, rfl⟩ := Int.eq_ofNat_of_zero_le (by omega : 0 ≤ a2)
                obtain ⟨j, j1, j2, j3, j4⟩ := first_quote a0.data.toList a5[0] (n2 - i) i n2 rfl (by omega) (by simp; omega)
                have J3 : Hid (∀ k, i ≤ k → k < j → ∀ h : k < a0.data.toList.length, a0.data.toList[k] ≠ a5[0]) := j3
                have J4 : Hid (j < n2 → ∃ h : j < a0.data.toList.length, a0.data.toList[j] = a5[0]) := j4
                have hin : (i : Int) < n2 := by omega
                have hind : decide ((n2 : Int) ≤ (i : Int)) = false := decide_eq_false (by omega)
                have hzz : ∀ (a' : Option Addr) (cap' : Nat) (w' : World), Row a' len4 w' → Calls Try.prog 7 #[.string a0, .int .i64 i, .int .i64 n2, .int .i64 a3, .slice a' len4 cap', .string a5, .string a6, .string a7] w' (ZzPost a0 a6 a7 i j n2 w') := by
                  intro a' cap' w' hr
                  exact zz_any a0 a5 a6 a7 a5[0] i j len4 cap' n2 a3 a' w' (by omega) (by omega) h3 rfl (by omega) hr (by omega) j1 (Or.inl (by omega)) j3 (fun h => j4 (by omega))
                clear j3 j4
                by_cases hj : j < n2
                · have HZZ : Hid (∀ (a' : Option Addr) (cap' : Nat) (w' : World), Row a' len4 w' → Calls Try.prog 7 #[.string a0, .int .i64 i, .int .i64 n2, .int .i64 a3, .slice a' len4 cap', .string a5, .string a6, .string a7] w' fun e w'' => Below w'.heap.size w' w'' ∧ e = .returned (.tuple #[.string (a7 ++ a0.extract i j), .int .i64 (j + 1 : Nat), .string a6])) := by
                    intro a' cap' w' hr
                    refine (hzz a' cap' w' hr).mono ?_
                    rintro e w'' ⟨hb, ⟨_, rfl⟩ | ⟨h, _⟩⟩
                    · rw [seg_bytes]; exact ⟨hb, rfl⟩
                    · omega
                  clear hzz
                  go_enter Try.func4, Try.ntmps4
                  go_wp2_with fail
                  refine (H8.out _).mono ?_
                  rintro e w' ⟨rfl, rfl⟩
                  go_wp2_with fail
                  refine HCL.out.mono ?_
                  rintro e w1 ⟨hb1, a', cap', rfl, hr1⟩
                  go_wp2_with fail
                  refine (HZZ.out a' cap' _ hr1).mono ?_
                  rintro e w2 ⟨hb2, rfl⟩
                  have HB : Hid (Below w'.heap.size w' w2) := hb1.trans (hb2.mono hb1.size)
                  clear hb1 hb2 hr1
                  go_wp2_with fail
                  go_loopg [20] (j + 1 - i) (fun g v wr => ∃ k : Nat, g = j + 1 - k ∧ i ≤ k ∧ k ≤ j ∧ v = .int .i64 k ∧ ∃ nn, wr = w2.drewN nn)
                  case atStart => exact ⟨i, rfl, Nat.le_refl _, j1, rfl, 0, rfl⟩
                  case round =>
                    obtain ⟨k, hg, hk1, hk2, rfl, nn, rfl⟩ := hrel
                    have HG : Hid (gk = j + 1 - k) := hg
                    clear hg
                    have hkn : (k : Int) < n2 := by omega
                    have hks : (k : Int) < a0.size := by omega
                    have hks' : k < a0.size := by omega
                    have hkd : decide ((k : Int) < (n2 : Int)) = true := decide_eq_true hkn
                    by_cases hkj : k < j
                    · have hne : (((a0[k].toNat : Int)) != (a5[0].toNat : Int)) = true := by
                        rw [bne_iff_ne]
                        intro he
                        exact J3.out k hk1 hkj (by simpa using hks') (show a0[k] = a5[0] from UInt8.toNat_inj.1 (by omega))
                      go_wp2_with fail
                      go_quiet (fail)
                      go_wp2_with fail
                      go_roundg (j + 1 - (k + 1))
                      case measure => rw [HG.out]; omega
                      case rel => exact ⟨k + 1, rfl, by omega, by omega, by go_num, _, rfl⟩
                    · obtain rfl : k = j := by omega
                      have heq : (((a0[k].toNat : Int)) != (a5[0].toNat : Int)) = false := by
                        obtain ⟨hh, hq⟩ := J4.out hj
                        have hq' : a0[k] = a5[0] := hq
                        rw [hq']
                        simp
                      go_wp2_with fail
                      go_quiet (fail)
                      go_wp2_with fail
                      go_ret
                      exact ⟨rfl, below_drewN HB.out _⟩
                · obtain rfl : j = n2 := by omega
                  have HZZ : Hid (∀ (a' : Option Addr) (cap' : Nat) (w' : World), Row a' len4 w' → Calls Try.prog 7 #[.string a0, .int .i64 i, .int .i64 j, .int .i64 a3, .slice a' len4 cap', .string a5, .string a6, .string a7] w' fun e w'' => Below w'.heap.size w' w'' ∧ e = .returned (.tuple #[.string (a7 ++ a0.extract i j), .int .i64 j, .string (lostAfter a6)])) := by
                    intro a' cap' w' hr
                    refine (hzz a' cap' w' hr).mono ?_
                    rintro e w'' ⟨hb, ⟨h, _⟩ | ⟨_, rfl⟩⟩
                    · omega
                    · rw [seg_bytes]; exact ⟨hb, rfl⟩
                  clear hzz
                  go_enter Try.func4, Try.ntmps4
                  go_wp2_with fail
                  refine (H8.out _).mono ?_
                  rintro e w' ⟨rfl, rfl⟩
                  go_wp2_with fail
                  refine HCL.out.mono ?_
                  rintro e w1 ⟨hb1, a', cap', rfl, hr1⟩
                  go_wp2_with fail
                  refine (HZZ.out a' cap' _ hr1).mono ?_
                  rintro e w2 ⟨hb2, rfl⟩
                  have HB : Hid (Below w'.heap.size w' w2) := hb1.trans (hb2.mono hb1.size)
                  clear hb1 hb2 hr1
                  go_wp2_with fail
                  go_loopg [20] (j + 1 - i) (fun g v wr => ∃ k : Nat, g = j + 1 - k ∧ i ≤ k ∧ k ≤ j ∧ v = .int .i64 k ∧ ∃ nn, wr = w2.drewN nn)
                  case atStart => exact ⟨i, rfl, Nat.le_refl _, j1, rfl, 0, rfl⟩
                  case round =>
                    obtain ⟨k, hg, hk1, hk2, rfl, nn, rfl⟩ := hrel
                    have HG : Hid (gk = j + 1 - k) := hg
                    clear hg
                    by_cases hkj : k < j
                    · have hkn : (k : Int) < j := by omega
                      have hks : (k : Int) < a0.size := by omega
                      have hks' : k < a0.size := by omega
                      have hkd : decide ((k : Int) < (j : Int)) = true := decide_eq_true hkn
                      have hne : (((a0[k].toNat : Int)) != (a5[0].toNat : Int)) = true := by
                        rw [bne_iff_ne]
                        intro he
                        exact J3.out k hk1 hkj (by simpa using hks') (show a0[k] = a5[0] from UInt8.toNat_inj.1 (by omega))
                      go_wp2_with fail
                      go_quiet (fail)
                      go_wp2_with fail
                      go_roundg (j + 1 - (k + 1))
                      case measure => rw [HG.out]; omega
                      case rel => exact ⟨k + 1, rfl, by omega, by omega, by go_num, _, rfl⟩
                    · obtain rfl : k = j := by omega
                      have hkd : decide ((k : Int) < (k : Int)) = false := decide_eq_false (by omega)
                      go_wp2_with fail
                      go_quiet (fail)
                      go_wp2_with fail
                      refine (lostAfter_any a6 _).mono ?_
                      rintro e w3 ⟨rfl, rfl⟩
                      go_wp2_with fail
                      go_ret
                      exact ⟨rfl, below_drewN HB.out _⟩
        · have h3' : ((a5.size : Int) != 1) = true := by simp; omega
          go_enter Try.func4, Try.ntmps4
          go_wp2_with (go_at_call 8; refine (H8.out _).mono ?_; rintro e w' ⟨rfl, rfl⟩)
          go_ret
          exact ⟨rfl, Below.refl _ _⟩
  · go_enter Try.func4, Try.ntmps4
    go_wp2_with (go_at_call 8; refine (bytes8_no _ _ _ _ _ _ _ _ _ _ _ w0 hlen w5 w6 w7 hbig).mono ?_; rintro e w' ⟨rfl, rfl⟩)
    go_ret
    exact ⟨rfl, Below.refl _ _⟩

/-! ### THE ROW's STEP: WRITTEN OUT: LEAVE IT -/
set_option maxRecDepth 100000 in
theorem lifted (os : Os) (started : os.Started) (H : Type) (enc : TypeId × Value → H) :
    ReturnsInHanded {} Try.checked os 4 .any (Rows.fnDelimiterQuotedSingleIsVerbatimSpec.pre6 enc Try.prog Try.f4 Rows.fnDelimiterQuotedSingleIsVerbatimRow.domain false) (Rows.fnDelimiterQuotedSingleIsVerbatimSpec.post enc Try.prog Try.f4 false true false false) := by
  refine returnsInHanded_of_change (C := Try.checked) own started (by kernel_rfl) Try.func4
    (ChangeSpec.witness6 (enc := enc) (C := Try.checked) false ⟨#[], #[.string ByteArray.empty, .int .i64 0, .int .i64 0, .int .i64 0, .slice none 0 0, .string ByteArray.empty, .string ByteArray.empty, .string ByteArray.empty], []⟩ 8 (by kernel_rfl) (by kernel_rfl) (by kernel_rfl) (by kernel_rfl)) ?_
  intro W base args ds gs before hval0 hW hcnd _
  have hval : ∀ (j : Nat) t v, Try.f4.params[j]? = some t → args[j]? = some v → Value.okWide Try.prog W .any base t v := hval0
  have hW' := hW
  obtain ⟨p, q, hA0, hV, rfl, hfz, hnd⟩ := hW
  have hA : DataW.TrodAll enc Try.prog W 0 (fun _ => true) true Try.f4.params.toList args.toList ds p := hA0
  rw [Try.params4] at hA hval
  obtain ⟨v0, vs0, d0, ds0, p0, q0, hargs, rfl, rfl, h0, r0⟩ := trodAll_cons hA
  obtain ⟨v1, vs1, d1, ds1, p1, q1, rfl, rfl, rfl, h1, r1⟩ := trodAll_cons r0
  obtain ⟨v2, vs2, d2, ds2, p2, q2, rfl, rfl, rfl, h2, r2⟩ := trodAll_cons r1
  obtain ⟨v3, vs3, d3, ds3, p3, q3, rfl, rfl, rfl, h3, r3⟩ := trodAll_cons r2
  obtain ⟨v4, vs4, d4, ds4, p4, q4, rfl, rfl, rfl, h4, r4⟩ := trodAll_cons r3
  obtain ⟨v5, vs5, d5, ds5, p5, q5, rfl, rfl, rfl, h5, r5⟩ := trodAll_cons r4
  obtain ⟨v6, vs6, d6, ds6, p6, q6, rfl, rfl, rfl, h6, r6⟩ := trodAll_cons r5
  obtain ⟨v7, vs7, d7, ds7, p7, q7, rfl, rfl, rfl, h7, r7⟩ := trodAll_cons r6
  obtain ⟨rfl, rfl, rfl⟩ := trodAll_nil r7
  obtain rfl : args = #[v0, v1, v2, v3, v4, v5, v6, v7] := by cases args; simp_all
  obtain ⟨rfl, rfl⟩ := trodVars_none hV
  obtain ⟨a0, rfl, rfl, rfl, w0⟩ := open_string Try.underlying9 (hval 0 9 v0 rfl rfl) h0
  obtain ⟨a1, rfl, rfl, rfl, w1⟩ := open_int Try.underlying3 (hval 1 3 v1 rfl rfl) h1
  obtain ⟨a2, rfl, rfl, rfl, w2⟩ := open_int Try.underlying3 (hval 2 3 v2 rfl rfl) h2
  obtain ⟨a3, rfl, rfl, rfl, w3⟩ := open_int Try.underlying3 (hval 3 3 v3 rfl rfl) h3
  obtain ⟨a4, len4, cap4, rfl⟩ := okWide_slice Try.underlying27 (hval 4 27 v4 rfl rfl)
  have k4 := h4
  have lt4 : ∀ x ∈ p4, x.block < W.heap.size := by obtain ⟨m, hm⟩ := k4; exact DataW.trod_lt m _ _ _ hm
  obtain ⟨z4, w4⟩ : ∃ zs, IsRow .i64 W a4 len4 cap4 zs := by
    obtain ⟨fuel, hf⟩ := h4
    rcases open_ints Try.underlying27 Try.underlying3 (by kernel_rfl) hf with ⟨hcs, _⟩ | ⟨x, l, c, zs, hcs, _, hl, hm, hz, _, hcell, hwz⟩
    · simp [Value.cells] at hcs
      obtain ⟨rfl, rfl, rfl⟩ := hcs
      exact ⟨[], .inl ⟨rfl, rfl, rfl, rfl⟩⟩
    · simp [Value.cells] at hcs
      obtain ⟨rfl, rfl, rfl⟩ := hcs
      exact ⟨zs, .inr ⟨_, rfl, hl, hm, by simpa using hz, hcell, hwz⟩⟩
  obtain ⟨a5, rfl, rfl, rfl, w5⟩ := open_string Try.underlying9 (hval 5 9 v5 rfl rfl) h5
  obtain ⟨a6, rfl, rfl, rfl, w6⟩ := open_string Try.underlying9 (hval 6 9 v6 rfl rfl) h6
  obtain ⟨a7, rfl, rfl, rfl, w7⟩ := open_string Try.underlying9 (hval 7 9 v7 rfl rfl) h7
  clear hA0 hval0
  refine (walk a0 a1 a2 a3 a4 len4 cap4 z4 a5 a6 a7 W w0 w1 w2 w3 w4 w5 w6 w7).mono fun e W' ⟨he, bel⟩ => ?_
  subst he
  exact ⟨_, rfl, _, _, _, [], _, [], hW', trodAll_mk1 (shut_bool Try.underlying4 _), (trodAll_cons_mk (shut_string Try.underlying9 w0) (trodAll_cons_mk (shut_int Try.underlying3 w1) (trodAll_cons_mk (shut_int Try.underlying3 w2) (trodAll_cons_mk (shut_int Try.underlying3 w3) (trodAll_cons_mk (Below.trod laidOut (by kernel_rfl) (of_decide_eq_true (by kernel_rfl)) k4 bel lt4) (trodAll_cons_mk (shut_string Try.underlying9 w5) (trodAll_cons_mk (shut_string Try.underlying9 w6) (trodAll_cons_mk (shut_string Try.underlying9 w7) trodAll_mk0)))))))), rfl, bel.frame _, fun h => by cases h⟩

theorem over : Rows.fnDelimiterQuotedSingleIsVerbatimRow.holds Try.pinned (OpenSpec.ofChange Rows.fnDelimiterQuotedSingleIsVerbatimSpec) :=
  OpenClaim.holds_of_wide 4 Try.f4 rfl rfl rfl rfl rfl rfl rfl ⟨rfl, rfl, rfl, rfl, rfl⟩ rfl rfl rfl rfl rfl (by kernel_rfl) Try.func4 (by kernel_rfl)
    (of_decide_eq_true (by kernel_rfl)) (by unfold Func.isWrapper; first | (rw [if_pos (by decide +kernel)]; kernel_rfl) | (rw [if_neg (by decide +kernel)]; exact ⟨rfl, rfl⟩))
    (fun os started H enc _ => lifted os started H enc)

/-- ████ THE STATEMENT ████ -/
theorem proved : Rows.FnDelimiterQuotedSingleIsVerbatimSaid := over
#print axioms proved
end Go.Proofs.Qxb6603465a.fnDelimiterQuotedSingleIsVerbatim
