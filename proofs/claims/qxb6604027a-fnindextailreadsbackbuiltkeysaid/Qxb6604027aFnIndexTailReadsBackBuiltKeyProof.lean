/- The proof of 'Rows.FnIndexTailReadsBackBuiltKeySaid'. -/
import Derived.Test.Qxb6604027aRows
import Derived.WalkKit
import Derived.ProofKit
import Derived.OpenShut
import Derived.ShutString
import Derived.ChangeOld
import Derived.Below
import Derived.Test.Qxb6604027aKey2
namespace Go.Proofs.Qxb6604027a.fnIndexTailReadsBackBuiltKey
open Go.ChangeShapes Go.WideShapes Go.ChangeAt Go.RowKit
set_option linter.unusedVariables false

theorem own : ownKnob Try.prog.godebug = none := by kernel_rfl
theorem laidOut : laidOutB Try.prog = true := by kernel_rfl

/-- What the walk is told of a slice of bytes that came in. -/
def IsRow (w : World) (a : Option Addr) (len cap : Nat) (zs : List Int) : Prop :=
  (a = none ∧ len = 0 ∧ cap = 0 ∧ zs = []) ∨
  ∃ x, a = some x ∧ len ≤ cap ∧ cap ≤ maxLen ∧ zs.length = cap ∧ (∀ i, i < zs.length → w.cell? (x.add i) = some (.int .u8 (zs.getD i 0))) ∧ ∀ n ∈ zs, (Lit.int .u8 n).wf = true

theorem IsRow.rowb {w : World} {a : Option Addr} {len cap : Nat} {zs : List Int} (h : IsRow w a len cap zs) : Rowb a len (fun i => zs.getD i 0) w := by
  rcases h with ⟨_, h, _, _⟩ | ⟨x, rfl, hl, _, hz, hc, _⟩
  · exact Or.inl h
  · rcases Nat.eq_zero_or_pos len with h | h
    · exact Or.inl h
    · obtain ⟨b, o, rfl, hcc⟩ := ints_at hc (by omega)
      exact Or.inr ⟨b, o, rfl, World.block_lt_of_cell? _ _ (hcc 0 (by omega)), fun i hi => hcc i (by omega)⟩

theorem IsRow.nil {w : World} {a : Option Addr} {len cap : Nat} {zs : List Int} (h : IsRow w a len cap zs) : a = none → len = 0 := by
  rintro rfl
  rcases h with ⟨_, h, _, _⟩ | ⟨x, h, _⟩
  · exact h
  · cases h

theorem IsRow.range {w : World} {a : Option Addr} {len cap : Nat} {zs : List Int} (h : IsRow w a len cap zs) : ∀ i, i < len → 0 ≤ zs.getD i 0 ∧ zs.getD i 0 < 256 := by
  intro i hi
  rcases h with ⟨_, h, _, _⟩ | ⟨x, _, hl, _, hz, _, hw⟩
  · omega
  · have hlt : i < zs.length := by omega
    have e : zs.getD i 0 = zs[i] := by simp [List.getD_eq_getElem?_getD, hlt]
    rw [e]
    have := bounds_u8 (hw _ (List.getElem_mem hlt))
    omega

/-! ### STEP 1: THE WALK -/
set_option maxRecDepth 100000 in
set_option maxHeartbeats 4000000 in
theorem walk (x0 : Int) (F : Nat → Int) (a1 a3 : Option Addr) (n1 c1 n3 c3 : Nat) (z1 z3 : List Int) (w : World) (h1 : IsRow w a1 n1 c1 z1) (h3 : IsRow w a3 n3 c3 z3) :
    Calls Try.prog 5 #[.int .u8 x0, .slice a1 n1 c1, arr F, .slice a3 n3 c3] w fun e w' => e = .returned (.bool true) ∧ Below w.heap.size w w' := by
  by_cases hs1 : n1 ≤ 524288
  · by_cases hs3 : n3 ≤ 524288
    · by_cases hx : x0 = 7
      · subst hx
        exact key_sends F a1 a3 n1 c1 n3 c3 _ _ w hs1 hs3 h1.rowb h3.rowb h1.range h1.nil h3.nil
      · exact key_other x0 F a1 a3 n1 c1 n3 c3 _ _ w hx hs1 hs3 h1.rowb h3.rowb h1.nil h3.nil
    · have hs1' : (n1 : Int) ≤ 524288 := by omega
      have hs3' : (524288 : Int) < n3 := by omega
      clear h1 h3 hs1 hs3
      have HB0 : Hid (Below w.heap.size w _) := ((Below.refl w.heap.size w).alloc (Nat.le_refl _) (.cells #[.int .u8 (F 0), .int .u8 (F 1), .int .u8 (F 2), .int .u8 (F 3), .int .u8 (F 4), .int .u8 (F 5), .int .u8 (F 6), .int .u8 (F 7), .int .u8 (F 8), .int .u8 (F 9), .int .u8 (F 10), .int .u8 (F 11), .int .u8 (F 12), .int .u8 (F 13), .int .u8 (F 14), .int .u8 (F 15)] 27))
      by_cases hb : n1 + n3 ≤ 1048576
      · have H14 : Hid (∀ w, Calls Try.prog 14 #[.int .u8 x0, .slice a1 n1 c1, arr F, .slice a3 n3 c3] w fun e w' => e = .returned (.bool true) ∧ Below w.heap.size w w') := fun w => bytes14_yes x0 F a1 a3 n1 c1 n3 c3 w hb
        clear hb
        go_enter Try.func5, Try.ntmps5
        go_wp2_with fail
        refine (H14.out _).mono ?_
        rintro e w1 ⟨rfl, hb1⟩
        have HB1 : Hid (Below w.heap.size w w1) := HB0.out.trans (hb1.mono HB0.out.size)
        clear hb1
        go_wp2_with fail
        go_ret
        exact ⟨rfl, HB1.out⟩
      · have H14 : Hid (∀ w, Calls Try.prog 14 #[.int .u8 x0, .slice a1 n1 c1, arr F, .slice a3 n3 c3] w fun e w' => e = .returned (.bool false) ∧ Below w.heap.size w w') := fun w => bytes14_no x0 F a1 a3 n1 c1 n3 c3 w hb
        clear hb
        go_enter Try.func5, Try.ntmps5
        go_wp2_with fail
        refine (H14.out _).mono ?_
        rintro e w1 ⟨rfl, hb1⟩
        have HB1 : Hid (Below w.heap.size w w1) := HB0.out.trans (hb1.mono HB0.out.size)
        clear hb1
        go_wp2_with fail
        go_ret
        exact ⟨rfl, HB1.out⟩
  · have hs1' : (524288 : Int) < n1 := by omega
    clear h1 h3 hs1
    have HB0 : Hid (Below w.heap.size w _) := ((Below.refl w.heap.size w).alloc (Nat.le_refl _) (.cells #[.int .u8 (F 0), .int .u8 (F 1), .int .u8 (F 2), .int .u8 (F 3), .int .u8 (F 4), .int .u8 (F 5), .int .u8 (F 6), .int .u8 (F 7), .int .u8 (F 8), .int .u8 (F 9), .int .u8 (F 10), .int .u8 (F 11), .int .u8 (F 12), .int .u8 (F 13), .int .u8 (F 14), .int .u8 (F 15)] 27))
    by_cases hb : n1 + n3 ≤ 1048576
    · have H14 : Hid (∀ w, Calls Try.prog 14 #[.int .u8 x0, .slice a1 n1 c1, arr F, .slice a3 n3 c3] w fun e w' => e = .returned (.bool true) ∧ Below w.heap.size w w') := fun w => bytes14_yes x0 F a1 a3 n1 c1 n3 c3 w hb
      clear hb
      go_enter Try.func5, Try.ntmps5
      go_wp2_with fail
      refine (H14.out _).mono ?_
      rintro e w1 ⟨rfl, hb1⟩
      have HB1 : Hid (Below w.heap.size w w1) := HB0.out.trans (hb1.mono HB0.out.size)
      clear hb1
      go_wp2_with fail
      go_ret
      exact ⟨rfl, HB1.out⟩
    · have H14 : Hid (∀ w, Calls Try.prog 14 #[.int .u8 x0, .slice a1 n1 c1, arr F, .slice a3 n3 c3] w fun e w' => e = .returned (.bool false) ∧ Below w.heap.size w w') := fun w => bytes14_no x0 F a1 a3 n1 c1 n3 c3 w hb
      clear hb
      go_enter Try.func5, Try.ntmps5
      go_wp2_with fail
      refine (H14.out _).mono ?_
      rintro e w1 ⟨rfl, hb1⟩
      have HB1 : Hid (Below w.heap.size w w1) := HB0.out.trans (hb1.mono HB0.out.size)
      clear hb1
      go_wp2_with fail
      go_ret
      exact ⟨rfl, HB1.out⟩

/-! ### THE ARRAY OPENED -/
theorem open_arr {H : Type} {enc : TypeId × Value → H} {W : World} {sp : Nat → Bool} {held : Bool} {base : Nat} {cs : Array Value} {d : DataW H} {ps : List MemPlace} (hsz : cs.size = 16) (h : DataW.Trod enc Try.prog W base sp held 27 (.agg cs) d ps) : ∃ F, Value.agg cs = arr F := by
  obtain ⟨fuel, hf⟩ := h
  obtain ⟨xs, m, _, _, _, hl, hel⟩ := DataW.trod_array Try.underlying27 hf
  have c5 : Try.prog.cellsOf 5 = 1 := by kernel_rfl
  have hel' : ∀ i, i < 16 → ∃ z, cs[i]? = some (.int .u8 z) := by
    intro i hi
    have hE := hel i hi
    rw [c5, Nat.mul_one, List.getElem?_eq_getElem (by omega)] at hE
    obtain ⟨z, e1, _, _⟩ := DataW.trod_int Try.underlying5 hE
    refine ⟨z, ?_⟩
    have h0 : (((Value.agg cs).cells.toList.drop i).take 1)[0]? = some (.int .u8 z) := by rw [e1]; rfl
    simpa [Value.cells] using h0
  refine ⟨fun i => match cs[i]? with | some (.int _ z) => z | _ => 0, ?_⟩
  have hget : ∀ i, i < 16 → cs[i]? = some (.int .u8 (match cs[i]? with | some (.int _ z) => z | _ => 0)) := by
    intro i hi
    obtain ⟨z, hz⟩ := hel' i hi
    rw [hz]
  refine congrArg Value.agg (Array.ext_getElem? fun i => ?_)
  by_cases hi : i < 16
  · rw [hget i hi]
    obtain rfl | rfl | rfl | rfl | rfl | rfl | rfl | rfl | rfl | rfl | rfl | rfl | rfl | rfl | rfl | rfl : i = 0 ∨ i = 1 ∨ i = 2 ∨ i = 3 ∨ i = 4 ∨ i = 5 ∨ i = 6 ∨ i = 7 ∨ i = 8 ∨ i = 9 ∨ i = 10 ∨ i = 11 ∨ i = 12 ∨ i = 13 ∨ i = 14 ∨ i = 15 := by omega
    all_goals rfl
  · rw [Array.getElem?_eq_none (by omega), Array.getElem?_eq_none (by simp; omega)]

theorem open_row {H : Type} {enc : TypeId × Value → H} {W : World} {a : Option Addr} {len cap : Nat} {d : DataW H} {ps : List MemPlace} (h : DataW.Trod enc Try.prog W 0 (fun _ => true) true 22 (.slice a len cap) d ps) : ∃ zs, IsRow W a len cap zs := by
  obtain ⟨fuel, hf⟩ := h
  rcases open_ints Try.underlying22 Try.underlying5 (by kernel_rfl) hf with ⟨hcs, _⟩ | ⟨x, l, c, zs, hcs, _, hl, hm, hz, _, hcell, hwz⟩
  · simp [Value.cells] at hcs
    obtain ⟨rfl, rfl, rfl⟩ := hcs
    exact ⟨[], .inl ⟨rfl, rfl, rfl, rfl⟩⟩
  · simp [Value.cells] at hcs
    obtain ⟨rfl, rfl, rfl⟩ := hcs
    exact ⟨zs, .inr ⟨_, rfl, hl, hm, by simpa using hz, hcell, hwz⟩⟩

/-! ### THE ROW's STEP -/
set_option maxRecDepth 100000 in
theorem lifted (os : Os) (started : os.Started) (H : Type) (enc : TypeId × Value → H) :
    ReturnsInHanded {} Try.checked os 5 .any (Rows.fnIndexTailReadsBackBuiltKeySpec.pre6 enc Try.prog Try.f5 Rows.fnIndexTailReadsBackBuiltKeyRow.domain false) (Rows.fnIndexTailReadsBackBuiltKeySpec.post enc Try.prog Try.f5 false true false false) := by
  refine returnsInHanded_of_change (C := Try.checked) own started (by kernel_rfl) Try.func5
    (ChangeSpec.witness6 (enc := enc) (C := Try.checked) false ⟨#[], #[.int .u8 0, .slice none 0 0, .agg #[.int .u8 0, .int .u8 0, .int .u8 0, .int .u8 0, .int .u8 0, .int .u8 0, .int .u8 0, .int .u8 0, .int .u8 0, .int .u8 0, .int .u8 0, .int .u8 0, .int .u8 0, .int .u8 0, .int .u8 0, .int .u8 0], .slice none 0 0], []⟩ 8 (by kernel_rfl) (by kernel_rfl) (by kernel_rfl) (by kernel_rfl)) ?_
  intro W base args ds gs before hval0 hW hcnd _
  have hval : ∀ (j : Nat) t v, Try.f5.params[j]? = some t → args[j]? = some v → Value.okWide Try.prog W .any base t v := hval0
  have hW' := hW
  obtain ⟨p, q, hA0, hV, rfl, hfz, hnd⟩ := hW
  have hA : DataW.TrodAll enc Try.prog W 0 (fun _ => true) true Try.f5.params.toList args.toList ds p := hA0
  rw [Try.params5] at hA hval
  obtain ⟨v0, vs0, d0, ds0, p0, q0, hargs, rfl, rfl, h0, r0⟩ := trodAll_cons hA
  obtain ⟨v1, vs1, d1, ds1, p1, q1, rfl, rfl, rfl, h1, r1⟩ := trodAll_cons r0
  obtain ⟨v2, vs2, d2, ds2, p2, q2, rfl, rfl, rfl, h2, r2⟩ := trodAll_cons r1
  obtain ⟨v3, vs3, d3, ds3, p3, q3, rfl, rfl, rfl, h3, r3⟩ := trodAll_cons r2
  obtain ⟨rfl, rfl, rfl⟩ := trodAll_nil r3
  obtain rfl : args = #[v0, v1, v2, v3] := by cases args; simp_all
  obtain ⟨rfl, rfl⟩ := trodVars_none hV
  obtain ⟨a0, rfl, rfl, rfl, w0⟩ := open_int Try.underlying5 (hval 0 5 v0 rfl rfl) h0
  obtain ⟨a1, len1, cap1, rfl⟩ := okWide_slice Try.underlying22 (hval 1 22 v1 rfl rfl)
  have lt1 : ∀ x ∈ p1, x.block < W.heap.size := by obtain ⟨m, hm⟩ := h1; exact DataW.trod_lt m _ _ _ hm
  obtain ⟨z1, w1⟩ := open_row h1
  have hv2 := hval 2 27 v2 rfl rfl
  unfold Value.okWide at hv2
  rw [Try.underlying27] at hv2
  obtain ⟨cs, rfl, hsz, _⟩ := hv2
  have c27 : Try.prog.cellsOf 27 = 16 := by kernel_rfl
  rw [c27] at hsz
  have lt2 : ∀ x ∈ p2, x.block < W.heap.size := by obtain ⟨m, hm⟩ := h2; exact DataW.trod_lt m _ _ _ hm
  obtain ⟨F, hF⟩ := open_arr hsz h2
  obtain ⟨a3, len3, cap3, rfl⟩ := okWide_slice Try.underlying22 (hval 3 22 v3 rfl rfl)
  have lt3 : ∀ x ∈ p3, x.block < W.heap.size := by obtain ⟨m, hm⟩ := h3; exact DataW.trod_lt m _ _ _ hm
  obtain ⟨z3, w3⟩ := open_row h3
  clear hA0 hval0
  have hwalk := walk a0 F a1 a3 len1 cap1 len3 cap3 z1 z3 W w1 w3
  rw [← hF] at hwalk
  refine hwalk.mono fun e W' ⟨he, bel⟩ => ?_
  subst he
  exact ⟨_, rfl, _, _, _, [], _, [], hW', trodAll_mk1 (shut_bool Try.underlying4 _), (trodAll_cons_mk (shut_int Try.underlying5 w0) (trodAll_cons_mk (Below.trod laidOut (by kernel_rfl) (of_decide_eq_true (by kernel_rfl)) h1 bel lt1) (trodAll_cons_mk (Below.trod laidOut (by kernel_rfl) (of_decide_eq_true (by kernel_rfl)) h2 bel lt2) (trodAll_cons_mk (Below.trod laidOut (by kernel_rfl) (of_decide_eq_true (by kernel_rfl)) h3 bel lt3) trodAll_mk0)))), rfl, bel.frame _, fun h => by cases h⟩

theorem over : Rows.fnIndexTailReadsBackBuiltKeyRow.holds Try.pinned (OpenSpec.ofChange Rows.fnIndexTailReadsBackBuiltKeySpec) :=
  OpenClaim.holds_of_wide 5 Try.f5 rfl rfl rfl rfl rfl rfl rfl ⟨rfl, rfl, rfl, rfl, rfl⟩ rfl rfl rfl rfl rfl (by kernel_rfl) Try.func5 (by kernel_rfl)
    (of_decide_eq_true (by kernel_rfl)) (by unfold Func.isWrapper; first | (rw [if_pos (by decide +kernel)]; kernel_rfl) | (rw [if_neg (by decide +kernel)]; exact ⟨rfl, rfl⟩))
    (fun os started H enc _ => lifted os started H enc)

/-- THE STATEMENT -/
theorem proved : Rows.FnIndexTailReadsBackBuiltKeySaid := over
#print axioms proved
end Go.Proofs.Qxb6604027a.fnIndexTailReadsBackBuiltKey
