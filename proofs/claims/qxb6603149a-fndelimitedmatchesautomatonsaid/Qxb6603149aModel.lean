/- Seat b6603149a: the walks of the two models. -/
import Derived.Test.Qxb6603149aZz
namespace Go.Proofs.Qxb6603149a
open Go.RowKit

/-- The step's contract, its answer named. -/
theorem step_named (x y v x' y' z : Int) (w : World) (h : Plain.step x y v = (x', y', z)) :
    Calls Try.prog 20 #[.int .i64 x, .int .u8 y, .int .u8 v] w fun e w' => e = .returned (.tuple #[.int .i64 x', .int .u8 y', .int .i64 z]) ∧ w' = w := by
  refine (step_any x y v w).mono ?_
  rintro e w' ⟨rfl, rfl⟩
  rw [h]
  exact ⟨rfl, rfl⟩

set_option maxRecDepth 100000 in
set_option maxHeartbeats 1000000 in
theorem bmodel_any (s : ByteArray) (a : Nat) (w : World) (hs : s.size ≤ 1048576) (ha : a < s.size) :
    Calls Try.prog 11 #[.string s, .int .i64 a] w fun e w' => e = .returned (zbRes a (Plain.R s.data.toList (a + 1) 0 0)) ∧ w' = w := by
  have hs' : (s.size : Int) ≤ 1048576 := by omega
  have ha' : (a : Int) < s.size := by omega
  go_enter Try.func11, Try.ntmps11
  go_wp2_with fail
  go_loop [6, 7, 8] (fun p q r => ∃ (i : Nat) (x y : Int), i ≤ s.size ∧ p = .int .i64 x ∧ q = .int .u8 y ∧ r = .int .i64 i ∧ Hid (Plain.R s.data.toList (a + 1) 0 0 = Plain.R s.data.toList i x y)) (fun _ _ r => s.size - (intOf r).toNat)
  case atStart => exact ⟨a + 1, 0, 0, by omega, rfl, rfl, by go_num, rfl⟩
  case round =>
    obtain ⟨i, x, y, hi, rfl, rfl, rfl, HI⟩ := hrel
    by_cases hlt : i < s.size
    · have hlt' : (i : Int) < s.size := by omega
      generalize hv : (s[i].toNat : Int) = v
      have HB : Hid (Plain.nb (s.data.toList[i]'(by simpa using hlt)) = v) := hv
      obtain ⟨x', y', z, hst⟩ : ∃ x' y' z, Plain.step x y v = (x', y', z) := ⟨_, _, _, rfl⟩
      have HS : Hid (Plain.step x y v = (x', y', z)) := hst
      have hz := Plain.step_says x y v
      rw [hst] at hz
      clear hst
      have hsn : Plain.step x y (Plain.nb (s.data.toList[i]'(by simpa using hlt))) = (x', y', z) := by rw [HB.out]; exact HS.out
      have HSN : Hid (Plain.step x y (Plain.nb (s.data.toList[i]'(by simpa using hlt))) = (x', y', z)) := hsn
      clear hsn
      rcases hz with hz | hz | hz
      · replace hz : z = 0 := hz
        subst hz
        go_wp2_with fail
        refine (step_named _ _ _ _ _ _ _ HS.out).mono ?_
        rintro e w1 ⟨rfl, rfl⟩
        go_wp2_with fail
        go_round
        case rel =>
          refine ⟨i + 1, x', y', by omega, rfl, rfl, by go_num, ?_⟩
          show _ = _
          rw [HI.out, Plain.R_on _ _ _ _ (by simpa using hlt) (by rw [HSN.out]), HSN.out]
        case measure => simp [intOf]; omega
      · replace hz : z = 1 := hz
        subst hz
        go_wp2_with fail
        refine (step_named _ _ _ _ _ _ _ HS.out).mono ?_
        rintro e w1 ⟨rfl, rfl⟩
        go_wp2_with fail
        have hR : Plain.R s.data.toList (a + 1) 0 0 = some (i + 1) := by rw [HI.out, Plain.R_close _ _ _ _ (by simpa using hlt) (by rw [HSN.out])]
        refine bodyPost_ret (v := .tuple #[.bool true, .int .i64 ((i : Int) + 1)]) (by simp [results, Try.results11, go_sem]) rfl ⟨?_, rfl⟩
        rw [hR]
        rfl
      · replace hz : z = 2 := hz
        subst hz
        go_wp2_with fail
        refine (step_named _ _ _ _ _ _ _ HS.out).mono ?_
        rintro e w1 ⟨rfl, rfl⟩
        go_wp2_with fail
        have hR : Plain.R s.data.toList (a + 1) 0 0 = none := by rw [HI.out, Plain.R_fail _ _ _ _ (by simpa using hlt) (by rw [HSN.out])]
        refine bodyPost_ret (v := .tuple #[.bool false, .int .i64 a]) (by simp [results, Try.results11, go_sem]) rfl ⟨?_, rfl⟩
        rw [hR]
        rfl
    · go_wp2_with fail
      have hR : Plain.R s.data.toList (a + 1) 0 0 = none := by rw [HI.out, Plain.R_end _ _ _ _ (by simp; omega)]
      refine bodyPost_ret (v := .tuple #[.bool false, .int .i64 a]) (by simp [results, Try.results11, go_sem]) rfl ⟨?_, rfl⟩
      rw [hR]
      rfl

/-! ### The model of a delimited part -/

theorem zzRes_ok (s what : ByteArray) (n : Nat) {x : Int} (hx : x = n) : Ending.returned (.tuple #[.bool false, .int .i64 0, .string ⟨#[]⟩, .int .i64 x]) = .returned (zzRes s what (0, n)) := by
  subst hx; rfl

theorem zzRes_bad (s what : ByteArray) (k n : Nat) (hk : k ≠ 0) {x y : Int} {u : ByteArray} (hx : x = fmin n s.size) (hy : y = n) (hu : u = whyOf k what) : Ending.returned (.tuple #[.bool true, .int .i64 x, .string u, .int .i64 y]) = .returned (zzRes s what (k, n)) := by
  subst hx hy hu
  simp only [zzRes, if_neg hk]

theorem fmin_lo (n k : Nat) (h : n ≤ k) : (n : Int) = fmin n k := by unfold fmin; rw [if_neg (by omega)]
theorem fmin_hi (n k : Nat) (h : k ≤ n) : (k : Int) = fmin n k := by unfold fmin; split <;> omega

set_option maxRecDepth 100000 in
set_option maxHeartbeats 4000000 in
theorem dmodel_any (s what : ByteArray) (br : Bool) (d : Int) (a : Nat) (w : World) (hs : s.size ≤ 1048576) (hwhat : what.size ≤ 1048576) (ha : a ≤ 9223372036854775807) :
    Calls Try.prog 16 #[.string s, .int .i64 a, .int .u8 d, .string what, .bool br] w fun e w' => e = .returned (zzRes s what (Plain.D br d s.data.toList a)) ∧ w' = w := by
  have hs' : (s.size : Int) ≤ 1048576 := by omega
  have hwh' : (what.size : Int) ≤ 1048576 := by omega
  go_enter Try.func16, Try.ntmps16
  go_wp2_with fail
  go_loop [14, 15, 16, 17, 18] (fun p q r t u => ∃ (md x y : Int) (o i : Nat), (md = 0 ∨ ((md = 1 ∨ md = 2) ∧ i ≤ s.size)) ∧ i ≤ 9223372036854775807 ∧ o ≤ s.size ∧ p = .int .i64 md ∧ q = .int .i64 x ∧ r = .int .u8 y ∧ t = .int .i64 o ∧ u = .int .i64 i ∧ Hid (Plain.D br d s.data.toList a = Plain.dl br d (s.data.toList.drop i) md x y o i)) (fun _ _ _ _ u => s.size - (intOf u).toNat)
  case atStart => exact ⟨0, 0, 0, 0, a, Or.inl rfl, ha, Nat.zero_le _, rfl, rfl, rfl, rfl, rfl, rfl⟩
  case round =>
    obtain ⟨md, x, y, o, i, hmd, hi, ho, rfl, rfl, rfl, rfl, rfl, HI⟩ := hrel
    by_cases hlt : i < s.size
    · have hlt' : (i : Int) < s.size := by omega
      generalize hv : (s[i].toNat : Int) = v
      have HB : Hid (Plain.nb (s.data.toList[i]'(by simpa using hlt)) = v) := hv
      have HDR : Hid (s.data.toList.drop i = s.data.toList[i]'(by simpa using hlt) :: s.data.toList.drop (i + 1)) := Plain.drop_at _ _ (by simpa using hlt)
      rcases hmd with rfl | ⟨rfl | rfl, hi2⟩
      · -- plain
        go_wp2_with fail
        · -- a newline
          have hD : Plain.D br d s.data.toList a = (1, i) := by
            rw [HI.out, HDR.out, Plain.dl_zero, HB.out, if_pos (by simpa using ‹(v == 10) = true›)]
          refine bodyPost_ret (v := .tuple #[.bool true, .int .i64 i, .string (whyOf 1 what), .int .i64 i]) (by simp [results, Try.results16, go_sem, whyOf]) rfl ⟨?_, rfl⟩
          rw [hD]
          exact zzRes_bad s what 1 i (by omega) (fmin_lo _ _ (by omega)) rfl rfl
        · -- the delimiter
          have hD : Plain.D br d s.data.toList a = (0, i + 1) := by
            rw [HI.out, HDR.out, Plain.dl_zero, HB.out, if_neg (by simpa using ‹(v == 10) = false›), if_pos (by simpa using ‹(v == d) = true›)]
          refine bodyPost_ret (v := .tuple #[.bool false, .int .i64 0, .string ⟨#[]⟩, .int .i64 ((i : Int) + 1)]) (by simp [results, Try.results16, go_sem]) rfl ⟨?_, rfl⟩
          rw [hD]
          exact zzRes_ok s what (i + 1) (by omega)
        · -- a backslash
          go_round
          case rel =>
            refine ⟨1, x, y, o, i + 1, Or.inr ⟨Or.inl rfl, by omega⟩, by omega, ho, rfl, rfl, rfl, rfl, by go_num, ?_⟩
            show _ = _
            rw [HI.out, HDR.out, Plain.dl_zero, HB.out, if_neg (by simpa using ‹(v == 10) = false›), if_neg (by simpa using ‹(v == d) = false›), if_pos (by simpa using ‹(v == 92) = true›)]
          case measure => simp [intOf]; omega
        · -- a bracket expression opens
          go_round
          case rel =>
            refine ⟨2, 0, 0, i, i + 1, Or.inr ⟨Or.inr rfl, by omega⟩, by omega, by omega, rfl, rfl, rfl, rfl, by go_num, ?_⟩
            show _ = _
            rw [HI.out, HDR.out, Plain.dl_zero, HB.out, if_neg (by simpa using ‹(v == 10) = false›), if_neg (by simpa using ‹(v == d) = false›), if_neg (by simpa using ‹(v == 92) = false›), if_pos ⟨‹v = 91›, ‹br = true›⟩]
          case measure => simp [intOf]; omega
        · -- an opening bracket that is a byte as any other
          go_round
          case rel =>
            refine ⟨0, x, y, o, i + 1, Or.inl rfl, by omega, ho, rfl, rfl, rfl, rfl, by go_num, ?_⟩
            show _ = _
            rw [HI.out, HDR.out, Plain.dl_zero, HB.out, if_neg (by simpa using ‹(v == 10) = false›), if_neg (by simpa using ‹(v == d) = false›), if_neg (by simpa using ‹(v == 92) = false›), if_neg (by rintro ⟨_, hbr⟩; rw [‹br = false›] at hbr; simp at hbr)]
          case measure => simp [intOf]; omega
        · -- another byte
          go_round
          case rel =>
            refine ⟨0, x, y, o, i + 1, Or.inl rfl, by omega, ho, rfl, rfl, rfl, rfl, by go_num, ?_⟩
            show _ = _
            rw [HI.out, HDR.out, Plain.dl_zero, HB.out, if_neg (by simpa using ‹(v == 10) = false›), if_neg (by simpa using ‹(v == d) = false›), if_neg (by simpa using ‹(v == 92) = false›), if_neg (by rintro ⟨h91, _⟩; exact absurd h91 ‹¬v = 91›)]
          case measure => simp [intOf]; omega
      · -- escaped
        go_wp2_with fail
        go_round
        case rel =>
          refine ⟨0, x, y, o, i + 1, Or.inl rfl, by omega, ho, rfl, rfl, rfl, rfl, by go_num, ?_⟩
          show _ = _
          rw [HI.out, HDR.out, Plain.dl_esc]
        case measure => simp [intOf]; omega
      · -- inside
        obtain ⟨x', y', z, hst⟩ : ∃ x' y' z, Plain.step x y v = (x', y', z) := ⟨_, _, _, rfl⟩
        have HS : Hid (Plain.step x y v = (x', y', z)) := hst
        have hz := Plain.step_says x y v
        rw [hst] at hz
        clear hst
        have hsn : Plain.step x y (Plain.nb (s.data.toList[i]'(by simpa using hlt))) = (x', y', z) := by rw [HB.out]; exact HS.out
        have HSN : Hid (Plain.step x y (Plain.nb (s.data.toList[i]'(by simpa using hlt))) = (x', y', z)) := hsn
        clear hsn
        rcases hz with hz | hz | hz
        · replace hz : z = 0 := hz
          subst hz
          go_wp2_with fail
          refine (step_named _ _ _ _ _ _ _ HS.out).mono ?_
          rintro e w1 ⟨rfl, rfl⟩
          go_wp2_with fail
          go_round
          case rel =>
            refine ⟨2, x', y', o, i + 1, Or.inr ⟨Or.inr rfl, by omega⟩, by omega, ho, rfl, rfl, rfl, rfl, by go_num, ?_⟩
            show _ = _
            rw [HI.out, HDR.out, Plain.dl_in, HSN.out]
            rfl
          case measure => simp [intOf]; omega
        · replace hz : z = 1 := hz
          subst hz
          go_wp2_with fail
          refine (step_named _ _ _ _ _ _ _ HS.out).mono ?_
          rintro e w1 ⟨rfl, rfl⟩
          go_wp2_with fail
          go_round
          case rel =>
            refine ⟨0, x', y', o, i + 1, Or.inl rfl, by omega, ho, rfl, rfl, rfl, rfl, by go_num, ?_⟩
            show _ = _
            rw [HI.out, HDR.out, Plain.dl_in, HSN.out]
            rfl
          case measure => simp [intOf]; omega
        · replace hz : z = 2 := hz
          subst hz
          go_wp2_with fail
          refine (step_named _ _ _ _ _ _ _ HS.out).mono ?_
          rintro e w1 ⟨rfl, rfl⟩
          go_wp2_with fail
          have hD : Plain.D br d s.data.toList a = (2, o) := by
            rw [HI.out, HDR.out, Plain.dl_in, HSN.out]
            rfl
          refine bodyPost_ret (v := .tuple #[.bool true, .int .i64 o, .string (whyOf 2 what), .int .i64 o]) (by simp [results, Try.results16, go_sem, whyOf]) rfl ⟨?_, rfl⟩
          rw [hD]
          exact zzRes_bad s what 2 o (by omega) (fmin_lo _ _ ho) rfl rfl
    · rcases hmd with rfl | ⟨rfl | rfl, hi2⟩
      · go_wp2_with fail
        have hD : Plain.D br d s.data.toList a = (1, i) := by
          rw [HI.out, List.drop_eq_nil_of_le (by simp; omega)]
          rfl
        refine bodyPost_ret (v := .tuple #[.bool true, .int .i64 s.size, .string (whyOf 1 what), .int .i64 i]) (by simp [results, Try.results16, go_sem, whyOf]) rfl ⟨?_, rfl⟩
        rw [hD]
        exact zzRes_bad s what 1 i (by omega) (fmin_hi _ _ (by omega)) rfl rfl
      · go_wp2_with fail
        have hD : Plain.D br d s.data.toList a = (1, i + 1) := by
          rw [HI.out, List.drop_eq_nil_of_le (by simp; omega)]
          rfl
        refine bodyPost_ret (v := .tuple #[.bool true, .int .i64 s.size, .string (whyOf 1 what), .int .i64 ((s.size : Int) + 1)]) (by simp [results, Try.results16, go_sem, whyOf]) rfl ⟨?_, rfl⟩
        rw [hD]
        exact zzRes_bad s what 1 (i + 1) (by omega) (fmin_hi _ _ (by omega)) (by omega) rfl
      · go_wp2_with fail
        have hD : Plain.D br d s.data.toList a = (2, o) := by
          rw [HI.out, List.drop_eq_nil_of_le (by simp; omega)]
          rfl
        refine bodyPost_ret (v := .tuple #[.bool true, .int .i64 o, .string (whyOf 2 what), .int .i64 o]) (by simp [results, Try.results16, go_sem, whyOf]) rfl ⟨?_, rfl⟩
        rw [hD]
        exact zzRes_bad s what 2 o (by omega) (fmin_lo _ _ ho) rfl rfl

end Go.Proofs.Qxb6603149a
