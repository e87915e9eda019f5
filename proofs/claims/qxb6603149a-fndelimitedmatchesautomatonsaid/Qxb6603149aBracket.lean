/- Seat b6603149a: the walk of bracket. -/
import Derived.Test.Qxb6603149aLibc
import Derived.WalkKit
import Derived.WalkSpells
import Derived.WalkLawsBesides
namespace Go.Proofs.Qxb6603149a
open Go.RowKit

/-- The byte at a place, as the walk spells it. -/
theorem byte_at (s : ByteArray) (i : Nat) (h : i < s.size) : (s[i].toNat : Int) = Plain.nb (s.data.toList[i]'(by simpa using h)) := rfl

theorem extract_list (s : ByteArray) (i : Nat) : (s.extract i s.size).data.toList = s.data.toList.drop i := by
  have h : s.size = s.data.toList.length := by simp
  simp
  rw [List.take_of_length_le]
  simp

theorem hp_yes (s : ByteArray) (i : Nat) (c : UInt8) (w : World) (h : i < s.size) (hc : s.data.toList[i]'(by simpa using h) = c) :
    Calls Try.prog 22 #[.string (s.extract i s.size), .string ⟨#[c]⟩] w fun e w' => e = .returned (.bool true) ∧ w' = w := by
  refine (hasPrefix22 _ _ _).mono ?_
  rintro e w' ⟨rfl, rfl⟩
  refine ⟨?_, rfl⟩
  have e1 : (s.extract i s.size).data.toList = s.data.toList.drop i := extract_list s i
  rw [e1, Plain.drop_at _ _ (by simpa using h), hc]
  simp [Lib.hasPrefix]

theorem hp_no (s : ByteArray) (i : Nat) (c : UInt8) (w : World) (hc : ∀ h : i < s.data.toList.length, s.data.toList[i] ≠ c) :
    Calls Try.prog 22 #[.string (s.extract i s.size), .string ⟨#[c]⟩] w fun e w' => e = .returned (.bool false) ∧ w' = w := by
  refine (hasPrefix22 _ _ _).mono ?_
  rintro e w' ⟨rfl, rfl⟩
  refine ⟨?_, rfl⟩
  have e1 : (s.extract i s.size).data.toList = s.data.toList.drop i := extract_list s i
  rw [e1]
  by_cases h : i < s.data.toList.length
  · rw [Plain.drop_at _ _ h]
    have hne : (c == s.data.toList[i]) = false := beq_eq_false_iff_ne.2 (Ne.symm (hc h))
    unfold Lib.hasPrefix
    rw [List.isPrefixOf, hne]
    rfl
  · rw [List.drop_eq_nil_of_le (by omega)]
    simp [Lib.hasPrefix]

theorem mark_yes (m : UInt8) (w : World) (h : Plain.nb m = 58 ∨ Plain.nb m = 61 ∨ Plain.nb m = 46) :
    Calls Try.prog 23 #[.string ⟨#[58, 61, 46]⟩, .int .u8 m.toNat] w fun e w' => (∃ r : Int, 0 ≤ r ∧ e = .returned (.int .i64 r)) ∧ w' = w := by
  refine (indexByte23 _ _ _).mono ?_
  rintro e w' ⟨rfl, rfl⟩
  refine ⟨⟨_, ?_, rfl⟩, rfl⟩
  have hm : m = 58 ∨ m = 61 ∨ m = 46 := by
    rcases h with h | h | h
    · exact Or.inl (Plain.nb_inj h)
    · exact Or.inr (Or.inl (Plain.nb_inj h))
    · exact Or.inr (Or.inr (Plain.nb_inj h))
  rcases hm with rfl | rfl | rfl <;> decide

theorem mark_no (m : UInt8) (w : World) (h : ¬ (Plain.nb m = 58 ∨ Plain.nb m = 61 ∨ Plain.nb m = 46)) :
    Calls Try.prog 23 #[.string ⟨#[58, 61, 46]⟩, .int .u8 m.toNat] w fun e w' => e = .returned (.int .i64 (-1)) ∧ w' = w := by
  refine (indexByte23 _ _ _).mono ?_
  rintro e w' ⟨rfl, rfl⟩
  refine ⟨?_, rfl⟩
  have e1 : ((m.toNat : Int)).toNat.toUInt8 = m := by simp
  rw [e1]
  have h1 : ((58 : UInt8) == m) = false := beq_eq_false_iff_ne.2 (fun e => h (Or.inl (by rw [← e]; rfl)))
  have h2 : ((61 : UInt8) == m) = false := beq_eq_false_iff_ne.2 (fun e => h (Or.inr (Or.inl (by rw [← e]; rfl))))
  have h3 : ((46 : UInt8) == m) = false := beq_eq_false_iff_ne.2 (fun e => h (Or.inr (Or.inr (by rw [← e]; rfl))))
  simp [Lib.indexByte, h1, h2, h3]

theorem encode_mark (m : UInt8) (h : Plain.nb m = 58 ∨ Plain.nb m = 61 ∨ Plain.nb m = 46) : Utf8.encode (m.toNat : Int) = ⟨#[m]⟩ := by
  have hm : m = 58 ∨ m = 61 ∨ m = 46 := by
    rcases h with h | h | h
    · exact Or.inl (Plain.nb_inj h)
    · exact Or.inr (Or.inl (Plain.nb_inj h))
    · exact Or.inr (Or.inr (Plain.nb_inj h))
  rcases hm with rfl | rfl | rfl <;> decide

theorem idx_class (s : ByteArray) (i : Nat) (mb : UInt8) (m : Int) (w : World) (hs : s.size ≤ 1048576) (hm : w.cell? ⟨0, 0, none⟩ = some (.int .i64 m)) :
    Calls Try.prog 24 #[.string (s.extract i s.size), .string (⟨#[mb]⟩ ++ ⟨#[93]⟩)] w fun e w' => e = .returned (.int .i64 (Lib.index (s.data.toList.drop i) [mb, 93])) ∧ w' = w := by
  refine (index24 _ _ m _ ?_ hm).mono ?_
  · rw [ByteArray.size_extract]; omega
  · rintro e w' ⟨rfl, rfl⟩
    refine ⟨?_, rfl⟩
    rw [extract_list]
    have e2 : ((⟨#[mb]⟩ : ByteArray) ++ ⟨#[93]⟩).data.toList = [mb, 93] := by simp
    rw [e2]

theorem nl_yes (x : ByteArray) (w : World) (h : (10 : UInt8) ∈ x.data.toList) :
    Calls Try.prog 23 #[.string x, .int .u8 10] w fun e w' => (∃ r : Int, 0 ≤ r ∧ e = .returned (.int .i64 r)) ∧ w' = w := by
  refine (indexByte23 _ _ _).mono ?_
  rintro e w' ⟨rfl, rfl⟩
  exact ⟨⟨_, (Plain.indexByte_mem _ _).1 h, rfl⟩, rfl⟩

theorem nl_no (x : ByteArray) (w : World) (h : (10 : UInt8) ∉ x.data.toList) :
    Calls Try.prog 23 #[.string x, .int .u8 10] w fun e w' => e = .returned (.int .i64 (-1)) ∧ w' = w := by
  refine (indexByte23 _ _ _).mono ?_
  rintro e w' ⟨rfl, rfl⟩
  refine ⟨?_, rfl⟩
  rw [show ((10 : Int).toNat.toUInt8) = 10 by decide, (Plain.indexByte_mem _ _).2 h]

theorem piece_list (s : ByteArray) (i e : Nat) : ((s.extract i s.size).extract 0 e).data.toList = (s.data.toList.drop i).take e := by
  have h : (((s.extract i s.size).extract 0 e)).data.toList = (s.extract i s.size).data.toList.take e := by
    generalize s.extract i s.size = x
    simp
  rw [h, extract_list]

/-- What bracket leaves. -/
def BrPost (s : ByteArray) (a b : Nat) (w : World) (e : Ending) (w' : World) : Prop :=
  (Plain.R s.data.toList (a + 1) 0 0 = none ∧ e = .returned (.bool false) ∧ w' = w) ∨
  (∃ k : Nat, Plain.R s.data.toList (a + 1) 0 0 = some k ∧ e = .returned (.bool true) ∧ w' = w.setCell ⟨b, 2, none⟩ (.int .i64 k))

set_option maxRecDepth 100000 in
set_option maxHeartbeats 4000000 in
theorem bracket_any (s : ByteArray) (a b : Nat) (m : Int) (w : World) (hs : s.size ≤ 1048576) (ha : a < s.size) (c0 : w.cell? ⟨b, 0, none⟩ = some (.string s)) (c2 : w.cell? ⟨b, 2, none⟩ = some (.int .i64 a))
    (hf : w.frozen? ⟨b, 2, none⟩ = false) (hm : w.cell? ⟨0, 0, none⟩ = some (.int .i64 m)) :
    Calls Try.prog 19 #[.pointer (some ⟨b, 0, none⟩)] w (BrPost s a b w) := by
  have hs' : (s.size : Int) ≤ 1048576 := by omega
  have ha' : (a : Int) < s.size := by omega
  have hsz : s.data.toList.length = s.size := by simp
  -- where the loop begins, by the two tests ahead of it
  obtain ⟨b1, b2, j, P1, P2, hj, hb1, hja, HR⟩ : ∃ (b1 b2 : Bool) (j : Nat),
      Hid (∀ w, Calls Try.prog 22 #[.string (s.extract (a + 1) s.size), .string ⟨#[94]⟩] w fun e w' => e = .returned (.bool b1) ∧ w' = w) ∧
      Hid (∀ w, Calls Try.prog 22 #[.string (s.extract (if b1 = true then a + 2 else a + 1) s.size), .string ⟨#[93]⟩] w fun e w' => e = .returned (.bool b2) ∧ w' = w) ∧
      j ≤ s.size ∧ ((if b1 = true then (a : Int) + 2 else a + 1) ≤ s.size) ∧ Hid (j = (if b1 = true then a + 2 else a + 1) + (if b2 = true then 1 else 0)) ∧
      Hid (Plain.R s.data.toList (a + 1) 0 0 = Plain.R s.data.toList j 2 0) := by
    by_cases h1 : ∃ h : a + 1 < s.data.toList.length, s.data.toList[a + 1] = 94
    · obtain ⟨h1, e1⟩ := h1
      by_cases h2 : ∃ h : a + 2 < s.data.toList.length, s.data.toList[a + 2] = 93
      · obtain ⟨h2, e2⟩ := h2
        refine ⟨true, true, a + 3, fun w => hp_yes s (a + 1) 94 w (by omega) e1, fun w => hp_yes s (a + 2) 93 w (by omega) e2, by omega, by simp; omega, by simp [Hid], ?_⟩
        show _ = _
        rw [Plain.R_open_caret _ _ h1 (by rw [e1]; rfl), Plain.R_open_close _ _ 1 (Or.inr rfl) h2 (by rw [e2]; rfl)]
      · refine ⟨true, false, a + 2, fun w => hp_yes s (a + 1) 94 w (by omega) e1, fun w => hp_no s (a + 2) 93 w (fun h e => h2 ⟨h, e⟩), by omega, by simp; omega, by simp [Hid], ?_⟩
        show _ = _
        rw [Plain.R_open_caret _ _ h1 (by rw [e1]; rfl)]
        exact Plain.R_open_else _ _ 1 (Or.inr rfl) (fun h => by omega) (fun h e => h2 ⟨h, Plain.nb_inj e⟩)
    · by_cases h2 : ∃ h : a + 1 < s.data.toList.length, s.data.toList[a + 1] = 93
      · obtain ⟨h2, e2⟩ := h2
        refine ⟨false, true, a + 2, fun w => hp_no s (a + 1) 94 w (fun h e => h1 ⟨h, e⟩), fun w => hp_yes s (a + 1) 93 w (by omega) e2, by omega, by simp; omega, by simp [Hid], ?_⟩
        show _ = _
        rw [Plain.R_open_close _ _ 0 (Or.inl rfl) h2 (by rw [e2]; rfl)]
      · refine ⟨false, false, a + 1, fun w => hp_no s (a + 1) 94 w (fun h e => h1 ⟨h, e⟩), fun w => hp_no s (a + 1) 93 w (fun h e => h2 ⟨h, e⟩), by omega, by simp; omega, by simp [Hid], ?_⟩
        exact Plain.R_open_else _ _ 0 (Or.inl rfl) (fun _ h e => h1 ⟨h, Plain.nb_inj e⟩) (fun h e => h2 ⟨h, Plain.nb_inj e⟩)
  clear hsz
  cases b1 <;> cases b2
  all_goals
    simp only [if_true, if_false, Bool.false_eq_true, Nat.add_zero] at P2 hja hb1
    go_enter Try.func19, Try.ntmps19
    go_wp2_with fail
    refine (P1.out _).mono ?_
    rintro e w' ⟨rfl, rfl⟩
    go_wp2_with fail
    refine (P2.out _).mono ?_
    rintro e w' ⟨rfl, rfl⟩
    go_wp2_with fail
    go_loop [3] (fun v => ∃ i : Nat, i ≤ s.size ∧ v = .int .i64 i ∧ Hid (Plain.R s.data.toList (a + 1) 0 0 = Plain.R s.data.toList i 2 0)) (fun v => s.size - (intOf v).toNat)
    case atStart => exact ⟨j, hj, by rw [hja.out]; go_num, HR⟩
    case round =>
      obtain ⟨i, hi1, rfl, HI⟩ := hrel
      by_cases hlt : i < s.size
      · have hlt' : (i : Int) < s.size := by omega
        generalize hb : (s[i].toNat : Int) = v
        have HB : Hid (Plain.nb (s.data.toList[i]'(by simpa using hlt)) = v) := hb
        go_wp2_with fail
        · -- a newline
          go_ret
          refine Or.inl ⟨?_, rfl, rfl⟩
          rw [HI.out]
          exact Plain.R_newline _ _ _ (by rw [HB.out]; simpa using ‹(v == 10) = true›)
        · -- the closing bracket
          go_ret
          refine Or.inr ⟨i + 1, ?_, rfl, by go_num⟩
          rw [HI.out]
          exact Plain.R_shut _ _ _ (by rw [HB.out]; simpa using ‹(v == 93) = true›)
        · -- an opening bracket, and a byte behind it
          have hlt1 : i + 1 < s.size := by omega
          have h91 : v = 91 := by simpa using ‹(v == 91) = true›
          have H91 : Hid (Plain.nb (s.data.toList[i]'(by simpa using hlt)) = 91) := by show _ = _; rw [HB.out, h91]
          clear h91
          by_cases hmk : Plain.nb (s.data.toList[i + 1]'(by simpa using hlt1)) = 58 ∨ Plain.nb (s.data.toList[i + 1]'(by simpa using hlt1)) = 61 ∨ Plain.nb (s.data.toList[i + 1]'(by simpa using hlt1)) = 46
          · refine (mark_yes _ _ hmk).mono ?_
            rintro e w1 ⟨⟨r, hr, rfl⟩, rfl⟩
            have hlt2 : (i : Int) + 1 + 1 ≤ s.size := by omega
            have henc : Utf8.encode (s[i + 1].toNat : Int) = ⟨#[s[i + 1]]⟩ := encode_mark _ hmk
            have HC : Hid (Plain.R s.data.toList (a + 1) 0 0 = Plain.R s.data.toList (i + 2) 4 (Plain.nb (s.data.toList[i + 1]'(by simpa using hlt1)))) := by
              show _ = _
              rw [HI.out, Plain.R_class _ _ (by simpa using hlt) H91.out (by simpa using hlt1) hmk]
            have HMK : Hid (Plain.nb (s.data.toList[i + 1]'(by simpa using hlt1)) = 58 ∨ Plain.nb (s.data.toList[i + 1]'(by simpa using hlt1)) = 61 ∨ Plain.nb (s.data.toList[i + 1]'(by simpa using hlt1)) = 46) := hmk
            clear hmk
            go_wp2_with fail
            refine (idx_class s (i + 2) s[i + 1] m _ hs hm).mono ?_
            rintro e w2 ⟨rfl, rfl⟩
            have hge := Lib.index_ge (s.data.toList.drop (i + 2)) [s[i + 1], 93]
            generalize hN : Lib.index (s.data.toList.drop (i + 2)) [s[i + 1], 93] = N at hge
            have HN : Hid (Lib.index (s.data.toList.drop (i + 2)) [s[i + 1], 93] = N) := hN
            clear hN
            by_cases hneg : N < 0
            · go_wp2_with fail
              go_ret
              refine Or.inl ⟨?_, rfl, rfl⟩
              rw [HC.out]
              exact Plain.R_class_none _ _ _ HMK.out (by have := HN.out; show Lib.index (s.data.toList.drop (i + 2)) [s[i + 1], 93] < 0; omega)
            · obtain ⟨q, rfl⟩ := Int.eq_ofNat_of_zero_le (by omega : 0 ≤ N)
              have hroom : q + 2 ≤ s.size - (i + 2) := by
                have := Plain.index_room _ _ _ _ HN.out
                simpa using this
              have hq0 : (0 : Int) ≤ (q : Int) := by omega
              have hq1 : (q : Int) ≤ (s.size : Int) - (i + 2) := by omega
              have hqd : decide ((q : Int) < 0) = false := decide_eq_false hneg
              by_cases hnl : (10 : UInt8) ∈ (s.data.toList.drop (i + 2)).take q
              · go_wp2_with fail
                refine (nl_yes _ _ (by rw [piece_list]; exact hnl)).mono ?_
                rintro e w3 ⟨⟨r3, hr3, rfl⟩, rfl⟩
                go_wp2_with fail
                go_ret
                refine Or.inl ⟨?_, rfl, rfl⟩
                rw [HC.out]
                exact Plain.R_class_newline _ _ q _ HMK.out HN.out hnl
              · go_wp2_with fail
                refine (nl_no _ _ (by rw [piece_list]; exact hnl)).mono ?_
                rintro e w3 ⟨rfl, rfl⟩
                go_wp2_with fail
                go_round
                case rel =>
                  refine ⟨i + 2 + q + 2, by omega, by go_num, ?_⟩
                  show _ = _
                  rw [HC.out]
                  exact Plain.R_class_some _ _ q _ HMK.out HN.out hnl
                case measure => simp [intOf]; omega
          · refine (mark_no _ _ hmk).mono ?_
            rintro e w1 ⟨rfl, rfl⟩
            have HMK : Hid (¬ (Plain.nb (s.data.toList[i + 1]'(by simpa using hlt1)) = 58 ∨ Plain.nb (s.data.toList[i + 1]'(by simpa using hlt1)) = 61 ∨ Plain.nb (s.data.toList[i + 1]'(by simpa using hlt1)) = 46)) := hmk
            clear hmk
            go_wp2_with fail
            go_round
            case rel =>
              refine ⟨i + 1, by omega, by go_num, ?_⟩
              show _ = _
              rw [HI.out]
              exact Plain.R_open_bare _ _ (by simpa using hlt) H91.out (fun _ => ⟨fun h => HMK.out (Or.inl h), fun h => HMK.out (Or.inr (Or.inl h)), fun h => HMK.out (Or.inr (Or.inr h))⟩)
            case measure => simp [intOf]; omega
        · -- an opening bracket at the end
          have h91 : v = 91 := by simpa using ‹(v == 91) = true›
          have H91 : Hid (Plain.nb (s.data.toList[i]'(by simpa using hlt)) = 91) := by show _ = _; rw [HB.out, h91]
          clear h91
          have hend : ¬ i + 1 < s.size := by omega
          go_round
          case rel =>
            refine ⟨i + 1, by omega, by go_num, ?_⟩
            show _ = _
            rw [HI.out]
            exact Plain.R_open_bare _ _ (by simpa using hlt) H91.out (fun h => absurd (by simpa using h) hend)
          case measure => simp [intOf]; omega
        · -- another byte
          go_round
          case rel =>
            refine ⟨i + 1, by omega, by go_num, ?_⟩
            show _ = _
            rw [HI.out]
            exact Plain.R_other _ _ (by simpa using hlt) (by rw [HB.out]; simpa using ‹(v == 10) = false›) (by rw [HB.out]; simpa using ‹(v == 93) = false›) (by rw [HB.out]; simpa using ‹(v == 91) = false›)
          case measure => simp [intOf]; omega
      · go_wp2_with fail
        go_ret
        refine Or.inl ⟨?_, rfl, rfl⟩
        rw [HI.out]
        exact Plain.R_end _ _ _ _ (by simp; omega)

end Go.Proofs.Qxb6603149a
