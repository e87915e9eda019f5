/- Seat b6603734a: the small walks. -/
import Derived.Test.Qxb6603734aShelf
import Derived.Test.Qxb6603734aPlain
import Derived.WalkKit
import Derived.WalkSpells
import Derived.WalkLawsBesides
import Derived.Deep.Light
namespace Go.Proofs.Qxb6603734a
open Go.RowKit

theorem ret_bool {a b : Bool} (h : a = b) : Ending.returned (.bool a) = .returned (.bool b) := by rw [h]

/-- The byte at a place, as the walk spells it. -/
theorem bt_at (s : ByteArray) (k : Nat) (h : k < s.size) : (s[k].toNat : Int) = Plain.bt s.data.toList k := by
  unfold Plain.bt
  rw [List.getD_eq_getElem?_getD, List.getElem?_eq_getElem (by simpa using h)]
  rfl

set_option maxHeartbeats 400000 in
theorem bytes4_yes (s : ByteArray) (a b c d : Int) (fl : Bool) (w : World) (h : s.size ≤ 1048576) :
    Calls Try.prog 4 #[.string s, .int .i64 a, .int .i64 b, .int .i64 c, .int .i64 d, .bool fl] w fun e w' => e = .returned (.bool true) ∧ w' = w := by
  have h1 : (s.size : Int) ≤ 1048576 := by omega
  go_enter Try.func4, Try.ntmps4
  go_wp2
  go_ret
  exact ⟨rfl, rfl⟩

set_option maxHeartbeats 400000 in
theorem bytes4_no (s : ByteArray) (a b c d : Int) (fl : Bool) (w : World) (hs : s.size ≤ maxLen) (h : ¬ s.size ≤ 1048576) :
    Calls Try.prog 4 #[.string s, .int .i64 a, .int .i64 b, .int .i64 c, .int .i64 d, .bool fl] w fun e w' => e = .returned (.bool false) ∧ w' = w := by
  unfold maxLen at hs
  go_enter Try.func4, Try.ntmps4
  go_wp2
  all_goals first | (exfalso; omega) | (go_ret; exact ⟨rfl, rfl⟩)

theorem toList_bytes (x : ByteArray) : x.toList = x.data.toList := Lib.toList_data x

set_option maxHeartbeats 400000 in
theorem null_any (x : ByteArray) (w : World) :
    Calls Try.prog 10 #[.string x] w fun e w' => e = .returned (.bool (Plain.nullB x.data.toList)) ∧ w' = w := by
  rw [← toList_bytes]
  go_enter Try.func10, Try.ntmps10
  go_wp2
  all_goals
    go_ret
    refine ⟨ret_bool ?_, rfl⟩
    go_light
    simp_all [Plain.nullB]

set_option maxRecDepth 100000 in
set_option maxHeartbeats 2000000 in
theorem refused_any (s : ByteArray) (a : Nat) (w : World) (hs : s.size ≤ 1048576) (ha : a < s.size) :
    Calls Try.prog 8 #[.string s, .int .i64 a] w fun e w' => e = .returned (.bool (Plain.refB s.data.toList a)) ∧ w' = w := by
  have hs' : (s.size : Int) ≤ 1048576 := by omega
  have ha' : (a : Int) < s.size := by omega
  have hlen : s.data.toList.length = s.size := by simp
  have HL : Hid (s.data.toList.length = s.size) := hlen
  clear hlen
  generalize hv : (s[a].toNat : Int) = v
  have HV : Hid (Plain.bt s.data.toList a = v) := (bt_at s a ha).symm.trans hv
  by_cases h45 : v = 45
  · subst h45
    by_cases h1 : a + 1 < s.size
    · have h1' : (a : Int) + 1 < s.size := by omega
      generalize hu : (s[a + 1].toNat : Int) = u
      have HU : Hid (Plain.bt s.data.toList (a + 1) = u) := (bt_at s (a + 1) h1).symm.trans hu
      have hr : Plain.refB s.data.toList a = decide (u = 32 ∨ u = 10 ∨ u = 13) := by
        unfold Plain.refB
        rw [HV.out, if_pos rfl, HU.out, HL.out]
        have : ¬ a + 1 = s.size := by omega
        simp [this]
      rw [hr]
      clear hr
      go_enter Try.func8, Try.ntmps8
      go_wp2
      all_goals
        go_ret
        refine ⟨ret_bool ?_, rfl⟩
        go_light
        rw [Bool.eq_iff_iff]
        try simp
        try omega
    · have h1' : (a : Int) + 1 = s.size := by omega
      have hr : Plain.refB s.data.toList a = true := by
        unfold Plain.refB
        rw [HV.out, if_pos rfl, HL.out]
        have : a + 1 = s.size := by omega
        simp [this]
      rw [hr]
      clear hr
      go_enter Try.func8, Try.ntmps8
      go_wp2
      all_goals
        go_ret
        refine ⟨ret_bool ?_, rfl⟩
        go_light
        rw [Bool.eq_iff_iff]
        try simp
        try omega
  · have h45b : (v == 45) = false := by simpa using h45
    have hr : Plain.refB s.data.toList a = decide (v ∈ [63, 58, 44, 91, 93, 123, 125, 35, 38, 42, 33, 124, 62, 37, 64, 96]) := by
      unfold Plain.refB
      rw [HV.out, if_neg h45]
    rw [hr]
    clear hr h45
    go_enter Try.func8, Try.ntmps8
    go_wp2
    all_goals
      go_ret
      refine ⟨ret_bool ?_, rfl⟩
      go_light
      simp_all

theorem indexByte_mem : ∀ (l : List UInt8) (c : UInt8), (c ∈ l → 0 ≤ Lib.indexByte l c) ∧ (c ∉ l → Lib.indexByte l c = -1) := by
  intro l c
  induction l with
  | nil => exact ⟨fun h => by simp at h, fun _ => rfl⟩
  | cons b l ih =>
    obtain ⟨i1, i2⟩ := ih
    unfold Lib.indexByte
    by_cases hb : b = c
    · subst hb
      exact ⟨fun _ => by simp, fun h => absurd (List.mem_cons_self ..) h⟩
    · have hb' : (b == c) = false := beq_eq_false_iff_ne.2 hb
      rw [hb']
      have hmem : c ∈ b :: l ↔ c ∈ l := by
        rw [List.mem_cons]
        exact ⟨fun h => h.resolve_left (fun e => hb e.symm), Or.inr⟩
      refine ⟨fun h => ?_, fun h => ?_⟩
      · have h0 := i1 (hmem.1 h)
        have hne : (Lib.indexByte l c == -1) = false := beq_eq_false_iff_ne.2 (by omega)
        simp only [hne, Bool.false_eq_true, if_false]
        omega
      · have h0 := i2 (fun h' => h (hmem.2 h'))
        rw [h0]
        simp

theorem byte_lit (m : UInt8) (n : Nat) (hn : n < 256) : m = UInt8.ofNat n ↔ (m.toNat : Int) = n := by
  constructor
  · rintro rfl
    simp [Nat.mod_eq_of_lt hn]
  · intro h
    apply UInt8.toNat_inj.1
    simp [Nat.mod_eq_of_lt hn]
    omega

theorem mark13 (m : UInt8) (w : World) (h34 : ¬ (m.toNat : Int) = 34) (h39 : ¬ (m.toNat : Int) = 39) :
    Calls Try.prog 13 #[.string ⟨#[63, 58, 44, 91, 93, 123, 125, 35, 38, 42, 33, 124, 62, 39, 34, 37, 64, 96]⟩, .int .u8 m.toNat] w fun e w' =>
      ∃ r : Int, e = .returned (.int .i64 r) ∧ w' = w ∧ decide (r < 0) = !decide ((m.toNat : Int) ∈ [63, 58, 44, 91, 93, 123, 125, 35, 38, 42, 33, 124, 62, 37, 64, 96]) := by
  refine (Try.strings_IndexByte _ _ _).mono ?_
  rintro e w' ⟨rfl, rfl⟩
  refine ⟨_, rfl, rfl, ?_⟩
  have e1 : ((m.toNat : Int)).toNat.toUInt8 = m := by simp
  rw [e1]
  obtain ⟨i1, i2⟩ := indexByte_mem [63, 58, 44, 91, 93, 123, 125, 35, 38, 42, 33, 124, 62, 39, 34, 37, 64, 96] m
  have hiff : m ∈ [63, 58, 44, 91, 93, 123, 125, 35, 38, 42, 33, 124, 62, 39, 34, 37, 64, 96] ↔ (m.toNat : Int) ∈ [63, 58, 44, 91, 93, 123, 125, 35, 38, 42, 33, 124, 62, 37, 64, 96] := by
    have hb := fun n hn => byte_lit m n hn
    have g63 := hb 63 (by omega)
    have g58 := hb 58 (by omega)
    have g44 := hb 44 (by omega)
    have g91 := hb 91 (by omega)
    have g93 := hb 93 (by omega)
    have g123 := hb 123 (by omega)
    have g125 := hb 125 (by omega)
    have g35 := hb 35 (by omega)
    have g38 := hb 38 (by omega)
    have g42 := hb 42 (by omega)
    have g33 := hb 33 (by omega)
    have g124 := hb 124 (by omega)
    have g62 := hb 62 (by omega)
    have g39 := hb 39 (by omega)
    have g34 := hb 34 (by omega)
    have g37 := hb 37 (by omega)
    have g64 := hb 64 (by omega)
    have g96 := hb 96 (by omega)
    simp only [List.mem_cons, List.not_mem_nil, or_false]
    show m = UInt8.ofNat 63 ∨ m = UInt8.ofNat 58 ∨ m = UInt8.ofNat 44 ∨ m = UInt8.ofNat 91 ∨ m = UInt8.ofNat 93 ∨ m = UInt8.ofNat 123 ∨ m = UInt8.ofNat 125 ∨ m = UInt8.ofNat 35 ∨ m = UInt8.ofNat 38 ∨ m = UInt8.ofNat 42 ∨ m = UInt8.ofNat 33 ∨ m = UInt8.ofNat 124 ∨ m = UInt8.ofNat 62 ∨ m = UInt8.ofNat 39 ∨ m = UInt8.ofNat 34 ∨ m = UInt8.ofNat 37 ∨ m = UInt8.ofNat 64 ∨ m = UInt8.ofNat 96 ↔ _
    rw [g63, g58, g44, g91, g93, g123, g125, g35, g38, g42, g33, g124, g62, g39, g34, g37, g64, g96]
    omega
  by_cases hm : (m.toNat : Int) ∈ [63, 58, 44, 91, 93, 123, 125, 35, 38, 42, 33, 124, 62, 37, 64, 96]
  · have := i1 (hiff.2 hm)
    have hn : ¬ Lib.indexByte [63, 58, 44, 91, 93, 123, 125, 35, 38, 42, 33, 124, 62, 39, 34, 37, 64, 96] m < 0 := by omega
    rw [decide_eq_true hm]
    exact decide_eq_false hn
  · have := i2 (fun h => hm (hiff.1 h))
    have hn : Lib.indexByte [63, 58, 44, 91, 93, 123, 125, 35, 38, 42, 33, 124, 62, 39, 34, 37, 64, 96] m < 0 := by omega
    rw [decide_eq_false hm]
    exact decide_eq_true hn

set_option maxRecDepth 100000 in
set_option maxHeartbeats 2000000 in
theorem start_any (s : ByteArray) (a : Nat) (w : World) (hs : s.size ≤ 1048576) (ha : a < s.size) (hq : ¬ (Plain.bt s.data.toList a = 34 ∨ Plain.bt s.data.toList a = 39)) :
    Calls Try.prog 12 #[.string s, .int .i64 a] w fun e w' => e = .returned (.bool (!Plain.refB s.data.toList a)) ∧ w' = w := by
  have hs' : (s.size : Int) ≤ 1048576 := by omega
  have ha' : (a : Int) < s.size := by omega
  have hlen : s.data.toList.length = s.size := by simp
  have HL : Hid (s.data.toList.length = s.size) := hlen
  clear hlen
  generalize hv : (s[a].toNat : Int) = v
  have HV : Hid (Plain.bt s.data.toList a = v) := (bt_at s a ha).symm.trans hv
  rw [HV.out] at hq
  by_cases h45 : v = 45
  · subst h45
    by_cases h1 : a + 1 < s.size
    · have h1' : (a : Int) + 1 < s.size := by omega
      generalize hu : (s[a + 1].toNat : Int) = u
      have HU : Hid (Plain.bt s.data.toList (a + 1) = u) := (bt_at s (a + 1) h1).symm.trans hu
      have hr : Plain.refB s.data.toList a = decide (u = 32 ∨ u = 10 ∨ u = 13) := by
        unfold Plain.refB
        rw [HV.out, if_pos rfl, HU.out, HL.out]
        have : ¬ a + 1 = s.size := by omega
        simp [this]
      rw [hr]
      clear hr hq
      go_enter Try.func12, Try.ntmps12
      go_wp2
      all_goals
        go_ret
        refine ⟨ret_bool ?_, rfl⟩
        go_light
        rw [Bool.eq_iff_iff]
        try simp
        try omega
    · have h1' : (a : Int) + 1 = s.size := by omega
      have hr : Plain.refB s.data.toList a = true := by
        unfold Plain.refB
        rw [HV.out, if_pos rfl, HL.out]
        have : a + 1 = s.size := by omega
        simp [this]
      rw [hr]
      clear hr hq
      go_enter Try.func12, Try.ntmps12
      go_wp2
      all_goals
        go_ret
        refine ⟨ret_bool ?_, rfl⟩
        go_light
        rw [Bool.eq_iff_iff]
        try simp
        try omega
  · have h45b : (v == 45) = false := by simpa using h45
    have hr : Plain.refB s.data.toList a = decide (v ∈ [63, 58, 44, 91, 93, 123, 125, 35, 38, 42, 33, 124, 62, 37, 64, 96]) := by
      unfold Plain.refB
      rw [HV.out, if_neg h45]
    rw [hr]
    clear hr h45
    subst hv
    go_enter Try.func12, Try.ntmps12
    go_wp2_with fail
    refine (mark13 s[a] _ (fun h => hq (Or.inl h)) (fun h => hq (Or.inr h))).mono ?_
    rintro e w1 ⟨r, rfl, rfl, hr⟩
    have HR : Hid (decide (r < 0) = !decide ((s[a].toNat : Int) ∈ [63, 58, 44, 91, 93, 123, 125, 35, 38, 42, 33, 124, 62, 37, 64, 96])) := hr
    clear hr
    go_wp2_with fail
    go_ret
    exact ⟨ret_bool HR.out, rfl⟩

set_option maxRecDepth 100000 in
set_option maxHeartbeats 2000000 in
theorem stops_any (s : ByteArray) (k g : Nat) (flow : Bool) (w : World) (hs : s.size ≤ 1048576) (hk : k < s.size) (hc : w.cell? ⟨g, k, none⟩ = some (.int .i64 (Plain.nn s.data.toList k))) :
    Calls Try.prog 9 #[.string s, .slice (some ⟨g, 0, none⟩) (s.size + 1) (s.size + 1), .int .i64 k, .bool flow] w fun e w' => e = .returned (.bool (Plain.stopB s.data.toList flow k)) ∧ w' = w := by
  have hs' : (s.size : Int) ≤ 1048576 := by omega
  have hk' : (k : Int) < s.size := by omega
  have hlen : s.data.toList.length = s.size := by simp
  have HL : Hid (s.data.toList.length = s.size) := hlen
  obtain ⟨n1, n2⟩ := Plain.nn_le s.data.toList k (by omega)
  rw [hlen] at n2
  clear hlen
  generalize hv : (s[k].toNat : Int) = v
  have HV : Hid (Plain.bt s.data.toList k = v) := (bt_at s k hk).symm.trans hv
  generalize hj : Plain.nn s.data.toList k = j at hc n1 n2
  have HJ : Hid (Plain.nn s.data.toList k = j) := hj
  have n1' : (k : Int) ≤ j := by omega
  have n2' : (j : Int) ≤ s.size := by omega
  have hkn : (k : Int) < (s.size : Int) + 1 := by omega
  by_cases h58 : v = 58
  · subst h58
    by_cases h1 : k + 1 < s.size
    · have h1' : (k : Int) + 1 < s.size := by omega
      generalize hu : (s[k + 1].toNat : Int) = u
      have HU : Hid (Plain.bt s.data.toList (k + 1) = u) := (bt_at s (k + 1) h1).symm.trans hu
      have hr : Plain.stopB s.data.toList flow k = decide (u = 32 ∨ u = 10 ∨ u = 13) := by
        unfold Plain.stopB
        rw [HV.out, HU.out, HL.out]
        have : ¬ k + 1 = s.size := by omega
        simp [this]
      rw [hr]
      clear hr hj
      go_enter Try.func9, Try.ntmps9
      go_wp2
      all_goals
        go_ret
        refine ⟨ret_bool ?_, rfl⟩
        go_light
        rw [Bool.eq_iff_iff]
        try simp
        try omega
    · have h1' : (k : Int) + 1 = s.size := by omega
      have hr : Plain.stopB s.data.toList flow k = true := by
        unfold Plain.stopB
        rw [HV.out, HL.out]
        have : k + 1 = s.size := by omega
        simp [this]
      rw [hr]
      clear hr hj
      go_enter Try.func9, Try.ntmps9
      go_wp2
      all_goals
        go_ret
        refine ⟨ret_bool ?_, rfl⟩
        go_light
        rw [Bool.eq_iff_iff]
        try simp
        try omega
  · have h58b : (v == 58) = false := by simpa using h58
    by_cases h32 : v = 32
    · subst h32
      by_cases h1 : j < s.size
      · have h1' : (j : Int) < s.size := by omega
        generalize hu : (s[j].toNat : Int) = u
        have HU : Hid (Plain.bt s.data.toList j = u) := (bt_at s j h1).symm.trans hu
        have hr : Plain.stopB s.data.toList flow k = decide (u = 10 ∨ u = 13 ∨ u = 35) := by
          rw [Plain.stop_space _ _ _ HV.out, HJ.out, HU.out, HL.out]
          have : ¬ j = s.size := by omega
          simp [this]
        rw [hr]
        clear hr hj
        go_enter Try.func9, Try.ntmps9
        go_wp2
        all_goals
          go_ret
          refine ⟨ret_bool ?_, rfl⟩
          go_light
          rw [Bool.eq_iff_iff]
          try simp
          try omega
      · have h1' : (j : Int) = s.size := by omega
        have hr : Plain.stopB s.data.toList flow k = true := by
          rw [Plain.stop_space _ _ _ HV.out, HJ.out, HL.out]
          have : j = s.size := by omega
          simp [this]
        rw [hr]
        clear hr hj
        go_enter Try.func9, Try.ntmps9
        go_wp2
        all_goals
          go_ret
          refine ⟨ret_bool ?_, rfl⟩
          go_light
          rw [Bool.eq_iff_iff]
          try simp
          try omega
    · have h32b : (v == 32) = false := by simpa using h32
      have hr : Plain.stopB s.data.toList flow k = if v = 10 ∨ v = 13 then true else if v = 44 ∨ v = 91 ∨ v = 93 ∨ v = 123 ∨ v = 125 then flow else false := by
        unfold Plain.stopB
        rw [HV.out, if_neg h58, if_neg h32]
      rw [hr]
      clear hr hj
      go_enter Try.func9, Try.ntmps9
      go_wp2
      all_goals
        go_ret
        refine ⟨ret_bool ?_, rfl⟩
        go_light
        simp_all

end Go.Proofs.Qxb6603734a
