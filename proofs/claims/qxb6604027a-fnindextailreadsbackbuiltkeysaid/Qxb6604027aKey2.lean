/- Seat b6604027a: the law's walk, where the first byte is the one of the sends. -/
import Derived.Test.Qxb6604027aKey
namespace Go.Proofs.Qxb6604027a
open Go.RowKit

set_option maxRecDepth 100000 in
set_option maxHeartbeats 4000000 in
theorem key_sends (F : Nat → Int) (a1 a3 : Option Addr) (n1 c1 n3 c3 : Nat) (A1 A3 : Nat → Int) (w : World) (h1 : n1 ≤ 524288) (h3 : n3 ≤ 524288)
    (r1 : Rowb a1 n1 A1 w) (r3 : Rowb a3 n3 A3 w) (hA : ∀ i, i < n1 → 0 ≤ A1 i ∧ A1 i < 256) (z1 : a1 = none → n1 = 0) (z3 : a3 = none → n3 = 0) :
    Calls Try.prog 5 #[.int .u8 7, .slice a1 n1 c1, arr F, .slice a3 n3 c3] w fun e w' => e = .returned (.bool true) ∧ Below w.heap.size w w' := by
  have h1' : (n1 : Int) ≤ 524288 := by omega
  have h3' : (n3 : Int) ≤ 524288 := by omega
  have H14 : Hid (∀ w, Calls Try.prog 14 #[.int .u8 7, .slice a1 n1 c1, arr F, .slice a3 n3 c3] w fun e w' => e = .returned (.bool true) ∧ Below w.heap.size w w') := fun w => bytes14_yes 7 F a1 a3 n1 c1 n3 c3 w (by omega)
  have HC1 : Hid (∀ w' : World, Below w.heap.size w w' → Calls Try.prog 7 #[.slice a1 n1 c1] w' (CpPost n1 A1 w')) := fun w' hb => copy_any a1 n1 c1 A1 w' (by omega) (r1.below hb) z1
  have HC3 : Hid (∀ w' : World, Below w.heap.size w w' → Calls Try.prog 7 #[.slice a3 n3 c3] w' (CpPost n3 A3 w')) := fun w' hb => copy_any a3 n3 c3 A3 w' (by omega) (r3.below hb) z3
  have HBX := box_new F w 27
  have R1 : Hid (∀ w' : World, Below w.heap.size w w' → Rowb a1 n1 A1 w') := fun w' hb => r1.below hb
  have HA : Hid (∀ i, i < n1 → 0 ≤ A1 i ∧ A1 i < 256) := hA
  clear r1 r3 z1 z3 hA
  have hmk := make0 (n1 + 18 + n3) (by omega)
  have ec : ((n1 + 18 + n3 : Nat) : Int) = 1 + (n1 : Int) + 1 + 16 + (n3 : Int) := by omega
  rw [ec] at hmk
  clear ec
  have HB0 : Below w.heap.size w (w.alloc (.cells #[.int .u8 (F 0), .int .u8 (F 1), .int .u8 (F 2), .int .u8 (F 3), .int .u8 (F 4), .int .u8 (F 5), .int .u8 (F 6), .int .u8 (F 7), .int .u8 (F 8), .int .u8 (F 9), .int .u8 (F 10), .int .u8 (F 11), .int .u8 (F 12), .int .u8 (F 13), .int .u8 (F 14), .int .u8 (F 15)] 27)) := (Below.refl _ _).alloc (Nat.le_refl _) _
  have HZ : Hid (Box w.heap.size F _ ∧ Below w.heap.size w _) := ⟨HBX, HB0⟩
  clear HBX HB0
  go_enter Try.func5, Try.ntmps5
  go_wp2_with fail
  refine (H14.out _).mono ?_
  rintro e w1 ⟨rfl, hb1⟩
  have HB1 : Hid (Below w.heap.size w w1) := HZ.out.2.trans (hb1.mono HZ.out.2.size)
  have BX1 : Hid (Box w.heap.size F w1) := HZ.out.1.below hb1
  clear hb1 HZ H14
  go_wp2_with fail
  go_loopg [9] (n1 + 1) (fun gh v wx => ∃ k : Nat, gh = n1 + 1 - k ∧ k ≤ n1 ∧ v = .int .i64 k ∧ wx = w1 ∧ Hid (∀ i, i < k → 0 < A1 i))
  case atStart => exact ⟨0, rfl, Nat.zero_le _, rfl, rfl, fun i hi => by omega⟩
  case round =>
    obtain ⟨k, hgh, hk, rfl, rfl, HK⟩ := hrel
    have HG : Hid (gk = n1 + 1 - k) := hgh
    clear hgh
    by_cases hlt : k < n1
    · have hlt' : (k : Int) < n1 := by omega
      rcases R1.out _ HB1.out with h | ⟨b, o, rfl, hbl, hc⟩
      · omega
      · have hcell := hc k hlt
        clear hc
        generalize hv : A1 k = v at hcell
        have HV : Hid (A1 k = v) := hv
        clear hv
        by_cases h0 : v = 0
        · subst h0
          go_wp2_with fail
          go_ret
          exact ⟨rfl, HB1.out⟩
        · have h0b : (v == 0) = false := by simpa using h0
          have HN : Hid (v ≠ 0) := h0
          clear h0
          go_wp2_with fail
          go_roundg (n1 + 1 - (k + 1))
          case measure => rw [HG.out]; omega
          case rel =>
            refine ⟨k + 1, rfl, by omega, by go_num, rfl, fun i hi => ?_⟩
            by_cases hik : i = k
            · subst hik
              have h1 := (HA.out i hlt).1
              have h2 := HN.out
              have h3 := HV.out
              omega
            · exact HK.out i (by omega)
    · have hlt' : ¬ (k : Int) < n1 := by omega
      obtain rfl : k = n1 := by omega
      have HP : Hid (∀ x ∈ ls k A1, 0 < x ∧ x < 256) := by
        intro x hx
        obtain ⟨i, hi, rfl⟩ := List.mem_map.1 hx
        rw [List.mem_range] at hi
        exact ⟨HK.out i hi, (HA.out i hi).2⟩
      clear HK HA R1 HG hlt hk
      go_wp2_with fail
      refine (HC1.out _ HB1.out).mono ?_
      rintro e w2 ⟨hb2, a1', c1', rfl, hcp1⟩
      have HB2 : Hid (Below w.heap.size w w2) := HB1.out.trans (hb2.mono HB1.out.size)
      have BX2 : Hid (Box w.heap.size F w2) := BX1.out.below hb2
      have HD2 : Hid (Cp a1' k c1' A1 wr.heap.size w2) := hcp1
      clear hb2 HB1 BX1 HC1 hcp1
      go_wp2_with fail
      refine (HC3.out _ HB2.out).mono ?_
      rintro e w3 ⟨hb3, a3', c3', rfl, hcp3⟩
      have HB3 : Hid (Below w.heap.size w w3) := HB2.out.trans (hb3.mono HB2.out.size)
      have BX3 : Hid (Box w.heap.size F w3) := BX2.out.below hb3
      have HD : Hid (Cp a1' k c1' A1 wr.heap.size w3) := HD2.out.below hb3
      have HC : Hid (Cp a3' n3 c3' A3 w2.heap.size w3) := hcp3
      clear hb3 HB2 BX2 HC3 hcp3 HD2
      have hown4 := (own0 (k + 18 + n3) (by omega) w3).alloc (.cells #[.int .u8 7] 5)
      have hb4 : Below w3.heap.size w3 ((w3.alloc (.cells (madeCells #[.int .u8 0] (k + 18 + n3)) 5)).alloc (.cells #[.int .u8 7] 5)) := ((Below.refl _ _).alloc (Nat.le_refl _) _).alloc (by simp) _
      have HO4 : Hid (Own w3.heap.size 0 (k + 18 + n3) [] ((w3.alloc (.cells (madeCells #[.int .u8 0] (k + 18 + n3)) 5)).alloc (.cells #[.int .u8 7] 5))) := hown4
      have HN4 := one_new (w3.alloc (.cells (madeCells #[.int .u8 0] (k + 18 + n3)) 5)) 7
      rw [show (w3.alloc (.cells (madeCells #[.int .u8 0] (k + 18 + n3)) 5)).heap.size = w3.heap.size + 1 by simp] at HN4
      have HN4' : Hid (∀ ad, some (⟨w3.heap.size + 1, 0, none⟩ : Addr) = some ad → ∀ j, j < 1 → ((w3.alloc (.cells (madeCells #[.int .u8 0] (k + 18 + n3)) 5)).alloc (.cells #[.int .u8 7] 5)).cell? (ad.add j) = some (.int .u8 ([7].getD j 0))) := HN4
      have HB4 : Hid (Below w3.heap.size w3 ((w3.alloc (.cells (madeCells #[.int .u8 0] (k + 18 + n3)) 5)).alloc (.cells #[.int .u8 7] 5))) := hb4
      clear hown4 hb4 HN4
      go_upto_region 19 with (at_builtin; refine wpApp rfl (.tmp 53) (.tmp 55) rfl HO4.out (some ⟨w3.heap.size + 1, 0, none⟩) 1 1 [7] rfl rfl rfl (fun h => by cases h) HN4'.out (by omega) ?_; intro w5 hown5 hgr5)
      have HB5 : Hid (Below w3.heap.size w3 w5) := Below.grown HB4.out hgr5 HB4.out.size (fun k hk => by cases hk; exact Nat.le_refl _)
      have HO5 : Hid (Own w3.heap.size 1 (k + 18 + n3) [7] w5) := hown5
      have HD5 : Hid (Cp a1' k c1' A1 wr.heap.size w5) := HD.out.below HB5.out
      clear hown5 hgr5 HO4 HN4' HB4 hmk
      go_upto_region 20 with (at_builtin; refine wpApp rfl (.tmp 57) (.tmp 58) rfl HO5.out a1' k c1' (ls k A1) rfl rfl (ls_length _ _) HD5.out.nil HD5.out.src (by omega) ?_; intro w6 hown6 hgr6)
      have HB6 : Hid (Below w3.heap.size w3 w6) := Below.grown HB5.out hgr6 HB5.out.size (fun k hk => by cases hk; exact Nat.le_refl _)
      have HO6 : Hid (Own w3.heap.size (1 + k) (k + 18 + n3) ([7] ++ ls k A1) (w6.alloc (.cells #[.int .u8 0] 5))) := hown6.alloc _
      have HN6 : Hid (∀ ad, some (⟨w6.heap.size, 0, none⟩ : Addr) = some ad → ∀ j, j < 1 → (w6.alloc (.cells #[.int .u8 0] 5)).cell? (ad.add j) = some (.int .u8 ([0].getD j 0))) := one_new w6 0
      have HB6' : Hid (Below w3.heap.size w3 (w6.alloc (.cells #[.int .u8 0] 5))) := HB6.out.alloc HB6.out.size _
      clear hown6 hgr6 HO5 HB5 HD5
      go_upto_region 21 with (at_builtin; refine wpApp rfl (.tmp 60) (.tmp 61) rfl HO6.out (some ⟨w6.heap.size, 0, none⟩) 1 1 [0] rfl rfl rfl (fun h => by cases h) HN6.out (by omega) ?_; intro w7 hown7 hgr7)
      have HB7 : Hid (Below w3.heap.size w3 w7) := Below.grown HB6'.out hgr7 HB6'.out.size (fun k hk => by cases hk; exact Nat.le_refl _)
      have HO7 : Hid (Own w3.heap.size (1 + k + 1) (k + 18 + n3) ([7] ++ ls k A1 ++ [0]) w7) := hown7
      have HS7 : Hid (∀ ad, some (⟨w.heap.size, 0, none⟩ : Addr) = some ad → ∀ j, j < 16 → w7.cell? (ad.add j) = some (.int .u8 ((ls 16 F).getD j 0))) := (BX3.out.below HB7.out).src 16 (by omega)
      have hbxl : w.heap.size < w7.heap.size := (BX3.out.below HB7.out).1
      clear hown7 hgr7 HO6 HB6 HB6' HN6
      go_upto_region 25 with (at_builtin; refine wpApp rfl (.tmp 63) (.tmp 64) rfl HO7.out (some ⟨w.heap.size, 0, none⟩) 16 16 (ls 16 F) rfl rfl (ls_length _ _) (fun h => by cases h) HS7.out (by omega) ?_; intro w8 hown8 hgr8)
      have HB8 : Hid (Below w3.heap.size w3 w8) := Below.grown HB7.out hgr8 HB7.out.size (fun k hk => by cases hk; exact Nat.le_refl _)
      have HO8 : Hid (Own w3.heap.size (1 + k + 1 + 16) (k + 18 + n3) ([7] ++ ls k A1 ++ [0] ++ ls 16 F) w8) := hown8
      have HC8 : Hid (Cp a3' n3 c3' A3 w2.heap.size w8) := HC.out.below HB8.out
      clear hown8 hgr8 HO7 HS7 HB7 hbxl
      go_upto_region 26 with (at_builtin; refine wpApp rfl (.tmp 77) (.tmp 78) rfl HO8.out a3' n3 c3' (ls n3 A3) rfl rfl (ls_length _ _) HC8.out.nil HC8.out.src (by omega) ?_; intro w9 hown9 hgr9)
      have HB9 : Hid (Below w3.heap.size w3 w9) := Below.grown HB8.out hgr9 HB8.out.size (fun k hk => by cases hk; exact Nat.le_refl _)
      have HC9 : Hid (Cp a3' n3 c3' A3 w2.heap.size w9) := HC.out.below HB9.out
      have HT : Hid (Calls Try.prog 15 #[.slice (some ⟨w3.heap.size, 0, none⟩) (1 + k + 1 + 16 + n3) (k + 18 + n3)] w9 (ItPost (ls n3 A3) w9)) := by
        have e1 : 1 + k + 1 + 16 + n3 = k + 18 + n3 := by omega
        rw [e1]
        refine zz_tail _ _ _ (tail_sends w3.heap.size k n3 (ls k A1) (ls 16 F) (ls n3 A3) w9 (ls_length _ _) (ls_length _ _) (ls_length _ _) (by omega) HP.out (fun i hi => ?_))
        have := hown9.cell i (by simp [ls_length]; omega)
        simpa using this
      clear hown9 hgr9 HO8 HC8 HB8
      go_wp2_with fail
      refine HT.out.mono ?_
      rintro e w10 ⟨hb10, g10, rfl, hrow10⟩
      rw [ls_length] at hrow10 ⊢
      have HE : Hid (Calls Try.prog 10 #[.slice g10 n3 n3, .slice a3' n3 c3'] w10 fun e w' => e = .returned (.bool true) ∧ Below w10.heap.size w10 w') :=
        equal_yes g10 a3' n3 n3 c3' _ w10 (by omega) hrow10 (HC9.out.below hb10).row.asList
      have HB10 : Hid (Below w.heap.size w w10) := HB3.out.trans ((HB9.out.mono HB3.out.size).trans (hb10.mono (Nat.le_trans HB3.out.size HB9.out.size)))
      clear hb10 hrow10 HT HC9
      go_wp2_with fail
      refine HE.out.mono ?_
      rintro e w11 ⟨rfl, hb11⟩
      have HB11 : Hid (Below w.heap.size w w11) := HB10.out.trans (hb11.mono HB10.out.size)
      clear hb11
      go_wp2_with fail
      go_ret
      exact ⟨rfl, HB11.out⟩

end Go.Proofs.Qxb6604027a
