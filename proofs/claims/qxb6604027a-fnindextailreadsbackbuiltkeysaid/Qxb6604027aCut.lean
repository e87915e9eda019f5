/- Seat b6604027a: bytes.Cut at a separator of one zero byte; indexTail. -/
import Derived.Test.Qxb6604027aW1
namespace Go.Proofs.Qxb6604027a
open Go.RowKit

/-- The first zero byte behind bytes that are none. -/
theorem first_zero (D R : List Int) (hD : ∀ x ∈ D, 0 < x ∧ x < 256) : Lib.indexByte (Lib.bytesOf (D ++ 0 :: R)) 0 = D.length := by
  induction D with
  | nil => simp [Lib.bytesOf, Lib.indexByte]
  | cons x D ih =>
    have h1 := ih (fun y hy => hD y (List.mem_cons_of_mem _ hy))
    obtain ⟨hx1, hx2⟩ := hD x (List.mem_cons_self ..)
    have hne : (x.toNat.toUInt8 == 0) = false := by
      rw [beq_eq_false_iff_ne]
      intro h
      have := congrArg UInt8.toNat h
      simp at this
      omega
    simp only [Lib.bytesOf, List.cons_append, List.map_cons] at h1 ⊢
    unfold Lib.indexByte
    rw [hne, h1]
    have h2 : ((D.length : Int) == -1) = false := by rw [beq_eq_false_iff_ne]; omega
    simp [h2]

set_option maxRecDepth 100000 in
set_option maxHeartbeats 2000000 in
theorem index_one (b o n c b2 : Nat) (xs : List Int) (i : Nat) (w : World) (hx : xs.length = n) (hc : ∀ i, i < n → w.cell? ⟨b, o + i, none⟩ = some (.int .u8 (xs.getD i 0))) (h2 : w.cell? ⟨b2, 0, none⟩ = some (.int .u8 0)) (hi : Lib.indexByte (Lib.bytesOf xs) 0 = i) :
    Calls Try.prog 20 #[.slice (some ⟨b, o, none⟩) n c, .slice (some ⟨b2, 0, none⟩) 1 1] w fun e w' => e = .returned (.int .i64 i) ∧ w' = w := by
  have hib := Try.bytes_IndexByte b o n c xs 0 w hx hc
  have e0 : (0 : Int).toNat.toUInt8 = 0 := by decide
  rw [e0, hi] at hib
  have HI : Hid (Calls Try.prog 21 #[.slice (some ⟨b, o, none⟩) n c, .int .u8 0] w fun e w' => e = .returned (.int .i64 i) ∧ w' = w) := hib
  clear hib hc hi hx e0
  go_enter Try.func20, Try.ntmps20
  go_wp2_with fail
  refine HI.out.mono ?_
  rintro e w' ⟨rfl, rfl⟩
  go_wp2_with fail
  go_ret
  exact ⟨rfl, rfl⟩

set_option maxRecDepth 100000 in
set_option maxHeartbeats 2000000 in
theorem cut_one (b o b2 i r : Nat) (xs : List Int) (w : World) (hx : xs.length = i + 1 + r) (hr : 0 < r) (hb : i + r ≤ 2097152) (hc : ∀ k, k < i + 1 + r → w.cell? ⟨b, o + k, none⟩ = some (.int .u8 (xs.getD k 0))) (h2 : w.cell? ⟨b2, 0, none⟩ = some (.int .u8 0)) (hi : Lib.indexByte (Lib.bytesOf xs) 0 = i) :
    Calls Try.prog 19 #[.slice (some ⟨b, o, none⟩) (i + 1 + r) (i + 1 + r), .slice (some ⟨b2, 0, none⟩) 1 1] w fun e w' => e = .returned (.tuple #[.slice (some ⟨b, o, none⟩) i (i + 1 + r), .slice (some ⟨b, o + (i + 1), none⟩) r r, .bool true]) ∧ Below w.heap.size w w' := by
  have hio := index_one b o (i + 1 + r) (i + 1 + r) b2 xs i w hx hc h2 hi
  have HI : Hid (Calls Try.prog 20 #[.slice (some ⟨b, o, none⟩) (i + 1 + r) (i + 1 + r), .slice (some ⟨b2, 0, none⟩) 1 1] w fun e w' => e = .returned (.int .i64 i) ∧ w' = w) := hio
  clear hio hc hi hx h2
  have hb' : (i : Int) + r ≤ 2097152 := by omega
  have hr' : (0 : Int) < r := by omega
  go_enter Try.func19, Try.ntmps19
  go_wp2_with fail
  refine HI.out.mono ?_
  rintro e w' ⟨rfl, rfl⟩
  go_wp2_with fail
  go_quiet (fail)
  go_wp2_with fail
  refine bodyPost_ret (v := .tuple #[.slice (some ⟨b, o, none⟩) i (i + 1 + r), .slice (some ⟨b, o + (i + 1), none⟩) r r, .bool true]) (by simp [results, Try.results19, go_sem]) rfl ⟨rfl, below_drewN (Below.refl _ _) _⟩

/-- What indexTail hands back. -/
def ItPost (T : List Int) (w : World) (e : Ending) (w' : World) : Prop := Below w.heap.size w w' ∧ ∃ a, e = .returned (.tuple #[.slice a T.length T.length, .bool true]) ∧ Rowb a T.length (fun i => T.getD i 0) w'

set_option maxRecDepth 100000 in
set_option maxHeartbeats 2000000 in
theorem tail_sends (g d t : Nat) (D Fs T : List Int) (w : World) (hd : D.length = d) (hf : Fs.length = 16) (ht : T.length = t) (hb : d + t ≤ 1048576) (hD : ∀ x ∈ D, 0 < x ∧ x < 256)
    (hc : ∀ i, i < d + 18 + t → w.cell? ⟨g, i, none⟩ = some (.int .u8 ((7 :: (D ++ 0 :: (Fs ++ T))).getD i 0))) :
    Calls Try.prog 17 #[.slice (some ⟨g, 0, none⟩) (d + 18 + t) (d + 18 + t)] w (ItPost T w) := by
  have hg : g < w.heap.size := World.block_lt_of_cell? _ _ (hc 0 (by omega))
  have h7 : w.cell? ⟨g, 0, none⟩ = some (.int .u8 7) := hc 0 (by omega)
  have HC : Hid (∀ w' : World, Below w.heap.size w w' → w'.cell? ⟨w.heap.size, 0, none⟩ = some (.int .u8 0) → Calls Try.prog 19 #[.slice (some ⟨g, 1, none⟩) (d + 17 + t) (d + 17 + t), .slice (some ⟨w.heap.size, 0, none⟩) 1 1] w' fun e w'' => e = .returned (.tuple #[.slice (some ⟨g, 1, none⟩) d (d + 17 + t), .slice (some ⟨g, d + 2, none⟩) (16 + t) (16 + t), .bool true]) ∧ Below w'.heap.size w' w'') := by
    intro w' hbel h0
    have := cut_one g 1 w.heap.size d (16 + t) (D ++ 0 :: (Fs ++ T)) w' (by simp [hd, hf, ht]; omega) (by omega) (by omega) (fun k hk => by rw [hbel.cell (p := ⟨g, 1 + k, none⟩) hg, hc (1 + k) (by omega), Nat.add_comm 1 k, List.getD_cons_succ]) h0 (by rw [first_zero _ _ hD, hd])
    rwa [show d + 1 + (16 + t) = d + 17 + t by omega, show 1 + (d + 1) = d + 2 by omega] at this
  have HT : Hid (∀ i, i < t → w.cell? ⟨g, d + 2 + 16 + i, none⟩ = some (.int .u8 (T.getD i 0))) := by
    intro i hi
    rw [hc _ (by omega)]
    have e1 : d + 2 + 16 + i = (d + 17 + i) + 1 := by omega
    rw [e1, List.getD_cons_succ]
    simp only [List.getD_eq_getElem?_getD]
    rw [List.getElem?_append_right (by omega), hd, show d + 17 + i - d = (16 + i) + 1 by omega, List.getElem?_cons_succ, List.getElem?_append_right (by omega), hf, show 16 + i - 16 = i by omega]
  clear hc
  have hb' : (d : Int) + t ≤ 1048576 := by omega
  go_enter Try.func17, Try.ntmps17
  go_wp2_with fail
  have hb1 : Below w.heap.size w (w.alloc (.cells #[.int .u8 0] 5)) := (Below.refl _ _).alloc (Nat.le_refl _) _
  refine (HC.out _ hb1 ?_).mono ?_
  · rw [Lib.cell_of_heap (Deep.blk_alloc_new w _)]; rfl
  rintro e w2 ⟨rfl, hb2⟩
  have HB : Hid (Below w.heap.size w w2) := hb1.trans (hb2.mono (by simp))
  clear hb1 hb2 h7 HC
  have HTL : Hid (T.length = t) := ht
  clear ht
  by_cases ht0 : t = 0
  · subst ht0
    go_wp2_with fail
    refine bodyPost_ret (v := .tuple #[.slice (some ⟨g, d + 2, none⟩) 0 0, .bool true]) (by simp [results, Try.results17, go_sem]) rfl ⟨HB.out, some ⟨g, d + 2, none⟩, by rw [HTL.out], Or.inl HTL.out⟩
  · have htp : 0 < t := by omega
    go_wp2_with fail
    refine bodyPost_ret (v := .tuple #[.slice (some ⟨g, d + 2 + 16, none⟩) t t, .bool true]) (by simp [results, Try.results17, go_sem]) rfl ⟨HB.out, some ⟨g, d + 2 + 16, none⟩, ?_, Or.inr ⟨g, d + 2 + 16, rfl, Nat.lt_of_lt_of_le hg HB.out.size, fun i hi => ?_⟩⟩
    · rw [HTL.out]
    · rw [HB.out.cell (p := ⟨g, d + 2 + 16 + i, none⟩) hg]
      exact HT.out i (by rw [HTL.out] at hi; exact hi)

set_option maxRecDepth 100000 in
set_option maxHeartbeats 2000000 in
theorem tail_other (g t : Nat) (x0 : Int) (Fs T : List Int) (w : World) (hx : x0 ≠ 7) (hf : Fs.length = 8) (ht : T.length = t) (hb : t ≤ 1048576)
    (hc : ∀ i, i < 9 + t → w.cell? ⟨g, i, none⟩ = some (.int .u8 ((x0 :: (Fs ++ T)).getD i 0))) :
    Calls Try.prog 17 #[.slice (some ⟨g, 0, none⟩) (9 + t) (9 + t)] w (ItPost T w) := by
  have hg : g < w.heap.size := World.block_lt_of_cell? _ _ (hc 0 (by omega))
  have h7 : w.cell? ⟨g, 0, none⟩ = some (.int .u8 x0) := hc 0 (by omega)
  have hx7 : (x0 == 7) = false := beq_eq_false_iff_ne.2 hx
  have HT : Hid (∀ i, i < t → w.cell? ⟨g, 9 + i, none⟩ = some (.int .u8 (T.getD i 0))) := by
    intro i hi
    rw [hc _ (by omega)]
    have e1 : 9 + i = (8 + i) + 1 := by omega
    rw [e1, List.getD_cons_succ]
    simp only [List.getD_eq_getElem?_getD]
    rw [List.getElem?_append_right (by omega), hf, show 8 + i - 8 = i by omega]
  clear hc hx
  have hb' : (t : Int) ≤ 1048576 := by omega
  have HTL : Hid (T.length = t) := ht
  clear ht
  by_cases ht0 : t = 0
  · subst ht0
    go_enter Try.func17, Try.ntmps17
    go_wp2_with fail
    refine bodyPost_ret (v := .tuple #[.slice (some ⟨g, 1, none⟩) 0 0, .bool true]) (by simp [results, Try.results17, go_sem]) rfl ⟨Below.refl _ _, some ⟨g, 1, none⟩, by rw [HTL.out], Or.inl HTL.out⟩
  · have htp : 0 < t := by omega
    go_enter Try.func17, Try.ntmps17
    go_wp2_with fail
    refine bodyPost_ret (v := .tuple #[.slice (some ⟨g, 9, none⟩) t t, .bool true]) (by simp [results, Try.results17, go_sem]) rfl ⟨Below.refl _ _, some ⟨g, 9, none⟩, ?_, Or.inr ⟨g, 9, rfl, hg, fun i hi => ?_⟩⟩
    · rw [HTL.out]
    · exact HT.out i (by rw [HTL.out] at hi; exact hi)

set_option maxRecDepth 100000 in
set_option maxHeartbeats 2000000 in
theorem zz_tail (v : Value) (T : List Int) (w : World) (h : Calls Try.prog 17 #[v] w (ItPost T w)) : Calls Try.prog 15 #[v] w (ItPost T w) := by
  have H : Hid (Calls Try.prog 17 #[v] w (ItPost T w)) := h
  clear h
  go_enter Try.func15, Try.ntmps15
  go_wp2_with fail
  refine H.out.mono ?_
  rintro e w' ⟨hb, a, rfl, hr⟩
  have HP : Hid (ItPost T w (.returned (.tuple #[.slice a T.length T.length, .bool true])) w') := ⟨hb, a, rfl, hr⟩
  clear hb hr
  go_wp2_with fail
  exact bodyPost_ret (v := .tuple #[.slice a T.length T.length, .bool true]) (by simp [results, Try.results15, go_sem]) rfl HP.out

end Go.Proofs.Qxb6604027a
