/- Seat b6603149a: the walks of ZZDelimited and ZZBracket. -/
import Derived.Test.Qxb6603149aDelim
namespace Go.Proofs.Qxb6603149a
open Go.RowKit

theorem frozen_past (w : World) (a : Addr) (h : w.heap.size ≤ a.block) : w.frozen? a = false := by
  unfold World.frozen?
  rw [Array.getElem?_eq_none h]

/-- What ZZDelimited hands back. -/
def zzRes (s what : ByteArray) (r : Nat × Nat) : Value :=
  if r.1 = 0 then .tuple #[.bool false, .int .i64 0, .string ⟨#[]⟩, .int .i64 r.2]
  else .tuple #[.bool true, .int .i64 (fmin r.2 s.size), .string (whyOf r.1 what), .int .i64 r.2]

set_option maxRecDepth 100000 in
set_option maxHeartbeats 1000000 in
theorem zzd_any (s what : ByteArray) (c d : Int) (br : Bool) (a : Nat) (m : Int) (w : World) (hs : s.size ≤ 1048576) (hwhat : what.size ≤ 1048576) (ha : a ≤ 9223372036854775807) (hm : w.cell? ⟨0, 0, none⟩ = some (.int .i64 m)) :
    Calls Try.prog 15 #[.string s, .int .u8 c, .int .i64 a, .int .u8 d, .string what, .bool br] w fun e w' => Below w.heap.size w w' ∧ e = .returned (zzRes s what (Plain.D br d s.data.toList a)) := by
  have h0 : 0 < w.heap.size := World.block_lt_of_cell? _ _ hm
  go_enter Try.func15, Try.ntmps15
  go_wp2_with fail
  refine (delimited_any s what br d a w.heap.size m _ hs hwhat ha (by simp) ⟨?_, ?_, ?_, ?_⟩).mono ?_
  · rw [World.cell?_alloc_at _ _ _ _ (by simp)]; simp
  · rw [World.cell?_alloc_at _ _ _ _ (by simp)]; simp
  · rw [frozen?_alloc_cells]; exact frozen_past w _ (by simp)
  · rw [World.cell?_alloc_old _ _ _ (by simp; omega)]; exact hm
  · rintro e w1 ⟨k, n, hD, hbel, hn, ⟨hk, rfl⟩ | ⟨hk, f, rfl, hf0, hf1⟩⟩
    · have HD : Hid (Plain.D br d s.data.toList a = (k, n)) := hD
      clear hD
      go_wp2_with fail
      go_quiet (fail)
      go_wp2_with fail
      refine bodyPost_ret (v := .tuple #[.bool false, .int .i64 0, .string ⟨#[]⟩, .int .i64 n]) (by simp [results, Try.results15, go_sem]) rfl ⟨below_drewN ?_ _, ?_⟩
      · exact ((Below.refl _ _).alloc (Nat.le_refl _) _).trans (hbel.mono (Nat.le_refl _))
      · rw [HD.out]; simp [zzRes, hk]
    · have HD : Hid (Plain.D br d s.data.toList a = (k, n)) := hD
      clear hD
      go_wp2_with fail
      go_quiet (fail)
      go_wp2_with fail
      refine bodyPost_ret (v := .tuple #[.bool true, .int .i64 (fmin n s.size), .string (whyOf k what), .int .i64 n]) (by simp [results, Try.results15, go_sem]) rfl ⟨below_drewN ?_ _, ?_⟩
      · exact ((Below.refl _ _).alloc (Nat.le_refl _) _).trans (hbel.mono (Nat.le_refl _))
      · rw [HD.out]; simp [zzRes, hk]

theorem zzd_ok (s what : ByteArray) (c d : Int) (br : Bool) (a n : Nat) (m : Int) (w : World) (hs : s.size ≤ 1048576) (hwhat : what.size ≤ 1048576) (ha : a ≤ 9223372036854775807) (hm : w.cell? ⟨0, 0, none⟩ = some (.int .i64 m)) (hD : Plain.D br d s.data.toList a = (0, n)) :
    Calls Try.prog 15 #[.string s, .int .u8 c, .int .i64 a, .int .u8 d, .string what, .bool br] w fun e w' => e = .returned (.tuple #[.bool false, .int .i64 0, .string ⟨#[]⟩, .int .i64 n]) ∧ Below w.heap.size w w' := by
  refine (zzd_any s what c d br a m w hs hwhat ha hm).mono ?_
  rintro e w' ⟨hb, rfl⟩
  rw [hD]
  exact ⟨rfl, hb⟩

theorem zzd_bad (s what : ByteArray) (c d : Int) (br : Bool) (a k n : Nat) (m : Int) (w : World) (hs : s.size ≤ 1048576) (hwhat : what.size ≤ 1048576) (ha : a ≤ 9223372036854775807) (hm : w.cell? ⟨0, 0, none⟩ = some (.int .i64 m)) (hD : Plain.D br d s.data.toList a = (k, n)) (hk : k ≠ 0) :
    Calls Try.prog 15 #[.string s, .int .u8 c, .int .i64 a, .int .u8 d, .string what, .bool br] w fun e w' => e = .returned (.tuple #[.bool true, .int .i64 (fmin n s.size), .string (whyOf k what), .int .i64 n]) ∧ Below w.heap.size w w' := by
  refine (zzd_any s what c d br a m w hs hwhat ha hm).mono ?_
  rintro e w' ⟨hb, rfl⟩
  rw [hD]
  simp only [zzRes, if_neg hk]
  exact ⟨trivial, hb⟩

/-- What ZZBracket hands back. -/
def zbRes (a : Nat) (r : Option Nat) : Value :=
  match r with
  | none => .tuple #[.bool false, .int .i64 a]
  | some k => .tuple #[.bool true, .int .i64 k]

set_option maxRecDepth 100000 in
set_option maxHeartbeats 1000000 in
theorem zzb_any (s : ByteArray) (c : Int) (a : Nat) (m : Int) (w : World) (hs : s.size ≤ 1048576) (ha : a < s.size) (hm : w.cell? ⟨0, 0, none⟩ = some (.int .i64 m)) :
    Calls Try.prog 10 #[.string s, .int .u8 c, .int .i64 a] w fun e w' => Below w.heap.size w w' ∧ e = .returned (zbRes a (Plain.R s.data.toList (a + 1) 0 0)) := by
  have h0 : 0 < w.heap.size := World.block_lt_of_cell? _ _ hm
  go_enter Try.func10, Try.ntmps10
  go_wp2_with fail
  refine (bracket_any s a w.heap.size m _ hs ha ?_ ?_ ?_ ?_).mono ?_
  · rw [World.cell?_alloc_at _ _ _ _ (by simp)]; simp
  · rw [World.cell?_alloc_at _ _ _ _ (by simp)]; simp
  · rw [frozen?_alloc_cells]; exact frozen_past w _ (by simp)
  · rw [World.cell?_alloc_old _ _ _ (by simp; omega)]; exact hm
  · rintro e w1 (⟨hR, rfl, rfl⟩ | ⟨k, hR, rfl, rfl⟩)
    · have HR : Hid (Plain.R s.data.toList (a + 1) 0 0 = none) := hR
      clear hR
      go_wp2_with fail
      go_quiet (fail)
      go_wp2_with fail
      refine bodyPost_ret (v := .tuple #[.bool false, .int .i64 a]) (by simp [results, Try.results10, go_sem]) rfl ⟨below_drewN ((Below.refl _ _).alloc (Nat.le_refl _) _) _, ?_⟩
      rw [HR.out]; rfl
    · have HR : Hid (Plain.R s.data.toList (a + 1) 0 0 = some k) := hR
      clear hR
      go_wp2_with fail
      go_quiet (fail)
      go_wp2_with fail
      refine bodyPost_ret (v := .tuple #[.bool true, .int .i64 k]) (by simp [results, Try.results10, go_sem]) rfl ⟨?_, ?_⟩
      · exact below_drewN ((Below.refl _ _).alloc (Nat.le_refl _) _) _
      · rw [HR.out]; rfl

end Go.Proofs.Qxb6603149a
