/- Seat b6603149a: the small walks. -/
import Derived.Test.Qxb6603149aRows
import Derived.Test.Qxb6603149aPlain
import Derived.WalkKit
import Derived.WalkSpells
import Derived.WalkLawsBesides
namespace Go.Proofs.Qxb6603149a
open Go.RowKit

theorem ret_bool {a b : Bool} (h : a = b) : Ending.returned (.bool a) = .returned (.bool b) := by rw [h]

/-! ### The bounds laid by program -/

set_option maxHeartbeats 400000 in
theorem bytes17_yes (s t : ByteArray) (c a d : Int) (w : World) (h : s.size + t.size ≤ 1048576) :
    Calls Try.prog 17 #[.string s, .int .u8 c, .int .i64 a, .int .u8 d, .string t] w fun e w' => e = .returned (.bool true) ∧ w' = w := by
  have h1 : (s.size : Int) ≤ 1048576 := by omega
  have h2 : (t.size : Int) ≤ 1048576 := by omega
  have h3 : (s.size : Int) + t.size ≤ 1048576 := by omega
  go_enter Try.func17, Try.ntmps17
  go_wp2
  go_ret
  exact ⟨rfl, rfl⟩

set_option maxHeartbeats 400000 in
theorem bytes17_no (s t : ByteArray) (c a d : Int) (w : World) (hs : s.size ≤ maxLen) (ht : t.size ≤ maxLen) (h : ¬ s.size + t.size ≤ 1048576) :
    Calls Try.prog 17 #[.string s, .int .u8 c, .int .i64 a, .int .u8 d, .string t] w fun e w' => e = .returned (.bool false) ∧ w' = w := by
  unfold maxLen at hs ht
  go_enter Try.func17, Try.ntmps17
  go_wp2
  all_goals first | (exfalso; omega) | (go_ret; exact ⟨rfl, rfl⟩)

set_option maxHeartbeats 400000 in
theorem bytes14_yes (s t : ByteArray) (c a d : Int) (br : Bool) (w : World) (h : s.size + t.size ≤ 1048576) :
    Calls Try.prog 14 #[.string s, .int .u8 c, .int .i64 a, .int .u8 d, .string t, .bool br] w fun e w' => e = .returned (.bool true) ∧ w' = w := by
  have h1 : (s.size : Int) ≤ 1048576 := by omega
  have h2 : (t.size : Int) ≤ 1048576 := by omega
  have h3 : (s.size : Int) + t.size ≤ 1048576 := by omega
  go_enter Try.func14, Try.ntmps14
  go_wp2
  go_ret
  exact ⟨rfl, rfl⟩

set_option maxHeartbeats 400000 in
theorem bytes14_no (s t : ByteArray) (c a d : Int) (br : Bool) (w : World) (hs : s.size ≤ maxLen) (ht : t.size ≤ maxLen) (h : ¬ s.size + t.size ≤ 1048576) :
    Calls Try.prog 14 #[.string s, .int .u8 c, .int .i64 a, .int .u8 d, .string t, .bool br] w fun e w' => e = .returned (.bool false) ∧ w' = w := by
  unfold maxLen at hs ht
  go_enter Try.func14, Try.ntmps14
  go_wp2
  all_goals first | (exfalso; omega) | (go_ret; exact ⟨rfl, rfl⟩)

set_option maxHeartbeats 400000 in
theorem bytes9_yes (s : ByteArray) (c a : Int) (w : World) (h : s.size ≤ 1048576) :
    Calls Try.prog 9 #[.string s, .int .u8 c, .int .i64 a] w fun e w' => e = .returned (.bool true) ∧ w' = w := by
  have h1 : (s.size : Int) ≤ 1048576 := by omega
  go_enter Try.func9, Try.ntmps9
  go_wp2
  go_ret
  exact ⟨rfl, rfl⟩

set_option maxHeartbeats 400000 in
theorem bytes9_no (s : ByteArray) (c a : Int) (w : World) (hs : s.size ≤ maxLen) (h : ¬ s.size ≤ 1048576) :
    Calls Try.prog 9 #[.string s, .int .u8 c, .int .i64 a] w fun e w' => e = .returned (.bool false) ∧ w' = w := by
  unfold maxLen at hs
  go_enter Try.func9, Try.ntmps9
  go_wp2
  all_goals first | (exfalso; omega) | (go_ret; exact ⟨rfl, rfl⟩)

set_option maxHeartbeats 400000 in
theorem bytes18_yes (s t u : ByteArray) (c a d : Int) (br : Bool) (w : World) (h : s.size + t.size + u.size ≤ 1048576) :
    Calls Try.prog 18 #[.string s, .int .u8 c, .int .i64 a, .int .u8 d, .string t, .bool br, .string u] w fun e w' => e = .returned (.bool true) ∧ w' = w := by
  have h1 : (s.size : Int) ≤ 1048576 := by omega
  have h2 : (t.size : Int) ≤ 1048576 := by omega
  have h3 : (s.size : Int) + t.size ≤ 1048576 := by omega
  have h4 : (u.size : Int) ≤ 1048576 := by omega
  have h5 : (s.size : Int) + t.size + u.size ≤ 1048576 := by omega
  go_enter Try.func18, Try.ntmps18
  go_wp2
  go_ret
  exact ⟨rfl, rfl⟩

set_option maxHeartbeats 400000 in
theorem bytes18_no (s t u : ByteArray) (c a d : Int) (br : Bool) (w : World) (hs : s.size ≤ maxLen) (ht : t.size ≤ maxLen) (hu : u.size ≤ maxLen) (h : ¬ s.size + t.size + u.size ≤ 1048576) :
    Calls Try.prog 18 #[.string s, .int .u8 c, .int .i64 a, .int .u8 d, .string t, .bool br, .string u] w fun e w' => e = .returned (.bool false) ∧ w' = w := by
  unfold maxLen at hs ht hu
  go_enter Try.func18, Try.ntmps18
  go_wp2
  all_goals first | (exfalso; omega) | (go_ret; exact ⟨rfl, rfl⟩)

/-! ### The fault -/

/-- Go's min. -/
def fmin (a n : Int) : Int := if n < a then n else a

set_option maxHeartbeats 400000 in
theorem fault_any (s why : ByteArray) (b : Nat) (a : Int) (w : World) (c0 : w.cell? ⟨b, 0, none⟩ = some (.string s)) (c2 : w.cell? ⟨b, 2, none⟩ = some (.int .i64 a)) :
    Calls Try.prog 26 #[.pointer (some ⟨b, 0, none⟩), .string why] w fun e w' => e = .returned (.pointer (some ⟨w.heap.size, 0, none⟩)) ∧ w' = (w.alloc (.cells #[.int .i64 (fmin a s.size), .string why] 44)).drew := by
  go_enter Try.func26, Try.ntmps26
  go_wp2
  go_region
  go_wp2
  all_goals
    go_ret
    refine ⟨rfl, ?_⟩
    unfold fmin
    first | rw [if_pos (by omega)] | rw [if_neg (by omega)]

/-! ### The automaton's step -/

theorem ret3 {a b c a' b' c' : Int} (h : (a, b, c) = (a', b', c')) : Ending.returned (.tuple #[.int .i64 a, .int .u8 b, .int .i64 c]) = .returned (.tuple #[.int .i64 a', .int .u8 b', .int .i64 c']) := by
  simp only [Prod.mk.injEq] at h
  obtain ⟨rfl, rfl, rfl⟩ := h
  rfl

set_option maxHeartbeats 400000 in
theorem body_any (b : Int) (w : World) :
    Calls Try.prog 25 #[.int .u8 b] w fun e w' => e = .returned (.tuple #[.int .i64 (Plain.bodyStep b).1, .int .u8 (Plain.bodyStep b).2.1, .int .i64 (Plain.bodyStep b).2.2]) ∧ w' = w := by
  go_enter Try.func25, Try.ntmps25
  go_wp2
  all_goals
    go_ret3
    refine ⟨ret3 ?_, rfl⟩
    simp_all [Plain.bodyStep]

set_option maxHeartbeats 1000000 in
theorem step_any (st mk b : Int) (w : World) :
    Calls Try.prog 20 #[.int .i64 st, .int .u8 mk, .int .u8 b] w fun e w' => e = .returned (.tuple #[.int .i64 (Plain.step st mk b).1, .int .u8 (Plain.step st mk b).2.1, .int .i64 (Plain.step st mk b).2.2]) ∧ w' = w := by
  go_enter Try.func20, Try.ntmps20
  go_wp2_with (go_at_call 25; refine (body_any _ _).mono ?_; rintro e w' ⟨rfl, rfl⟩)
  all_goals
    go_ret3
    refine ⟨ret3 ?_, rfl⟩
    simp_all [Plain.step]

end Go.Proofs.Qxb6603149a
