/- Seat b6603465a: the bound laid by program; the place where the first quote stands. -/
import Derived.Test.Qxb6603465aProg
import Derived.WalkKit
import Derived.WalkSpells
import Derived.WalkLawsBesides
namespace Go.Proofs.Qxb6603465a
open Go.RowKit

set_option maxHeartbeats 1000000 in
theorem bytes8_yes (t e l p : ByteArray) (i en nx : Int) (a : Option Addr) (n cap : Nat) (w : World) (h : t.size + n + e.size + l.size + p.size ≤ 1048576) :
    Calls Try.prog 8 #[.string t, .int .i64 i, .int .i64 en, .int .i64 nx, .slice a n cap, .string e, .string l, .string p] w fun x w' => x = .returned (.bool true) ∧ w' = w := by
  have h1 : (t.size : Int) ≤ 1048576 := by omega
  have h2 : (n : Int) ≤ 1048576 := by omega
  have h3 : (t.size : Int) + n ≤ 1048576 := by omega
  have h4 : (e.size : Int) ≤ 1048576 := by omega
  have h5 : (t.size : Int) + n + e.size ≤ 1048576 := by omega
  have h6 : (l.size : Int) ≤ 1048576 := by omega
  have h7 : (t.size : Int) + n + e.size + l.size ≤ 1048576 := by omega
  have h8 : (p.size : Int) ≤ 1048576 := by omega
  have h9 : (t.size : Int) + n + e.size + l.size + p.size ≤ 1048576 := by omega
  go_enter Try.func8, Try.ntmps8
  go_wp2
  go_ret
  exact ⟨rfl, rfl⟩

set_option maxHeartbeats 1000000 in
theorem bytes8_no (t e l p : ByteArray) (i en nx : Int) (a : Option Addr) (n cap : Nat) (w : World) (ht : t.size ≤ maxLen) (hn : n ≤ maxLen) (he : e.size ≤ maxLen) (hl : l.size ≤ maxLen) (hp : p.size ≤ maxLen) (h : ¬ t.size + n + e.size + l.size + p.size ≤ 1048576) :
    Calls Try.prog 8 #[.string t, .int .i64 i, .int .i64 en, .int .i64 nx, .slice a n cap, .string e, .string l, .string p] w fun x w' => x = .returned (.bool false) ∧ w' = w := by
  unfold maxLen at ht hn he hl hp
  go_enter Try.func8, Try.ntmps8
  go_wp2
  all_goals first | (exfalso; omega) | (go_ret; exact ⟨rfl, rfl⟩)

/-- The first quote from place i on, or the end. -/
theorem first_quote (t : List UInt8) (q : UInt8) : ∀ (d i en : Nat), en - i = d → i ≤ en → en ≤ t.length →
    ∃ j, i ≤ j ∧ j ≤ en ∧ (∀ k, i ≤ k → k < j → ∀ h : k < t.length, t[k] ≠ q) ∧ (j < en → ∃ h : j < t.length, t[j] = q) := by
  intro d
  induction d with
  | zero =>
    intro i en h1 h2 h3
    exact ⟨i, Nat.le_refl _, by omega, fun k a b => by omega, fun h => by omega⟩
  | succ d ih =>
    intro i en h1 h2 h3
    by_cases hq : t[i]'(by omega) = q
    · exact ⟨i, Nat.le_refl _, by omega, fun k a b => by omega, fun _ => ⟨by omega, hq⟩⟩
    · obtain ⟨j, j1, j2, j3, j4⟩ := ih (i + 1) en (by omega) (by omega) h3
      refine ⟨j, by omega, j2, fun k a b h => ?_, j4⟩
      by_cases hk : k = i
      · subst hk; exact hq
      · exact j3 k (by omega) b h

end Go.Proofs.Qxb6603465a
