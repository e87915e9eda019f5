/- Seat b6604027a: the small walks. -/
import Derived.Test.Qxb6604027aShelf
import Derived.WalkKit
import Derived.WalkSpells
import Derived.WalkLawsBesides
import Derived.Deep.Light
import Derived.Deep.OwnRows
import Derived.OwnWalk
import Derived.Below
import Derived.Deep.RegionHeld3
import Derived.WalkMore
import Derived.Lib.Builder
import Derived.Deep.RegionHeldLaw
import Derived.Deep.RegionLawGrows
import Derived.Deep.LoopGhost
import Derived.BigQuiet
import Derived.Deep.QuietTactic
import Derived.WalkSmall
namespace Go.Proofs.Qxb6604027a
open Go.RowKit

/-- Sixteen bytes, as a value. -/
abbrev arr (F : Nat → Int) : Value := .agg #[.int .u8 (F 0), .int .u8 (F 1), .int .u8 (F 2), .int .u8 (F 3), .int .u8 (F 4), .int .u8 (F 5), .int .u8 (F 6), .int .u8 (F 7), .int .u8 (F 8), .int .u8 (F 9), .int .u8 (F 10), .int .u8 (F 11), .int .u8 (F 12), .int .u8 (F 13), .int .u8 (F 14), .int .u8 (F 15)]

set_option maxRecDepth 100000 in
set_option maxHeartbeats 1000000 in
theorem bytes14_yes (x0 : Int) (F : Nat → Int) (a1 a3 : Option Addr) (n1 c1 n3 c3 : Nat) (w : World) (h : n1 + n3 ≤ 1048576) :
    Calls Try.prog 14 #[.int .u8 x0, .slice a1 n1 c1, arr F, .slice a3 n3 c3] w fun e w' => e = .returned (.bool true) ∧ Below w.heap.size w w' := by
  have h1 : (n1 : Int) ≤ 1048576 := by omega
  have h3 : (n3 : Int) ≤ 1048576 := by omega
  have h13 : (n1 : Int) + n3 ≤ 1048576 := by omega
  go_enter Try.func14, Try.ntmps14
  go_wp2_with fail
  go_ret
  exact ⟨rfl, (Below.refl _ _).alloc (Nat.le_refl _) _⟩

set_option maxRecDepth 100000 in
set_option maxHeartbeats 1000000 in
theorem bytes14_no (x0 : Int) (F : Nat → Int) (a1 a3 : Option Addr) (n1 c1 n3 c3 : Nat) (w : World) (h : ¬ n1 + n3 ≤ 1048576) :
    Calls Try.prog 14 #[.int .u8 x0, .slice a1 n1 c1, arr F, .slice a3 n3 c3] w fun e w' => e = .returned (.bool false) ∧ Below w.heap.size w w' := by
  by_cases h1 : (n1 : Int) ≤ 1048576
  · by_cases h3 : (n3 : Int) ≤ 1048576
    · have h13 : ¬ (n1 : Int) + n3 ≤ 1048576 := by omega
      clear h
      go_enter Try.func14, Try.ntmps14
      go_wp2_with fail
      go_ret
      exact ⟨rfl, (Below.refl _ _).alloc (Nat.le_refl _) _⟩
    · clear h
      go_enter Try.func14, Try.ntmps14
      go_wp2_with fail
      go_ret
      exact ⟨rfl, (Below.refl _ _).alloc (Nat.le_refl _) _⟩
  · clear h
    go_enter Try.func14, Try.ntmps14
    go_wp2_with fail
    go_ret
    exact ⟨rfl, (Below.refl _ _).alloc (Nat.le_refl _) _⟩

/-- The slice's bytes. -/
def Rowb (a : Option Addr) (n : Nat) (A : Nat → Int) (w : World) : Prop := n = 0 ∨ ∃ b o, a = some ⟨b, o, none⟩ ∧ b < w.heap.size ∧ ∀ i, i < n → w.cell? ⟨b, o + i, none⟩ = some (.int .u8 (A i))

/-- What zzCopy hands back. -/
def Cp (a : Option Addr) (n c : Nat) (A : Nat → Int) (B : Nat) (w : World) : Prop := (a = none ∧ n = 0 ∧ c = 0) ∨ ∃ b, a = some ⟨b, 0, none⟩ ∧ c = n ∧ B ≤ b ∧ b < w.heap.size ∧ ∀ i, i < n → w.cell? ⟨b, i, none⟩ = some (.int .u8 (A i))

def CpPost (n : Nat) (A : Nat → Int) (w : World) (e : Ending) (w' : World) : Prop := Below w.heap.size w w' ∧ ∃ a c, e = .returned (.slice a n c) ∧ Cp a n c A w.heap.size w'

theorem info5 : (Try.prog.info? 5).map (fun i => (i.zero, i.size, i.bytes)) = some (some (.int .u8 0), 1, 1) := by kernel_rfl

set_option maxRecDepth 100000 in
set_option maxHeartbeats 1000000 in
theorem copy_any (a : Option Addr) (n cap : Nat) (A : Nat → Int) (w : World) (hn : n ≤ 1048576) (h : Rowb a n A w) (hnil : a = none → n = 0) :
    Calls Try.prog 7 #[.slice a n cap] w (CpPost n A w) := by
  have heq := fun w => Lib.run_eql_slice_nil (P := Try.prog) w 22 5 a n cap 0 0 Try.underlying22
  have hmk := run_make_row' (P := Try.prog) 22 5 (.int .u8 0) 1 Try.underlying22 info5 rfl .i64 .i64 n (by omega) (by omega)
  rcases a with _ | x
  · obtain rfl := hnil rfl
    go_enter Try.func7, Try.ntmps7
    go_wp2_with fail
    go_ret
    exact ⟨Below.refl _ _, _, _, rfl, Or.inl ⟨rfl, rfl, rfl⟩⟩
  · go_enter Try.func7, Try.ntmps7
    go_wp2_with fail
    go_loopg [4] n (fun g v wr => ∃ k : Nat, g = n - k ∧ k ≤ n ∧ v = .int .i64 k ∧ Below w.heap.size w wr ∧ wr.rowIs w.heap.size 5 n (fun i => .int .u8 (if i < k then A i else 0)))
    case atStart => exact ⟨0, by omega, by omega, rfl, (Below.refl _ _).alloc (Nat.le_refl _) _, (World.rowIs_made _ _ _ _).congr fun i _ => by simp⟩
    case round =>
      obtain ⟨k, hg, hk, rfl, hbel, hrow⟩ := hrel
      have HG : Hid (gk = n - k) := hg
      clear hg
      by_cases hlt : k < n
      · have hlt' : (k : Int) < n := by omega
        rcases h with h | ⟨b, o, hx, hb, hc⟩
        · omega
        · have hy := hc k hlt
          cases hx
          have hy' : wr.cell? ⟨b, o + k, none⟩ = some (.int .u8 (A k)) := (hbel.cell (p := ⟨b, o + k, none⟩) hb).trans hy
          have hcell := hrow.cell hlt
          have hfz := hrow.frozen (i := k)
          clear hy hc
          go_wp2_with fail
          go_roundg (n - (k + 1))
          case measure => rw [HG.out]; omega
          case rel =>
            refine ⟨k + 1, rfl, by omega, by go_num, hbel.setCell (Nat.le_refl _) _, ?_⟩
            refine (hrow.set k (.int .u8 (A k))).congr fun i _ => ?_
            by_cases hik : i = k
            · simp [hik]
            · simp only [if_neg hik]
              by_cases h2 : i < k
              · rw [if_pos h2, if_pos (by omega)]
              · rw [if_neg h2, if_neg (by omega)]
      · have hlt' : ¬ (k : Int) < n := by omega
        obtain rfl : k = n := by omega
        go_wp2_with fail
        go_ret
        refine ⟨hbel, _, _, rfl, Or.inr ⟨_, rfl, rfl, Nat.le_refl _, hrow.lt, fun i hi => ?_⟩⟩
        have := hrow.cell hi
        rwa [if_pos hi] at this

set_option maxRecDepth 100000 in
set_option maxHeartbeats 1000000 in
theorem equal_yes (a a2 : Option Addr) (n c c2 : Nat) (A : Nat → Int) (w : World) (hn : n ≤ 1048576) (h : Rowb a n A w) (h2 : Rowb a2 n A w) :
    Calls Try.prog 10 #[.slice a n c, .slice a2 n c2] w fun e w' => e = .returned (.bool true) ∧ Below w.heap.size w w' := by
  have hn' : (n : Int) ≤ 1048576 := by omega
  go_enter Try.func10, Try.ntmps10
  go_wp2_with fail
  go_loopg [5] n (fun g v wr => ∃ k : Nat, g = n - k ∧ k ≤ n ∧ v = .int .i64 k ∧ Below w.heap.size w wr)
  case atStart => exact ⟨0, by omega, by omega, rfl, Below.refl _ _⟩
  case round =>
    obtain ⟨k, hg, hk, rfl, hbel⟩ := hrel
    have HG : Hid (gk = n - k) := hg
    clear hg
    by_cases hlt : k < n
    · have hlt' : (k : Int) < n := by omega
      rcases h with h | ⟨b, o, hx, hb, hc⟩
      · omega
      · rcases h2 with h2 | ⟨b2, o2, hx2, hb2, hc2⟩
        · omega
        · have hy := hc k hlt
          have hy2 := hc2 k hlt
          cases hx
          cases hx2
          have hz : wr.cell? ⟨b, o + k, none⟩ = some (.int .u8 (A k)) := (hbel.cell (p := ⟨b, o + k, none⟩) hb).trans hy
          have hz2 : wr.cell? ⟨b2, o2 + k, none⟩ = some (.int .u8 (A k)) := (hbel.cell (p := ⟨b2, o2 + k, none⟩) hb2).trans hy2
          clear hy hc hy2 hc2
          go_wp2_with fail
          go_region_held3 (fun w' => w'.cell? ⟨b, o + k, none⟩ = some (.int .u8 (A k)) ∧ w'.cell? ⟨b2, o2 + k, none⟩ = some (.int .u8 (A k))) (go_keep) (fail)
          go_wp2_with fail
          go_roundg (n - (k + 1))
          case measure => rw [HG.out]; omega
          case rel => exact ⟨k + 1, rfl, by omega, by go_num, hbel.drew⟩
    · have hlt' : ¬ (k : Int) < n := by omega
      go_wp2_with fail
      go_ret
      exact ⟨rfl, hbel⟩

end Go.Proofs.Qxb6604027a
