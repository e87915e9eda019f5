/- Seat b6603149a: the walk of delimited. -/
import Derived.Test.Qxb6603149aBracket
import Derived.Test.Qxb6603149aW1
import Derived.WalkKit
import Derived.WalkSpells
import Derived.WalkLawsBesides
import Derived.Deep.LoopGhost
import Derived.Deep.QuietTactic
import Derived.BigQuiet
import Derived.WalkSmall
namespace Go.Proofs.Qxb6603149a
open Go.RowKit

/-- The parser in memory, as delimited reads it. -/
structure Psr (s : ByteArray) (b i : Nat) (m : Int) (w : World) : Prop where
  c0 : w.cell? ⟨b, 0, none⟩ = some (.string s)
  c2 : w.cell? ⟨b, 2, none⟩ = some (.int .i64 i)
  fr : w.frozen? ⟨b, 2, none⟩ = false
  mx : w.cell? ⟨0, 0, none⟩ = some (.int .i64 m)

theorem Psr.drewN {s : ByteArray} {b i : Nat} {m : Int} {w : World} (h : Psr s b i m w) (n : Nat) : Psr s b i m (w.drewN n) := ⟨h.c0, h.c2, h.fr, h.mx⟩

theorem Psr.set {s : ByteArray} {b i : Nat} {m : Int} {w : World} (h : Psr s b i m w) (j : Nat) {x : Int} (hx : x = j) : Psr s b j m (w.setCell ⟨b, 2, none⟩ (.int .i64 x)) := by
  subst hx
  refine ⟨?_, World.cell?_setCell_same _ _ _ h.c2, ?_, ?_⟩
  · rw [World.cell?_setCell_other _ _ _ _ (by simp)]; exact h.c0
  · rw [World.frozen?_setCell]; exact h.fr
  · rw [World.cell?_setCell_other _ _ _ _ (by simp)]; exact h.mx

theorem fault_cells (w : World) (x y : Value) (b o : Nat) (hb : b < w.heap.size) :
    ((w.alloc (.cells #[x, y] 44)).drew).cell? ⟨w.heap.size, 0, none⟩ = some x ∧ ((w.alloc (.cells #[x, y] 44)).drew).cell? ⟨w.heap.size, 1, none⟩ = some y ∧
    ((w.alloc (.cells #[x, y] 44)).drew).cell? ⟨b, o, none⟩ = w.cell? ⟨b, o, none⟩ := by
  refine ⟨?_, ?_, ?_⟩
  · show (w.alloc (.cells #[x, y] 44)).cell? _ = _
    rw [World.cell?_alloc_at _ _ _ _ (by simp)]
    simp
  · show (w.alloc (.cells #[x, y] 44)).cell? _ = _
    rw [World.cell?_alloc_at _ _ _ _ (by simp)]
    simp
  · show (w.alloc (.cells #[x, y] 44)).cell? _ = _
    rw [World.cell?_alloc_old _ _ _ (by simp; omega)]

/-- The reason of a fault. -/
def whyOf (k : Nat) (what : ByteArray) : ByteArray :=
  if k = 1 then what ++ ⟨#[32, 119, 105, 116, 104, 111, 117, 116, 32, 105, 116, 115, 32, 99, 108, 111, 115, 105, 110, 103, 32, 100, 101, 108, 105, 109, 105, 116, 101, 114]⟩
  else ⟨#[97, 32, 98, 114, 97, 99, 107, 101, 116, 32, 101, 120, 112, 114, 101, 115, 115, 105, 111, 110, 32, 119, 105, 116, 104, 111, 117, 116, 32, 105, 116, 115, 32, 99, 108, 111, 115, 105, 110, 103, 32, 34, 93, 34]⟩

/-- What delimited leaves. -/
def DlPost (s what : ByteArray) (br : Bool) (d : Int) (a b : Nat) (w : World) (e : Ending) (w' : World) : Prop :=
  ∃ k n : Nat, Plain.D br d s.data.toList a = (k, n) ∧ Below b w w' ∧ w'.cell? ⟨b, 2, none⟩ = some (.int .i64 n) ∧
    ((k = 0 ∧ e = .returned (.pointer none)) ∨
     (k ≠ 0 ∧ ∃ f : Nat, e = .returned (.pointer (some ⟨f, 0, none⟩)) ∧ w'.cell? ⟨f, 0, none⟩ = some (.int .i64 (fmin n s.size)) ∧ w'.cell? ⟨f, 1, none⟩ = some (.string (whyOf k what))))

theorem DlPost.fault {s what : ByteArray} {br : Bool} {d : Int} {a b i k : Nat} {m : Int} {w wr : World} (hD : Plain.D br d s.data.toList a = (k, i)) (hk : k ≠ 0) (hp : Psr s b i m wr) (hbel : Below b w wr) (hbw : b < w.heap.size) :
    DlPost s what br d a b w (.returned (.pointer (some ⟨wr.heap.size, 0, none⟩))) ((wr.alloc (.cells #[.int .i64 (fmin i s.size), .string (whyOf k what)] 44)).drew) := by
  have hsz := hbel.size
  obtain ⟨f0, f1, f2⟩ := fault_cells wr (.int .i64 (fmin i s.size)) (.string (whyOf k what)) b 2 (by omega)
  exact ⟨k, i, hD, (hbel.alloc (by omega) _).drew, by rw [f2]; exact hp.c2, Or.inr ⟨hk, _, rfl, f0, f1⟩⟩

set_option maxRecDepth 100000 in
set_option maxHeartbeats 4000000 in
theorem delimited_any (s what : ByteArray) (br : Bool) (d : Int) (a b : Nat) (m : Int) (w : World) (hs : s.size ≤ 1048576) (hwhat : what.size ≤ 1048576) (ha : a ≤ 9223372036854775807) (hbw : b < w.heap.size) (hp : Psr s b a m w) :
    Calls Try.prog 21 #[.pointer (some ⟨b, 0, none⟩), .int .u8 d, .string what, .bool br] w (DlPost s what br d a b w) := by
  have hs' : (s.size : Int) ≤ 1048576 := by omega
  have hwh' : (what.size : Int) ≤ 1048576 := by omega
  go_enter Try.func21, Try.ntmps21
  go_wp2_with fail
  go_loopg [] (s.size + 2 - a) (fun g wr => ∃ i : Nat, g = s.size + 2 - i ∧ i ≤ 9223372036854775807 ∧ Psr s b i m wr ∧ Below b w wr ∧ Hid (Plain.D br d s.data.toList a = Plain.D br d s.data.toList i))
  case atStart => exact ⟨a, rfl, ha, hp, Below.refl _ _, rfl⟩
  case round =>
    obtain ⟨i, hg, hi, hpr, hbel, HD⟩ := hrel
    have HG : Hid (gk = s.size + 2 - i) := hg
    clear hg hp
    obtain ⟨k0, k2, kf, km⟩ := id hpr
    by_cases hlt : i < s.size
    · have hlt' : (i : Int) < s.size := by omega
      have hdt : decide ((i : Int) < (s.size : Int)) = true := decide_eq_true hlt'
      generalize hv : (s[i].toNat : Int) = v
      have HB : Hid (Plain.nb (s.data.toList[i]'(by simpa using hlt)) = v) := hv
      by_cases h10 : v = 10
      · -- a newline
        subst h10
        go_wp2_with fail
        go_quiet (fail)
        go_wp2_with fail
        refine (fault_any s _ b i _ (by simpa using k0) (by simpa using k2)).mono ?_
        rintro e w1 ⟨rfl, rfl⟩
        go_wp2_with fail
        go_ret
        exact DlPost.fault (k := 1) (HD.out.trans (Plain.D_newline _ _ _ _ _ HB.out)) (by omega) (hpr.drewN _) (below_drewN hbel _) hbw
      · have h10b : (v != 10) = true := by simpa using h10
        have H10 : Hid (v ≠ 10) := h10
        clear h10
        go_wp2_with fail
        go_quiet (fail)
        go_wp2_with fail
        go_quiet (fail)
        go_wp2_with fail
        · -- the delimiter
          go_ret
          have hvd : v = d := by simpa using ‹(v == d) = true›
          refine ⟨0, i + 1, HD.out.trans (Plain.D_delim _ _ _ _ _ (by rw [HB.out]; exact H10.out) (HB.out.trans hvd)), (below_drewN hbel _).setCell (Nat.le_refl _) _, ?_, Or.inl ⟨rfl, rfl⟩⟩
          exact ((hpr.drewN _).set (i + 1) (by omega)).c2
        · -- a backslash
          go_roundg (s.size + 2 - (i + 2))
          case measure => rw [HG.out]; omega
          case rel =>
            have hvd : v ≠ d := by simpa using ‹(v == d) = false›
            have h92 : v = 92 := by simpa using ‹(v == 92) = true›
            exact ⟨i + 2, rfl, by omega, (hpr.drewN _).set (i + 2) (by omega), (below_drewN hbel _).setCell (Nat.le_refl _) _, HD.out.trans (Plain.D_escape _ _ _ _ _ (by rw [HB.out]; exact hvd) (HB.out.trans h92))⟩
        · -- an opening bracket that is a byte as any other
          go_roundg (s.size + 2 - (i + 1))
          case measure => rw [HG.out]; omega
          case rel =>
            have hvd : v ≠ d := by simpa using ‹(v == d) = false›
            have h92 : v ≠ 92 := by simpa using ‹(v == 92) = false›
            have hbr : br = false := by simpa using ‹(!br) = true›
            exact ⟨i + 1, rfl, by omega, (hpr.drewN _).set (i + 1) (by omega), (below_drewN hbel _).setCell (Nat.le_refl _) _, HD.out.trans (Plain.D_other _ _ _ _ _ (by rw [HB.out]; exact H10.out) (by rw [HB.out]; exact hvd) (by rw [HB.out]; exact h92) (fun _ => hbr))⟩
        · -- a bracket expression
          have hvd : v ≠ d := by simpa using ‹(v == d) = false›
          have h91 : v = 91 := by simpa using ‹(v == 91) = true›
          have hbr : br = true := by simpa using ‹(!br) = false›
          have HVD : Hid (v ≠ d) := hvd
          have H91 : Hid (v = 91) := h91
          have HBR : Hid (br = true) := hbr
          clear hvd h91 hbr
          refine (bracket_any s i b m _ hs hlt (by simpa using k0) (by simpa using k2) (by simpa using kf) (by simpa using km)).mono ?_
          rintro e w1 (⟨hR, rfl, rfl⟩ | ⟨k, hR, rfl, rfl⟩)
          · have HR : Hid (Plain.R s.data.toList (i + 1) 0 0 = none) := hR
            clear hR
            go_wp2_with fail
            refine (fault_any s _ b i _ (by simpa using k0) (by simpa using k2)).mono ?_
            rintro e w1 ⟨rfl, rfl⟩
            go_wp2_with fail
            go_ret
            have hD2 : Plain.D br d s.data.toList i = (2, i) := by
              rw [HBR.out]
              exact Plain.D_bracket_none _ _ _ (by simpa using hlt) (by rw [HB.out]; exact HVD.out) (HB.out.trans H91.out) HR.out
            exact DlPost.fault (k := 2) (HD.out.trans hD2) (by omega) (hpr.drewN _) (below_drewN hbel _) hbw
          · have HR : Hid (Plain.R s.data.toList (i + 1) 0 0 = some k) := hR
            clear hR
            go_wp2_with fail
            have hkl := Plain.R_le _ _ _ _ _ HR.out
            have hkl2 : k ≤ s.size := by simpa using hkl.2
            go_roundg (s.size + 2 - k)
            case measure => rw [HG.out]; omega
            case rel =>
              have hD2 : Plain.D br d s.data.toList i = Plain.D br d s.data.toList k := by
                rw [HBR.out]
                exact (Plain.D_bracket_some _ _ _ _ (by simpa using hlt) (by rw [HB.out]; exact HVD.out) (HB.out.trans H91.out) HR.out).1
              exact ⟨k, rfl, by omega, (hpr.drewN _).set k rfl, (below_drewN hbel _).setCell (Nat.le_refl _) _, HD.out.trans hD2⟩
        · -- another byte
          go_roundg (s.size + 2 - (i + 1))
          case measure => rw [HG.out]; omega
          case rel =>
            have hvd : v ≠ d := by simpa using ‹(v == d) = false›
            have h92 : v ≠ 92 := by simpa using ‹(v == 92) = false›
            have h91 : v ≠ 91 := by simpa using ‹(v == 91) = false›
            exact ⟨i + 1, rfl, by omega, (hpr.drewN _).set (i + 1) (by omega), (below_drewN hbel _).setCell (Nat.le_refl _) _, HD.out.trans (Plain.D_other _ _ _ _ _ (by rw [HB.out]; exact H10.out) (by rw [HB.out]; exact hvd) (by rw [HB.out]; exact h92) (fun h => absurd (HB.out.symm.trans h) h91))⟩
    · have hge : decide ((i : Int) < (s.size : Int)) = false := decide_eq_false (by omega)
      go_wp2_with fail
      go_quiet (fail)
      go_wp2_with fail
      refine (fault_any s _ b i _ (by simpa using k0) (by simpa using k2)).mono ?_
      rintro e w1 ⟨rfl, rfl⟩
      go_wp2_with fail
      go_ret
      exact DlPost.fault (k := 1) (HD.out.trans (Plain.D_end _ _ _ _ (by simp; omega))) (by omega) (hpr.drewN _) (below_drewN hbel _) hbw

end Go.Proofs.Qxb6603149a
