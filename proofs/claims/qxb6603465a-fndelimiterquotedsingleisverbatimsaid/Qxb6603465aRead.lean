/- Seat b6603465a: the reader's methods. -/
import Derived.Test.Qxb6603465aBld
import Derived.WalkSmall
import Derived.Deep.LoopGhost
import Derived.Deep.QuietTactic
import Derived.BigQuiet
namespace Go.Proofs.Qxb6603465a
open Go.RowKit

/-- The note of a quote that does not close. -/
def unclosed : ByteArray := ⟨#[97, 32, 113, 117, 111, 116, 101, 32, 116, 104, 97, 116, 32, 100, 111, 101, 115, 32, 110, 111, 116, 32, 99, 108, 111, 115, 101]⟩

/-- The scan's note behind a quote that does not close. -/
def lostAfter (lost : ByteArray) : ByteArray := if lost.toList.isEmpty = true then unclosed else lost

set_option maxRecDepth 100000 in
theorem lostAfter_any (lost : ByteArray) (w : World) :
    Calls Try.prog 10 #[.string lost] w fun e w' => e = .returned (.string (lostAfter lost)) ∧ w' = w := by
  by_cases h : lost.toList.isEmpty = true
  · have e : lostAfter lost = unclosed := if_pos h
    rw [e]
    go_enter Try.func10, Try.ntmps10
    go_wp2
    go_ret
    exact ⟨rfl, rfl⟩
  · have e : lostAfter lost = lost := if_neg h
    rw [e]
    have h' : lost.toList.isEmpty = false := by simpa using h
    clear h
    go_enter Try.func10, Try.ntmps10
    go_wp2
    go_ret
    exact ⟨rfl, rfl⟩

/-- The reader in memory: what delimiterQuoted reads of it. -/
structure Rd (text : ByteArray) (rb sb i : Nat) (en : Int) (lost : ByteArray) (w : World) : Prop where
  c0 : w.cell? ⟨rb, 0, none⟩ = some (.pointer (some ⟨sb, 0, none⟩))
  c1 : w.cell? ⟨rb, 1, none⟩ = some (.string text)
  c4 : w.cell? ⟨rb, 4, none⟩ = some (.int .i64 i)
  c5 : w.cell? ⟨rb, 5, none⟩ = some (.int .i64 en)
  f4 : w.frozen? ⟨rb, 4, none⟩ = false
  cl : w.cell? ⟨sb, 3, none⟩ = some (.string lost)
  fl : w.frozen? ⟨sb, 3, none⟩ = false

theorem lose_empty (rb sb : Nat) (u lost : ByteArray) (w : World) (h : lost.toList.isEmpty = true) (c0 : w.cell? ⟨rb, 0, none⟩ = some (.pointer (some ⟨sb, 0, none⟩))) (cl : w.cell? ⟨sb, 3, none⟩ = some (.string lost)) (fl : w.frozen? ⟨sb, 3, none⟩ = false) :
    Calls Try.prog 15 #[.pointer (some ⟨rb, 0, none⟩), .string u] w fun e w' => e = .returned (.tuple #[]) ∧ w' = w.setCell ⟨sb, 3, none⟩ (.string u) := by
  go_enter Try.func15, Try.ntmps15
  go_wp2
  go_end0
  exact ⟨rfl, rfl⟩

theorem lose_kept (rb sb : Nat) (u lost : ByteArray) (w : World) (h : lost.toList.isEmpty = false) (c0 : w.cell? ⟨rb, 0, none⟩ = some (.pointer (some ⟨sb, 0, none⟩))) (cl : w.cell? ⟨sb, 3, none⟩ = some (.string lost)) :
    Calls Try.prog 15 #[.pointer (some ⟨rb, 0, none⟩), .string u] w fun e w' => e = .returned (.tuple #[]) ∧ w' = w := by
  go_enter Try.func15, Try.ntmps15
  go_wp2
  go_end0
  exact ⟨rfl, rfl⟩

theorem Rd.drewN {text : ByteArray} {rb sb i : Nat} {en : Int} {lost : ByteArray} {w : World} (h : Rd text rb sb i en lost w) (n : Nat) : Rd text rb sb i en lost (w.drewN n) := ⟨h.c0, h.c1, h.c4, h.c5, h.f4, h.cl, h.fl⟩

theorem Rd.below {text : ByteArray} {rb sb i : Nat} {en : Int} {lost : ByteArray} {w w' : World} {B : Nat} (h : Rd text rb sb i en lost w) (hb : Below B w w') (h1 : rb < B) (h2 : sb < B) : Rd text rb sb i en lost w' :=
  ⟨(hb.cell (p := ⟨rb, 0, none⟩) h1).trans h.c0, (hb.cell (p := ⟨rb, 1, none⟩) h1).trans h.c1, (hb.cell (p := ⟨rb, 4, none⟩) h1).trans h.c4, (hb.cell (p := ⟨rb, 5, none⟩) h1).trans h.c5,
    (hb.frozen (p := ⟨rb, 4, none⟩) h1).trans h.f4, (hb.cell (p := ⟨sb, 3, none⟩) h2).trans h.cl, (hb.frozen (p := ⟨sb, 3, none⟩) h2).trans h.fl⟩

theorem Rd.setI {text : ByteArray} {rb sb i : Nat} {en : Int} {lost : ByteArray} {w : World} (h : Rd text rb sb i en lost w) (k : Nat) {x : Int} (hx : x = k) : Rd text rb sb k en lost (w.setCell ⟨rb, 4, none⟩ (.int .i64 x)) := by
  subst hx
  refine ⟨?_, ?_, World.cell?_setCell_same _ _ _ h.c4, ?_, ?_, ?_, ?_⟩
  · rw [World.cell?_setCell_other _ _ _ _ (by simp)]; exact h.c0
  · rw [World.cell?_setCell_other _ _ _ _ (by simp)]; exact h.c1
  · rw [World.cell?_setCell_other _ _ _ _ (by simp)]; exact h.c5
  · rw [World.frozen?_setCell]; exact h.f4
  · rw [World.cell?_setCell_other _ _ _ _ (by simp)]; exact h.cl
  · rw [World.frozen?_setCell]; exact h.fl

theorem Rd.setLost {text : ByteArray} {rb sb i : Nat} {en : Int} {lost : ByteArray} {w : World} (h : Rd text rb sb i en lost w) (u : ByteArray) : Rd text rb sb i en u (w.setCell ⟨sb, 3, none⟩ (.string u)) := by
  refine ⟨?_, ?_, ?_, ?_, ?_, World.cell?_setCell_same _ _ _ h.cl, ?_⟩
  · rw [World.cell?_setCell_other _ _ _ _ (by simp)]; exact h.c0
  · rw [World.cell?_setCell_other _ _ _ _ (by simp)]; exact h.c1
  · rw [World.cell?_setCell_other _ _ _ _ (by simp)]; exact h.c4
  · rw [World.cell?_setCell_other _ _ _ _ (by simp)]; exact h.c5
  · rw [World.frozen?_setCell]; exact h.f4
  · rw [World.frozen?_setCell]; exact h.fl

theorem Bld.setLow {B b : Nat} {l : List UInt8} {w : World} (h : Bld B b l w) {a : Addr} (ha : a.block < B) (u : Value) : Bld B b l (w.setCell a u) := by
  obtain ⟨hB, v, hbk, hown, hne⟩ := h
  exact ⟨hB, v, by rw [Below.heap_setCell _ _ _ _ (by omega)]; exact hbk, ownsRow_setCell_below hown ha u, hne⟩

theorem Bld.drewN {B b : Nat} {l : List UInt8} {w : World} (h : Bld B b l w) (n : Nat) : Bld B b l (w.drewN n) := h

/-- What delimiterQuoted leaves, where the read stops at j. -/
def DqPost (text lost : ByteArray) (rb sb A B b j : Nat) (en : Int) (l : List UInt8) (w : World) (e : Ending) (w' : World) : Prop :=
  e = .returned (.tuple #[]) ∧ Below A w w' ∧ B ≤ w'.heap.size ∧ Bld B b l w' ∧
    ((((j : Int) < en) ∧ Rd text rb sb (j + 1) en lost w') ∨ (¬ ((j : Int) < en) ∧ Rd text rb sb j en (lostAfter lost) w'))

theorem seg_snoc (t : List UInt8) (i k : Nat) (hik : i ≤ k) (hk : k < t.length) : (t.drop i).take (k + 1 - i) = (t.drop i).take (k - i) ++ [t[k]] := by
  rw [show k + 1 - i = (k - i) + 1 by omega, List.take_succ_eq_append_getElem (by rw [List.length_drop]; omega), List.getElem_drop]
  simp [show i + (k - i) = k by omega]

/-- WriteByte of a backslash, its number written out. -/
theorem writeByte92 (B b : Nat) (l : List UInt8) (w : World) (h : Bld B b l w) (hlen : l.length + 1 ≤ 140737488355328) (hBw : B ≤ w.heap.size) :
    Calls Try.prog 18 #[.pointer (some ⟨b, 0, none⟩), .int .u8 92] w fun e w' => e = .returned .nilIface ∧ Bld B b (l ++ [92]) w' ∧ Below B w w' := writeByte B b l 92 w h hlen hBw

set_option maxRecDepth 100000 in
set_option maxHeartbeats 4000000 in
theorem dq_any (text esc lost : ByteArray) (q : UInt8) (rb sb A B b i j : Nat) (en : Int) (l : List UInt8) (w : World) (htext : text.size ≤ 1048576) (hen : en ≤ text.size) (hesc : esc.size = 1) (hesq : esc[0] = q)
    (hr1 : A ≤ rb) (hr2 : rb < B) (hs1 : A ≤ sb) (hs2 : sb < B) (hBw : B ≤ w.heap.size) (hl : l.length ≤ 1048576)
    (hij : i ≤ j) (hje : (j : Int) ≤ en ∨ j = i) (hno : ∀ k, i ≤ k → k < j → ∀ h : k < text.data.toList.length, text.data.toList[k] ≠ q) (hq : (j : Int) < en → ∃ h : j < text.data.toList.length, text.data.toList[j] = q)
    (hrd : Rd text rb sb i en lost w) (hb : Bld B b l w) :
    Calls Try.prog 12 #[.pointer (some ⟨rb, 0, none⟩), .pointer (some ⟨b, 0, none⟩), .string esc] w (DqPost text lost rb sb A B b j en (l ++ (text.data.toList.drop i).take (j - i)) w) := by
  have hen' : en ≤ 1048576 := by omega
  have he1 : (esc.size : Int) = 1 := by omega
  have HNO : Hid (∀ k, i ≤ k → k < j → ∀ h : k < text.data.toList.length, text.data.toList[k] ≠ q) := hno
  have HQ : Hid ((j : Int) < en → ∃ h : j < text.data.toList.length, text.data.toList[j] = q) := hq
  have HJE : Hid ((j : Int) ≤ en ∨ j = i) := hje
  clear hno hq hje
  have hAB : A ≤ B := by omega
  go_enter Try.func12, Try.ntmps12
  go_wp2_with fail
  go_loopg [] (j + 1 - i) (fun g wr => ∃ k : Nat, g = j + 1 - k ∧ i ≤ k ∧ k ≤ j ∧ Rd text rb sb k en lost wr ∧ Bld B b (l ++ (text.data.toList.drop i).take (k - i)) wr ∧ Below A w wr ∧ B ≤ wr.heap.size)
  case atStart => exact ⟨i, rfl, Nat.le_refl _, hij, hrd, by simpa using hb, Below.refl _ _, hBw⟩
  case round =>
    obtain ⟨k, hg, hik, hkj, hrk, hbk, hbel, hBr⟩ := hrel
    have HG : Hid (gk = j + 1 - k) := hg
    clear hg hrd hb
    obtain ⟨c0, c1, c4, c5, f4, cl, fl⟩ := id hrk
    by_cases hlt : (k : Int) < en
    · have hks : k < text.size := by omega
      have hks' : (k : Int) < text.size := by omega
      have hgd : decide (en ≤ (k : Int)) = false := decide_eq_false (by omega)
      generalize hv : text[k] = v
      have HB : Hid (text.data.toList[k]'(by simpa using hks) = v) := hv
      have hlen1 : (l ++ (text.data.toList.drop i).take (k - i)).length + 1 ≤ 140737488355328 := by
        simp only [List.length_append, List.length_take, List.length_drop, Array.length_toList]
        have : text.data.size = text.size := rfl
        omega
      by_cases hvq : v = q
      · -- the closing quote
        have hkj' : k = j := by
          refine Nat.le_antisymm hkj (Nat.le_of_not_lt fun hlt2 => ?_)
          exact HNO.out k hik hlt2 (by simpa using hks) (HB.out.trans hvq)
        subst hkj'
        subst hvq
        go_wp2_with fail
        go_quiet (fail)
        go_wp2_with fail
        go_quiet (fail)
        go_wp2_with fail
        go_end0
        refine ⟨rfl, (below_drewN hbel _).setCell hr1 _, by simpa [World.setCell] using hBr, (hbk.drewN _).setLow hr2 _, Or.inl ⟨hlt, (hrk.drewN _).setI (k + 1) (by omega)⟩⟩
      · have hkj' : k < j := by
          refine Nat.lt_of_le_of_ne hkj fun he => ?_
          subst he
          obtain ⟨h, hh⟩ := HQ.out hlt
          exact hvq (HB.out.symm.trans hh)
        have hvb : ((v.toNat : Int) == (q.toNat : Int)) = false := beq_eq_false_iff_ne.2 (fun he => hvq (UInt8.toNat_inj.1 (by omega)))
        have hrel' : ∀ wx, Below A w wx → B ≤ wx.heap.size → Rd text rb sb (k + 1) en lost wx → Bld B b ((l ++ (text.data.toList.drop i).take (k - i)) ++ [v]) wx →
            ∃ k' : Nat, j - k = j + 1 - k' ∧ i ≤ k' ∧ k' ≤ j ∧ Rd text rb sb k' en lost wx ∧ Bld B b (l ++ (text.data.toList.drop i).take (k' - i)) wx ∧ Below A w wx ∧ B ≤ wx.heap.size := by
          intro wx h1 h2 h3 h4
          refine ⟨k + 1, by omega, by omega, by omega, h3, ?_, h1, h2⟩
          rw [seg_snoc _ _ _ hik (by simpa using hks), HB.out, ← List.append_assoc]
          exact h4
        have HREL : Hid (∀ wx, Below A w wx → B ≤ wx.heap.size → Rd text rb sb (k + 1) en lost wx → Bld B b ((l ++ (text.data.toList.drop i).take (k - i)) ++ [v]) wx →
            ∃ k' : Nat, j - k = j + 1 - k' ∧ i ≤ k' ∧ k' ≤ j ∧ Rd text rb sb k' en lost wx ∧ Bld B b (l ++ (text.data.toList.drop i).take (k' - i)) wx ∧ Below A w wx ∧ B ≤ wx.heap.size) := hrel'
        clear hrel' hvq
        generalize l ++ (text.data.toList.drop i).take (k - i) = lk at hbk hlen1 HREL
        by_cases h92 : v = 92
        · subst h92
          have e92 : ((92 : UInt8).toNat : Int) = 92 := rfl
          rw [e92] at hvb
          go_wp2_with fail
          go_quiet (fail)
          go_wp2_with fail
          go_quiet (fail)
          go_wp2_with fail
          refine (writeByte92 B b lk _ ((hbk.drewN _).setLow hr2 _) hlen1 (by simpa [World.setCell] using hBr)).mono ?_
          rintro e w1 ⟨rfl, hb1, hbel1⟩
          go_wp2_with fail
          go_roundg (j - k)
          case measure => rw [HG.out]; omega
          case rel =>
            refine HREL.out _ (((below_drewN hbel _).setCell hr1 _).trans (hbel1.mono hAB)) ?_ (((hrk.drewN _).setI (k + 1) (by omega)).below hbel1 hr2 hs2) hb1
            have := hbel1.size
            simp [World.setCell] at this
            omega
        · have h92b : ((v.toNat : Int) == 92) = false := beq_eq_false_iff_ne.2 (fun he => h92 (UInt8.toNat_inj.1 (by simp; omega)))
          clear h92
          go_wp2_with fail
          go_quiet (fail)
          go_wp2_with fail
          go_quiet (fail)
          go_wp2_with fail
          refine (writeByte B b lk v _ ((hbk.drewN _).setLow hr2 _) hlen1 (by simpa [World.setCell] using hBr)).mono ?_
          rintro e w1 ⟨rfl, hb1, hbel1⟩
          go_wp2_with fail
          go_roundg (j - k)
          case measure => rw [HG.out]; omega
          case rel =>
            refine HREL.out _ (((below_drewN hbel _).setCell hr1 _).trans (hbel1.mono hAB)) ?_ (((hrk.drewN _).setI (k + 1) (by omega)).below hbel1 hr2 hs2) hb1
            have := hbel1.size
            simp [World.setCell] at this
            omega
    · have hgd : decide (en ≤ (k : Int)) = true := decide_eq_true (by omega)
      have hkj' : k = j := by
        rcases HJE.out with h | h <;> omega
      subst hkj'
      by_cases hlo : lost.toList.isEmpty = true
      · have hla : lostAfter lost = unclosed := if_pos hlo
        have HLA : Hid (lostAfter lost = unclosed) := hla
        clear hla
        go_wp2_with fail
        go_quiet (fail)
        go_wp2_with fail
        refine (lose_empty rb sb _ lost _ hlo (by simpa using c0) (by simpa using cl) (by simpa using fl)).mono ?_
        rintro e w1 ⟨rfl, rfl⟩
        go_wp2_with fail
        go_end0
        refine ⟨rfl, (below_drewN hbel _).setCell hs1 _, by simpa [World.setCell] using hBr, (hbk.drewN _).setLow hs2 _, Or.inr ⟨by omega, ?_⟩⟩
        rw [HLA.out]
        exact (hrk.drewN _).setLost unclosed
      · have hla : lostAfter lost = lost := if_neg hlo
        have HLA : Hid (lostAfter lost = lost) := hla
        have hlo' : lost.toList.isEmpty = false := by simpa using hlo
        clear hla hlo
        go_wp2_with fail
        go_quiet (fail)
        go_wp2_with fail
        refine (lose_kept rb sb _ lost _ hlo' (by simpa using c0) (by simpa using cl)).mono ?_
        rintro e w1 ⟨rfl, rfl⟩
        go_wp2_with fail
        go_end0
        refine ⟨rfl, below_drewN hbel _, hBr, hbk.drewN _, Or.inr ⟨by omega, ?_⟩⟩
        rw [HLA.out]
        exact hrk.drewN _

end Go.Proofs.Qxb6603465a
