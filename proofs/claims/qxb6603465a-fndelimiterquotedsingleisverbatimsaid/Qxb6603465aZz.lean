/- Seat b6603465a: zzCloneInts and ZZDelimiterQuoted. -/
import Derived.Test.Qxb6603465aRead
import Derived.Deep.OwnRows
import Derived.Deep.RegionWith
import Derived.OpenShut
namespace Go.Proofs.Qxb6603465a
open Go.RowKit

theorem info3 : (Try.prog.info? 3).map (fun i => (i.zero, i.size, i.bytes)) = some (some (.int .i64 0), 1, 8) := by kernel_rfl

/-- A slice of ints of length n that can be read: nothing is asked where n is 0. -/
def Row (a : Option Addr) (n : Nat) (w : World) : Prop := n = 0 ∨ ∃ b o, a = some ⟨b, o, none⟩ ∧ b < w.heap.size ∧ ∀ i, i < n → ∃ x : Int, w.cell? ⟨b, o + i, none⟩ = some (.int .i64 x)

/-- What zzCloneInts leaves. -/
def ClPost (n : Nat) (w : World) (e : Ending) (w' : World) : Prop := Below w.heap.size w w' ∧ ∃ a' cap', e = .returned (.slice a' n cap') ∧ Row a' n w'

set_option maxRecDepth 100000 in
set_option maxHeartbeats 1000000 in
theorem clone_any (a : Option Addr) (n cap : Nat) (w : World) (hn : n ≤ 131072) (h : Row a n w) (hnil : a = none → n = 0) :
    Calls Try.prog 9 #[.slice a n cap] w (ClPost n w) := by
  have heq := fun w => Lib.run_eql_slice_nil (P := Try.prog) w 27 3 a n cap 0 0 Try.underlying27
  have hmk := run_make_row' (P := Try.prog) 27 3 (.int .i64 0) 8 Try.underlying27 info3 rfl .i64 .i64 n (by omega) (by omega)
  rcases a with _ | x
  · obtain rfl := hnil rfl
    go_enter Try.func9, Try.ntmps9
    go_wp2_with fail
    go_ret
    exact ⟨Below.refl _ _, _, _, rfl, Or.inl rfl⟩
  · go_enter Try.func9, Try.ntmps9
    go_wp2_with fail
    go_loopg [4] n (fun g v wr => ∃ k : Nat, g = n - k ∧ k ≤ n ∧ v = .int .i64 k ∧ Below w.heap.size w wr ∧ ∃ f : Nat → Int, wr.rowIs w.heap.size 3 n (fun i => .int .i64 (f i)))
    case atStart => exact ⟨0, by omega, by omega, rfl, (Below.refl _ _).alloc (Nat.le_refl _) _, fun _ => 0, World.rowIs_made _ _ _ _⟩
    case round =>
      obtain ⟨k, hg, hk, rfl, hbel, f, hrow⟩ := hrel
      have HG : Hid (gk = n - k) := hg
      clear hg
      by_cases hlt : k < n
      · have hlt' : (k : Int) < n := by omega
        rcases h with h | ⟨b, o, hx, hb, hc⟩
        · omega
        · obtain ⟨y, hy⟩ := hc k hlt
          cases hx
          have hy' : wr.cell? ⟨b, o + k, none⟩ = some (.int .i64 y) := (hbel.cell (p := ⟨b, o + k, none⟩) hb).trans hy
          have hcell := hrow.cell hlt
          have hfz := hrow.frozen (i := k)
          clear hy hc
          go_wp2_with fail
          go_roundg (n - (k + 1))
          case measure => rw [HG.out]; omega
          case rel =>
            refine ⟨k + 1, rfl, by omega, by go_num, hbel.setCell (Nat.le_refl _) _, fun i => if i = k then y else f i, ?_⟩
            refine (hrow.set k (.int .i64 y)).congr fun i _ => ?_
            by_cases hik : i = k
            · simp [hik]
            · simp [hik]
      · have hlt' : ¬ (k : Int) < n := by omega
        go_wp2_with fail
        go_ret
        refine ⟨hbel, _, _, rfl, Or.inr ⟨_, 0, rfl, hrow.lt, fun i hi => ⟨f i, ?_⟩⟩⟩
        rw [Nat.zero_add]
        exact hrow.cell hi

/-! ### ZZDelimiterQuoted -/

theorem info33 : (Try.prog.info? 33).map (fun i => (i.zero, i.size, i.bytes)) = some (some (.agg #[.int .i64 0, .int .i64 0]), 2, 16) := by kernel_rfl

theorem make33 (n : Nat) (hn : n ≤ 131072) (w : World) :
    (Instr.makeSlice 31 (.int .i64 n) (.int .i64 n)).run Try.prog w = .ok (.slice (some ⟨w.heap.size, 0, none⟩) n n) (w.alloc (.cells (madeCells #[.int .i64 0, .int .i64 0] (n * 2)) 33)) := by
  obtain ⟨i0, hi, hz⟩ := Option.map_eq_some_iff.1 info33
  simp only [Prod.mk.injEq] at hz
  obtain ⟨hz0, hz1, hz2⟩ := hz
  have h := run_make (P := Try.prog) w 31 33 i0 _ Try.underlying31 hi hz0 .i64 .i64 n n (by omega) (by omega) (by rw [hz2]; omega) (by omega)
  rw [hz1] at h
  exact h

/-- A row of n pairs of cells, whatever they hold. -/
def Pairs (vb n : Nat) (w : World) : Prop := ∃ c : Array Value, w.heap[vb]? = some (.cells c 33 (0, 0)) ∧ c.size = n * 2

theorem Pairs.cell {vb n : Nat} {w : World} (h : Pairs vb n w) {j : Nat} (hj : j < n * 2) : ∃ v, w.cell? ⟨vb, j, none⟩ = some v := by
  obtain ⟨c, hb, hc⟩ := h
  refine ⟨c[j], ?_⟩
  rw [Lib.cell_of_heap hb]
  exact Array.getElem?_eq_getElem (by omega)

theorem Pairs.frozen {vb n : Nat} {w : World} (h : Pairs vb n w) (j : Nat) : w.frozen? ⟨vb, j, none⟩ = false := by
  obtain ⟨c, hb, hc⟩ := h
  exact Lib.frozen_of_heap hb j

theorem Pairs.set {vb n : Nat} {w : World} (h : Pairs vb n w) (j : Nat) (v : Value) : Pairs vb n (w.setCell ⟨vb, j, none⟩ v) := by
  obtain ⟨c, hb, hc⟩ := h
  refine ⟨c.setIfInBounds j v, ?_, by simpa using hc⟩
  simp [World.setCell, Array.getElem?_modify, hb]

/-- The world behind the making of the scan, the reader and the builder. -/
def mk3 (text lost : ByteArray) (i n vb : Nat) (en nx : Int) (w : World) : World :=
  ((w.alloc (.cells #[.slice none 0 0, .slice none 0 0, .slice none 0 0, .string lost] 40)).alloc
    (.cells #[.pointer (some ⟨w.heap.size, 0, none⟩), .string text, .slice none 0 0, .slice (some ⟨vb, 0, none⟩) n n, .int .i64 i, .int .i64 en, .int .i64 nx, .int .i64 0, .int .i64 0, .string ⟨#[]⟩, .slice none 0 0, .bool false, .slice none 0 0] 44)).alloc
    (.cells #[.pointer none, .slice none 0 0] 47)

theorem three_blocks (w : World) (O1 O2 O3 : Obj) : (((w.alloc O1).alloc O2).alloc O3).heap[w.heap.size + 1]? = some O2 ∧ (((w.alloc O1).alloc O2).alloc O3).heap[w.heap.size]? = some O1 := by
  constructor
  · rw [Deep.blk_alloc_lt _ _ _ (by simp)]
    have := Deep.blk_alloc_new (w.alloc O1) O2
    simpa using this
  · rw [Deep.blk_alloc_lt _ _ _ (by simp; omega), Deep.blk_alloc_lt _ _ _ (by simp)]
    exact Deep.blk_alloc_new w O1

theorem mk3_rd (text lost : ByteArray) (i n vb : Nat) (en nx : Int) (w : World) : Rd text (w.heap.size + 1) w.heap.size i en lost (mk3 text lost i n vb en nx w) := by
  obtain ⟨b1, b0⟩ := three_blocks w (.cells #[.slice none 0 0, .slice none 0 0, .slice none 0 0, .string lost] 40)
    (.cells #[.pointer (some ⟨w.heap.size, 0, none⟩), .string text, .slice none 0 0, .slice (some ⟨vb, 0, none⟩) n n, .int .i64 i, .int .i64 en, .int .i64 nx, .int .i64 0, .int .i64 0, .string ⟨#[]⟩, .slice none 0 0, .bool false, .slice none 0 0] 44)
    (.cells #[.pointer none, .slice none 0 0] 47)
  unfold mk3
  refine ⟨?_, ?_, ?_, ?_, Lib.frozen_of_heap b1 4, ?_, Lib.frozen_of_heap b0 3⟩
  · rw [Lib.cell_of_heap b1]; rfl
  · rw [Lib.cell_of_heap b1]; rfl
  · rw [Lib.cell_of_heap b1]; rfl
  · rw [Lib.cell_of_heap b1]; rfl
  · rw [Lib.cell_of_heap b0]; rfl

theorem mk3_size (text lost : ByteArray) (i n vb : Nat) (en nx : Int) (w : World) : (mk3 text lost i n vb en nx w).heap.size = w.heap.size + 3 := by simp [mk3]

theorem mk3_bld (text lost : ByteArray) (i n vb : Nat) (en nx : Int) (w : World) : (mk3 text lost i n vb en nx w).heap[w.heap.size + 2]? = some (.cells #[.pointer none, .slice none 0 0] 47 (0, 0)) := by
  unfold mk3
  have := Deep.blk_alloc_new ((w.alloc (.cells #[.slice none 0 0, .slice none 0 0, .slice none 0 0, .string lost] 40)).alloc
    (.cells #[.pointer (some ⟨w.heap.size, 0, none⟩), .string text, .slice none 0 0, .slice (some ⟨vb, 0, none⟩) n n, .int .i64 i, .int .i64 en, .int .i64 nx, .int .i64 0, .int .i64 0, .string ⟨#[]⟩, .slice none 0 0, .bool false, .slice none 0 0] 44)) (.cells #[.pointer none, .slice none 0 0] 47)
  simpa using this

theorem mk3_below {A : Nat} {w0 w : World} (h : Below A w0 w) (hA : A ≤ w.heap.size) (text lost : ByteArray) (i n vb : Nat) (en nx : Int) : Below A w0 (mk3 text lost i n vb en nx w) :=
  ((h.alloc hA _).alloc (by simp; omega) _).alloc (by simp; omega) _

/-- What ZZDelimiterQuoted leaves, where the read stops at j. -/
def ZzPost (text lost pre : ByteArray) (i j : Nat) (en : Int) (w : World) (e : Ending) (w' : World) : Prop :=
  Below w.heap.size w w' ∧ ((((j : Int) < en) ∧ e = .returned (.tuple #[.string ⟨(pre.data.toList ++ (text.data.toList.drop i).take (j - i)).toArray⟩, .int .i64 (j + 1 : Nat), .string lost])) ∨
    (¬ ((j : Int) < en) ∧ e = .returned (.tuple #[.string ⟨(pre.data.toList ++ (text.data.toList.drop i).take (j - i)).toArray⟩, .int .i64 j, .string (lostAfter lost)])))

set_option maxRecDepth 100000 in
set_option maxHeartbeats 4000000 in
theorem zz_any (text esc lost pre : ByteArray) (q : UInt8) (i j n cap : Nat) (en nx : Int) (a : Option Addr) (w : World) (htext : text.size ≤ 1048576) (hen : en ≤ text.size) (hesc : esc.size = 1) (hesq : esc[0] = q) (hn : n ≤ 131072) (hrow : Row a n w) (hpre : pre.size ≤ 1048576)
    (hij : i ≤ j) (hje : (j : Int) ≤ en ∨ j = i) (hno : ∀ k, i ≤ k → k < j → ∀ h : k < text.data.toList.length, text.data.toList[k] ≠ q) (hq : (j : Int) < en → ∃ h : j < text.data.toList.length, text.data.toList[j] = q) :
    Calls Try.prog 7 #[.string text, .int .i64 i, .int .i64 en, .int .i64 nx, .slice a n cap, .string esc, .string lost, .string pre] w (ZzPost text lost pre i j en w) := by
  have hmk := make33 n hn
  have HDQ : Hid (∀ rb sb B b w', w.heap.size ≤ rb → rb < B → w.heap.size ≤ sb → sb < B → B ≤ w'.heap.size → Rd text rb sb i en lost w' → Bld B b pre.data.toList w' →
      Calls Try.prog 12 #[.pointer (some ⟨rb, 0, none⟩), .pointer (some ⟨b, 0, none⟩), .string esc] w' (DqPost text lost rb sb w.heap.size B b j en (pre.data.toList ++ (text.data.toList.drop i).take (j - i)) w')) :=
    fun rb sb B b w' h1 h2 h3 h4 h5 h6 h7 => dq_any text esc lost q rb sb w.heap.size B b i j en _ w' htext hen hesc hesq h1 h2 h3 h4 h5 (by simpa using hpre) hij hje hno hq h6 h7
  clear hesq hje hno hq
  go_enter Try.func7, Try.ntmps7
  go_wp2_with fail
  go_loopg [20, 28] n (fun g v1 v wr => ∃ k : Nat, g = n - k ∧ k ≤ n ∧ v = .int .i64 k ∧ Below w.heap.size w wr ∧ Pairs w.heap.size n wr)
  case atStart => exact ⟨0, by omega, by omega, rfl, (Below.refl _ _).alloc (Nat.le_refl _) _, ⟨_, Deep.blk_alloc_new _ _, size_madeCells _ _⟩⟩
  case round =>
    obtain ⟨k, hg, hk, rfl, hbel, hpr⟩ := hrel
    have HG : Hid (gk = n - k) := hg
    clear hg
    by_cases hlt : k < n
    · have hlt' : (k : Int) < n := by omega
      rcases hrow with h | ⟨b, o, hx, hb, hc⟩
      · omega
      · obtain ⟨y, hy⟩ := hc k hlt
        cases hx
        have hy' : wr.cell? ⟨b, o + k, none⟩ = some (.int .i64 y) := (hbel.cell (p := ⟨b, o + k, none⟩) hb).trans hy
        obtain ⟨v0, hv0⟩ := hpr.cell (j := k * 2) (by omega)
        obtain ⟨v1, hv1⟩ := hpr.cell (j := k * 2 + 1) (by omega)
        have hf0 := hpr.frozen (k * 2)
        have hf1 := hpr.frozen (k * 2 + 1)
        clear hy hc
        go_wp2_with fail
        go_roundg (n - (k + 1))
        case measure => rw [HG.out]; omega
        case rel =>
          exact ⟨k + 1, rfl, by omega, by go_num, (hbel.setCell (Nat.le_refl _) _).setCell (Nat.le_refl _) _, (hpr.set _ _).set _ _⟩
    · have hlt' : ¬ (k : Int) < n := by omega
      have hsz := hbel.size
      go_wp2_with fail
      show Calls Try.prog 11 #[.pointer (some ⟨wr.heap.size + 2, 0, none⟩), .string pre] (mk3 text lost i n w.heap.size en nx wr) _
      have hrd := mk3_rd text lost i n w.heap.size en nx wr
      have hbl := mk3_bld text lost i n w.heap.size en nx wr
      have hs3 := mk3_size text lost i n w.heap.size en nx wr
      have hb3 := mk3_below hbel (by omega) text lost i n w.heap.size en nx
      generalize mk3 text lost i n w.heap.size en nx wr = w3 at hrd hbl hs3 hb3
      refine (writeString (wr.heap.size + 2) (wr.heap.size + 2) pre w3 (Nat.le_refl _) hbl (by omega)).mono ?_
      rintro e w4 ⟨rfl, hbd, hb4⟩
      have hrd4 := hrd.below hb4 (by omega) (by omega)
      have hsz4 := hb4.size
      have HS4 : Hid (wr.heap.size + 3 ≤ w4.heap.size) := by show _ ≤ _; omega
      have HB4 : Hid (Below w.heap.size w w4) := hb3.trans (hb4.mono (by omega))
      clear hrd hbl hs3 hb3 hb4 hsz4
      go_wp2_with fail
      refine (HDQ.out (wr.heap.size + 1) wr.heap.size (wr.heap.size + 2) (wr.heap.size + 2) w4 (by omega) (by omega) hsz (by omega) (by have := HS4.out; omega) hrd4 hbd).mono ?_
      rintro e w5 ⟨rfl, hb5, hB5, hbd5, hfin⟩
      obtain ⟨fi, lo, hr5, hend⟩ : ∃ (fi : Nat) (lo : ByteArray), Rd text (wr.heap.size + 1) wr.heap.size fi en lo w5 ∧ ((((j : Int) < en) ∧ fi = j + 1 ∧ lo = lost) ∨ (¬ ((j : Int) < en) ∧ fi = j ∧ lo = lostAfter lost)) := by
        rcases hfin with ⟨h1, h2⟩ | ⟨h1, h2⟩
        · exact ⟨_, _, h2, Or.inl ⟨h1, rfl, rfl⟩⟩
        · exact ⟨_, _, h2, Or.inr ⟨h1, rfl, rfl⟩⟩
      have HEND : Hid ((((j : Int) < en) ∧ fi = j + 1 ∧ lo = lost) ∨ (¬ ((j : Int) < en) ∧ fi = j ∧ lo = lostAfter lost)) := hend
      have HB5 : Hid (Below w.heap.size w w5) := HB4.out.trans hb5
      clear hfin hend hb5
      obtain ⟨c0, c1, c4, c5, f4, cl, fl⟩ := id hr5
      have hpost : ∀ w6, Below (wr.heap.size + 2) w5 w6 → ZzPost text lost pre i j en w (.returned (.tuple #[.string ⟨(pre.data.toList ++ (text.data.toList.drop i).take (j - i)).toArray⟩, .int .i64 fi, .string lo])) w6 := by
        intro w6 h6
        refine ⟨HB5.out.trans (h6.mono (by omega)), ?_⟩
        rcases HEND.out with ⟨h1, rfl, rfl⟩ | ⟨h1, rfl, rfl⟩
        · exact Or.inl ⟨h1, rfl⟩
        · exact Or.inr ⟨h1, rfl⟩
      have HP : Hid (∀ w6, Below (wr.heap.size + 2) w5 w6 → ZzPost text lost pre i j en w (.returned (.tuple #[.string ⟨(pre.data.toList ++ (text.data.toList.drop i).take (j - i)).toArray⟩, .int .i64 fi, .string lo])) w6) := hpost
      clear hpost
      go_wp2_with fail
      go_region_with (go_at_call 13; refine (Try.Builder_String_any (wr.heap.size + 2) (wr.heap.size + 2) (pre.data.toList ++ (text.data.toList.drop i).take (j - i)) _ (Or.inr ?_) ?_).mono ?_; exact hbd5; exact hB5; rintro e w6 ⟨rfl, hb6⟩; have k0 := (hb6.cell (p := ⟨wr.heap.size + 1, 0, none⟩) (by simp)).trans c0; have k4 := (hb6.cell (p := ⟨wr.heap.size + 1, 4, none⟩) (by simp)).trans c4; have kl := (hb6.cell (p := ⟨wr.heap.size, 3, none⟩) (by simp)).trans cl)
      all_goals
        go_wp2_with fail
        go_ret3
        exact HP.out _ (((Below.refl _ _).drew).trans ‹Below (wr.heap.size + 2) w5.drew _›)

/-- The bytes that are read, as Go's text spells them. -/
theorem seg_bytes (pre text : ByteArray) (i j : Nat) : (⟨(pre.data.toList ++ (text.data.toList.drop i).take (j - i)).toArray⟩ : ByteArray) = pre ++ text.extract i j := by
  apply ByteArray.ext
  apply Array.ext'
  simp

end Go.Proofs.Qxb6603465a
