/-
  The plain mathematics of seat b6603734a: no Go in sight. 'outcome t a flow': what reading a scalar at place a of the text t gives: none, or where the reader stands, the node's bounds, and whether it is null.
-/
namespace Go.Proofs.Qxb6603734a.Plain

/-- The byte at place k, as a number. -/
def bt (t : List UInt8) (k : Nat) : Int := ((t.getD k 0).toNat : Int)

/-- The first of the places i, i+1, .. (d of them) at which p holds; i + d where it holds at none. -/
def find (p : Nat → Bool) : Nat → Nat → Nat
  | 0, i => i
  | d + 1, i => if p i = true then i else find p d (i + 1)

theorem find_spec (p : Nat → Bool) : ∀ d i, i ≤ find p d i ∧ find p d i ≤ i + d ∧ (∀ k, i ≤ k → k < find p d i → p k = false) ∧ (find p d i < i + d → p (find p d i) = true) := by
  intro d
  induction d with
  | zero => intro i; exact ⟨Nat.le_refl _, Nat.le_refl _, fun k h1 h2 => absurd h2 (by simp [find]; omega), fun h => absurd h (by simp [find])⟩
  | succ d ih =>
    intro i
    unfold find
    by_cases hp : p i = true
    · rw [if_pos hp]
      exact ⟨Nat.le_refl _, by omega, fun k h1 h2 => by omega, fun _ => hp⟩
    · rw [if_neg hp]
      obtain ⟨h1, h2, h3, h4⟩ := ih (i + 1)
      refine ⟨by omega, by omega, fun k k1 k2 => ?_, fun h => h4 (by omega)⟩
      by_cases hk : k = i
      · subst hk; simpa using hp
      · exact h3 k (by omega) k2

/-- What is first is 'find'. -/
theorem find_eq (p : Nat → Bool) (d i r : Nat) (h1 : i ≤ r) (h2 : r ≤ i + d) (h3 : ∀ k, i ≤ k → k < r → p k = false) (h4 : r < i + d → p r = true) : find p d i = r := by
  obtain ⟨g1, g2, g3, g4⟩ := find_spec p d i
  rcases Nat.lt_trichotomy (find p d i) r with h | h | h
  · have a := h3 _ g1 h
    have b := g4 (by omega)
    rw [a] at b; simp at b
  · exact h
  · have a := g3 r h1 h
    have b := h4 (by omega)
    rw [a] at b; simp at b

/-- Does p hold at a place from i up to j? -/
def anyB (p : Nat → Bool) (i j : Nat) : Bool := decide (find p (j - i) i < j)

theorem anyB_true (p : Nat → Bool) (i j k : Nat) (h1 : i ≤ k) (h2 : k < j) (h : p k = true) : anyB p i j = true := by
  obtain ⟨g1, g2, g3, g4⟩ := find_spec p (j - i) i
  refine decide_eq_true (Nat.lt_of_not_le fun hge => ?_)
  have := g3 k h1 (by omega)
  rw [h] at this; simp at this

theorem anyB_false (p : Nat → Bool) (i j : Nat) (h : ∀ k, i ≤ k → k < j → p k = false) : anyB p i j = false := by
  obtain ⟨g1, g2, g3, g4⟩ := find_spec p (j - i) i
  refine decide_eq_false fun hlt => ?_
  have a := h _ g1 hlt
  have b := g4 (by omega)
  rw [a] at b; simp at b

/-- The next place from k on that holds no space. -/
def nn (t : List UInt8) (k : Nat) : Nat := find (fun i => !decide (bt t i = 32)) (t.length - k) k

theorem nn_space (t : List UInt8) (k : Nat) (h : k < t.length) (hs : bt t k = 32) : nn t k = nn t (k + 1) := by
  unfold nn
  rw [show t.length - k = (t.length - (k + 1)) + 1 by omega]
  conv => lhs; unfold find
  rw [if_neg (by simp [hs])]

theorem nn_here (t : List UInt8) (k : Nat) (h : k < t.length) (hs : bt t k ≠ 32) : nn t k = k := by
  unfold nn
  rw [show t.length - k = (t.length - (k + 1)) + 1 by omega]
  unfold find
  rw [if_pos (by simp [hs])]

theorem nn_end (t : List UInt8) : nn t t.length = t.length := by
  unfold nn
  rw [Nat.sub_self]
  rfl

theorem nn_le (t : List UInt8) (k : Nat) (h : k ≤ t.length) : k ≤ nn t k ∧ nn t k ≤ t.length := by
  obtain ⟨g1, g2, _, _⟩ := find_spec (fun i => !decide (bt t i = 32)) (t.length - k) k
  exact ⟨g1, by unfold nn; omega⟩

/-- Between: spaces. -/
theorem nn_between (t : List UInt8) (k i : Nat) (h1 : k ≤ i) (h2 : i < nn t k) : bt t i = 32 := by
  obtain ⟨g1, g2, g3, _⟩ := find_spec (fun i => !decide (bt t i = 32)) (t.length - k) k
  have := g3 i h1 h2
  simpa using this

theorem nn_same (t : List UInt8) (k : Nat) : ∀ (d i : Nat), i = k + d → i ≤ nn t k → i ≤ t.length → nn t i = nn t k := by
  intro d
  induction d with
  | zero => intro i h _ _; rw [h]; rfl
  | succ d ih =>
    intro i h h2 h3
    have hs := nn_between t k (i - 1) (by omega) (by omega)
    have := nn_space t (i - 1) (by omega) hs
    rw [show i - 1 + 1 = i by omega] at this
    rw [← this]
    exact ih (i - 1) (by omega) (by omega) (by omega)

/-- Does the scalar stop at k? -/
def stopB (t : List UInt8) (flow : Bool) (k : Nat) : Bool :=
  if bt t k = 10 ∨ bt t k = 13 then true
  else if bt t k = 58 then decide (k + 1 = t.length ∨ bt t (k + 1) = 32 ∨ bt t (k + 1) = 10 ∨ bt t (k + 1) = 13)
  else if bt t k = 44 ∨ bt t k = 91 ∨ bt t k = 93 ∨ bt t k = 123 ∨ bt t k = 125 then flow
  else if bt t k = 32 then decide (nn t k = t.length ∨ bt t (nn t k) = 10 ∨ bt t (nn t k) = 13 ∨ bt t (nn t k) = 35)
  else false

theorem stop_space (t : List UInt8) (flow : Bool) (k : Nat) (h : bt t k = 32) : stopB t flow k = decide (nn t k = t.length ∨ bt t (nn t k) = 10 ∨ bt t (nn t k) = 13 ∨ bt t (nn t k) = 35) := by
  simp [stopB, h]

/-- A run of spaces stops everywhere or nowhere. -/
theorem stop_run (t : List UInt8) (flow : Bool) (k i : Nat) (hk : k < t.length) (hs : bt t k = 32) (h1 : k ≤ i) (h2 : i < nn t k) : stopB t flow i = stopB t flow k := by
  have hle := (nn_le t k (by omega)).2
  have e := nn_same t k (i - k) i (by omega) (by omega) (by omega)
  rw [stop_space t flow i (nn_between t k i h1 h2), stop_space t flow k hs, e]

/-- Is a plain scalar refused at a? -/
def refB (t : List UInt8) (a : Nat) : Bool :=
  if bt t a = 45 then decide (a + 1 = t.length ∨ bt t (a + 1) = 32 ∨ bt t (a + 1) = 10 ∨ bt t (a + 1) = 13)
  else decide (bt t a ∈ [63, 58, 44, 91, 93, 123, 125, 35, 38, 42, 33, 124, 62, 37, 64, 96])

/-- A byte that a quoted scalar may not hold. -/
def badB (t : List UInt8) (q : Int) (k : Nat) : Bool := decide (bt t k = 10 ∨ bt t k = 13 ∨ (bt t k = 92 ∧ q = 34))

/-- Trailing spaces taken off, down to a. -/
def trim (t : List UInt8) (a : Nat) : Nat → Nat
  | 0 => 0
  | e + 1 => if a < e + 1 ∧ bt t e = 32 then trim t a e else e + 1

theorem trim_step (t : List UInt8) (a e : Nat) (h : a < e) (hs : bt t (e - 1) = 32) : trim t a e = trim t a (e - 1) := by
  obtain ⟨d, rfl⟩ : ∃ d, e = d + 1 := ⟨e - 1, by omega⟩
  conv => lhs; unfold trim
  rw [if_pos ⟨h, by simpa using hs⟩]
  rfl

theorem trim_here (t : List UInt8) (a e : Nat) (h : ¬ a < e ∨ bt t (e - 1) ≠ 32) : trim t a e = e := by
  cases e with
  | zero => rfl
  | succ d =>
    unfold trim
    rw [if_neg]
    rintro ⟨h1, h2⟩
    rcases h with h | h
    · exact h h1
    · exact h (by simpa using h2)

theorem trim_le (t : List UInt8) (a : Nat) : ∀ e, a ≤ e → a ≤ trim t a e ∧ trim t a e ≤ e := by
  intro e
  induction e with
  | zero => intro h; exact ⟨h, Nat.le_refl _⟩
  | succ e ih =>
    intro h
    unfold trim
    by_cases hc : a < e + 1 ∧ bt t e = 32
    · rw [if_pos hc]
      have := ih (by omega)
      omega
    · rw [if_neg hc]
      omega

/-- Over a run of spaces nothing is gained. -/
theorem trim_run (t : List UInt8) (a i : Nat) (hai : a ≤ i) : ∀ (d j : Nat), j = i + d → (∀ k, i ≤ k → k < j → bt t k = 32) → trim t a j = trim t a i := by
  intro d
  induction d with
  | zero => intro j h _; rw [h]; rfl
  | succ d ih =>
    intro j h hs
    rw [trim_step t a j (by omega) (hs (j - 1) (by omega) (by omega))]
    exact ih (j - 1) (by omega) (fun k h1 h2 => hs k h1 (by omega))

/-- Is the word one of null's? -/
def nullB (x : List UInt8) : Bool := x == [126] || x == [110, 117, 108, 108] || x == [78, 117, 108, 108] || x == [78, 85, 76, 76]

/-- Where the quote closes. -/
def closeAt (t : List UInt8) (a : Nat) : Nat := find (fun k => decide (bt t k = bt t a)) (t.length - (a + 1)) (a + 1)
/-- Where the plain scalar stops. -/
def stopAt (t : List UInt8) (flow : Bool) (a : Nat) : Nat := find (stopB t flow) (t.length - a) a

def outcome (t : List UInt8) (a : Nat) (flow : Bool) : Option (Nat × Nat × Nat × Bool) :=
  if a = t.length then none
  else if bt t a = 34 ∨ bt t a = 39 then
    (if closeAt t a = t.length ∨ anyB (badB t (bt t a)) (a + 1) (closeAt t a) = true then none else some (closeAt t a + 1, a + 1, closeAt t a, false))
  else if refB t a = true then none
  else if flow = true ∧ anyB (fun k => decide (bt t k = 63)) a (stopAt t flow a) = true then none
  else some (trim t a (stopAt t flow a), a, trim t a (stopAt t flow a), nullB ((t.drop a).take (trim t a (stopAt t flow a) - a)))

theorem out_end (t : List UInt8) (a : Nat) (flow : Bool) (h : a = t.length) : outcome t a flow = none := if_pos h

theorem out_quote_open (t : List UInt8) (a : Nat) (flow : Bool) (h : a < t.length) (hq : bt t a = 34 ∨ bt t a = 39) (hno : ∀ k, a + 1 ≤ k → k < t.length → bt t k ≠ bt t a) : outcome t a flow = none := by
  have hc : closeAt t a = t.length := find_eq _ _ _ _ (by omega) (by omega) (fun k h1 h2 => by simpa using hno k h1 h2) (fun h => by omega)
  unfold outcome
  rw [if_neg (by omega), if_pos hq, if_pos (Or.inl hc)]

theorem out_quote_bad (t : List UInt8) (a k : Nat) (flow : Bool) (h : a < t.length) (hq : bt t a = 34 ∨ bt t a = 39) (h1 : a + 1 ≤ k) (hno : ∀ i, a + 1 ≤ i → i ≤ k → bt t i ≠ bt t a) (hb : badB t (bt t a) k = true) : outcome t a flow = none := by
  obtain ⟨g1, g2, g3, g4⟩ := find_spec (fun k => decide (bt t k = bt t a)) (t.length - (a + 1)) (a + 1)
  unfold outcome
  rw [if_neg (by omega), if_pos hq]
  by_cases hc : closeAt t a = t.length
  · rw [if_pos (Or.inl hc)]
  · have hlt : k < closeAt t a := by
      refine Nat.lt_of_not_le fun hge => ?_
      have hc2 : closeAt t a < a + 1 + (t.length - (a + 1)) := by unfold closeAt at hc ⊢; omega
      have := g4 hc2
      exact hno _ g1 hge (by simpa using this)
    rw [if_pos (Or.inr (anyB_true _ _ _ k h1 hlt hb))]

theorem out_quote_made (t : List UInt8) (a c : Nat) (flow : Bool) (h : a < t.length) (hq : bt t a = 34 ∨ bt t a = 39) (h1 : a + 1 ≤ c) (h2 : c < t.length) (hno : ∀ i, a + 1 ≤ i → i < c → bt t i ≠ bt t a) (hc : bt t c = bt t a) (hb : ∀ i, a + 1 ≤ i → i < c → badB t (bt t a) i = false) :
    outcome t a flow = some (c + 1, a + 1, c, false) := by
  have e : closeAt t a = c := find_eq _ _ _ _ h1 (by omega) (fun k k1 k2 => by simpa using hno k k1 k2) (fun _ => by simpa using hc)
  unfold outcome
  rw [if_neg (by omega), if_pos hq, e, if_neg]
  rintro (h' | h')
  · omega
  · rw [anyB_false _ _ _ hb] at h'; simp at h'

theorem out_refused (t : List UInt8) (a : Nat) (flow : Bool) (h : a < t.length) (hq : ¬ (bt t a = 34 ∨ bt t a = 39)) (hr : refB t a = true) : outcome t a flow = none := by
  unfold outcome
  rw [if_neg (by omega), if_neg hq, if_pos hr]

theorem stop_63 (t : List UInt8) (flow : Bool) (k : Nat) (h : bt t k = 63) : stopB t flow k = false := by
  simp [stopB, h]

theorem out_mark (t : List UInt8) (a k : Nat) (h : a < t.length) (hq : ¬ (bt t a = 34 ∨ bt t a = 39)) (hr : refB t a = false) (h1 : a ≤ k) (h2 : k < t.length) (hno : ∀ i, a ≤ i → i < k → stopB t true i = false) (hm : bt t k = 63) : outcome t a true = none := by
  obtain ⟨g1, g2, g3, g4⟩ := find_spec (stopB t true) (t.length - a) a
  have hlt : k < stopAt t true a := by
    refine Nat.lt_of_not_le fun hge => ?_
    have hlen : stopAt t true a < a + (t.length - a) := by unfold stopAt at hge ⊢; omega
    have hs := g4 hlen
    by_cases he : stopAt t true a = k
    · have := stop_63 t true k hm
      unfold stopAt at he
      rw [he, this] at hs; simp at hs
    · have := hno (stopAt t true a) g1 (by omega)
      unfold stopAt at this
      rw [this] at hs; simp at hs
  unfold outcome
  rw [if_neg (by omega), if_neg hq, hr, if_neg (by simp), if_pos ⟨rfl, anyB_true _ _ _ k h1 hlt (by simpa using hm)⟩]

theorem out_plain (t : List UInt8) (a S : Nat) (flow : Bool) (h : a < t.length) (hq : ¬ (bt t a = 34 ∨ bt t a = 39)) (hr : refB t a = false) (h1 : a ≤ S) (h2 : S ≤ t.length) (hno : ∀ i, a ≤ i → i < S → stopB t flow i = false) (hs : S < t.length → stopB t flow S = true)
    (hm : flow = true → ∀ i, a ≤ i → i < S → bt t i ≠ 63) : outcome t a flow = some (trim t a S, a, trim t a S, nullB ((t.drop a).take (trim t a S - a))) := by
  have e : stopAt t flow a = S := find_eq _ _ _ _ h1 (by omega) hno (fun h => hs (by omega))
  unfold outcome
  rw [if_neg (by omega), if_neg hq, hr, if_neg (by simp), e, if_neg]
  rintro ⟨hf, ha⟩
  rw [anyB_false _ _ _ (fun k k1 k2 => by simpa using hm hf k k1 k2)] at ha
  simp at ha

end Go.Proofs.Qxb6603734a.Plain
