/-
  The plain mathematics of seat b6603149a: no Go in sight.
  'step': one step of the bracket automaton. 'run': the automaton over what is left of a text, from place i on; the place behind the closing bracket, or none.
  'dl': the automaton of a delimited part: (0, end) where it ends; (1, place) and (2, place) for the two faults.
-/
import Derived.Lib.Index
import Derived.Lib.Bytealg
namespace Go.Proofs.Qxb6603149a.Plain

def bodyStep (b : Int) : Int × Int × Int :=
  if b = 10 then (2, 0, 2) else if b = 93 then (2, 0, 1) else if b = 91 then (3, 0, 0) else (2, 0, 0)

def step (st mk b : Int) : Int × Int × Int :=
  if st = 0 then (if b = 94 then (1, 0, 0) else if b = 93 then (2, 0, 0) else bodyStep b)
  else if st = 1 then (if b = 93 then (2, 0, 0) else bodyStep b)
  else if st = 3 then (if b = 58 ∨ b = 61 ∨ b = 46 then (4, b, 0) else bodyStep b)
  else if st = 4 then (if b = 10 then (4, mk, 2) else if b = mk then (5, mk, 0) else (4, mk, 0))
  else if st = 5 then (if b = 10 then (5, mk, 2) else if b = 93 then (2, 0, 0) else if b = mk then (5, mk, 0) else (4, mk, 0))
  else bodyStep b

/-- The byte as a number. -/
def nb (b : UInt8) : Int := (b.toNat : Int)

def run : List UInt8 → Nat → Int → Int → Option Nat
  | [], _, _, _ => none
  | b :: l, i, st, mk =>
    if (step st mk (nb b)).2.2 = 1 then some (i + 1)
    else if (step st mk (nb b)).2.2 = 2 then none
    else run l (i + 1) (step st mk (nb b)).1 (step st mk (nb b)).2.1

def dl (br : Bool) (d : Int) : List UInt8 → Int → Int → Int → Nat → Nat → Nat × Nat
  | [], mode, _, _, opn, i => if mode = 1 then (1, i + 1) else if mode = 2 then (2, opn) else (1, i)
  | b :: l, mode, st, mk, opn, i =>
    if mode = 1 then dl br d l 0 st mk opn (i + 1)
    else if mode = 2 then
      (if (step st mk (nb b)).2.2 = 2 then (2, opn)
       else dl br d l (if (step st mk (nb b)).2.2 = 1 then 0 else 2) (step st mk (nb b)).1 (step st mk (nb b)).2.1 opn (i + 1))
    else if nb b = 10 then (1, i)
    else if nb b = d then (0, i + 1)
    else if nb b = 92 then dl br d l 1 st mk opn (i + 1)
    else if nb b = 91 ∧ br = true then dl br d l 2 0 0 i (i + 1)
    else dl br d l 0 st mk opn (i + 1)

theorem dl_esc (br : Bool) (d : Int) (b : UInt8) (l : List UInt8) (st mk : Int) (o i : Nat) : dl br d (b :: l) 1 st mk o i = dl br d l 0 st mk o (i + 1) := by simp [dl]

theorem dl_in (br : Bool) (d : Int) (b : UInt8) (l : List UInt8) (st mk : Int) (o i : Nat) : dl br d (b :: l) 2 st mk o i =
    (if (step st mk (nb b)).2.2 = 2 then (2, o) else dl br d l (if (step st mk (nb b)).2.2 = 1 then 0 else 2) (step st mk (nb b)).1 (step st mk (nb b)).2.1 o (i + 1)) := by simp [dl]

theorem dl_zero (br : Bool) (d : Int) (b : UInt8) (l : List UInt8) (st mk : Int) (o i : Nat) : dl br d (b :: l) 0 st mk o i =
    (if nb b = 10 then (1, i) else if nb b = d then (0, i + 1) else if nb b = 92 then dl br d l 1 st mk o (i + 1) else if nb b = 91 ∧ br = true then dl br d l 2 0 0 i (i + 1) else dl br d l 0 st mk o (i + 1)) := by simp [dl]

/-- In the plain mode, and behind a backslash, the bracket's own letters say nothing. -/
theorem dl_free (br : Bool) (d : Int) : ∀ (l : List UInt8) (mode st mk st' mk' : Int) (o o' i : Nat), mode = 0 ∨ mode = 1 → dl br d l mode st mk o i = dl br d l mode st' mk' o' i := by
  intro l
  induction l with
  | nil => intro mode st mk st' mk' o o' i h; rcases h with rfl | rfl <;> simp [dl]
  | cons b l ih =>
    intro mode st mk st' mk' o o' i h
    rcases h with rfl | rfl
    · rw [dl_zero, dl_zero, ih 1 st mk st' mk' o o' (i + 1) (Or.inr rfl), ih 0 st mk st' mk' o o' (i + 1) (Or.inl rfl)]
    · rw [dl_esc, dl_esc, ih 0 st mk st' mk' o o' (i + 1) (Or.inl rfl)]

/-- From the plain mode. -/
def dlp (br : Bool) (d : Int) (l : List UInt8) (i : Nat) : Nat × Nat := dl br d l 0 0 0 0 i

theorem dl_plain (br : Bool) (d : Int) (l : List UInt8) (st mk : Int) (o i : Nat) : dl br d l 0 st mk o i = dlp br d l i := dl_free br d l 0 st mk 0 0 o 0 i (Or.inl rfl)

theorem step_says (st mk b : Int) : (step st mk b).2.2 = 0 ∨ (step st mk b).2.2 = 1 ∨ (step st mk b).2.2 = 2 := by
  unfold step bodyStep
  repeat' split
  all_goals simp

theorem run_on (b : UInt8) (l : List UInt8) (i : Nat) (st mk : Int) (h : (step st mk (nb b)).2.2 = 0) : run (b :: l) i st mk = run l (i + 1) (step st mk (nb b)).1 (step st mk (nb b)).2.1 := by simp [run, h]
theorem run_close (b : UInt8) (l : List UInt8) (i : Nat) (st mk : Int) (h : (step st mk (nb b)).2.2 = 1) : run (b :: l) i st mk = some (i + 1) := by simp [run, h]
theorem run_fail (b : UInt8) (l : List UInt8) (i : Nat) (st mk : Int) (h : (step st mk (nb b)).2.2 = 2) : run (b :: l) i st mk = none := by simp [run, h]

/-- Inside a bracket expression the part goes as 'run' goes. -/
theorem dl_inside (br : Bool) (d : Int) : ∀ (l : List UInt8) (st mk : Int) (o i : Nat),
    (run l i st mk = none → dl br d l 2 st mk o i = (2, o)) ∧ (∀ e, run l i st mk = some e → i < e ∧ dl br d l 2 st mk o i = dlp br d (l.drop (e - i)) e) := by
  intro l
  induction l with
  | nil => intro st mk o i; simp [run, dl]
  | cons b l ih =>
    intro st mk o i
    obtain ⟨i1, i2⟩ := ih (step st mk (nb b)).1 (step st mk (nb b)).2.1 o (i + 1)
    rcases step_says st mk (nb b) with h | h | h
    · rw [run_on b l i st mk h, dl_in, if_neg (by omega), if_neg (by omega)]
      refine ⟨fun hr => i1 hr, fun e hr => ?_⟩
      obtain ⟨hl, he⟩ := i2 e hr
      refine ⟨by omega, ?_⟩
      rw [he, show e - i = (e - (i + 1)) + 1 by omega, List.drop_succ_cons]
    · rw [run_close b l i st mk h, dl_in, if_neg (by omega), if_pos h]
      refine ⟨fun hr => by simp at hr, fun e hr => ?_⟩
      simp at hr
      subst hr
      refine ⟨by omega, ?_⟩
      rw [dl_plain, show i + 1 - i = 1 by omega, List.drop_succ_cons, List.drop_zero]
    · rw [run_fail b l i st mk h, dl_in, if_pos h]
      exact ⟨fun _ => rfl, fun e hr => by simp at hr⟩

/-! ### The rounds of 'delimited' -/

/-- What is left of a text from place i on. -/
theorem drop_at (t : List UInt8) (i : Nat) (h : i < t.length) : t.drop i = t[i] :: t.drop (i + 1) := List.drop_eq_getElem_cons h

/-- The part, read from place i of the text t. -/
def D (br : Bool) (d : Int) (t : List UInt8) (i : Nat) : Nat × Nat := dlp br d (t.drop i) i
/-- The bracket expression, read from place i of the text t in state st, mark mk. -/
def R (t : List UInt8) (i : Nat) (st mk : Int) : Option Nat := run (t.drop i) i st mk

theorem D_end (br : Bool) (d : Int) (t : List UInt8) (i : Nat) (h : t.length ≤ i) : D br d t i = (1, i) := by
  unfold D dlp
  rw [List.drop_eq_nil_of_le h]
  simp [dl]

theorem D_newline (br : Bool) (d : Int) (t : List UInt8) (i : Nat) (h : i < t.length) (hb : nb t[i] = 10) : D br d t i = (1, i) := by
  unfold D dlp
  rw [drop_at t i h, dl_zero, if_pos hb]

theorem D_delim (br : Bool) (d : Int) (t : List UInt8) (i : Nat) (h : i < t.length) (hn : nb t[i] ≠ 10) (hb : nb t[i] = d) : D br d t i = (0, i + 1) := by
  unfold D dlp
  rw [drop_at t i h, dl_zero, if_neg hn, if_pos hb]

theorem D_escape (br : Bool) (d : Int) (t : List UInt8) (i : Nat) (h : i < t.length) (hd : nb t[i] ≠ d) (hb : nb t[i] = 92) : D br d t i = D br d t (i + 2) := by
  unfold D
  conv => lhs; unfold dlp
  rw [drop_at t i h, dl_zero, if_neg (by omega), if_neg hd, if_pos hb]
  by_cases h2 : i + 1 < t.length
  · rw [drop_at t (i + 1) h2, dl_esc, dl_plain]
  · rw [List.drop_eq_nil_of_le (by omega), List.drop_eq_nil_of_le (by omega)]
    simp [dl, dlp]

theorem D_other (br : Bool) (d : Int) (t : List UInt8) (i : Nat) (h : i < t.length) (hn : nb t[i] ≠ 10) (hd : nb t[i] ≠ d) (hs : nb t[i] ≠ 92) (hb : nb t[i] = 91 → br = false) : D br d t i = D br d t (i + 1) := by
  unfold D
  conv => lhs; unfold dlp
  rw [drop_at t i h, dl_zero, if_neg hn, if_neg hd, if_neg hs, if_neg (by intro hc; have := hb hc.1; simp [this] at hc), dl_plain]

theorem D_bracket_none (d : Int) (t : List UInt8) (i : Nat) (h : i < t.length) (hd : nb t[i] ≠ d) (hb : nb t[i] = 91) (hr : R t (i + 1) 0 0 = none) : D true d t i = (2, i) := by
  unfold D dlp
  rw [drop_at t i h, dl_zero, if_neg (by omega), if_neg hd, if_neg (by omega), if_pos ⟨hb, rfl⟩]
  exact (dl_inside true d _ 0 0 i (i + 1)).1 hr

theorem D_bracket_some (d : Int) (t : List UInt8) (i e : Nat) (h : i < t.length) (hd : nb t[i] ≠ d) (hb : nb t[i] = 91) (hr : R t (i + 1) 0 0 = some e) : D true d t i = D true d t e ∧ i + 1 < e := by
  unfold D
  conv => lhs; lhs; unfold dlp
  rw [drop_at t i h, dl_zero, if_neg (by omega), if_neg hd, if_neg (by omega), if_pos ⟨hb, rfl⟩]
  obtain ⟨hl, he⟩ := (dl_inside true d (t.drop (i + 1)) 0 0 i (i + 1)).2 e hr
  refine ⟨?_, hl⟩
  rw [he, List.drop_drop, show i + 1 + (e - (i + 1)) = e by omega]

/-! ### The rounds of 'bracket' -/

theorem R_end (t : List UInt8) (i : Nat) (st mk : Int) (h : t.length ≤ i) : R t i st mk = none := by
  unfold R
  rw [List.drop_eq_nil_of_le h]
  rfl

theorem R_on (t : List UInt8) (i : Nat) (st mk : Int) (h : i < t.length) (hs : (step st mk (nb t[i])).2.2 = 0) : R t i st mk = R t (i + 1) (step st mk (nb t[i])).1 (step st mk (nb t[i])).2.1 := by
  unfold R
  rw [drop_at t i h, run_on _ _ _ _ _ hs]
theorem R_close (t : List UInt8) (i : Nat) (st mk : Int) (h : i < t.length) (hs : (step st mk (nb t[i])).2.2 = 1) : R t i st mk = some (i + 1) := by
  unfold R
  rw [drop_at t i h, run_close _ _ _ _ _ hs]
theorem R_fail (t : List UInt8) (i : Nat) (st mk : Int) (h : i < t.length) (hs : (step st mk (nb t[i])).2.2 = 2) : R t i st mk = none := by
  unfold R
  rw [drop_at t i h, run_fail _ _ _ _ _ hs]

/-- Where two states take one step alike, they go on alike. -/
theorem R_alike (t : List UInt8) (i : Nat) (st mk st' mk' : Int) (hs : ∀ h : i < t.length, step st mk (nb t[i]) = step st' mk' (nb t[i])) : R t i st mk = R t i st' mk' := by
  by_cases h : i < t.length
  · unfold R
    rw [drop_at t i h]
    unfold run
    rw [hs h]
  · rw [R_end _ _ _ _ (by omega), R_end _ _ _ _ (by omega)]

/-- The opening: behind the bracket. -/
theorem R_open_caret (t : List UInt8) (i : Nat) (h : i < t.length) (hb : nb t[i] = 94) : R t i 0 0 = R t (i + 1) 1 0 := by
  have hs : step 0 0 (nb t[i]) = (1, 0, 0) := by rw [hb]; decide
  rw [R_on t i 0 0 h (by rw [hs]), hs]
theorem R_open_close (t : List UInt8) (i : Nat) (st : Int) (hst : st = 0 ∨ st = 1) (h : i < t.length) (hb : nb t[i] = 93) : R t i st 0 = R t (i + 1) 2 0 := by
  have hs : step st 0 (nb t[i]) = (2, 0, 0) := by rw [hb]; rcases hst with rfl | rfl <;> decide
  rw [R_on t i st 0 h (by rw [hs]), hs]
theorem R_open_else (t : List UInt8) (i : Nat) (st : Int) (hst : st = 0 ∨ st = 1) (h94 : st = 0 → ∀ h : i < t.length, nb t[i] ≠ 94) (h93 : ∀ h : i < t.length, nb t[i] ≠ 93) : R t i st 0 = R t i 2 0 := by
  apply R_alike
  intro h
  have h93 := h93 h
  rcases hst with rfl | rfl
  · have h94 := h94 rfl h
    simp [step, h94, h93]
  · simp [step, h93]

/-- The body. -/
theorem R_newline (t : List UInt8) (i : Nat) (h : i < t.length) (hb : nb t[i] = 10) : R t i 2 0 = none := R_fail t i 2 0 h (by rw [hb]; decide)
theorem R_shut (t : List UInt8) (i : Nat) (h : i < t.length) (hb : nb t[i] = 93) : R t i 2 0 = some (i + 1) := R_close t i 2 0 h (by rw [hb]; decide)
theorem R_other (t : List UInt8) (i : Nat) (h : i < t.length) (h10 : nb t[i] ≠ 10) (h93 : nb t[i] ≠ 93) (h91 : nb t[i] ≠ 91) : R t i 2 0 = R t (i + 1) 2 0 := by
  have hs : step 2 0 (nb t[i]) = (2, 0, 0) := by simp [step, bodyStep, h10, h93, h91]
  rw [R_on t i 2 0 h (by rw [hs]), hs]
theorem R_opens (t : List UInt8) (i : Nat) (h : i < t.length) (hb : nb t[i] = 91) : R t i 2 0 = R t (i + 1) 3 0 := by
  have hs : step 2 0 (nb t[i]) = (3, 0, 0) := by rw [hb]; decide
  rw [R_on t i 2 0 h (by rw [hs]), hs]
theorem R_open_bare (t : List UInt8) (i : Nat) (h : i < t.length) (hb : nb t[i] = 91) (hm : ∀ h : i + 1 < t.length, nb t[i + 1] ≠ 58 ∧ nb t[i + 1] ≠ 61 ∧ nb t[i + 1] ≠ 46) : R t i 2 0 = R t (i + 1) 2 0 := by
  rw [R_opens t i h hb]
  apply R_alike
  intro h
  obtain ⟨a, b, c⟩ := hm h
  simp [step, a, b, c]
theorem R_class (t : List UInt8) (i : Nat) (h : i < t.length) (hb : nb t[i] = 91) (h' : i + 1 < t.length) (hm : nb t[i + 1] = 58 ∨ nb t[i + 1] = 61 ∨ nb t[i + 1] = 46) : R t i 2 0 = R t (i + 2) 4 (nb t[i + 1]) := by
  have hs : step 3 0 (nb t[i + 1]) = (4, nb t[i + 1], 0) := by simp [step, hm]
  rw [R_opens t i h hb, R_on t (i + 1) 3 0 h' (by rw [hs]), hs]

theorem nb_inj {a b : UInt8} (h : nb a = nb b) : a = b := by
  unfold nb at h
  exact UInt8.toNat_inj.1 (by omega)

theorem run_five (m : UInt8) (l : List UInt8) (i : Nat) (h : ∀ c l', l = c :: l' → nb c ≠ 93) : run l i 5 (nb m) = run l i 4 (nb m) := by
  cases l with
  | nil => rfl
  | cons c l' =>
    have h93 := h c l' rfl
    have e : step 5 (nb m) (nb c) = step 4 (nb m) (nb c) ∨ (nb c = 10) := by
      by_cases h10 : nb c = 10
      · exact Or.inr h10
      · left; simp [step, h10, h93]
    rcases e with e | e
    · unfold run; rw [e]
    · rw [run_fail _ _ _ _ _ (by simp [step, e]), run_fail _ _ _ _ _ (by simp [step, e])]

theorem index_cons_not (b : UInt8) (l sub : List UInt8) (h : sub.isPrefixOf (b :: l) = false) : Lib.index (b :: l) sub = if Lib.index l sub = -1 then -1 else Lib.index l sub + 1 := by
  conv => lhs; unfold Lib.index
  simp [h]

/-- A class: up to its mark and the closing bracket, no newline between. -/
theorem run_class (m : UInt8) (hm : nb m = 58 ∨ nb m = 61 ∨ nb m = 46) : ∀ (l : List UInt8) (i : Nat),
    (Lib.index l [m, 93] < 0 → run l i 4 (nb m) = none) ∧
    (∀ e : Nat, Lib.index l [m, 93] = e → ((10 : UInt8) ∈ l.take e → run l i 4 (nb m) = none) ∧ ((10 : UInt8) ∉ l.take e → run l i 4 (nb m) = run (l.drop (e + 2)) (i + e + 2) 2 0)) := by
  intro l
  induction l with
  | nil => intro i; exact ⟨fun _ => rfl, fun e he => by simp [Lib.index] at he⟩
  | cons b l ih =>
    intro i
    by_cases hp : [m, 93].isPrefixOf (b :: l) = true
    · -- the mark and the bracket stand here
      obtain ⟨l', rfl, rfl⟩ : ∃ l', b = m ∧ l = 93 :: l' := by
        cases l with
        | nil => simp at hp
        | cons c l' => simp at hp; exact ⟨l', hp.1.symm, by rw [← hp.2]⟩
      have hidx : Lib.index (b :: 93 :: l') [b, 93] = 0 := by unfold Lib.index; simp
      refine ⟨fun h => by omega, fun e he => ?_⟩
      obtain rfl : e = 0 := by omega
      refine ⟨fun h => by simp at h, fun _ => ?_⟩
      have s1 : step 4 (nb b) (nb b) = (5, nb b, 0) := by
        have : nb b ≠ 10 := by omega
        simp [step, this]
      have s2 : step 5 (nb b) (nb 93) = (2, 0, 0) := by
        have e93 : nb 93 = 93 := rfl
        rw [e93]; simp [step]
      rw [run_on _ _ _ _ _ (by rw [s1]), s1, run_on _ _ _ _ _ (by rw [s2]), s2]
      rfl
    · have hp' : [m, 93].isPrefixOf (b :: l) = false := Bool.eq_false_iff.2 hp
      have hidx := index_cons_not b l [m, 93] hp'
      by_cases h10 : nb b = 10
      · have hf : run (b :: l) i 4 (nb m) = none := run_fail _ _ _ _ _ (by simp [step, h10])
        have hb10 : b = 10 := nb_inj h10
        refine ⟨fun _ => hf, fun e he => ⟨fun _ => hf, fun hno => ?_⟩⟩
        exfalso
        rw [hidx] at he
        have hge := Lib.index_ge l [m, 93]
        have : 0 < e := by split at he <;> omega
        apply hno
        rw [hb10, show e = (e - 1) + 1 by omega, List.take_succ_cons]
        exact List.mem_cons_self ..
      · -- the step goes on; what is left goes as from state 4
        have hgo : run (b :: l) i 4 (nb m) = run l (i + 1) 4 (nb m) := by
          by_cases hbm : nb b = nb m
          · have s1 : step 4 (nb m) (nb b) = (5, nb m, 0) := by
              have h10m : nb m ≠ 10 := by omega
              rw [hbm]; simp [step, h10m]
            rw [run_on _ _ _ _ _ (by rw [s1]), s1]
            apply run_five
            intro c l' hl hc
            subst hl
            have ec : c = 93 := nb_inj hc
            have eb : b = m := nb_inj hbm
            subst ec eb
            simp at hp'
          · have s1 : step 4 (nb m) (nb b) = (4, nb m, 0) := by simp [step, h10, hbm]
            rw [run_on _ _ _ _ _ (by rw [s1]), s1]
        obtain ⟨i1, i2⟩ := ih (i + 1)
        have hge := Lib.index_ge l [m, 93]
        rw [hgo]
        refine ⟨fun h => i1 ?_, fun e he => ?_⟩
        · rw [hidx] at h; split at h <;> omega
        · rw [hidx] at he
          have hne : Lib.index l [m, 93] ≠ -1 := fun h => by rw [if_pos h] at he; omega
          rw [if_neg hne] at he
          obtain ⟨e', he', rfl⟩ : ∃ e' : Nat, Lib.index l [m, 93] = e' ∧ e = e' + 1 := ⟨e - 1, by omega, by omega⟩
          obtain ⟨j1, j2⟩ := i2 e' he'
          have hb10 : ¬ b = 10 := fun h => h10 (by rw [h]; rfl)
          rw [List.take_succ_cons]
          refine ⟨fun h => j1 ?_, fun h => ?_⟩
          · rcases List.mem_cons.1 h with h | h
            · exact absurd h.symm hb10
            · exact h
          · rw [j2 (fun h' => h (List.mem_cons_of_mem _ h')), show i + 1 + e' + 2 = i + (e' + 1) + 2 by omega]
            rfl

theorem R_class_none (t : List UInt8) (i : Nat) (m : UInt8) (hm : nb m = 58 ∨ nb m = 61 ∨ nb m = 46) (h : Lib.index (t.drop i) [m, 93] < 0) : R t i 4 (nb m) = none := (run_class m hm (t.drop i) i).1 h
theorem R_class_newline (t : List UInt8) (i e : Nat) (m : UInt8) (hm : nb m = 58 ∨ nb m = 61 ∨ nb m = 46) (h : Lib.index (t.drop i) [m, 93] = e) (hn : (10 : UInt8) ∈ (t.drop i).take e) : R t i 4 (nb m) = none := ((run_class m hm (t.drop i) i).2 e h).1 hn
theorem R_class_some (t : List UInt8) (i e : Nat) (m : UInt8) (hm : nb m = 58 ∨ nb m = 61 ∨ nb m = 46) (h : Lib.index (t.drop i) [m, 93] = e) (hn : (10 : UInt8) ∉ (t.drop i).take e) : R t i 4 (nb m) = R t (i + e + 2) 2 0 := by
  have := ((run_class m hm (t.drop i) i).2 e h).2 hn
  unfold R
  rw [this, List.drop_drop, show i + (e + 2) = i + e + 2 by omega]

/-! ### Bounds -/

theorem run_le : ∀ (l : List UInt8) (i : Nat) (st mk : Int) (k : Nat), run l i st mk = some k → i < k ∧ k ≤ i + l.length := by
  intro l
  induction l with
  | nil => intro i st mk k h; simp [run] at h
  | cons b l ih =>
    intro i st mk k h
    rcases step_says st mk (nb b) with hs | hs | hs
    · rw [run_on _ _ _ _ _ hs] at h
      have := ih _ _ _ _ h
      simp only [List.length_cons]
      omega
    · rw [run_close _ _ _ _ _ hs] at h
      simp only [Option.some.injEq] at h
      simp only [List.length_cons]
      omega
    · rw [run_fail _ _ _ _ _ hs] at h
      simp at h

theorem R_le (t : List UInt8) (i : Nat) (st mk : Int) (k : Nat) (h : R t i st mk = some k) : i < k ∧ k ≤ t.length := by
  have := run_le _ _ _ _ _ h
  by_cases hi : i ≤ t.length
  · rw [List.length_drop] at this
    omega
  · rw [R_end _ _ _ _ (by omega)] at h
    simp at h

theorem index_room (m c : UInt8) : ∀ (l : List UInt8) (e : Nat), Lib.index l [m, c] = e → e + 2 ≤ l.length := by
  intro l
  induction l with
  | nil => intro e h; simp [Lib.index] at h
  | cons b l ih =>
    intro e h
    by_cases hp : [m, c].isPrefixOf (b :: l) = true
    · have h0 : Lib.index (b :: l) [m, c] = 0 := by unfold Lib.index; simp only [hp, if_true]
      obtain rfl : e = 0 := by omega
      cases l with
      | nil => simp at hp
      | cons c' l' => simp
    · rw [index_cons_not b l [m, c] (Bool.eq_false_iff.2 hp)] at h
      split at h
      · omega
      · have := ih (e - 1) (by omega)
        simp only [List.length_cons]
        omega

theorem indexByte_mem : ∀ (l : List UInt8) (c : UInt8), (c ∈ l → 0 ≤ Lib.indexByte l c) ∧ (c ∉ l → Lib.indexByte l c = -1) := by
  intro l c
  induction l with
  | nil => exact ⟨fun h => by simp at h, fun _ => rfl⟩
  | cons b l ih =>
    obtain ⟨i1, i2⟩ := ih
    unfold Lib.indexByte
    by_cases hb : b = c
    · subst hb
      exact ⟨fun _ => by simp, fun h => absurd (List.mem_cons_self ..) h⟩
    · have hb' : (b == c) = false := beq_eq_false_iff_ne.2 hb
      rw [hb']
      have hmem : c ∈ b :: l ↔ c ∈ l := by
        rw [List.mem_cons]
        exact ⟨fun h => h.resolve_left (fun e => hb e.symm), Or.inr⟩
      refine ⟨fun h => ?_, fun h => ?_⟩
      · have h0 := i1 (hmem.1 h)
        have hne : (Lib.indexByte l c == -1) = false := beq_eq_false_iff_ne.2 (by omega)
        simp only [hne, Bool.false_eq_true, if_false]
        omega
      · have h0 := i2 (fun h' => h (hmem.2 h'))
        rw [h0]
        simp

end Go.Proofs.Qxb6603149a.Plain
