/- Seat b6603149a: the plain laws of a delimited part. No Go in sight. -/
import Derived.Test.Qxb6603149aPlain
namespace Go.Proofs.Qxb6603149a.Plain

theorem step_close (st mk b : Int) (h : (step st mk b).2.2 = 1) : b = 93 := by
  unfold step bodyStep at h
  repeat' split at h
  all_goals first | assumption | (simp at h)

theorem step_go (st mk b : Int) (h : (step st mk b).2.2 ≠ 2) : b ≠ 10 := by
  intro hb
  subst hb
  unfold step bodyStep at h
  repeat' split at h
  all_goals first | omega | (simp at h) | (exact absurd rfl ‹_›)

/-- Where a part ends, it ends at a delimiter; and what stands behind it says nothing. -/
theorem dl_local (br : Bool) (d : Int) : ∀ (l : List UInt8) (mode st mk : Int) (o i e : Nat), dl br d l mode st mk o i = (0, e) →
    ∃ (pre : List UInt8) (c : UInt8) (rest : List UInt8), l = pre ++ c :: rest ∧ nb c = d ∧ d ≠ 10 ∧ e = i + pre.length + 1 ∧ ∀ r, dl br d (pre ++ c :: r) mode st mk o i = (0, e) := by
  intro l
  induction l with
  | nil =>
    intro mode st mk o i e h
    exfalso
    unfold dl at h
    repeat' split at h
    all_goals simp at h
  | cons b l ih =>
    intro mode st mk o i e h
    -- one byte further
    have next : ∀ (mode' st' mk' : Int) (o' : Nat), dl br d l mode' st' mk' o' (i + 1) = (0, e) → (∀ l', dl br d (b :: l') mode st mk o i = dl br d l' mode' st' mk' o' (i + 1)) →
        ∃ (pre : List UInt8) (c : UInt8) (rest : List UInt8), b :: l = pre ++ c :: rest ∧ nb c = d ∧ d ≠ 10 ∧ e = i + pre.length + 1 ∧ ∀ r, dl br d (pre ++ c :: r) mode st mk o i = (0, e) := by
      intro mode' st' mk' o' h' hgo
      obtain ⟨pre, c, rest, rfl, hc, hd, he, hr⟩ := ih mode' st' mk' o' (i + 1) e h'
      refine ⟨b :: pre, c, rest, rfl, hc, hd, by simp only [List.length_cons]; omega, fun r => ?_⟩
      rw [List.cons_append, hgo]
      exact hr r
    by_cases h1 : mode = 1
    · subst h1
      rw [dl_esc] at h
      exact next 0 st mk o h (fun l' => dl_esc ..)
    · by_cases h2 : mode = 2
      · subst h2
        rw [dl_in] at h
        by_cases hs : (step st mk (nb b)).2.2 = 2
        · rw [if_pos hs] at h; simp at h
        · rw [if_neg hs] at h
          exact next _ _ _ _ h (fun l' => by rw [dl_in, if_neg hs])
      · have hz : ∀ l', dl br d (b :: l') mode st mk o i = (if nb b = 10 then (1, i) else if nb b = d then (0, i + 1) else if nb b = 92 then dl br d l' 1 st mk o (i + 1) else if nb b = 91 ∧ br = true then dl br d l' 2 0 0 i (i + 1) else dl br d l' 0 st mk o (i + 1)) := by
          intro l'
          simp [dl, h1, h2]
        rw [hz] at h
        by_cases c1 : nb b = 10
        · rw [if_pos c1] at h; simp at h
        · rw [if_neg c1] at h
          by_cases c2 : nb b = d
          · rw [if_pos c2] at h
            simp only [Prod.mk.injEq, true_and] at h
            subst h
            exact ⟨[], b, l, rfl, c2, by omega, rfl, fun r => by rw [List.nil_append, hz, if_neg c1, if_pos c2]⟩
          · rw [if_neg c2] at h
            by_cases c3 : nb b = 92
            · rw [if_pos c3] at h
              exact next _ _ _ _ h (fun l' => by rw [hz, if_neg c1, if_neg c2, if_pos c3])
            · rw [if_neg c3] at h
              by_cases c4 : nb b = 91 ∧ br = true
              · rw [if_pos c4] at h
                exact next _ _ _ _ h (fun l' => by rw [hz, if_neg c1, if_neg c2, if_neg c3, if_pos c4])
              · rw [if_neg c4] at h
                exact next _ _ _ _ h (fun l' => by rw [hz, if_neg c1, if_neg c2, if_neg c3, if_neg c4])

/-- The law: the end is local. -/
theorem end_is_local (br : Bool) (d : Int) (t : List UInt8) (a e : Nat) (h : D br d t a = (0, e)) :
    a < e ∧ e ≤ t.length ∧ d ≠ 10 ∧ (∃ h : e - 1 < t.length, nb t[e - 1] = d) ∧ ∀ suf, D br d (t.take e ++ suf) a = (0, e) := by
  have ha : a < t.length := by
    refine Nat.lt_of_not_le fun hge => ?_
    rw [D_end _ _ _ _ hge] at h
    simp at h
  obtain ⟨pre, c, rest, hl, hc, hd, he, hr⟩ := dl_local br d _ _ _ _ _ _ _ h
  have ht : t = t.take a ++ (pre ++ c :: rest) := by rw [← hl, List.take_append_drop]
  have hlen : t.length = a + (pre.length + (rest.length + 1)) := by
    have := congrArg List.length hl
    simp only [List.length_drop, List.length_append, List.length_cons] at this
    omega
  have hta : (t.take a).length = a := by rw [List.length_take]; omega
  refine ⟨by omega, by omega, hd, ⟨by omega, ?_⟩, fun suf => ?_⟩
  · have hg : t[e - 1]? = some c := by
      rw [ht, List.getElem?_append_right (by omega), hta, List.getElem?_append_right (by omega), show e - 1 - a - pre.length = 0 by omega]
      rfl
    rw [List.getElem?_eq_getElem (by omega)] at hg
    simp only [Option.some.injEq] at hg
    rw [hg, hc]
  · have htake : t.take e = t.take a ++ (pre ++ [c]) := by
      generalize t.take a = u at ht hta
      rw [ht, List.take_append, List.take_of_length_le (l := u) (by omega), hta, show e - a = pre.length + 1 by omega, List.take_append, List.take_of_length_le (l := pre) (by omega), show pre.length + 1 - pre.length = 1 by omega]
      rfl
    unfold D dlp
    have hdrop : (t.take e ++ suf).drop a = pre ++ c :: suf := by
      rw [htake, List.append_assoc, List.drop_append, hta, Nat.sub_self, List.drop_of_length_le (by omega), List.nil_append, List.drop_zero, List.append_assoc]
      rfl
    rw [hdrop]
    exact hr suf

/-- Brackets only reach further. -/
theorem dl_further (d : Int) : ∀ (l : List UInt8) (i e : Nat) (m1 m2 : Int), (m1 = 0 ∧ m2 = 0) ∨ (m1 = 1 ∧ m2 = 1) ∨ (m1 = 2 ∧ (m2 = 0 ∨ m2 = 1)) →
    ∀ (st mk st' mk' : Int) (o o' : Nat), dl true d l m1 st mk o i = (0, e) → ∃ e', dl false d l m2 st' mk' o' i = (0, e') ∧ i < e' ∧ e' ≤ e := by
  intro l
  induction l with
  | nil =>
    intro i e m1 m2 _ st mk st' mk' o o' h
    exfalso
    unfold dl at h
    repeat' split at h
    all_goals simp at h
  | cons b l ih =>
    intro i e m1 m2 hm st mk st' mk' o o' h
    have up : ∀ (n1 n2 : Int) (x1 y1 x2 y2 : Int) (p1 p2 : Nat), (n1 = 0 ∧ n2 = 0) ∨ (n1 = 1 ∧ n2 = 1) ∨ (n1 = 2 ∧ (n2 = 0 ∨ n2 = 1)) → dl true d l n1 x1 y1 p1 (i + 1) = (0, e) →
        dl false d (b :: l) m2 st' mk' o' i = dl false d l n2 x2 y2 p2 (i + 1) → ∃ e', dl false d (b :: l) m2 st' mk' o' i = (0, e') ∧ i < e' ∧ e' ≤ e := by
      intro n1 n2 x1 y1 x2 y2 p1 p2 hn h1 h2
      obtain ⟨e', k1, k2, k3⟩ := ih (i + 1) e n1 n2 hn x1 y1 x2 y2 p1 p2 h1
      exact ⟨e', h2.trans k1, by omega, k3⟩
    rcases hm with ⟨rfl, rfl⟩ | ⟨rfl, rfl⟩ | ⟨rfl, hm⟩
    · rw [dl_zero] at h
      by_cases c1 : nb b = 10
      · rw [if_pos c1] at h; simp at h
      · rw [if_neg c1] at h
        by_cases c2 : nb b = d
        · rw [if_pos c2] at h
          simp only [Prod.mk.injEq, true_and] at h
          exact ⟨i + 1, by rw [dl_zero, if_neg c1, if_pos c2], by omega, by omega⟩
        · rw [if_neg c2] at h
          by_cases c3 : nb b = 92
          · rw [if_pos c3] at h
            exact up 1 1 _ _ _ _ _ _ (by omega) h (by rw [dl_zero, if_neg c1, if_neg c2, if_pos c3])
          · rw [if_neg c3] at h
            by_cases c4 : nb b = 91 ∧ true = true
            · rw [if_pos c4] at h
              exact up 2 0 _ _ _ _ _ _ (by omega) h (by rw [dl_zero, if_neg c1, if_neg c2, if_neg c3, if_neg (by simp)])
            · rw [if_neg c4] at h
              exact up 0 0 _ _ _ _ _ _ (by omega) h (by rw [dl_zero, if_neg c1, if_neg c2, if_neg c3, if_neg (by simp)])
    · rw [dl_esc] at h
      exact up 0 0 _ _ _ _ _ _ (by omega) h (dl_esc ..)
    · rw [dl_in] at h
      by_cases hs : (step st mk (nb b)).2.2 = 2
      · rw [if_pos hs] at h; simp at h
      · rw [if_neg hs] at h
        have c1 := step_go st mk (nb b) hs
        by_cases hs1 : (step st mk (nb b)).2.2 = 1
        · rw [if_pos hs1] at h
          have c93 := step_close st mk (nb b) hs1
          rcases hm with rfl | rfl
          · by_cases c2 : nb b = d
            · obtain ⟨pre, _, _, _, _, _, he, _⟩ := dl_local true d _ _ _ _ _ _ _ h
              exact ⟨i + 1, by rw [dl_zero, if_neg c1, if_pos c2], by omega, by omega⟩
            · exact up 0 0 _ _ _ _ _ _ (by omega) h (by rw [dl_zero, if_neg c1, if_neg c2, if_neg (by omega), if_neg (by simp)])
          · exact up 0 0 _ _ _ _ _ _ (by omega) h (dl_esc ..)
        · rw [if_neg hs1] at h
          rcases hm with rfl | rfl
          · by_cases c2 : nb b = d
            · obtain ⟨pre, _, _, _, _, _, he, _⟩ := dl_local true d _ _ _ _ _ _ _ h
              exact ⟨i + 1, by rw [dl_zero, if_neg c1, if_pos c2], by omega, by omega⟩
            · by_cases c3 : nb b = 92
              · exact up 2 1 _ _ _ _ _ _ (by omega) h (by rw [dl_zero, if_neg c1, if_neg c2, if_pos c3])
              · exact up 2 0 _ _ _ _ _ _ (by omega) h (by rw [dl_zero, if_neg c1, if_neg c2, if_neg c3, if_neg (by simp)])
          · exact up 2 0 _ _ _ _ _ _ (by omega) h (dl_esc ..)

/-- The law: where the part ends with brackets, it ends without them, no later and past the start. -/
theorem reach_further (d : Int) (t : List UInt8) (a e : Nat) (h : D true d t a = (0, e)) : ∃ e', D false d t a = (0, e') ∧ a < e' ∧ e' ≤ e :=
  dl_further d _ _ _ 0 0 (Or.inl ⟨rfl, rfl⟩) _ _ _ _ _ _ h

end Go.Proofs.Qxb6603149a.Plain
