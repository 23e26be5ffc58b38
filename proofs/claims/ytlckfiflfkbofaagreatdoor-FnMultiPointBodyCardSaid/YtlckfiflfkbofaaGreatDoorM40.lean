/- Plain: the reading of a point and of points, in steps. Part 40 of 51 of the proof that FnMultiPointBody returns true for every text and every type of coordinates, where the listed variables hold what the text of the program lays. -/
import Derived.Test.YtlckfiflfkbofaaGreatDoorM38
set_option linter.all false

/- Plain: the reading of a point and of points, in steps. -/
namespace Go.Proofs.YtlckfiflfkbofaaGreatDoor

theorem wd_pos (ct : Nat) : wd ct ≠ 0 := by unfold wd; omega
theorem pPoints_fuel {P : GP} {n : Nat} (hn : n ≠ 0) : ∀ (f f' : Nat) (l : List Tok), l.length < f → l.length < f' → pPoints (val P) n f l = pPoints (val P) n f' l := by
  intro f
  induction f with
  | zero => intro f' l h; omega
  | succ f ih =>
    intro f' l h h'
    cases f' with
    | zero => omega
    | succ f' =>
      simp only [pPoints]
      cases e1 : pPoint (val P) n l with
      | none => rfl
      | some p =>
        obtain ⟨x, q⟩ := p
        cases q with
        | nil => rfl
        | cons t r =>
          simp only
          obtain ⟨c, rfl, ⟨_, hc⟩, _⟩ := pPoint_eats (val_kind P) hn _ _ _ e1
          simp only [List.length_append, List.length_cons] at h h'
          rw [ih f' r (by omega) (by omega)]

/-- The reading of a point. -/
noncomputable def ptR (P : GP) (n : Nat) (l : List Tok) (bad : Bool) : Option (List Nat × List Tok) := if bad then none else pPoint (val P) n l
/-- The reading of points. -/
noncomputable def mpR (P : GP) (n : Nat) (l : List Tok) (bad : Bool) : Option (List (List Nat) × List Tok) := if bad then none else pPoints (val P) n (l.length + 1) l
def mpC (xss : List (List Nat)) (o : Option (List (List Nat) × List Tok)) : Option (List (List Nat) × List Tok) := o.map fun y => (xss ++ y.1, y.2)
/-- An answer by the reader's flag. -/
def byBad {α : Type} (bad : Bool) (x : α) (l : List Tok) : Option (α × List Tok) := if bad then none else some (x, l)

section
variable {P : GP} {n : Nat} {l r : List Tok} {k : Tok} {bad b' : Bool} {xs : List Nat} {xss : List (List Nat)}
theorem mpC_nil (o : Option (List (List Nat) × List Tok)) : mpC [] o = o := by cases o <;> simp [mpC]
theorem mpC_none : mpC xss none = none := rfl
theorem plR_zero (l : List Tok) (b : Bool) : plC xs (plR P 0 l b) = byBad b xs l := by
  cases b <;> simp [plR, plC, byBad, pNums]

theorem ptR_place (hn : n ≠ 0) (h1 : ¬ nx l bad = 40) (h2 : ¬ nx l bad = 97) : ptR P n l bad = plR P n l bad := by
  cases bad with
  | true => rfl
  | false =>
    obtain ⟨n, rfl⟩ : ∃ m, n = m + 1 := ⟨n - 1, by omega⟩
    cases l with
    | nil => rfl
    | cons t r =>
      have h1' : ¬ t.k = 40 := h1
      have h2' : ¬ t.k = 97 := h2
      have hE : isE t = false := by simp [isE, h2']
      simp only [ptR, plR, Bool.false_eq_true, if_false, pPoint, h1', hE]
theorem ptR_emp (hE : isE k = true) : ptR P n (k :: l) false = some ([], l) := by
  have h1 : ¬ k.k = 40 := by simp only [isE, Bool.and_eq_true, beq_iff_eq] at hE; omega
  simp only [ptR, Bool.false_eq_true, if_false, pPoint, h1, hE, if_true]
theorem ptR_word (hn : n ≠ 0) (hk : k.k = 97) (hE : isE k = false) : ptR P n (k :: l) false = none := by
  obtain ⟨n, rfl⟩ : ∃ m, n = m + 1 := ⟨n - 1, by omega⟩
  have h1 : ¬ k.k = 40 := by omega
  have h2 : ¬ k.k = 45 := by omega
  have hv : val P k false = none := by
    cases hv : val P k false with
    | none => rfl
    | some x => exact absurd (val_kind P _ _ _ hv) (by omega)
  simp only [ptR, Bool.false_eq_true, if_false, pPoint, h1, hE, pNums, pNum, h2, hv, Option.map_none]
/-- Behind the opening parenthesis. -/
theorem ptR_par (hk : k.k = 40) (h : plR P n l false = byBad b' xs r) : ptR P n (k :: l) false = if b' = true ∨ ¬ nx r false = 41 then none else some (xs, r.tail) := by
  simp only [ptR, Bool.false_eq_true, if_false, pPoint, hk, if_true]
  simp only [plR, Bool.false_eq_true, if_false, byBad] at h
  rw [h]
  cases b' with
  | true => simp
  | false =>
    simp only [Bool.false_eq_true, if_false, false_or]
    cases r with
    | nil => simp [tIs, nx]
    | cons u r =>
      by_cases hu : u.k = 41
      · simp [tIs, nx, hu]
      · simp [tIs, nx, hu]

theorem mpR_bad (h : ptR P n l bad = none) : mpR P n l bad = none := by
  cases bad with
  | true => rfl
  | false =>
    simp only [ptR, mpR, Bool.false_eq_true, if_false, pPoints] at h ⊢
    rw [h]
theorem ptR_ff (h : ptR P n l bad = some (xs, r)) : bad = false := by cases bad with | true => cases h | false => rfl
theorem mpR_more (hn : n ≠ 0) (h : ptR P n l bad = some (xs, k :: r)) (hk : k.k = 44) : mpC xss (mpR P n l bad) = mpC (xss ++ [xs]) (mpR P n r false) := by
  obtain rfl := ptR_ff h
  have e : mpR P n l false = match pPoint (val P) n l with
      | none => none
      | some (_, []) => none
      | some (x, t :: r) => if t.k = 44 then (pPoints (val P) n l.length r).map fun y => (x :: y.1, y.2) else if t.k = 41 then some ([x], r) else none := rfl
  simp only [ptR, Bool.false_eq_true, if_false] at h
  rw [e, h]
  simp only [hk, if_true]
  obtain ⟨c, rfl, ⟨_, hc⟩, _⟩ := pPoint_eats (val_kind P) hn _ _ _ h
  rw [pPoints_fuel hn (c ++ k :: r).length (r.length + 1) r (by simp; omega) (by omega)]
  simp only [mpR, Bool.false_eq_true, if_false]
  cases pPoints (val P) n (r.length + 1) r <;> simp [mpC]
theorem mpR_end (h : ptR P n l bad = some (xs, r)) (hk : ¬ nx r false = 44) : mpC xss (mpR P n l bad) = if nx r false = 41 then some (xss ++ [xs], r.tail) else none := by
  obtain rfl := ptR_ff h
  simp only [ptR, mpR, Bool.false_eq_true, if_false, pPoints] at h ⊢
  rw [h]
  cases r with
  | nil => simp [nx, mpC]
  | cons u r =>
    have hu : ¬ u.k = 44 := hk
    by_cases h41 : u.k = 41
    · simp [nx, h41, mpC]
    · simp [nx, hu, h41, mpC]
/-- The whole. -/
theorem pAll_emp (hE : isE k = true) : pAll (val P) n (k :: l) = some ([], l) := by simp [pAll, hE]
theorem pAll_par (hk : k.k = 40) : pAll (val P) n (k :: l) = mpR P n l false := by
  have hE : isE k = false := by simp [isE, hk]
  simp [pAll, hE, hk, mpR]
theorem pAll_no (h : ¬ nx l false = 40) (hE : ∀ k r, l = k :: r → isE k = false) : pAll (val P) n l = none := by
  cases l with
  | nil => rfl
  | cons k l =>
    have h1 : ¬ k.k = 40 := h
    simp [pAll, hE k l rfl, h1]
end

end Go.Proofs.YtlckfiflfkbofaaGreatDoor
