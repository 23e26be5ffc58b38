/- Plain: how points are read from tokens, and that the body's end is found by its parentheses; no program in sight. Part 21 of 51 of the proof that FnMultiPointBody returns true for every text and every type of coordinates, where the listed variables hold what the text of the program lays. -/
import Derived.Test.YtlckfiflfkbofaaGreatDoorM02
set_option linter.all false

/- Plain: how points are read from tokens, and that the body's end is found by its parentheses; no program in sight. -/
namespace Go.Proofs.YtlckfiflfkbofaaGreatDoor

/-- A token: its kind and its bytes. -/
structure Tok where
  k : Nat
  s : ByteArray

def isE (t : Tok) : Bool := t.k == 97 && t.s.data.toList == [69, 77, 80, 84, 89]

/-- How a parenthesis counts. -/
def tD (t : Tok) : Int := if t.k = 40 then 1 else if t.k = 41 then -1 else 0

/-- Up to where the depth is 0 again. -/
def brk : Int → List Tok → Option (List Tok)
  | _, [] => none
  | d, t :: r => if d + tD t = 0 then some [t] else (brk (d + tD t) r).map (t :: ·)

section
variable (val : Tok → Bool → Option Nat)

def pNum : List Tok → Option (Nat × List Tok)
  | [] => none
  | t :: r => if t.k = 45 then match r with
      | [] => none
      | u :: q => (val u true).map fun x => (x, q)
    else (val t false).map fun x => (x, r)

def pNums : Nat → List Tok → Option (List Nat × List Tok)
  | 0, l => some ([], l)
  | n + 1, l => match pNum val l with
    | none => none
    | some (x, r) => match pNums n r with
      | none => none
      | some (xs, q) => some (x :: xs, q)

def tIs (c : Nat) : List Tok → Option (List Tok)
  | [] => none
  | t :: r => if t.k = c then some r else none

/-- A point, none for EMPTY, which has no numbers. -/
def pPoint (w : Nat) : List Tok → Option (List Nat × List Tok)
  | [] => none
  | t :: r => if t.k = 40 then match pNums val w r with
      | none => none
      | some (xs, q) => (tIs 41 q).map fun z => (xs, z)
    else if isE t then some ([], r) else pNums val w (t :: r)

def pPoints (w : Nat) : Nat → List Tok → Option (List (List Nat) × List Tok)
  | 0, _ => none
  | f + 1, l => match pPoint val w l with
    | none => none
    | some (_, []) => none
    | some (x, t :: r) => if t.k = 44 then (pPoints w f r).map fun y => (x :: y.1, y.2) else if t.k = 41 then some ([x], r) else none

def pAll (w : Nat) : List Tok → Option (List (List Nat) × List Tok)
  | [] => none
  | t :: r => if isE t then some ([], r) else if t.k = 40 then pPoints val w (r.length + 1) r else none

/-- A reader takes tokens of a property, whatever stands behind them. -/
def Eats {α : Type} (P : List Tok → Prop) (f : List Tok → Option (α × List Tok)) : Prop :=
  ∀ l x r, f l = some (x, r) → ∃ c, l = c ++ r ∧ P c ∧ ∀ r', f (c ++ r') = some (x, r')

def NoPar (c : List Tok) : Prop := ∀ t ∈ c, t.k ≠ 40 ∧ t.k ≠ 41

variable {val} (hv : ∀ t b x, val t b = some x → t.k = 49)
include hv

theorem pNum_eats : Eats (fun c => NoPar c ∧ c ≠ []) (pNum val) := by
  intro l x r h
  cases l with
  | nil => simp [pNum] at h
  | cons t q =>
    simp only [pNum] at h
    split at h
    · rename_i hk
      cases q with
      | nil => simp at h
      | cons u q =>
        simp only [Option.map_eq_some_iff] at h
        obtain ⟨y, hy, he⟩ := h
        cases he
        refine ⟨[t, u], rfl, ⟨?_, by simp⟩, ?_⟩
        · intro z hz
          have hu := hv _ _ _ hy
          simp only [List.mem_cons, List.not_mem_nil, or_false] at hz
          rcases hz with rfl | rfl <;> omega
        · intro r'
          simp [pNum, hk, hy]
    · rename_i hk
      simp only [Option.map_eq_some_iff] at h
      obtain ⟨y, hy, he⟩ := h
      cases he
      refine ⟨[t], rfl, ⟨?_, by simp⟩, ?_⟩
      · intro z hz
        have hu := hv _ _ _ hy
        simp only [List.mem_cons, List.not_mem_nil, or_false] at hz
        subst hz; omega
      · intro r'
        simp [pNum, hk, hy]

theorem pNums_eats (n : Nat) : Eats (fun c => NoPar c ∧ (n ≠ 0 → c ≠ [])) (pNums val n) := by
  induction n with
  | zero =>
    intro l x r h
    simp only [pNums, Option.some.injEq, Prod.mk.injEq] at h
    obtain ⟨rfl, rfl⟩ := h
    exact ⟨[], rfl, ⟨by intro t ht; simp at ht, by simp⟩, fun r' => rfl⟩
  | succ n ih =>
    intro l x r h
    simp only [pNums] at h
    cases e1 : pNum val l with
    | none => rw [e1] at h; simp at h
    | some p =>
      obtain ⟨y, q⟩ := p
      rw [e1] at h
      simp only at h
      cases e2 : pNums val n q with
      | none => rw [e2] at h; simp at h
      | some p2 =>
        obtain ⟨ys, q2⟩ := p2
        rw [e2] at h
        simp only [Option.some.injEq, Prod.mk.injEq] at h
        obtain ⟨rfl, rfl⟩ := h
        obtain ⟨c1, rfl, ⟨hc1, hn1⟩, g1⟩ := pNum_eats hv _ _ _ e1
        obtain ⟨c2, rfl, ⟨hc2, _⟩, g2⟩ := ih _ _ _ e2
        refine ⟨c1 ++ c2, by simp, ⟨?_, by simp [hn1]⟩, ?_⟩
        · intro t ht
          rcases List.mem_append.1 ht with ht | ht
          · exact hc1 t ht
          · exact hc2 t ht
        · intro r'
          simp only [pNums, List.append_assoc, g1, g2]

omit hv in
theorem brk_nopar {c : List Tok} (h : NoPar c) {d : Int} (hd : 0 < d) (r : List Tok) : brk d (c ++ r) = (brk d r).map (c ++ ·) := by
  induction c with
  | nil => simp
  | cons t c ih =>
    have ht := h t (by simp)
    have h0 : tD t = 0 := by simp [tD, ht.1, ht.2]
    have := ih (fun z hz => h z (by simp [hz]))
    simp only [List.cons_append, brk, h0, Int.add_zero]
    rw [if_neg (by omega), this, Option.map_map]
    rfl

/-- At a depth above 0 it is passed over. -/
def Flat (c : List Tok) : Prop := ∀ d : Int, 0 < d → ∀ r, brk d (c ++ r) = (brk d r).map (c ++ ·)

theorem pPoint_eats {w : Nat} (hw : w ≠ 0) : Eats (fun c => Flat c ∧ c ≠ []) (pPoint val w) := by
  intro l x r h
  cases l with
  | nil => simp [pPoint] at h
  | cons t q =>
    simp only [pPoint] at h
    split at h
    · rename_i hk
      cases e1 : pNums val w q with
      | none => rw [e1] at h; simp at h
      | some p =>
        obtain ⟨ys, z⟩ := p
        rw [e1] at h
        simp only at h
        cases z with
        | nil => simp [tIs] at h
        | cons u z =>
          simp only [tIs] at h
          split at h
          · rename_i hu
            simp only [Option.map_some, Option.some.injEq, Prod.mk.injEq] at h
            obtain ⟨rfl, rfl⟩ := h
            obtain ⟨c, rfl, ⟨hc, _⟩, g⟩ := pNums_eats hv w _ _ _ e1
            refine ⟨t :: (c ++ [u]), by simp, ⟨?_, by simp⟩, ?_⟩
            · intro d hd r'
              have ht : tD t = 1 := by simp [tD, hk]
              have hu' : tD u = -1 := by simp [tD, hu]
              simp only [List.cons_append, List.append_assoc, brk, ht]
              rw [if_neg (by omega), brk_nopar hc (by omega)]
              simp only [List.nil_append, brk, hu']
              rw [if_neg (by omega), show d + 1 + -1 = d by omega]
              cases brk d r' <;> simp
            · intro r'
              simp [pPoint, hk, g, tIs, hu]
          · simp at h
    · rename_i hk
      split at h
      · rename_i he
        simp only [Option.some.injEq, Prod.mk.injEq] at h
        obtain ⟨rfl, rfl⟩ := h
        refine ⟨[t], rfl, ⟨?_, by simp⟩, fun r' => by simp [pPoint, hk, he]⟩
        intro d hd r'
        have : t.k = 97 := by simp only [isE, Bool.and_eq_true, beq_iff_eq] at he; exact he.1
        exact brk_nopar (by intro z hz; simp only [List.mem_cons, List.not_mem_nil, or_false] at hz; subst hz; omega) hd r'
      · rename_i he
        obtain ⟨c, hc0, ⟨hc, hne⟩, g⟩ := pNums_eats hv w _ _ _ h
        refine ⟨c, hc0, ⟨fun d hd r' => brk_nopar hc hd r', hne hw⟩, ?_⟩
        intro r'
        cases c with
        | nil => exact absurd rfl (hne hw)
        | cons t' c =>
          simp only [List.cons_append, List.cons.injEq] at hc0
          obtain ⟨rfl, _⟩ := hc0
          simp only [List.cons_append, pPoint]
          rw [if_neg hk, if_neg he]
          exact g r'

theorem pPoints_eats {w : Nat} (hw : w ≠ 0) (f : Nat) : ∀ l x r, pPoints val w f l = some (x, r) → ∃ c, l = c ++ r ∧ (∀ r', brk 1 (c ++ r') = some c) ∧ (c ≠ []) ∧ ∀ r' f', c.length ≤ f' → pPoints val w f' (c ++ r') = some (x, r') := by
  induction f with
  | zero => intro l x r h; simp [pPoints] at h
  | succ f ih =>
    intro l x r h
    simp only [pPoints] at h
    cases e1 : pPoint val w l with
    | none => rw [e1] at h; simp at h
    | some p =>
      obtain ⟨y, q⟩ := p
      rw [e1] at h
      cases q with
      | nil => simp at h
      | cons t q =>
        simp only at h
        obtain ⟨c, rfl, ⟨hF, hcn⟩, g⟩ := pPoint_eats hv hw _ _ _ e1
        split at h
        · rename_i hk
          simp only [Option.map_eq_some_iff] at h
          obtain ⟨z, hz, he⟩ := h
          cases he
          obtain ⟨c2, h2, hb, hn2, g2⟩ := ih _ _ _ hz
          refine ⟨c ++ t :: c2, by rw [h2]; simp, ?_, by simp, ?_⟩
          · intro r'
            have ht : tD t = 0 := by simp [tD, hk]
            rw [List.append_assoc, hF 1 (by omega)]
            simp only [List.cons_append, brk, ht]
            rw [if_neg (by omega)]
            have := hb r'
            rw [show (1 : Int) + 0 = 1 by omega, this]
            simp
          · intro r' f' hf
            cases f' with
            | zero => simp at hf
            | succ f' =>
              simp only [List.length_append, List.length_cons] at hf
              have hl : c2.length ≤ f' := by omega
              simp only [List.append_assoc, List.cons_append, pPoints, g, hk, if_true, g2 r' f' hl, Option.map_some]
        · split at h
          · rename_i hk hk2
            simp only [Option.some.injEq, Prod.mk.injEq] at h
            obtain ⟨rfl, rfl⟩ := h
            refine ⟨c ++ [t], by simp, ?_, by simp, ?_⟩
            · intro r'
              have ht : tD t = -1 := by simp [tD, hk2]
              rw [List.append_assoc, hF 1 (by omega)]
              simp only [List.cons_append, List.nil_append, brk, ht]
              simp
            · intro r' f' hf
              cases f' with
              | zero => simp at hf
              | succ f' => simp [List.append_assoc, pPoints, g, hk2]
          · simp at h

/-- The text's parse is the parse of what the parentheses close. -/
theorem pAll_iff {w : Nat} (hw : w ≠ 0) (l : List Tok) (x : List (List Nat)) :
    (∃ r, pAll val w l = some (x, r)) ↔ ∃ c, brk 0 l = some c ∧ (c.length > 1 ∨ ∃ t, c = [t] ∧ isE t = true) ∧ pAll val w c = some (x, []) := by
  have one : ∀ l x r, pAll val w l = some (x, r) → ∃ c, l = c ++ r ∧ (∀ r', brk 0 (c ++ r') = some c) ∧ (c.length > 1 ∨ ∃ t, c = [t] ∧ isE t = true) ∧ ∀ r', pAll val w (c ++ r') = some (x, r') := by
    intro l x r h
    cases l with
    | nil => simp [pAll] at h
    | cons t q =>
      simp only [pAll] at h
      split at h
      · rename_i he
        simp only [Option.some.injEq, Prod.mk.injEq] at h
        obtain ⟨rfl, rfl⟩ := h
        have hk : t.k = 97 := by simp only [isE, Bool.and_eq_true, beq_iff_eq] at he; exact he.1
        refine ⟨[t], rfl, ?_, Or.inr ⟨t, rfl, he⟩, fun r' => by simp [pAll, he]⟩
        intro r'
        have : tD t = 0 := by simp [tD, hk]
        simp [brk, this]
      · rename_i he
        split at h
        · rename_i hk
          obtain ⟨c, rfl, hb, hn, g⟩ := pPoints_eats hv hw _ _ _ _ h
          have ht : tD t = 1 := by simp [tD, hk]
          refine ⟨t :: c, by simp, ?_, Or.inl ?_, ?_⟩
          · intro r'
            simp only [List.cons_append, brk, ht]
            rw [if_neg (by omega), show (0 : Int) + 1 = 1 by omega, hb r']
            simp
          · cases c with
            | nil => exact absurd rfl hn
            | cons a b => simp
          · intro r'
            simp only [List.cons_append, pAll]
            rw [if_neg he, if_pos hk]
            exact g r' _ (by simp; omega)
        · simp at h
  have pre : ∀ l d c, brk d l = some c → ∃ r, l = c ++ r := by
    intro l
    induction l with
    | nil => intro d c h; simp [brk] at h
    | cons t q ih =>
      intro d c h
      simp only [brk] at h
      split at h
      · simp only [Option.some.injEq] at h; exact ⟨q, by rw [← h]; simp⟩
      · simp only [Option.map_eq_some_iff] at h
        obtain ⟨c', hc', rfl⟩ := h
        obtain ⟨r, hr⟩ := ih _ _ hc'
        exact ⟨r, by rw [hr]; simp⟩
  constructor
  · rintro ⟨r, h⟩
    obtain ⟨c, rfl, hb, hs, g⟩ := one _ _ _ h
    refine ⟨c, hb r, hs, ?_⟩
    have := g []
    simpa using this
  · rintro ⟨c, hb, hs, h⟩
    obtain ⟨r, rfl⟩ := pre _ _ _ hb
    obtain ⟨c', hc', _, _, g⟩ := one _ _ _ h
    simp only [List.append_nil] at hc'
    subst hc'
    exact ⟨r, g r⟩

end
end Go.Proofs.YtlckfiflfkbofaaGreatDoor
