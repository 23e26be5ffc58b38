/- Plain: the reference's decimals and letters, as lists of bytes; no program in sight. Plain: how the reference cuts a text into tokens; no program in sight. Part 29 of 51 of the proof that FnMultiPointBody returns true for every text and every type of coordinates, where the listed variables hold what the text of the program lays. -/
import Derived.Test.YtlckfiflfkbofaaGreatDoorM02
import Derived.Test.YtlckfiflfkbofaaGreatDoorM21
set_option linter.all false

/- Plain: the reference's decimals and letters, as lists of bytes; no program in sight. -/
namespace Go.Proofs.YtlckfiflfkbofaaGreatDoor

/-- Leading digits, leading letters. -/
def dgs (l : List UInt8) : Nat := (l.takeWhile isDg).length
def isLt (c : UInt8) : Bool := (decide (65 ≤ c.toNat) && decide (c.toNat ≤ 90)) || (decide (97 ≤ c.toNat) && decide (c.toNat ≤ 122))
def lts (l : List UInt8) : Nat := (l.takeWhile isLt).length
/-- Where an exponent behind place n ends, n if there is none. -/
def expN (l : List UInt8) (n : Nat) : Nat := match l.drop n with
  | [] => n
  | c :: r => if c = 101 ∨ c = 69 then
      (if 0 < dgs (l.drop (if r.head? = some 43 ∨ r.head? = some 45 then n + 2 else n + 1)) then (if r.head? = some 43 ∨ r.head? = some 45 then n + 2 else n + 1) + dgs (l.drop (if r.head? = some 43 ∨ r.head? = some 45 then n + 2 else n + 1)) else n)
    else n
/-- The length of the decimal at the beginning, 0 if there is none. -/
def decN (l : List UInt8) : Nat := match l.drop (dgs l) with
  | [] => if dgs l = 0 then 0 else expN l (dgs l)
  | c :: r => if c = 46 then (if dgs l + dgs r = 0 then 0 else expN l (dgs l + 1 + dgs r)) else if dgs l = 0 then 0 else expN l (dgs l)

theorem dgs_app {d r : List UInt8} (hd : d.all isDg = true) (hr : ∀ c, r.head? = some c → isDg c = false) : dgs (d ++ r) = d.length := by
  unfold dgs
  induction d with
  | nil =>
    cases r with
    | nil => rfl
    | cons c r => simp [List.takeWhile_cons, hr c rfl]
  | cons c d ih =>
    simp only [List.all_cons, Bool.and_eq_true] at hd
    simp [List.takeWhile_cons, hd.1, ih hd.2]
theorem dgs_le (l : List UInt8) : dgs l ≤ l.length := (List.takeWhile_sublist _).length_le
theorem take_takeWhile (p : UInt8 → Bool) (l : List UInt8) : l.take (l.takeWhile p).length = l.takeWhile p := by
  have h : l = l.takeWhile p ++ l.dropWhile p := List.takeWhile_append_dropWhile.symm
  generalize l.takeWhile p = a at *
  generalize l.dropWhile p = b at *
  subst h; simp
theorem drop_takeWhile (p : UInt8 → Bool) (l : List UInt8) : l.drop (l.takeWhile p).length = l.dropWhile p := by
  have h : l = l.takeWhile p ++ l.dropWhile p := List.takeWhile_append_dropWhile.symm
  generalize l.takeWhile p = a at *
  generalize l.dropWhile p = b at *
  subst h; simp
theorem dgs_take (l : List UInt8) : (l.take (dgs l)).all isDg = true := by
  unfold dgs
  rw [take_takeWhile]
  exact List.all_takeWhile
theorem head_dropWhile (p : UInt8 → Bool) (l : List UInt8) : ∀ c r, l.dropWhile p = c :: r → p c = false := by
  induction l with
  | nil => intro c r h; simp at h
  | cons a l ih =>
    intro c r h
    rw [List.dropWhile_cons] at h
    split at h
    · exact ih c r h
    · rename_i hn; cases h; simpa using hn

theorem okM_dg {d : List UInt8} (hd : d.all isDg = true) (b : Bool) (r : List UInt8) : okM (d ++ r) b = okM r b := by
  induction d with
  | nil => rfl
  | cons c d ih =>
    simp only [List.all_cons, Bool.and_eq_true] at hd
    simp [okM, hd.1, ih hd.2]
theorem dg46 : isDg 46 = false := by decide
theorem okM_split {m : List UInt8} {b : Bool} (h : okM m b = true) : m.all isDg = true ∨ (b = false ∧ ∃ d1 d2, m = d1 ++ 46 :: d2 ∧ d1.all isDg = true ∧ d2.all isDg = true) := by
  induction m generalizing b with
  | nil => left; rfl
  | cons c m ih =>
    simp only [okM] at h
    split at h
    · rename_i hc
      rcases ih h with h1 | ⟨h1, d1, d2, rfl, h2, h3⟩
      · left; simp [hc]; simpa using h1
      · right; exact ⟨h1, c :: d1, d2, rfl, by simp [hc]; simpa using h2, h3⟩
    · simp only [Bool.and_eq_true, beq_iff_eq, Bool.not_eq_true'] at h
      obtain ⟨⟨rfl, hb⟩, hm⟩ := h
      rcases ih hm with h1 | ⟨h1, _⟩
      · right; exact ⟨hb, [], m, rfl, rfl, h1⟩
      · cases h1

/-- What may stand behind a word or a decimal: no letter, no digit, no point, no minus. -/
def okHd (r : List UInt8) : Prop := ∀ c, r.head? = some c → isDg c = false ∧ isLt c = false ∧ c ≠ 46

def xsOf (x : Option (UInt8 × List UInt8 × List UInt8)) : List UInt8 := match x with
  | none => []
  | some (e, g, d) => e :: (g ++ d)
theorem expN_at (p : List UInt8) {r : List UInt8} (x : Option (UInt8 × List UInt8 × List UInt8)) (hx : ∀ e g d, x = some (e, g, d) → (e = 101 ∨ e = 69) ∧ isSg g = true ∧ d ≠ [] ∧ d.all isDg = true) (hr : okHd r) :
    expN (p ++ (xsOf x ++ r)) p.length = p.length + (xsOf x).length := by
  cases x with
  | none =>
    simp only [xsOf, expN, List.nil_append, List.drop_left, List.length_nil, Nat.add_zero]
    cases r with
    | nil => rfl
    | cons c r =>
      have := hr c rfl
      have h1 : ¬ (c = 101 ∨ c = 69) := by
        rintro (rfl | rfl)
        · exact absurd this.2.1 (by decide)
        · exact absurd this.2.1 (by decide)
      simp [h1]
  | some y =>
    obtain ⟨e, g, d⟩ := y
    obtain ⟨he, hg, hd, hall⟩ := hx e g d rfl
    have hdr : dgs (d ++ r) = d.length := dgs_app hall (fun c hc => (hr c hc).1)
    have hpos : 0 < d.length := List.length_pos_iff.2 hd
    simp only [isSg, Bool.or_eq_true, beq_iff_eq] at hg
    simp only [xsOf, expN, List.cons_append, List.drop_left, he, if_true]
    have hd1 : ∀ q : List UInt8, List.drop (p.length + 1) (p ++ e :: q) = q := by
      intro q
      rw [show p ++ e :: q = (p ++ [e]) ++ q by simp, show p.length + 1 = (p ++ [e]).length by simp, List.drop_left]
    have hd2 : ∀ (a : UInt8) (q : List UInt8), List.drop (p.length + 2) (p ++ e :: a :: q) = q := by
      intro a q
      rw [show p ++ e :: a :: q = (p ++ [e, a]) ++ q by simp, show p.length + 2 = (p ++ [e, a]).length by simp, List.drop_left]
    rcases hg with (rfl | rfl) | rfl
    · have hh : ¬ ((([] : List UInt8) ++ d ++ r).head? = some 43 ∨ (([] : List UInt8) ++ d ++ r).head? = some 45) := by
        cases d with
        | nil => exact absurd rfl hd
        | cons a d =>
          simp only [List.all_cons, Bool.and_eq_true] at hall
          rintro (h | h) <;> · simp at h; subst h; exact absurd hall.1 (by decide)
      rw [if_neg hh]
      simp only [List.nil_append, hd1, hdr, hpos, if_true, List.length_cons]
      omega
    · simp only [List.cons_append, List.nil_append, List.head?_cons, true_or, if_true, hd2, hdr, hpos, List.length_cons]
      omega
    · simp only [List.cons_append, List.nil_append, List.head?_cons, or_true, if_true, hd2, hdr, hpos, List.length_cons]
      omega

theorem decN_app (n : Num) (ok : n.Ok) {r : List UInt8} (hr : okHd r) : decN (n.l ++ r) = n.l.length := by
  have hxs : n.xs = xsOf n.x := rfl
  have hh : ∀ c, (n.xs ++ r).head? = some c → isDg c = false ∧ c ≠ 46 := by
    intro c hc
    rw [hxs] at hc
    cases hx : n.x with
    | none => rw [hx] at hc; exact ⟨(hr c hc).1, (hr c hc).2.2⟩
    | some y =>
      obtain ⟨e, g, d⟩ := y
      rw [hx] at hc
      simp only [xsOf, List.cons_append, List.head?_cons, Option.some.injEq] at hc
      subst hc
      rcases (ok.x _ _ _ hx).1 with rfl | rfl <;> decide
  have hl : n.l ++ r = n.m ++ (n.xs ++ r) := by simp [Num.l]
  have hE : ∀ p : List UInt8, expN (p ++ (n.xs ++ r)) p.length = p.length + n.xs.length := fun p => expN_at p n.x ok.x hr
  have hll : n.l.length = n.m.length + n.xs.length := by simp [Num.l]
  rcases okM_split ok.m with h | ⟨_, d1, d2, h, h1, h2⟩
  · have hd : dgs (n.l ++ r) = n.m.length := by rw [hl]; exact dgs_app h (fun c hc => (hh c hc).1)
    have hne : n.m.length ≠ 0 := by
      intro h0
      have := ok.dg
      rw [List.length_eq_zero_iff.1 h0] at this
      cases this
    unfold decN
    rw [hd, hl, List.drop_left, hE, hll]
    cases hq : n.xs ++ r with
    | nil => simp [hne]
    | cons c q =>
      have hc := hh c (by rw [hq]; rfl)
      simp [hc.2, hne]
  · have hl2 : n.l ++ r = d1 ++ 46 :: (d2 ++ (n.xs ++ r)) := by rw [hl, h]; simp
    have hd : dgs (n.l ++ r) = d1.length := by rw [hl2]; exact dgs_app h1 (fun c hc => by simp at hc; subst hc; rfl)
    have hd2 : dgs (d2 ++ (n.xs ++ r)) = d2.length := dgs_app h2 (fun c hc => (hh c hc).1)
    have hm : n.m.length = d1.length + 1 + d2.length := by rw [h]; simp; omega
    have hne : d1.length + d2.length ≠ 0 := by
      intro h0
      have := ok.dg
      rw [h, List.length_eq_zero_iff.1 (show d1.length = 0 by omega), List.length_eq_zero_iff.1 (show d2.length = 0 by omega)] at this
      cases this
    unfold decN
    rw [hd, hl2, List.drop_left]
    simp only [if_true, hd2]
    rw [if_neg hne, ← hl2, hl, ← hm, hE, hll]

theorem expN_num (p l : List UInt8) (hl : l.take p.length = p) (hp : p.length ≤ l.length) : ∃ x : Option (UInt8 × List UInt8 × List UInt8), (∀ e g d, x = some (e, g, d) → (e = 101 ∨ e = 69) ∧ isSg g = true ∧ d ≠ [] ∧ d.all isDg = true) ∧
    l.take (expN l p.length) = p ++ xsOf x ∧ expN l p.length ≤ l.length ∧ p.length ≤ expN l p.length := by
  have hsp : l = p ++ l.drop p.length := by conv => lhs; rw [← List.take_append_drop p.length l, hl]
  have none' : expN l p.length = p.length → ∃ x : Option (UInt8 × List UInt8 × List UInt8), (∀ e g d, x = some (e, g, d) → (e = 101 ∨ e = 69) ∧ isSg g = true ∧ d ≠ [] ∧ d.all isDg = true) ∧
    l.take (expN l p.length) = p ++ xsOf x ∧ expN l p.length ≤ l.length ∧ p.length ≤ expN l p.length := by
    intro h
    exact ⟨none, by simp, by rw [h, hl]; simp [xsOf], by rw [h]; exact hp, by rw [h]; exact Nat.le_refl _⟩
  cases hd : l.drop p.length with
  | nil => exact none' (by simp [expN, hd])
  | cons c r =>
    by_cases hc : c = 101 ∨ c = 69
    · have hd1 : l.drop (p.length + 1) = r := by rw [← List.drop_drop, hd]; rfl
      by_cases hs : r.head? = some 43 ∨ r.head? = some 45
      · cases r with
        | nil => simp at hs
        | cons a r =>
          have hd2 : l.drop (p.length + 2) = r := by rw [show p.length + 2 = p.length + 1 + 1 by omega, ← List.drop_drop, hd1]; rfl
          by_cases hk : 0 < dgs r
          · have he : expN l p.length = p.length + 2 + dgs r := by simp only [expN, hd, hc, hs, if_true, hd2, hk]
            refine ⟨some (c, [a], r.take (dgs r)), ?_, ?_, ?_, by omega⟩
            · rintro e g d h
              cases h
              refine ⟨hc, ?_, ?_, dgs_take r⟩
              · simp only [List.head?_cons, Option.some.injEq] at hs
                rcases hs with rfl | rfl <;> rfl
              · intro h0
                have h9 : (r.take (dgs r)).length = 0 := by rw [h0]; rfl
                rw [List.length_take] at h9
                have := dgs_le r
                omega
            · rw [he, hsp, hd]
              simp only [List.take_append, List.length_append, List.length_cons, show p.length + 2 + dgs r - p.length = dgs r + 1 + 1 by omega, List.take_succ_cons]
              rw [List.take_of_length_le (by omega)]
              simp [xsOf]
            · rw [he]
              have := dgs_le r
              have h2 : r.length = l.length - (p.length + 2) := by rw [← hd2, List.length_drop]
              have h3 : (l.drop p.length).length = _ := congrArg List.length hd
              simp only [List.length_drop, List.length_cons] at h3
              omega
          · apply none'
            simp only [expN, hd, hc, hs, if_true, hd2, hk, if_false]
      · by_cases hk : 0 < dgs r
        · have he : expN l p.length = p.length + 1 + dgs r := by simp only [expN, hd, hc, hs, if_true, if_false, hd1, hk]
          refine ⟨some (c, [], r.take (dgs r)), ?_, ?_, ?_, by omega⟩
          · rintro e g d h
            cases h
            refine ⟨hc, rfl, ?_, dgs_take r⟩
            intro h0
            have h9 : (r.take (dgs r)).length = 0 := by rw [h0]; rfl
            rw [List.length_take] at h9
            have := dgs_le r
            omega
          · rw [he, hsp, hd]
            simp only [List.take_append, List.length_append, List.length_cons, show p.length + 1 + dgs r - p.length = dgs r + 1 by omega, List.take_succ_cons]
            rw [List.take_of_length_le (by omega)]
            simp [xsOf]
          · rw [he]
            have := dgs_le r
            have h2 : r.length = l.length - (p.length + 1) := by rw [← hd1]; simp
            have h3 : (l.drop p.length).length = _ := congrArg List.length hd
            simp only [List.length_drop, List.length_cons] at h3
            omega
        · apply none'
          simp only [expN, hd, hc, hs, if_true, if_false, hd1, hk]
    · exact none' (by simp [expN, hd, hc])

theorem decN_num (l : List UInt8) (h : decN l ≠ 0) : decN l ≤ l.length ∧ ∃ n : Num, n.Ok ∧ l.take (decN l) = n.l := by
  have hle := dgs_le l
  have hta := dgs_take l
  have one : dgs l ≠ 0 → decN l = expN l (dgs l) → decN l ≤ l.length ∧ ∃ n : Num, n.Ok ∧ l.take (decN l) = n.l := by
    intro h0 he
    have hpl : (l.take (dgs l)).length = dgs l := by simp; omega
    obtain ⟨x, hx, h1, h2, h3⟩ := expN_num (l.take (dgs l)) l (by rw [hpl]) (by rw [hpl]; exact hle)
    rw [hpl] at h1 h2 h3
    rw [he]
    refine ⟨h2, ⟨l.take (dgs l), x⟩, ⟨?_, ?_, hx⟩, h1⟩
    · have := okM_dg hta false []
      rw [List.append_nil] at this
      exact this
    · show anyDg (l.take (dgs l)) = true
      cases hq : l.take (dgs l) with
      | nil => rw [hq] at hpl; simp at hpl; omega
      | cons a b =>
        rw [hq] at hta
        simp only [List.all_cons, Bool.and_eq_true] at hta
        simp [anyDg, hta.1]
  cases hd : l.drop (dgs l) with
  | nil =>
    have he : decN l = if dgs l = 0 then 0 else expN l (dgs l) := by simp only [decN, hd]
    split at he
    · exact absurd he h
    · rename_i h0; exact one h0 he
  | cons c r =>
    by_cases hc : c = 46
    · subst hc
      have he : decN l = if dgs l + dgs r = 0 then 0 else expN l (dgs l + 1 + dgs r) := by simp only [decN, hd, if_true]
      split at he
      · exact absurd he h
      · rename_i h0
        have hrl : r.length = l.length - (dgs l + 1) := by
          have : l.drop (dgs l + 1) = r := by rw [← List.drop_drop, hd]; rfl
          rw [← this]; simp
        have hll : l.length = dgs l + (r.length + 1) := by
          have := congrArg List.length hd
          simp only [List.length_drop, List.length_cons] at this
          omega
        have hrle := dgs_le r
        have hp : l.take (dgs l + 1 + dgs r) = l.take (dgs l) ++ 46 :: r.take (dgs r) := by
          have hpl : (l.take (dgs l)).length = dgs l := by simp; omega
          have hsp : l = l.take (dgs l) ++ 46 :: r := by rw [← hd, List.take_append_drop]
          generalize dgs l = n at *
          generalize l.take n = p at *
          subst hsp
          simp only [List.take_append, hpl, show n + 1 + dgs r - n = dgs r + 1 by omega, List.take_succ_cons]
          rw [List.take_of_length_le (by omega)]
        have hpl : (l.take (dgs l + 1 + dgs r)).length = dgs l + 1 + dgs r := by simp; omega
        obtain ⟨x, hx, h1, h2, h3⟩ := expN_num (l.take (dgs l + 1 + dgs r)) l (by rw [hpl]) (by rw [hpl]; omega)
        rw [hpl] at h1 h2 h3
        rw [he]
        refine ⟨h2, ⟨l.take (dgs l + 1 + dgs r), x⟩, ⟨?_, ?_, hx⟩, h1⟩
        · show okM (l.take (dgs l + 1 + dgs r)) false = true
          rw [hp, okM_dg hta]
          have := okM_dg (dgs_take r) true []
          rw [List.append_nil] at this
          simp [okM, dg46, this]
        · show anyDg (l.take (dgs l + 1 + dgs r)) = true
          rw [hp]
          have hr2 := dgs_take r
          have aux : ∀ q : List UInt8, q.all isDg = true → 0 < q.length → q.any isDg = true := by
            intro q h1 h2
            cases q with
            | nil => simp at h2
            | cons a b => simp only [List.all_cons, Bool.and_eq_true] at h1; simp [h1.1]
          simp only [anyDg, List.any_append, List.any_cons, Bool.or_eq_true]
          by_cases h5 : dgs l = 0
          · right; right
            exact aux _ hr2 (by simp; omega)
          · left
            exact aux _ hta (by simp; omega)
    · have he : decN l = if dgs l = 0 then 0 else expN l (dgs l) := by simp only [decN, hd, hc, if_false]
      split at he
      · exact absurd he h
      · rename_i h0; exact one h0 he

end Go.Proofs.YtlckfiflfkbofaaGreatDoor

/- Plain: how the reference cuts a text into tokens; no program in sight. -/
namespace Go.Proofs.YtlckfiflfkbofaaGreatDoor

/-! ### The tokens of a text -/
def isBl (c : UInt8) : Bool := c == 32 || c == 9 || c == 10 || c == 13
def isSgn (c : UInt8) : Bool := c == 40 || c == 41 || c == 44 || c == 45
def mkS (l : List UInt8) : ByteArray := ⟨l.toArray⟩
def lenT (c : UInt8) (r : List UInt8) : Nat := if isLt c then lts (c :: r) else decN (c :: r)
def tks : Nat → Bool → List UInt8 → Option (List Tok)
  | 0, _, _ => none
  | _ + 1, _, [] => some []
  | f + 1, j, c :: r =>
    if isBl c then tks f false r
    else if isSgn c then (if c == 45 && j then none else (tks f false r).map (⟨c.toNat, mkS [c]⟩ :: ·))
    else if lenT c r = 0 ∨ j = true then none else (tks f true ((c :: r).drop (lenT c r))).map (⟨if isLt c then 97 else 49, mkS ((c :: r).take (lenT c r))⟩ :: ·)

def pad0 : List UInt8 → Bool
  | a :: b :: _ => a == 48 && isDg b
  | _ => false
def Unp (l : List Tok) : Prop := ∀ k ∈ l, k.k = 49 → pad0 k.s.data.toList = false

/-- What stands behind a word or decimal. -/
def stp (r : List UInt8) : Prop := ∀ c, r.head? = some c → isBl c = true ∨ c = 40 ∨ c = 41 ∨ c = 44

theorem u8_all {p : UInt8 → Bool} (h : ((List.range 256).all fun n => p (UInt8.ofNat n)) = true) (x : UInt8) : p x = true := by
  have := List.all_eq_true.1 h x.toNat (List.mem_range.2 x.toNat_lt)
  simpa using this

theorem stp_of {f : Nat} {r : List UInt8} {l : List Tok} (h : tks f true r = some l) : stp r := by
  intro c hc
  cases f with
  | zero => cases h
  | succ f =>
    cases r with
    | nil => cases hc
    | cons a r =>
      simp only [List.head?_cons, Option.some.injEq] at hc
      subst hc
      simp only [tks] at h
      split at h
      · rename_i hb; exact Or.inl hb
      · split at h
        · rename_i hs
          simp only [isSgn, Bool.or_eq_true, beq_iff_eq] at hs
          split at h
          · cases h
          · rename_i h45
            simp only [Bool.and_true, beq_iff_eq] at h45
            rcases hs with ((hs | hs) | hs) | hs
            · exact Or.inr (Or.inl hs)
            · exact Or.inr (Or.inr (Or.inl hs))
            · exact Or.inr (Or.inr (Or.inr hs))
            · exact absurd hs h45
        · simp at h

theorem stp_hd {r : List UInt8} (h : stp r) : okHd r := by
  intro c hc
  rcases h c hc with h1 | rfl | rfl | rfl
  · simp only [isBl, Bool.or_eq_true, beq_iff_eq] at h1
    rcases h1 with ((rfl | rfl) | rfl) | rfl <;> decide
  · decide
  · decide
  · decide

theorem tks_mono : ∀ (f g : Nat) (j : Bool) (L : List UInt8) (l : List Tok), tks f j L = some l → f ≤ g → tks g j L = some l := by
  intro f
  induction f with
  | zero => intro g j L l h; cases h
  | succ f ih =>
    intro g j L l h hg
    obtain ⟨g, rfl⟩ : ∃ k, g = k + 1 := ⟨g - 1, by omega⟩
    cases L with
    | nil => exact h
    | cons c r =>
      simp only [tks] at h ⊢
      split
      · rename_i hb; rw [if_pos hb] at h; exact ih _ _ _ _ h (by omega)
      · rename_i hb
        rw [if_neg hb] at h
        split
        · rename_i hs
          rw [if_pos hs] at h
          split
          · rename_i h45; rw [if_pos h45] at h; cases h
          · rename_i h45
            rw [if_neg h45] at h
            simp only [Option.map_eq_some_iff] at h ⊢
            obtain ⟨a, ha, hb⟩ := h
            exact ⟨a, ih _ _ _ _ ha (by omega), hb⟩
        · rename_i hs
          rw [if_neg hs] at h
          split
          · rename_i h45; rw [if_pos h45] at h; cases h
          · rename_i h45
            rw [if_neg h45] at h
            simp only [Option.map_eq_some_iff] at h ⊢
            obtain ⟨a, ha, hb⟩ := h
            exact ⟨a, ih _ _ _ _ ha (by omega), hb⟩

theorem lenT_pos {j : Bool} {c : UInt8} {r : List UInt8} (h : ¬ (lenT c r = 0 ∨ j = true)) : ((c :: r).drop (lenT c r)).length ≤ r.length := by
  rw [List.length_drop, List.length_cons]; omega
theorem tks_fuel : ∀ (f g : Nat) (j : Bool) (L : List UInt8), L.length < f → L.length < g → tks f j L = tks g j L := by
  intro f
  induction f with
  | zero => intro g j L h; omega
  | succ f ih =>
    intro g j L h hg
    obtain ⟨g, rfl⟩ : ∃ k, g = k + 1 := ⟨g - 1, by omega⟩
    cases L with
    | nil => rfl
    | cons c r =>
      simp only [List.length_cons] at h hg
      simp only [tks]
      rw [ih g false r (by omega) (by omega)]
      by_cases hn : lenT c r = 0 ∨ j = true
      · simp only [hn, if_true]
      · have := lenT_pos hn
        simp only [hn, if_false]
        rw [ih g true _ (by omega) (by omega)]
/-- The tokens of a list of bytes. -/
def tkA (j : Bool) (L : List UInt8) : Option (List Tok) := tks (L.length + 1) j L
theorem tkA_nil (j : Bool) : tkA j [] = some [] := rfl
theorem tkA_blank {j : Bool} {c : UInt8} {r : List UInt8} (h : isBl c = true) : tkA j (c :: r) = tkA false r := by
  unfold tkA; rw [List.length_cons, tks, if_pos h]
theorem tkA_minus {c : UInt8} {r : List UInt8} (h : isBl c = false) (h2 : isSgn c = true) (h3 : c = 45) : tkA true (c :: r) = none := by
  subst h3
  unfold tkA; rw [List.length_cons, tks, if_neg (by simp [h]), if_pos h2]; rfl
theorem tkA_sign {j : Bool} {c : UInt8} {r : List UInt8} (h : isBl c = false) (h2 : isSgn c = true) (h3 : (c == 45 && j) = false) : tkA j (c :: r) = (tkA false r).map (⟨c.toNat, mkS [c]⟩ :: ·) := by
  unfold tkA; rw [List.length_cons, tks, if_neg (by simp [h]), if_pos h2, h3]; rfl
theorem tkA_bad {j : Bool} {c : UInt8} {r : List UInt8} (h : isBl c = false) (h2 : isSgn c = false) (h3 : lenT c r = 0 ∨ j = true) : tkA j (c :: r) = none := by
  unfold tkA; rw [List.length_cons, tks, if_neg (by simp [h]), if_neg (by simp [h2]), if_pos h3]
theorem tkA_tok {j : Bool} {c : UInt8} {r : List UInt8} (h : isBl c = false) (h2 : isSgn c = false) (h3 : ¬ (lenT c r = 0 ∨ j = true)) : tkA j (c :: r) = (tkA true ((c :: r).drop (lenT c r))).map (⟨if isLt c then 97 else 49, mkS ((c :: r).take (lenT c r))⟩ :: ·) := by
  have := lenT_pos h3
  unfold tkA; rw [List.length_cons, tks, if_neg (by simp [h]), if_neg (by simp [h2]), if_neg h3, tks_fuel (r.length + 1) _ true _ (by omega) (Nat.lt_succ_self _)]

end Go.Proofs.YtlckfiflfkbofaaGreatDoor
