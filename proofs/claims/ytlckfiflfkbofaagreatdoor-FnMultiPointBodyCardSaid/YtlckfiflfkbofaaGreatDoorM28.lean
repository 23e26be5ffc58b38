/- The value of a token; what a number's reading needs of the world. nextSignedNumericLiteral. nextPoint. nextMultiPointStylePoint. Part 28 of 51 of the proof that FnMultiPointBody returns true for every text and every type of coordinates, where the listed variables hold what the text of the program lays. -/
import Derived.Test.YtlckfiflfkbofaaGreatDoorM20
import Derived.Test.YtlckfiflfkbofaaGreatDoorM27
set_option linter.all false

/- The value of a token; what a number's reading needs of the world. -/
namespace Go.Proofs.YtlckfiflfkbofaaGreatDoor
open Go.RowKit

/-- Where the library's tables lie, and what they hold. -/
structure GP where
  G : Nat
  g : Nat
  Bp : Nat
  op : Nat
  cp : Nat
  Bc : Nat
  oc : Nat
  cc : Nat
  ft : Nat → Nat
  pt : Nat → Nat
  fok : FOk ft
  hpt : ∀ i, pt i < 18446744073709551616
  q6 : Addr
  q7 : Addr
  x6 : ByteArray
  x7 : ByteArray
  hx6 : x6.size ≤ 100
  hx7 : x7.size ≤ 100

def GP.T (P : GP) (w : World) : Prop := Tabs w P.G P.g P.Bp P.op P.cp P.Bc P.oc P.cc P.ft P.pt

/-- An error of errors.New's. -/
def eN (q : Addr) : Value := .iface 209 (.pointer (some q))

structure Nu (P : GP) (w : World) (B : Nat) : Prop where
  T : P.T w
  GB : P.G ≤ B
  q6B : P.q6.block < B
  q7B : P.q7.block < B
  c6 : w.cell? ⟨6, 0, none⟩ = some (eN P.q6)
  c7 : w.cell? ⟨7, 0, none⟩ = some (eN P.q7)
  d6 : w.cell? P.q6 = some (.string P.x6)
  d7 : w.cell? P.q7 = some (.string P.x7)

theorem Nu.keepS {P : GP} {w w' : World} {B : Nat} (h : Nu P w B) {S : Nat → Prop} (k : Keep S w w') (hS : ∀ i, i < B → ¬ S i) : Nu P w' B := by
  have hg := h.GB
  have hT := h.T
  have h19 : 19 ≤ P.G := Tabs.G19 hT
  exact ⟨Tabs.keep hT k (fun i hi => hS i (by omega)), h.GB, h.q6B, h.q7B, k.cell h.c6 (hS _ (by show 6 < B; omega)), k.cell h.c7 (hS _ (by show 7 < B; omega)), k.cell h.d6 (hS _ h.q6B), k.cell h.d7 (hS _ h.q7B)⟩
theorem Nu.keep {P : GP} {w w' : World} {B : Nat} (h : Nu P w B) (k : Keep (fun k => B ≤ k) w w') : Nu P w' B := h.keepS k (fun i hi => by omega)
theorem Nu.keepF {P : GP} {w w' : World} {B : Nat} (h : Nu P w B) (k : Keep (fun _ => False) w w') : Nu P w' B := h.keepS k (fun _ _ h => h)
theorem Nu.errs {P : GP} {w : World} {B : Nat} (h : Nu P w B) : ErrVars w (eN P.q6) (eN P.q7) := ⟨h.c6, h.c7, ⟨_, _, rfl⟩, ⟨_, _, rfl⟩⟩

theorem num_ex (P : GP) (n : Num) (ok : n.Ok) : ∃ p : Nat × Bool, Ans p.1 p.2 ∧ ∀ (neg : Bool) (s : ByteArray) (w : World), s.data.toList = n.str neg → s.size ≤ 3000 → P.T w →
    Calls Tryz.prog 115 #[.string s] w fun e w' => AtV p.1 p.2 neg s.size e ∧ Keep (fun _ => False) w w' := by
  obtain ⟨B, E, h1, h2⟩ := at_calls n ok P.G P.g P.Bp P.op P.cp P.Bc P.oc P.cc P.ft P.pt P.fok P.hpt
  exact ⟨(B, E), h1, h2⟩

noncomputable def numBE (P : GP) (n : Num) (ok : n.Ok) : Nat × Bool := Classical.choose (num_ex P n ok)
theorem numBE_spec (P : GP) (n : Num) (ok : n.Ok) : Ans (numBE P n ok).1 (numBE P n ok).2 ∧ ∀ (neg : Bool) (s : ByteArray) (w : World), s.data.toList = n.str neg → s.size ≤ 3000 → P.T w →
    Calls Tryz.prog 115 #[.string s] w fun e w' => AtV (numBE P n ok).1 (numBE P n ok).2 neg s.size e ∧ Keep (fun _ => False) w w' := Classical.choose_spec (num_ex P n ok)

/-- A token is a decimal. -/
def IsNum (t : Tok) : Prop := ∃ n : Num, n.Ok ∧ t.s.data.toList = n.l

open Classical in
/-- The value of a token, none if it has none. -/
noncomputable def val (P : GP) (t : Tok) (neg : Bool) : Option Nat :=
  if h : t.k = 49 ∧ IsNum t then (if (numBE P (Classical.choose h.2) (Classical.choose_spec h.2).1).2 = true then none else some (sgN neg (numBE P (Classical.choose h.2) (Classical.choose_spec h.2).1).1)) else none

theorem val_kind (P : GP) : ∀ t b x, val P t b = some x → t.k = 49 := by
  intro t b x h
  unfold val at h
  split at h
  · rename_i hh; exact hh.1
  · cases h

/-- The value is the magnitude with the sign. -/
theorem val_sgn (P : GP) (t : Tok) : (∀ b, val P t b = none) ∨ ∃ B, B < infN ∧ ∀ b, val P t b = some (sgN b B) := by
  by_cases h : t.k = 49 ∧ IsNum t
  · have hs := numBE_spec P _ (Classical.choose_spec h.2).1
    by_cases hE : (numBE P (Classical.choose h.2) (Classical.choose_spec h.2).1).2 = true
    · left; intro b; unfold val; rw [dif_pos h, if_pos hE]
    · right
      refine ⟨_, hs.1.fin ((Bool.eq_false_iff.2 hE)), fun b => ?_⟩
      unfold val
      rw [dif_pos h, if_neg hE]
  · left; intro b; unfold val; rw [dif_neg h]

/-- What ParseFloat gives: the value, or something that is not one. -/
def PfR (s : ByteArray) (o : Option Nat) (e : Ending) (w' : World) : Prop :=
  match o with
  | some x => e = .returned (.tuple #[.float .f64 x, .nilIface])
  | none => JunkV s e w'

theorem pf_num {P : GP} {w : World} {B : Nat} (hV : Nu P w B) {t : Tok} (hk : t.k = 49) (hn : IsNum t) (neg : Bool) (s : ByteArray) (hs : s.data.toList = (if neg then [45] else []) ++ t.s.data.toList) (hz : s.size ≤ 3000) :
    Calls Tryz.prog 73 #[.string s, .int .i64 64] w fun e w' => PfR s (val P t neg) e w' ∧ Keep (fun _ => False) w w' := by
  have h : t.k = 49 ∧ IsNum t := ⟨hk, hn⟩
  have hc := Classical.choose_spec h.2
  have hx := numBE_spec P _ hc.1
  have ha := hx.2 neg s w (hs.trans (congrArg _ hc.2)) hz hV.T
  refine (pfl_dec s w _ _ neg _ _ hz hV.errs ha).mono ?_
  rintro e w' ⟨h1, h2⟩
  refine ⟨?_, h2⟩
  unfold val
  rw [dif_pos h]
  unfold PflV at h1
  split at h1
  · rename_i hE
    rw [if_pos hE]
    exact Or.inr h1
  · rename_i hE
    rw [if_neg hE]
    exact h1

theorem pf_junk {P : GP} {w : World} {B : Nat} (hV : Nu P w B) (s : ByteArray) (hj : Junk s) (hz : s.size ≤ 3000) :
    Calls Tryz.prog 73 #[.string s, .int .i64 64] w fun e w' => PfR s none e w' ∧ Keep (fun _ => False) w w' :=
  pfl_junk s w _ _ hj hz hV.errs

/-- A token of the grammar. -/
structure Tg (t : Tok) : Prop where
  pr : Pr t.s
  sz : t.s.size ≤ 3000
  cls : (t.k = 49 ∧ IsNum t) ∨ (t.k = 97 ∧ t.s.data.toList ≠ [] ∧ ∀ c ∈ t.s.data.toList, isL c.toNat = true) ∨ ((t.k = 40 ∨ t.k = 41 ∨ t.k = 44 ∨ t.k = 45) ∧ t.s.data.toList = [UInt8.ofNat t.k])

theorem data_size (s : ByteArray) : s.data.toList.length = s.size := by simp

theorem num_head {n : Num} (ok : n.Ok) : ∃ c r, n.l = c :: r ∧ (c.toNat = 46 ∨ (48 ≤ c.toNat ∧ c.toNat ≤ 57)) := by
  have hm := ok.m
  have hd := ok.dg
  unfold Num.l
  cases hl : n.m with
  | nil => rw [hl] at hd; cases hd
  | cons c r =>
    rw [hl] at hm
    refine ⟨c, r ++ n.xs, rfl, ?_⟩
    rcases okM_cons hm with ⟨h, _⟩ | ⟨_, h, _⟩
    · exact Or.inl h
    · right; simpa [isDg] using h

/-- The head of a token's bytes. -/
theorem Tg.head {t : Tok} (h : Tg t) : ∃ c r, t.s.data.toList = c :: r ∧ ((t.k = 49 ∧ (c.toNat = 46 ∨ (48 ≤ c.toNat ∧ c.toNat ≤ 57))) ∨ (t.k = 97 ∧ isL c.toNat = true) ∨ ((t.k = 40 ∨ t.k = 41 ∨ t.k = 44 ∨ t.k = 45) ∧ c = UInt8.ofNat t.k ∧ r = [])) := by
  rcases h.cls with ⟨hk, n, ok, hn⟩ | ⟨hk, hne, hl⟩ | ⟨hk, hs⟩
  · obtain ⟨c, r, hc, hh⟩ := num_head ok
    exact ⟨c, r, hn.trans hc, Or.inl ⟨hk, hh⟩⟩
  · cases hs : t.s.data.toList with
    | nil => exact absurd hs hne
    | cons c r => exact ⟨c, r, rfl, Or.inr (Or.inl ⟨hk, hl c (by rw [hs]; simp)⟩)⟩
  · exact ⟨_, [], hs, Or.inr (Or.inr ⟨hk, rfl, rfl⟩)⟩

theorem Tg.ne {t : Tok} (h : Tg t) : (!t.s.toList.isEmpty) = true := by
  obtain ⟨c, r, hc, _⟩ := h.head
  rw [Lib.toList_data, hc]; rfl

/-- Which token it is, by its bytes. -/
theorem Tg.sign {t : Tok} (h : Tg t) {x : Nat} (hx : x = 40 ∨ x = 41 ∨ x = 44 ∨ x = 45) (hk : t.k = x) : t.s.toList = [UInt8.ofNat x] := by
  rcases h.cls with ⟨hk', _⟩ | ⟨hk', _⟩ | ⟨_, hs⟩
  · omega
  · omega
  · rw [Lib.toList_data, hs, hk]
theorem ofNat_toNat {x : Nat} (hx : x < 256) : (UInt8.ofNat x).toNat = x := by simp [UInt8.toNat_ofNat]; omega
theorem Tg.nsign {t : Tok} (h : Tg t) {x : Nat} (hx : x = 40 ∨ x = 41 ∨ x = 44 ∨ x = 45) (hk : t.k ≠ x) : (t.s.toList == [UInt8.ofNat x]) = false := by
  obtain ⟨c, r, hc, hh⟩ := h.head
  rw [Lib.toList_data, hc]
  have hx1 := ofNat_toNat (x := x) (by omega)
  by_cases he : c = UInt8.ofNat x
  · subst he
    rw [hx1] at hh
    rcases hh with ⟨_, hh⟩ | ⟨_, hh⟩ | ⟨hk', hh, _⟩
    · omega
    · simp only [isL, Bool.or_eq_true, Bool.and_eq_true, decide_eq_true_eq] at hh; omega
    · have hk1 := ofNat_toNat (x := t.k) (by omega)
      rw [← hh, hx1] at hk1
      omega
  · have : (c == UInt8.ofNat x) = false := by simpa using he
    simp [List.cons_beq_cons, this]

theorem isE_iff {t : Tok} (h : Tg t) : isE t = true ↔ t.s.toList = [69, 77, 80, 84, 89] := by
  rw [Lib.toList_data]
  constructor
  · intro hE
    simp only [isE, Bool.and_eq_true, beq_iff_eq] at hE
    exact hE.2
  · intro hs
    obtain ⟨c, r, hc, hh⟩ := h.head
    rw [hs] at hc
    injection hc with h1 h2
    subst h1
    simp only [isE, Bool.and_eq_true, beq_iff_eq]
    refine ⟨?_, hs⟩
    rcases hh with ⟨_, hh⟩ | ⟨hk, _⟩ | ⟨_, _, hh⟩
    · have : (69 : UInt8).toNat = 69 := rfl
      omega
    · exact hk
    · rw [hh] at h2; cases h2
theorem nE_iff {t : Tok} (h : Tg t) (hE : isE t = false) : (t.s.toList == [69, 77, 80, 84, 89]) = false := by
  cases hb : (t.s.toList == [69, 77, 80, 84, 89]) with
  | false => rfl
  | true =>
    have := (isE_iff h).2 (by simpa using hb)
    rw [this] at hE; cases hE

theorem Tg.junk {t : Tok} (h : Tg t) (hk : t.k ≠ 49) : Junk t.s := by
  obtain ⟨c, r, hc, hh⟩ := h.head
  have hsz : t.s.size = r.length + 1 := by rw [← data_size, hc]; rfl
  have h0 : 0 < t.s.size := by omega
  have hg : t.s[0] = c := by
    have : t.s.data.toList[0]'(by rw [hc]; simp) = c := by simp [hc]
    exact this
  rcases hh with ⟨hk', _⟩ | ⟨_, hh⟩ | ⟨hk', hh, hr⟩
  · omega
  · refine Or.inr (Or.inr ⟨h0, ?_⟩)
    rw [hg]
    simp only [isL, Bool.or_eq_true, Bool.and_eq_true, decide_eq_true_eq] at hh
    omega
  · have hc1 := ofNat_toNat (x := t.k) (by omega)
    rw [← hh] at hc1
    by_cases h45 : t.k = 45
    · refine Or.inr (Or.inl ⟨h0, by rw [hg, hc1, h45], ?_⟩)
      rw [hsz, hr]; rfl
    · refine Or.inr (Or.inr ⟨h0, ?_⟩)
      rw [hg, hc1]
      omega

/-- ParseFloat at any token. -/
theorem pf_tok {P : GP} {w : World} {B : Nat} (hV : Nu P w B) {t : Tok} (h : Tg t) :
    Calls Tryz.prog 73 #[.string t.s, .int .i64 64] w fun e w' => PfR t.s (val P t false) e w' ∧ Keep (fun _ => False) w w' := by
  by_cases hk : t.k = 49
  · have hn : IsNum t := by
      rcases h.cls with ⟨_, hn⟩ | ⟨hk', _⟩ | ⟨hk', _⟩
      · exact hn
      · omega
      · omega
    exact pf_num hV hk hn false t.s (by simp) h.sz
  · have hv : val P t false = none := by
      cases hv : val P t false with
      | none => rfl
      | some x => exact absurd (val_kind P _ _ _ hv) hk
    rw [hv]
    exact pf_junk hV t.s (h.junk hk) h.sz

end Go.Proofs.YtlckfiflfkbofaaGreatDoor

/- nextSignedNumericLiteral. -/
namespace Go.Proofs.YtlckfiflfkbofaaGreatDoor
open Go.RowKit

/-- The parser's world: the scanner's tables, the end's error, the numbers' tables. -/
structure Ev (P : GP) (w : World) (B : Nat) (t : ByteArray) : Prop where
  en : En w B t
  eof : EofV w
  nu : Nu P w B
theorem Ev.keep {P : GP} {w w' : World} {B : Nat} {t : ByteArray} (h : Ev P w B t) (k : Keep (fun k => B ≤ k) w w') : Ev P w' B t := by
  obtain ⟨x, hx⟩ := h.eof
  exact ⟨h.en.keep k, ⟨x, k.cell hx (by have := h.en.hB; show ¬ B ≤ 1; omega)⟩, h.nu.keep k⟩
theorem Ev.fr {P : GP} {w w' : World} {B b r : Nat} {t : ByteArray} (h : Ev P w B t) (k : Fr B b r w w') : Ev P w' B t := h.keep k.keep

/-- A world's lexer, kept where nothing that was there turns. -/
theorem PS.below {w w' : World} {B b r : Nat} {t : ByteArray} {l : List Tok} (h : PS w B b r t l) (k : Below w.heap.size w w') : PS w' B b r t l := by
  rcases h with ⟨i, ⟨er, hL⟩, hR⟩ | ⟨i, k', l', he, ⟨er, hL⟩, hR, hne⟩
  · exact Or.inl ⟨i, ⟨er, hL.old k⟩, hR⟩
  · exact Or.inr ⟨i, k', l', he, ⟨er, hL.old k⟩, hR, hne⟩
theorem bel_drewN (w : World) (n : Nat) : Below w.heap.size w (w.drewN n) := ⟨rfl, rfl, rfl, Nat.le_refl _, fun _ _ => rfl⟩
theorem PS.BW {w : World} {B b r : Nat} {t : ByteArray} {l : List Tok} (h : PS w B b r t l) : B ≤ w.heap.size ∧ B ≤ b ∧ b < w.heap.size ∧ r < w.heap.size := by
  rcases h with ⟨i, ⟨er, hL⟩, hR⟩ | ⟨i, k', l', he, ⟨er, hL⟩, hR, hne⟩ <;> exact ⟨hL.BW, hL.Bb, hL.lt.1, hL.lt.2⟩
theorem PS.keepF {w w' : World} {B b r : Nat} {t : ByteArray} {l : List Tok} (h : PS w B b r t l) (k : Keep (fun _ => False) w w') : PS w' B b r t l ∧ Fr B b r w w' := ⟨h.below k.below, Fr.of_below k.below h.BW.1⟩

theorem ne_method (w : World) (p : Value) : (method 379 168 p "Error").run Tryz.prog w = .ok (194, p) w := by kernel_rfl

/-- Error of a number's error. -/
theorem ne_calls {P : GP} {w : World} {B : Nat} (hV : Nu P w B) {s : ByteArray} (hs : Pr s) (hz : s.size ≤ 3000) {v : Value} (h : NumE w s v) :
    ∃ N, v = .iface 168 (.pointer (some ⟨N, 0, none⟩)) ∧ ∃ txt, Calls Tryz.prog 194 #[.pointer (some ⟨N, 0, none⟩)] w fun e w' => e = .returned (.string txt) ∧ Below w.heap.size w w' := by
  obtain ⟨N, ev, rfl, hN, hev⟩ := h
  refine ⟨N, rfl, ?_⟩
  have c0 : w.cell? ⟨N, 0, none⟩ = some (.string fnPF) := by simp [World.cell?, hN]
  have c1 : w.cell? ⟨N, 0 + 1, none⟩ = some (.string s) := by simp [World.cell?, hN]
  have c2 : w.cell? ⟨N, 0 + 2, none⟩ = some ev := by simp [World.cell?, hN]
  have key : ∀ (q : Addr) (x : ByteArray), ev = eN q → w.cell? q = some (.string x) → x.size ≤ 100 → ∃ txt, Calls Tryz.prog 194 #[.pointer (some ⟨N, 0, none⟩)] w fun e w' => e = .returned (.string txt) ∧ Below w.heap.size w w' := by
    intro q x he hx hxs
    subst he
    refine ⟨_, Tryz.NumError_Error N 0 fnPF s (strOfNums (quoted s)) x 209 (.pointer (some q)) 208 (.pointer (some q)) w c0 c1 c2 ?_ ?_ ?_ ?_ ?_⟩
    · rw [quoted_size]; have : fnPF.size = 10 := rfl; omega
    · intro W _; exact quote_calls s W hs hz
    · intro W; exact es_method W _
    · intro args W; exact enters_of Tryz.func208 (by kernel_rfl) rfl args W
    · intro W hW
      exact es_error q W x ((Keep.of_below (S := fun _ => False) hW).cell hx (fun h => h))
  rcases hev with hev | hev
  · rw [hV.c6] at hev
    injection hev with hev
    exact key P.q6 P.x6 hev.symm hV.d6 P.hx6
  · rw [hV.c7] at hev
    injection hev with hev
    exact key P.q7 P.x7 hev.symm hV.d7 P.hx7

/-- The answer of the number's reading. -/
def NumR (P : GP) (B b r : Nat) (t : ByteArray) (o : Option (Nat × List Tok)) (en : Ending) (w' : World) : Prop :=
  match o with
  | some (x, l) => en = .returned (.tuple #[.float .f64 x, .nilIface]) ∧ PS w' B b r t l
  | none => ∃ v, en = .returned (.tuple #[.float .f64 0, .iface 138 v])

section
variable {P : GP} {w : World} {B b r : Nat} {t : ByteArray} {k u : Tok} {l : List Tok}

set_option maxRecDepth 100000 in
theorem sg_nil (hV : Ev P w B t) (h : PS w B b r t []) :
    Calls Tryz.prog 71 #[.pointer (some ⟨b, 0, none⟩)] w fun en w' => NumR P B b r t none en w' ∧ Fr B b r w w' := by
  have hn := next_nil hV.en hV.eof h
  go_enter Tryz.func71, Tryz.ntmps71
  go_wp2_with (go_at_call 61; refine hn.mono ?_; rintro en w2 ⟨⟨v, rfl⟩, hF⟩)
  go_ret2
  exact ⟨⟨_, rfl⟩, hF⟩

set_option maxRecDepth 100000 in
theorem sg_minus_nil (hV : Ev P w B t) (h : PS w B b r t [k]) (hk : k.s.toList = [45]) :
    Calls Tryz.prog 71 #[.pointer (some ⟨b, 0, none⟩)] w fun en w' => NumR P B b r t none en w' ∧ Fr B b r w w' := by
  have hn := next_cons hV.en h
  have hn2 : ∀ w2, PS w2 B b r t [] → Fr B b r w w2 → _ := fun w2 h2 hF => next_nil (hV.fr hF).en (hV.fr hF).eof h2
  go_enter Tryz.func71, Tryz.ntmps71
  go_wp2_with (first | (go_at_call 61; refine hn.mono ?_; rintro en w2 ⟨rfl, hP, hF⟩; clear hn; have hn := hn2 _ hP hF) | (go_at_call 61; refine hn.mono ?_; rintro en w3 ⟨⟨v, rfl⟩, hF2⟩))
  go_ret2
  exact ⟨⟨_, rfl⟩, hF.trans hF2⟩

set_option maxRecDepth 100000 in
theorem sg_ok (hV : Ev P w B t) (h : PS w B b r t (k :: l)) (hg : Tg k) (hk : k.k ≠ 45) {x : Nat} (hv : val P k false = some x) (hx : x < infN) :
    Calls Tryz.prog 71 #[.pointer (some ⟨b, 0, none⟩)] w fun en w' => NumR P B b r t (some (x, l)) en w' ∧ Fr B b r w w' := by
  have hn := next_cons hV.en h
  have h45 := hg.nsign (x := 45) (by omega) hk
  have h45' : (k.s.toList == [45]) = false := h45
  clear h45
  have hp : ∀ w2, PS w2 B b r t l → Fr B b r w w2 → Calls Tryz.prog 73 #[.string k.s, .int .i64 64] w2 fun e w3 => e = .returned (.tuple #[.float .f64 x, .nilIface]) ∧ Hid (PS w3 B b r t l ∧ Fr B b r w w3) := by
    intro w2 h2 hF
    have := pf_tok (hV.fr hF).nu hg
    rw [hv] at this
    refine this.mono ?_
    rintro e w3 ⟨h1, h3⟩
    have h4 := h2.keepF h3
    exact ⟨h1, Lib.hid ⟨h4.1, hF.trans h4.2⟩⟩
  have hnn : ∀ w, _ := fun w => isnan_calls x w false (not_nan hx)
  have hab : Go.bits .andNot .u64 (x : Int) 9223372036854775808 = (x : Int) := abs_pos (by unfold infN at hx; omega)
  have hni : ∀ w, _ := fun w => isinf_calls x x w false hab (order_max hx)
  clear hab
  go_enter Tryz.func71, Tryz.ntmps71
  go_wp2_with (first | (go_at_call 61; refine hn.mono ?_; rintro en w2 ⟨rfl, hP, hF⟩) | (go_at_call 73; refine (hp _ hP hF).mono ?_; rintro en w3 ⟨rfl, hP3⟩) | (go_at_call 88; refine (hnn _).mono ?_; rintro en w4 ⟨rfl, nq, rfl⟩) | (go_at_call 89; refine (hni _).mono ?_; rintro en w5 ⟨rfl, rfl⟩))
  go_ret2
  have hP4 := hP3.out
  exact ⟨⟨rfl, hP4.1.below (bel_drewN _ nq)⟩, hP4.2.drewN nq⟩

set_option maxRecDepth 100000 in
theorem sg_minus_ok (hV : Ev P w B t) (h : PS w B b r t (k :: u :: l)) (hk : k.s.toList = [45]) (hg : Tg u) {x : Nat} (hv : val P u false = some x) (hx : x < infN) :
    Calls Tryz.prog 71 #[.pointer (some ⟨b, 0, none⟩)] w fun en w' => NumR P B b r t (some (sgN true x, l)) en w' ∧ Fr B b r w w' := by
  have hn := next_cons hV.en h
  have hn2 : ∀ w2, PS w2 B b r t (u :: l) → Fr B b r w w2 → _ := fun w2 h2 hF => next_cons (hV.fr hF).en h2
  have hmu := fun w => run_float_arith (P := Tryz.prog) w .mul 65 .f64 x 13830554455654793216 (sgN true x) (by rw [show sgN true x = Fl.flip x by unfold infN at hx; unfold sgN Fl.flip; rw [if_pos (show x < 2 ^ 63 by omega)]; rfl]; exact Fl.mul_m1 (by unfold infN at hx; omega) (by unfold infN at hx; unfold Fl.fin; rw [Nat.mod_eq_of_lt (by omega)]; omega))
  have hp : ∀ w2, PS w2 B b r t l → Fr B b r w w2 → Calls Tryz.prog 73 #[.string u.s, .int .i64 64] w2 fun e w3 => e = .returned (.tuple #[.float .f64 x, .nilIface]) ∧ Hid (PS w3 B b r t l ∧ Fr B b r w w3) := by
    intro w2 h2 hF
    have := pf_tok (hV.fr hF).nu hg
    rw [hv] at this
    refine this.mono ?_
    rintro e w3 ⟨h1, h3⟩
    have h4 := h2.keepF h3
    exact ⟨h1, Lib.hid ⟨h4.1, hF.trans h4.2⟩⟩
  have hnn : ∀ w, _ := fun w => isnan_calls x w false (not_nan hx)
  have hab : Go.bits .andNot .u64 (x : Int) 9223372036854775808 = (x : Int) := abs_pos (by unfold infN at hx; omega)
  have hni : ∀ w, _ := fun w => isinf_calls x x w false hab (order_max hx)
  clear hab
  go_enter Tryz.func71, Tryz.ntmps71
  go_wp2_with (first | (go_at_call 61; refine hn.mono ?_; rintro en w2 ⟨rfl, hP, hF⟩; clear hn; have hn := hn2 _ hP hF; clear hP) | (go_at_call 61; refine hn.mono ?_; rintro en w2b ⟨rfl, hP, hF2⟩) | (go_at_call 73; refine (hp _ hP (hF.trans hF2)).mono ?_; rintro en w3 ⟨rfl, hP3⟩) | (go_at_call 88; refine (hnn _).mono ?_; rintro en w4 ⟨rfl, nq, rfl⟩) | (go_at_call 89; refine (hni _).mono ?_; rintro en w5 ⟨rfl, rfl⟩))
  go_ret2
  have hP4 := hP3.out
  exact ⟨⟨rfl, hP4.1.below (bel_drewN _ nq)⟩, hP4.2.drewN nq⟩

set_option maxRecDepth 100000 in
theorem sg_bad (hV : Ev P w B t) (h : PS w B b r t (k :: l)) (hg : Tg k) (hk : k.k ≠ 45) (hv : val P k false = none) :
    Calls Tryz.prog 71 #[.pointer (some ⟨b, 0, none⟩)] w fun en w' => NumR P B b r t none en w' ∧ Fr B b r w w' := by
  have hn := next_cons hV.en h
  have h45 := hg.nsign (x := 45) (by omega) hk
  have h45' : (k.s.toList == [45]) = false := h45
  clear h45
  have hp : ∀ w2, PS w2 B b r t l → Fr B b r w w2 → Calls Tryz.prog 73 #[.string k.s, .int .i64 64] w2 fun e w3 => JunkV k.s e w3 ∧ Hid (Nu P w3 B ∧ B ≤ w3.heap.size ∧ Fr B b r w w3) := by
    intro w2 h2 hF
    have := pf_tok (hV.fr hF).nu hg
    rw [hv] at this
    refine this.mono ?_
    rintro e w3 ⟨h1, h3⟩
    have h4 := h2.keepF h3
    exact ⟨h1, Lib.hid ⟨(hV.fr hF).nu.keepF h3, h4.1.BW.1, hF.trans h4.2⟩⟩
  have hne := fun {w3 : World} (hN : Nu P w3 B) {v : Value} (hv : NumE w3 k.s v) => ne_calls hN hg.pr hg.sz hv
  have hnn : ∀ x b w, _ → _ := fun x b w => isnan_calls x w b
  have hni : ∀ x y b w, _ → _ → _ := fun x y b w => isinf_calls x y w b
  have hme := ne_method
  clear hv
  go_enter Tryz.func71, Tryz.ntmps71
  go_wp2_with (first | (go_at_call 61; refine hn.mono ?_; rintro en w2 ⟨rfl, hP, hF⟩) | (go_at_call 73; refine (hp _ hP hF).mono ?_; rintro en w3 ⟨(⟨x, hO, rfl⟩ | ⟨x, v, rfl, hJ⟩), hP3⟩; rcases odd_told hO with hO1 | ⟨hO1, y, hO2, hO3⟩; rotate_left 2; obtain ⟨N, rfl, txt, hc⟩ := hne hP3.out.1 hJ; clear hJ) | (go_at_call 88; refine (hnn _ _ _ hO1).mono ?_; rintro en w4 ⟨rfl, nq, rfl⟩) | (go_at_call 89; refine (hni _ _ _ _ hO2 hO3).mono ?_; rintro en w5 ⟨rfl, rfl⟩))
  · refine hc.mono ?_
    rintro e w6 ⟨rfl, hb6⟩
    go_wp2_with (fail)
    go_ret2
    exact ⟨⟨_, rfl⟩, hP3.out.2.2.trans (Fr.of_below hb6 hP3.out.2.1)⟩
  · go_ret2
    exact ⟨⟨_, rfl⟩, hP3.out.2.2.drewN nq⟩
  · go_ret2
    exact ⟨⟨_, rfl⟩, hP3.out.2.2.drewN nq⟩

set_option maxRecDepth 100000 in
theorem sg_minus_bad (hV : Ev P w B t) (h : PS w B b r t (k :: u :: l)) (hk : k.s.toList = [45]) (hg : Tg u) (hv : val P u false = none) :
    Calls Tryz.prog 71 #[.pointer (some ⟨b, 0, none⟩)] w fun en w' => NumR P B b r t none en w' ∧ Fr B b r w w' := by
  have hn := next_cons hV.en h
  have hn2 : ∀ w2, PS w2 B b r t (u :: l) → Fr B b r w w2 → _ := fun w2 h2 hF => next_cons (hV.fr hF).en h2
  have hp : ∀ w2, PS w2 B b r t l → Fr B b r w w2 → Calls Tryz.prog 73 #[.string u.s, .int .i64 64] w2 fun e w3 => JunkV u.s e w3 ∧ Hid (Nu P w3 B ∧ B ≤ w3.heap.size ∧ Fr B b r w w3) := by
    intro w2 h2 hF
    have := pf_tok (hV.fr hF).nu hg
    rw [hv] at this
    refine this.mono ?_
    rintro e w3 ⟨h1, h3⟩
    have h4 := h2.keepF h3
    exact ⟨h1, Lib.hid ⟨(hV.fr hF).nu.keepF h3, h4.1.BW.1, hF.trans h4.2⟩⟩
  have hne := fun {w3 : World} (hN : Nu P w3 B) {v : Value} (hv : NumE w3 u.s v) => ne_calls hN hg.pr hg.sz hv
  have hnn : ∀ x b w, _ → _ := fun x b w => isnan_calls x w b
  have hni : ∀ x y b w, _ → _ → _ := fun x y b w => isinf_calls x y w b
  have hme := ne_method
  clear hv
  go_enter Tryz.func71, Tryz.ntmps71
  go_wp2_with (first | (go_at_call 61; refine hn.mono ?_; rintro en w2 ⟨rfl, hP, hF⟩; clear hn; have hn := hn2 _ hP hF; clear hP) | (go_at_call 61; refine hn.mono ?_; rintro en w2b ⟨rfl, hP, hF2⟩) | (go_at_call 73; refine (hp _ hP (hF.trans hF2)).mono ?_; rintro en w3 ⟨(⟨x, hO, rfl⟩ | ⟨x, v, rfl, hJ⟩), hP3⟩; rcases odd_told hO with hO1 | ⟨hO1, y, hO2, hO3⟩; rotate_left 2; obtain ⟨N, rfl, txt, hc⟩ := hne hP3.out.1 hJ; clear hJ) | (go_at_call 88; refine (hnn _ _ _ hO1).mono ?_; rintro en w4 ⟨rfl, nq, rfl⟩) | (go_at_call 89; refine (hni _ _ _ _ hO2 hO3).mono ?_; rintro en w5 ⟨rfl, rfl⟩))
  · refine hc.mono ?_
    rintro e w6 ⟨rfl, hb6⟩
    go_wp2_with (fail)
    go_ret2
    exact ⟨⟨_, rfl⟩, hP3.out.2.2.trans (Fr.of_below hb6 hP3.out.2.1)⟩
  · go_ret2
    exact ⟨⟨_, rfl⟩, hP3.out.2.2.drewN nq⟩
  · go_ret2
    exact ⟨⟨_, rfl⟩, hP3.out.2.2.drewN nq⟩

/-- The number's reading is the plain reading. -/
theorem sg_calls (hV : Ev P w B t) (h : PS w B b r t l) (hg : ∀ k ∈ l, Tg k) :
    Calls Tryz.prog 71 #[.pointer (some ⟨b, 0, none⟩)] w fun en w' => NumR P B b r t (pNum (val P) l) en w' ∧ Fr B b r w w' := by
  cases l with
  | nil => exact sg_nil hV h
  | cons k l =>
    have hk := hg k (by simp)
    by_cases h45 : k.k = 45
    · have hs : k.s.toList = [45] := hk.sign (x := 45) (by omega) h45
      cases l with
      | nil => simp only [pNum, h45, if_true]; exact sg_minus_nil hV h hs
      | cons u l =>
        have hu := hg u (by simp)
        simp only [pNum, h45, if_true]
        rcases val_sgn P u with hv | ⟨B', hB', hv⟩
        · rw [hv true]; exact sg_minus_bad hV h hs hu (hv false)
        · rw [hv true]; exact sg_minus_ok hV h hs hu (hv false) hB'
    · simp only [pNum, if_neg h45]
      rcases val_sgn P k with hv | ⟨B', hB', hv⟩
      · rw [hv false]; exact sg_bad hV h hk h45 (hv false)
      · rw [hv false]; exact sg_ok hV h hk h45 (hv false) hB'

end
end Go.Proofs.YtlckfiflfkbofaaGreatDoor

/- nextPoint. -/
namespace Go.Proofs.YtlckfiflfkbofaaGreatDoor
open Go.RowKit

/-! ### What leaves the lexer as it is -/
/-- Blocks b and r and all rows of bytes are as they were. -/
structure Oth (b r : Nat) (w w' : World) : Prop where
  size : w.heap.size ≤ w'.heap.size
  blk : ∀ k o, w.heap[k]? = some o → (k = b ∨ k = r ∨ ∃ c fz, o = .cells c 5 fz) → w'.heap[k]? = some o
theorem Oth.refl (b r : Nat) (w : World) : Oth b r w w := ⟨Nat.le_refl _, fun _ _ h _ => h⟩
theorem Oth.trans {b r : Nat} {w w' w'' : World} (h : Oth b r w w') (k : Oth b r w' w'') : Oth b r w w'' :=
  ⟨Nat.le_trans h.size k.size, fun i o hi ho => k.blk i o (h.blk i o hi ho) ho⟩
theorem Oth.of_below {b r : Nat} {w w' : World} (k : Below w.heap.size w w') : Oth b r w w' := ⟨k.size, fun i o hi _ => (k.block i (Array.getElem?_eq_some_iff.1 hi).1).trans hi⟩
theorem Oth.alloc {b r : Nat} {w w' : World} (h : Oth b r w w') (o : Obj) : Oth b r w (w'.alloc o) :=
  h.trans (Oth.of_below ((Below.refl _ w').alloc (Nat.le_refl _) o))
theorem Oth.drewN {b r : Nat} {w w' : World} (h : Oth b r w w') (n : Nat) : Oth b r w (w'.drewN n) := ⟨h.size, h.blk⟩
theorem Oth.setCell {b r : Nat} {w w' : World} (h : Oth b r w w') {p : Addr} {c : Array Value} {ty : TypeId} {fz : Nat × Nat} (hp : w'.heap[p.block]? = some (.cells c ty fz)) (h5 : ty ≠ 5) (hb : p.block ≠ b) (hr : p.block ≠ r) (v : Value) : Oth b r w (w'.setCell p v) := by
  refine h.trans ⟨by simp [World.setCell], fun k o hk ho => ?_⟩
  rw [Below.heap_setCell]
  · exact hk
  · intro e
    subst e
    rcases ho with ho | ho | ⟨c', fz', ho⟩
    · exact hb ho
    · exact hr ho
    · rw [hp] at hk
      injection hk with hk
      rw [← hk] at ho
      injection ho with _ h2 _
      exact h5 h2

section
variable {w w' : World} {B b r : Nat} {t : ByteArray} {g : Gs} {s : SS} {i : Nat} {er : Value} {pk : ByteArray} {l : List Tok}
theorem Sc.othr (h : Sc w B b t s) (k : Oth b s.r w w') : Sc w' B b t s := by
  refine ⟨?_, k.blk _ _ h.rdr (Or.inr (Or.inl rfl)), h.rB, Nat.le_trans h.BW k.size⟩
  obtain ⟨hB, v, lr, ⟨cs, hbk, hr⟩, hown, hne⟩ := h.buf
  refine ⟨hB, v, lr, ⟨cs, k.blk _ _ hbk (Or.inl rfl), hr⟩, ⟨hown.1, ?_⟩, hne⟩
  rcases hown.2 with hn | ⟨gg, cap, cur, hv, hbg, hg, rest⟩
  · exact .inl hn
  · exact .inr ⟨gg, cap, cur, hv, hbg, k.blk _ _ hg (Or.inr (Or.inr ⟨_, _, rfl⟩)), rest⟩
theorem Sx.othr (h : Sx w B b r t g s) (k : Oth b r w w') : Sx w' B b r t g s := ⟨h.sc.othr (by rw [h.r]; exact k), h.ok, h.tk, h.P, h.lc, h.te, h.ch, h.er, h.pk, h.r⟩
theorem At0.othr (h : At0 w B b r t i er pk) (k : Oth b r w w') : At0 w' B b r t i er pk := by
  rcases h with ⟨h0, s, hs⟩ | ⟨tk, te, s, hs⟩
  · exact Or.inl ⟨h0, _, hs.othr k⟩
  · exact Or.inr ⟨tk, te, _, hs.othr k⟩
theorem PS.othr (h : PS w B b r t l) (k : Oth b r w w') : PS w' B b r t l := by
  rcases h with ⟨i, ⟨er, hL⟩, hR⟩ | ⟨i, k', l', he, ⟨er, hL⟩, hR, hne⟩
  · exact Or.inl ⟨i, ⟨er, hL.othr k⟩, hR⟩
  · exact Or.inr ⟨i, k', l', he, ⟨er, hL.othr k⟩, hR, hne⟩
end

/-- A store into a block that was made since. -/
theorem Fr.setNew {B b r : Nat} {w0 w : World} (h : Fr B b r w0 w) {p : Addr} (hp : w0.heap.size ≤ p.block) (hB : B ≤ w0.heap.size) (v : Value) : Fr B b r w0 (w.setCell p v) := by
  refine ⟨h.bel.setCell (Nat.le_trans hB hp) v, fun k o hk hb hr ho => ?_⟩
  have hlt := (Array.getElem?_eq_some_iff.1 hk).1
  rw [Below.heap_setCell _ _ _ _ (by omega)]
  exact h.oth k o hk hb hr ho
theorem Fr.alloc {B b r : Nat} {w0 w : World} (h : Fr B b r w0 w) (hB : B ≤ w0.heap.size) (o : Obj) : Fr B b r w0 (w.alloc o) := by
  refine ⟨h.bel.alloc (Nat.le_trans hB h.bel.size) o, fun k o' hk hb hr ho => ?_⟩
  have := h.oth k o' hk hb hr ho
  rw [Below.heap_alloc _ _ _ (Array.getElem?_eq_some_iff.1 this).1]
  exact this

theorem results_two {fn : Func} {p u : Tmp} {ty : TypeId} (h : fn.results = #[.cell p ty, .tmp u]) (tmps : Array Value) (w : World) (g : Nat) (t : TypeId) (cs : Array Value) (fr : Nat × Nat) (fs : Array Field)
    (hp : tmps.getD p undef = .pointer (some ⟨g, 0, none⟩)) (hg : w.heap[g]? = some (.cells cs t fr)) (hu : Tryz.prog.underlying ty = some (.struct fs)) (hi : (Tryz.prog.info? ty).map (·.size) = some cs.size) :
    (results fn tmps).run Tryz.prog w = .ok (.tuple #[.agg cs, tmps.getD u undef]) w := by
  have hp' : tmps[p]?.getD undef = .pointer (some ⟨g, 0, none⟩) := by simpa using hp
  simp [results, h, hp', asAddr, run_loadVar_row w g t ty cs fr _ hg hu rfl hi]
theorem results_three {fn : Func} {p u u2 : Tmp} {ty : TypeId} (h : fn.results = #[.cell p ty, .tmp u, .tmp u2]) (tmps : Array Value) (w : World) (g : Nat) (t : TypeId) (cs : Array Value) (fr : Nat × Nat) (fs : Array Field)
    (hp : tmps.getD p undef = .pointer (some ⟨g, 0, none⟩)) (hg : w.heap[g]? = some (.cells cs t fr)) (hu : Tryz.prog.underlying ty = some (.struct fs)) (hi : (Tryz.prog.info? ty).map (·.size) = some cs.size) :
    (results fn tmps).run Tryz.prog w = .ok (.tuple #[.agg cs, tmps.getD u undef, tmps.getD u2 undef]) w := by
  have hp' : tmps[p]?.getD undef = .pointer (some ⟨g, 0, none⟩) := by simpa using hp
  simp [results, h, hp', asAddr, run_loadVar_row w g t ty cs fr _ hg hu rfl hi]
theorem info69 : (Tryz.prog.info? 69).map (·.size) = some 5 := by kernel_rfl

theorem run_store_flt (x : Nat) (a : Addr) (m : Mode) (w : World) : (store a (.float .f64 x) m).run Tryz.prog w = stored Tryz.prog w a (.float .f64 x) m := run_store Tryz.prog w a _ m rfl

/-! ### A point's coordinates in a block -/
def crdA (x y z m : Nat) (ct : Int) : Array Value := #[.float .f64 x, .float .f64 y, .float .f64 z, .float .f64 m, .int .u8 ct]
def crdV (x y z m : Nat) (ct : Int) : Value := .agg #[.float .f64 x, .float .f64 y, .float .f64 z, .float .f64 m, .int .u8 ct]

structure Npb (B b r : Nat) (w0 w : World) (x y z m : Nat) (ct : Int) : Prop where
  fr : Fr B b r w0 w
  bw : B ≤ w0.heap.size
  bl : b < w0.heap.size
  rl : r < w0.heap.size
  blk : w.heap[w0.heap.size + 1]? = some (.cells (crdA x y z m ct) 69 (0, 0))
  res : w.heap[w0.heap.size]? = some (.cells (crdA 0 0 0 0 0) 69 (0, 0))

section
variable {P : GP} {w0 w : World} {B b r : Nat} {t : ByteArray} {l : List Tok} {x y z m : Nat} {ct : Int}
theorem Npb.start (ct : Int) (hB : B ≤ w.heap.size) (hb : b < w.heap.size) (hr : r < w.heap.size) : Npb B b r w ((w.alloc (.cells (crdA 0 0 0 0 0) 69)).alloc (.cells (crdA 0 0 0 0 ct) 69)) 0 0 0 0 ct := by
  refine ⟨((Fr.refl B b r w).alloc hB _).alloc hB _, hB, hb, hr, ?_, ?_⟩
  · exact heap_alloc2_new w _ _
  · exact heap_alloc2_old w _ _
theorem Npb.cells (h : Npb B b r w0 w x y z m ct) : w.cell? ⟨w0.heap.size + 1, 0, none⟩ = some (.float .f64 x) ∧ w.cell? ⟨w0.heap.size + 1, 1, none⟩ = some (.float .f64 y) ∧ w.cell? ⟨w0.heap.size + 1, 2, none⟩ = some (.float .f64 z) ∧ w.cell? ⟨w0.heap.size + 1, 3, none⟩ = some (.float .f64 m) ∧ w.cell? ⟨w0.heap.size + 1, 4, none⟩ = some (.int .u8 ct) ∧ w.frozen? ⟨w0.heap.size + 1, 0, none⟩ = false ∧ w.frozen? ⟨w0.heap.size + 1, 1, none⟩ = false ∧ w.frozen? ⟨w0.heap.size + 1, 2, none⟩ = false ∧ w.frozen? ⟨w0.heap.size + 1, 3, none⟩ = false ∧ w.frozen? ⟨w0.heap.size + 1, 4, none⟩ = false := by
  refine ⟨?_, ?_, ?_, ?_, ?_, ?_, ?_, ?_, ?_, ?_⟩
  all_goals first | (simp only [World.cell?, h.blk]; rfl) | exact Lib.frozen_of_heap h.blk _
theorem Npb.rcells (h : Npb B b r w0 w x y z m ct) : w.cell? ⟨w0.heap.size, 0, none⟩ = some (.float .f64 0) ∧ w.cell? ⟨w0.heap.size, 1, none⟩ = some (.float .f64 0) ∧ w.cell? ⟨w0.heap.size, 2, none⟩ = some (.float .f64 0) ∧ w.cell? ⟨w0.heap.size, 3, none⟩ = some (.float .f64 0) ∧ w.cell? ⟨w0.heap.size, 4, none⟩ = some (.int .u8 0) ∧ w.frozen? ⟨w0.heap.size, 0, none⟩ = false ∧ w.frozen? ⟨w0.heap.size, 1, none⟩ = false ∧ w.frozen? ⟨w0.heap.size, 2, none⟩ = false ∧ w.frozen? ⟨w0.heap.size, 3, none⟩ = false ∧ w.frozen? ⟨w0.heap.size, 4, none⟩ = false := by
  refine ⟨?_, ?_, ?_, ?_, ?_, ?_, ?_, ?_, ?_, ?_⟩
  all_goals first | (simp only [World.cell?, h.res]; rfl) | exact Lib.frozen_of_heap h.res _
theorem Npb.step {w' : World} (h : Npb B b r w0 w x y z m ct) (k : Fr B b r w w') : Npb B b r w0 w' x y z m ct :=
  ⟨h.fr.trans k, h.bw, h.bl, h.rl, k.oth _ _ h.blk (by have := h.bl; omega) (by have := h.rl; omega) (by intro c fz e; cases e), k.oth _ _ h.res (by have := h.bl; omega) (by have := h.rl; omega) (by intro c fz e; cases e)⟩
theorem Npb.set (h : Npb B b r w0 w x y z m ct) (i : Nat) (v : Value) {x' y' z' m' : Nat} (hv : (crdA x y z m ct).setIfInBounds i v = crdA x' y' z' m' ct) : Npb B b r w0 (w.setCell ⟨w0.heap.size + 1, i, none⟩ v) x' y' z' m' ct := by
  refine ⟨h.fr.setNew (by show w0.heap.size ≤ w0.heap.size + 1; omega) h.bw v, h.bw, h.bl, h.rl, ?_, ?_⟩
  · rw [← hv]; exact Lib.heap_setCell_same h.blk v
  · rw [Below.heap_setCell _ _ _ _ (by show w0.heap.size ≠ w0.heap.size + 1; omega)]; exact h.res
theorem Npb.oth (h : Npb B b r w0 w x y z m ct) (i : Nat) (v : Value) : Oth b r w (w.setCell ⟨w0.heap.size + 1, i, none⟩ v) :=
  (Oth.refl b r w).setCell (p := ⟨w0.heap.size + 1, i, none⟩) h.blk (by decide) (by have := h.bl; show w0.heap.size + 1 ≠ b; omega) (by have := h.rl; show w0.heap.size + 1 ≠ r; omega) v
theorem Npb.oth0 (h : Npb B b r w0 w x y z m ct) (i : Nat) (v : Value) : Oth b r w (w.setCell ⟨w0.heap.size, i, none⟩ v) :=
  (Oth.refl b r w).setCell (p := ⟨w0.heap.size, i, none⟩) h.res (by decide) (by have := h.bl; show w0.heap.size ≠ b; omega) (by have := h.rl; show w0.heap.size ≠ r; omega) v

theorem isC_set {c : Nat} {ty : TypeId} (h : ∃ cs, w.heap[c]? = some (.cells cs ty (0, 0))) (i : Nat) (v : Value) : ∃ cs, (w.setCell ⟨c, i, none⟩ v).heap[c]? = some (.cells cs ty (0, 0)) := by
  obtain ⟨cs, h⟩ := h
  exact ⟨_, Lib.heap_setCell_same (i := i) h v⟩
/-- Five stores into one block that is none of the lexer's. -/
theorem set5 {c : Nat} {ty : TypeId} (h5 : ty ≠ 5) (hcb : c ≠ b) (hcr : c ≠ r) (hB : B ≤ w0.heap.size) (hw : w0.heap.size ≤ c) (hf : Fr B b r w0 w) (hc : ∃ cs, w.heap[c]? = some (.cells cs ty (0, 0))) (v0 v1 v2 v3 v4 : Value) :
    Fr B b r w0 (((((w.setCell ⟨c, 0, none⟩ v0).setCell ⟨c, 1, none⟩ v1).setCell ⟨c, 2, none⟩ v2).setCell ⟨c, 3, none⟩ v3).setCell ⟨c, 4, none⟩ v4) ∧
    Oth b r w (((((w.setCell ⟨c, 0, none⟩ v0).setCell ⟨c, 1, none⟩ v1).setCell ⟨c, 2, none⟩ v2).setCell ⟨c, 3, none⟩ v3).setCell ⟨c, 4, none⟩ v4) := by
  have st : ∀ (w' : World) (i : Nat) (v : Value), (Fr B b r w0 w' ∧ Oth b r w w' ∧ ∃ cs, w'.heap[c]? = some (.cells cs ty (0, 0))) → (Fr B b r w0 (w'.setCell ⟨c, i, none⟩ v) ∧ Oth b r w (w'.setCell ⟨c, i, none⟩ v) ∧ ∃ cs, (w'.setCell ⟨c, i, none⟩ v).heap[c]? = some (.cells cs ty (0, 0))) := by
    rintro w' i v ⟨h1, h2, h3⟩
    obtain ⟨cs, h4⟩ := h3
    exact ⟨h1.setNew hw hB v, h2.setCell (p := ⟨c, i, none⟩) h4 h5 hcb hcr v, isC_set ⟨cs, h4⟩ i v⟩
  have := st _ 4 v4 (st _ 3 v3 (st _ 2 v2 (st _ 1 v1 (st _ 0 v0 ⟨hf, Oth.refl b r w, hc⟩))))
  exact ⟨this.1, this.2.1⟩
theorem blk5 {c : Nat} {ty : TypeId} {a0 a1 a2 a3 a4 : Value} (hc : w.heap[c]? = some (.cells #[a0, a1, a2, a3, a4] ty (0, 0))) (v0 v1 v2 v3 v4 : Value) :
    (((((w.setCell ⟨c, 0, none⟩ v0).setCell ⟨c, 1, none⟩ v1).setCell ⟨c, 2, none⟩ v2).setCell ⟨c, 3, none⟩ v3).setCell ⟨c, 4, none⟩ v4).heap[c]? = some (.cells #[v0, v1, v2, v3, v4] ty (0, 0)) :=
  Lib.heap_setCell_same (i := 4) (Lib.heap_setCell_same (i := 3) (Lib.heap_setCell_same (i := 2) (Lib.heap_setCell_same (i := 1) (Lib.heap_setCell_same (i := 0) hc v0) v1) v2) v3) v4
theorem Npb.fin (h : Npb B b r w0 w x y z m ct) (v0 v1 v2 v3 v4 : Value) :
    Fr B b r w0 (((((w.setCell ⟨w0.heap.size, 0, none⟩ v0).setCell ⟨w0.heap.size, 1, none⟩ v1).setCell ⟨w0.heap.size, 2, none⟩ v2).setCell ⟨w0.heap.size, 3, none⟩ v3).setCell ⟨w0.heap.size, 4, none⟩ v4) ∧
    Oth b r w (((((w.setCell ⟨w0.heap.size, 0, none⟩ v0).setCell ⟨w0.heap.size, 1, none⟩ v1).setCell ⟨w0.heap.size, 2, none⟩ v2).setCell ⟨w0.heap.size, 3, none⟩ v3).setCell ⟨w0.heap.size, 4, none⟩ v4) :=
  set5 (by decide : (69 : TypeId) ≠ 5) (by have := h.bl; omega) (by have := h.rl; omega) h.bw (Nat.le_refl _) h.fr ⟨_, h.res⟩ v0 v1 v2 v3 v4

/-- A number is read while a point is being made. -/
structure Nq (P : GP) (B b r : Nat) (t : ByteArray) (w0 w : World) (x y z m : Nat) (ct : Int) (l : List Tok) : Prop where
  n : Npb B b r w0 w x y z m ct
  ev : Ev P w B t
  ps : PS w B b r t l
  tg : ∀ k ∈ l, Tg k

theorem Nq.ok (h : Nq P B b r t w0 w x y z m ct l) {v : Nat} {q : List Tok} (hv : pNum (val P) l = some (v, q)) :
    Calls Tryz.prog 71 #[.pointer (some ⟨b, 0, none⟩)] w fun en w' => en = .returned (.tuple #[.float .f64 v, .nilIface]) ∧ Nq P B b r t w0 w' x y z m ct q := by
  refine (sg_calls h.ev h.ps h.tg).mono ?_
  rintro en w' ⟨h1, h2⟩
  rw [hv] at h1
  refine ⟨h1.1, h.n.step h2, h.ev.fr h2, h1.2, fun k hk => h.tg k ?_⟩
  obtain ⟨c, rfl, _⟩ := pNum_eats (val_kind P) l v q hv
  simp [hk]
theorem Nq.no (h : Nq P B b r t w0 w x y z m ct l) (hv : pNum (val P) l = none) :
    Calls Tryz.prog 71 #[.pointer (some ⟨b, 0, none⟩)] w fun en w' => (∃ v, en = .returned (.tuple #[.float .f64 0, .iface 138 v])) ∧ Npb B b r w0 w' x y z m ct := by
  refine (sg_calls h.ev h.ps h.tg).mono ?_
  rintro en w' ⟨h1, h2⟩
  rw [hv] at h1
  exact ⟨h1, h.n.step h2⟩
theorem Nq.set (h : Nq P B b r t w0 w x y z m ct l) (i : Nat) (v : Value) {x' y' z' m' : Nat} (hv : (crdA x y z m ct).setIfInBounds i v = crdA x' y' z' m' ct) : Nq P B b r t w0 (w.setCell ⟨w0.heap.size + 1, i, none⟩ v) x' y' z' m' ct l :=
  ⟨h.n.set i v hv, h.ev.keep (Keep.setCell (Keep.refl _ _) (Or.inr (by show B ≤ w0.heap.size + 1; have := h.n.bw; omega)) v), h.ps.othr (h.n.oth i v), h.tg⟩
theorem Nq.start (ct : Int) (hV : Ev P w B t) (h : PS w B b r t l) (hg : ∀ k ∈ l, Tg k) : Nq P B b r t w ((w.alloc (.cells (crdA 0 0 0 0 0) 69)).alloc (.cells (crdA 0 0 0 0 ct) 69)) 0 0 0 0 ct l := by
  have hbw := h.BW
  refine ⟨Npb.start ct hbw.1 hbw.2.2.1 hbw.2.2.2, hV.keep (((Keep.refl _ w).alloc _).alloc _), h.othr (((Oth.refl b r w).alloc _).alloc _), hg⟩

/-- The end of the walk: the frame, and the lexer where it stands. -/
theorem Npb.end_fr (h : Npb B b r w0 w x y z m ct) : Fr B b r w0 w := h.fr
end

theorem is3_0 (w : World) : Calls Tryz.prog 52 #[.int .u8 0] w fun en w' => en = .returned (.bool false) ∧ w = w' := by
  go_enter Tryz.func52, Tryz.ntmps52
  go_wp2_with (fail)
  go_ret
  exact ⟨rfl, rfl⟩
theorem isM_0 (w : World) : Calls Tryz.prog 53 #[.int .u8 0] w fun en w' => en = .returned (.bool false) ∧ w = w' := by
  go_enter Tryz.func53, Tryz.ntmps53
  go_wp2_with (fail)
  go_ret
  exact ⟨rfl, rfl⟩
theorem is3_1 (w : World) : Calls Tryz.prog 52 #[.int .u8 1] w fun en w' => en = .returned (.bool true) ∧ w = w' := by
  go_enter Tryz.func52, Tryz.ntmps52
  go_wp2_with (fail)
  go_ret
  exact ⟨rfl, rfl⟩
theorem isM_1 (w : World) : Calls Tryz.prog 53 #[.int .u8 1] w fun en w' => en = .returned (.bool false) ∧ w = w' := by
  go_enter Tryz.func53, Tryz.ntmps53
  go_wp2_with (fail)
  go_ret
  exact ⟨rfl, rfl⟩
theorem is3_2 (w : World) : Calls Tryz.prog 52 #[.int .u8 2] w fun en w' => en = .returned (.bool false) ∧ w = w' := by
  go_enter Tryz.func52, Tryz.ntmps52
  go_wp2_with (fail)
  go_ret
  exact ⟨rfl, rfl⟩
theorem isM_2 (w : World) : Calls Tryz.prog 53 #[.int .u8 2] w fun en w' => en = .returned (.bool true) ∧ w = w' := by
  go_enter Tryz.func53, Tryz.ntmps53
  go_wp2_with (fail)
  go_ret
  exact ⟨rfl, rfl⟩
theorem is3_3 (w : World) : Calls Tryz.prog 52 #[.int .u8 3] w fun en w' => en = .returned (.bool true) ∧ w = w' := by
  go_enter Tryz.func52, Tryz.ntmps52
  go_wp2_with (fail)
  go_ret
  exact ⟨rfl, rfl⟩
theorem isM_3 (w : World) : Calls Tryz.prog 53 #[.int .u8 3] w fun en w' => en = .returned (.bool true) ∧ w = w' := by
  go_enter Tryz.func53, Tryz.ntmps53
  go_wp2_with (fail)
  go_ret
  exact ⟨rfl, rfl⟩

/-- What nextPoint answers. -/
def NptR (P : GP) (B b r : Nat) (t : ByteArray) (o : Option (Value × List Tok)) (w : World) (en : Ending) (w' : World) : Prop :=
  match o with
  | some (v, q) => en = Ending.returned (.tuple #[v, .nilIface]) ∧ PS w' B b r t q ∧ Fr B b r w w'
  | none => (∃ v, en = Ending.returned (.tuple #[crdV 0 0 0 0 0, .iface 138 v])) ∧ Fr B b r w w'

section
variable {P : GP} {w : World} {B b r : Nat} {t : ByteArray} {l l1 l2 l3 l4 : List Tok}
set_option maxRecDepth 100000 in
set_option maxHeartbeats 1600000 in
theorem npf1 (hV : Ev P w B t) (h : PS w B b r t l) (hg : ∀ k ∈ l, Tg k) (ct : Int) (h0 : pNum (val P) l = none) :
    Calls Tryz.prog 64 #[.pointer (some ⟨b, 0, none⟩), .int .u8 ct] w fun en w' => NptR P B b r t none w en w' := by
  have hS := Nq.start ct hV h hg
  have hn := hS.no h0
  clear hS
  have hst := run_store_flt
  go_enter Tryz.func64, Tryz.ntmps64
  go_wp2_with (first | (go_at_call 71; refine hn.mono ?_; clear hn; rintro en w1 ⟨⟨v, rfl⟩, hN⟩; obtain ⟨d0, d1, d2, d3, d4, d5, d6, d7, d8, d9⟩ := hN.cells; obtain ⟨r0, r1, r2, r3, r4, r5, r6, r7, r8, r9⟩ := hN.rcells; have hS := hN.set 0 (.float .f64 0) rfl; clear hN h0))
  (try simp only [Exit.inBlock, Exit.then]); refine bodyPost_ret (results_two rfl _ _ _ _ _ _ _ rfl (blk5 hS.res _ _ _ _ _) Tryz.underlying69 info69) rfl ?_
  exact ⟨⟨_, rfl⟩, (hS.fin _ _ _ _ _).1⟩

set_option maxRecDepth 100000 in
set_option maxHeartbeats 1600000 in
theorem npf2 (hV : Ev P w B t) (h : PS w B b r t l) (hg : ∀ k ∈ l, Tg k) (ct : Int) {x : Nat} (h0 : pNum (val P) l = some (x, l1)) (h1 : pNum (val P) l1 = none) :
    Calls Tryz.prog 64 #[.pointer (some ⟨b, 0, none⟩), .int .u8 ct] w fun en w' => NptR P B b r t none w en w' := by
  have hS := Nq.start ct hV h hg
  have hn := hS.ok h0
  clear hS
  have hst := run_store_flt
  go_enter Tryz.func64, Tryz.ntmps64
  go_wp2_with (first | (go_at_call 71; refine hn.mono ?_; clear hn; rintro en w1 ⟨rfl, hN⟩; obtain ⟨d0, d1, d2, d3, d4, d5, d6, d7, d8, d9⟩ := hN.n.cells; obtain ⟨r0, r1, r2, r3, r4, r5, r6, r7, r8, r9⟩ := hN.n.rcells; have hS := hN.set 0 (.float .f64 x) (x' := x) (y' := 0) (z' := 0) (m' := 0) rfl; have hn := hS.no h1; clear hS hN h0) | (go_at_call 71; refine hn.mono ?_; clear hn; rintro en w2 ⟨⟨v, rfl⟩, hN⟩; obtain ⟨d0, d1, d2, d3, d4, d5, d6, d7, d8, d9⟩ := hN.cells; obtain ⟨r0, r1, r2, r3, r4, r5, r6, r7, r8, r9⟩ := hN.rcells; have hS := hN.set 1 (.float .f64 0) rfl; clear hN h1))
  (try simp only [Exit.inBlock, Exit.then]); refine bodyPost_ret (results_two rfl _ _ _ _ _ _ _ rfl (blk5 hS.res _ _ _ _ _) Tryz.underlying69 info69) rfl ?_
  exact ⟨⟨_, rfl⟩, (hS.fin _ _ _ _ _).1⟩

set_option maxRecDepth 100000 in
set_option maxHeartbeats 1600000 in
theorem np0 (hV : Ev P w B t) (h : PS w B b r t l) (hg : ∀ k ∈ l, Tg k) {x : Nat} (h0 : pNum (val P) l = some (x, l1)) {y : Nat} (h1 : pNum (val P) l1 = some (y, l2)) :
    Calls Tryz.prog 64 #[.pointer (some ⟨b, 0, none⟩), .int .u8 0] w fun en w' => NptR P B b r t (some (crdV x y 0 0 0, l2)) w en w' := by
  have hS := Nq.start 0 hV h hg
  have hn := hS.ok h0
  clear hS
  have hst := run_store_flt
  go_enter Tryz.func64, Tryz.ntmps64
  go_wp2_with (first | (go_at_call 71; refine hn.mono ?_; clear hn; rintro en w1 ⟨rfl, hN⟩; obtain ⟨d0, d1, d2, d3, d4, d5, d6, d7, d8, d9⟩ := hN.n.cells; obtain ⟨r0, r1, r2, r3, r4, r5, r6, r7, r8, r9⟩ := hN.n.rcells; have hS := hN.set 0 (.float .f64 x) (x' := x) (y' := 0) (z' := 0) (m' := 0) rfl; have hn := hS.ok h1; clear hS hN h0) | (go_at_call 71; refine hn.mono ?_; clear hn; rintro en w2 ⟨rfl, hN⟩; obtain ⟨d0, d1, d2, d3, d4, d5, d6, d7, d8, d9⟩ := hN.n.cells; obtain ⟨r0, r1, r2, r3, r4, r5, r6, r7, r8, r9⟩ := hN.n.rcells; have hS := hN.set 1 (.float .f64 y) (x' := x) (y' := y) (z' := 0) (m' := 0) rfl; clear hN h1) | (go_at_call 52; refine (is3_0 _).mono ?_; rintro en w9 ⟨rfl, rfl⟩) | (go_at_call 53; refine (isM_0 _).mono ?_; rintro en w9 ⟨rfl, rfl⟩))
  (try simp only [Exit.inBlock, Exit.then]); refine bodyPost_ret (results_two rfl _ _ _ _ _ _ _ rfl (blk5 hS.n.res _ _ _ _ _) Tryz.underlying69 info69) rfl ?_
  exact ⟨rfl, hS.ps.othr (hS.n.fin _ _ _ _ _).2, (hS.n.fin _ _ _ _ _).1⟩

set_option maxRecDepth 100000 in
set_option maxHeartbeats 1600000 in
theorem np1f (hV : Ev P w B t) (h : PS w B b r t l) (hg : ∀ k ∈ l, Tg k) {x : Nat} (h0 : pNum (val P) l = some (x, l1)) {y : Nat} (h1 : pNum (val P) l1 = some (y, l2)) (h2 : pNum (val P) l2 = none) :
    Calls Tryz.prog 64 #[.pointer (some ⟨b, 0, none⟩), .int .u8 1] w fun en w' => NptR P B b r t none w en w' := by
  have hS := Nq.start 1 hV h hg
  have hn := hS.ok h0
  clear hS
  have hst := run_store_flt
  go_enter Tryz.func64, Tryz.ntmps64
  go_wp2_with (first | (go_at_call 71; refine hn.mono ?_; clear hn; rintro en w1 ⟨rfl, hN⟩; obtain ⟨d0, d1, d2, d3, d4, d5, d6, d7, d8, d9⟩ := hN.n.cells; obtain ⟨r0, r1, r2, r3, r4, r5, r6, r7, r8, r9⟩ := hN.n.rcells; have hS := hN.set 0 (.float .f64 x) (x' := x) (y' := 0) (z' := 0) (m' := 0) rfl; have hn := hS.ok h1; clear hS hN h0) | (go_at_call 71; refine hn.mono ?_; clear hn; rintro en w2 ⟨rfl, hN⟩; obtain ⟨d0, d1, d2, d3, d4, d5, d6, d7, d8, d9⟩ := hN.n.cells; obtain ⟨r0, r1, r2, r3, r4, r5, r6, r7, r8, r9⟩ := hN.n.rcells; have hS := hN.set 1 (.float .f64 y) (x' := x) (y' := y) (z' := 0) (m' := 0) rfl; have hn := hS.no h2; clear hS hN h1) | (go_at_call 71; refine hn.mono ?_; clear hn; rintro en w3 ⟨⟨v, rfl⟩, hN⟩; obtain ⟨d0, d1, d2, d3, d4, d5, d6, d7, d8, d9⟩ := hN.cells; obtain ⟨r0, r1, r2, r3, r4, r5, r6, r7, r8, r9⟩ := hN.rcells; have hS := hN.set 2 (.float .f64 0) rfl; clear hN h2) | (go_at_call 52; refine (is3_1 _).mono ?_; rintro en w9 ⟨rfl, rfl⟩) | (go_at_call 53; refine (isM_1 _).mono ?_; rintro en w9 ⟨rfl, rfl⟩))
  (try simp only [Exit.inBlock, Exit.then]); refine bodyPost_ret (results_two rfl _ _ _ _ _ _ _ rfl (blk5 hS.res _ _ _ _ _) Tryz.underlying69 info69) rfl ?_
  exact ⟨⟨_, rfl⟩, (hS.fin _ _ _ _ _).1⟩

set_option maxRecDepth 100000 in
set_option maxHeartbeats 1600000 in
theorem np1 (hV : Ev P w B t) (h : PS w B b r t l) (hg : ∀ k ∈ l, Tg k) {x : Nat} (h0 : pNum (val P) l = some (x, l1)) {y : Nat} (h1 : pNum (val P) l1 = some (y, l2)) {z : Nat} (h2 : pNum (val P) l2 = some (z, l3)) :
    Calls Tryz.prog 64 #[.pointer (some ⟨b, 0, none⟩), .int .u8 1] w fun en w' => NptR P B b r t (some (crdV x y z 0 1, l3)) w en w' := by
  have hS := Nq.start 1 hV h hg
  have hn := hS.ok h0
  clear hS
  have hst := run_store_flt
  go_enter Tryz.func64, Tryz.ntmps64
  go_wp2_with (first | (go_at_call 71; refine hn.mono ?_; clear hn; rintro en w1 ⟨rfl, hN⟩; obtain ⟨d0, d1, d2, d3, d4, d5, d6, d7, d8, d9⟩ := hN.n.cells; obtain ⟨r0, r1, r2, r3, r4, r5, r6, r7, r8, r9⟩ := hN.n.rcells; have hS := hN.set 0 (.float .f64 x) (x' := x) (y' := 0) (z' := 0) (m' := 0) rfl; have hn := hS.ok h1; clear hS hN h0) | (go_at_call 71; refine hn.mono ?_; clear hn; rintro en w2 ⟨rfl, hN⟩; obtain ⟨d0, d1, d2, d3, d4, d5, d6, d7, d8, d9⟩ := hN.n.cells; obtain ⟨r0, r1, r2, r3, r4, r5, r6, r7, r8, r9⟩ := hN.n.rcells; have hS := hN.set 1 (.float .f64 y) (x' := x) (y' := y) (z' := 0) (m' := 0) rfl; have hn := hS.ok h2; clear hS hN h1) | (go_at_call 71; refine hn.mono ?_; clear hn; rintro en w3 ⟨rfl, hN⟩; obtain ⟨d0, d1, d2, d3, d4, d5, d6, d7, d8, d9⟩ := hN.n.cells; obtain ⟨r0, r1, r2, r3, r4, r5, r6, r7, r8, r9⟩ := hN.n.rcells; have hS := hN.set 2 (.float .f64 z) (x' := x) (y' := y) (z' := z) (m' := 0) rfl; clear hN h2) | (go_at_call 52; refine (is3_1 _).mono ?_; rintro en w9 ⟨rfl, rfl⟩) | (go_at_call 53; refine (isM_1 _).mono ?_; rintro en w9 ⟨rfl, rfl⟩))
  (try simp only [Exit.inBlock, Exit.then]); refine bodyPost_ret (results_two rfl _ _ _ _ _ _ _ rfl (blk5 hS.n.res _ _ _ _ _) Tryz.underlying69 info69) rfl ?_
  exact ⟨rfl, hS.ps.othr (hS.n.fin _ _ _ _ _).2, (hS.n.fin _ _ _ _ _).1⟩

set_option maxRecDepth 100000 in
set_option maxHeartbeats 1600000 in
theorem np2f (hV : Ev P w B t) (h : PS w B b r t l) (hg : ∀ k ∈ l, Tg k) {x : Nat} (h0 : pNum (val P) l = some (x, l1)) {y : Nat} (h1 : pNum (val P) l1 = some (y, l2)) (h2 : pNum (val P) l2 = none) :
    Calls Tryz.prog 64 #[.pointer (some ⟨b, 0, none⟩), .int .u8 2] w fun en w' => NptR P B b r t none w en w' := by
  have hS := Nq.start 2 hV h hg
  have hn := hS.ok h0
  clear hS
  have hst := run_store_flt
  go_enter Tryz.func64, Tryz.ntmps64
  go_wp2_with (first | (go_at_call 71; refine hn.mono ?_; clear hn; rintro en w1 ⟨rfl, hN⟩; obtain ⟨d0, d1, d2, d3, d4, d5, d6, d7, d8, d9⟩ := hN.n.cells; obtain ⟨r0, r1, r2, r3, r4, r5, r6, r7, r8, r9⟩ := hN.n.rcells; have hS := hN.set 0 (.float .f64 x) (x' := x) (y' := 0) (z' := 0) (m' := 0) rfl; have hn := hS.ok h1; clear hS hN h0) | (go_at_call 71; refine hn.mono ?_; clear hn; rintro en w2 ⟨rfl, hN⟩; obtain ⟨d0, d1, d2, d3, d4, d5, d6, d7, d8, d9⟩ := hN.n.cells; obtain ⟨r0, r1, r2, r3, r4, r5, r6, r7, r8, r9⟩ := hN.n.rcells; have hS := hN.set 1 (.float .f64 y) (x' := x) (y' := y) (z' := 0) (m' := 0) rfl; have hn := hS.no h2; clear hS hN h1) | (go_at_call 71; refine hn.mono ?_; clear hn; rintro en w3 ⟨⟨v, rfl⟩, hN⟩; obtain ⟨d0, d1, d2, d3, d4, d5, d6, d7, d8, d9⟩ := hN.cells; obtain ⟨r0, r1, r2, r3, r4, r5, r6, r7, r8, r9⟩ := hN.rcells; have hS := hN.set 3 (.float .f64 0) rfl; clear hN h2) | (go_at_call 52; refine (is3_2 _).mono ?_; rintro en w9 ⟨rfl, rfl⟩) | (go_at_call 53; refine (isM_2 _).mono ?_; rintro en w9 ⟨rfl, rfl⟩))
  (try simp only [Exit.inBlock, Exit.then]); refine bodyPost_ret (results_two rfl _ _ _ _ _ _ _ rfl (blk5 hS.res _ _ _ _ _) Tryz.underlying69 info69) rfl ?_
  exact ⟨⟨_, rfl⟩, (hS.fin _ _ _ _ _).1⟩

set_option maxRecDepth 100000 in
set_option maxHeartbeats 1600000 in
theorem np2 (hV : Ev P w B t) (h : PS w B b r t l) (hg : ∀ k ∈ l, Tg k) {x : Nat} (h0 : pNum (val P) l = some (x, l1)) {y : Nat} (h1 : pNum (val P) l1 = some (y, l2)) {m : Nat} (h2 : pNum (val P) l2 = some (m, l3)) :
    Calls Tryz.prog 64 #[.pointer (some ⟨b, 0, none⟩), .int .u8 2] w fun en w' => NptR P B b r t (some (crdV x y 0 m 2, l3)) w en w' := by
  have hS := Nq.start 2 hV h hg
  have hn := hS.ok h0
  clear hS
  have hst := run_store_flt
  go_enter Tryz.func64, Tryz.ntmps64
  go_wp2_with (first | (go_at_call 71; refine hn.mono ?_; clear hn; rintro en w1 ⟨rfl, hN⟩; obtain ⟨d0, d1, d2, d3, d4, d5, d6, d7, d8, d9⟩ := hN.n.cells; obtain ⟨r0, r1, r2, r3, r4, r5, r6, r7, r8, r9⟩ := hN.n.rcells; have hS := hN.set 0 (.float .f64 x) (x' := x) (y' := 0) (z' := 0) (m' := 0) rfl; have hn := hS.ok h1; clear hS hN h0) | (go_at_call 71; refine hn.mono ?_; clear hn; rintro en w2 ⟨rfl, hN⟩; obtain ⟨d0, d1, d2, d3, d4, d5, d6, d7, d8, d9⟩ := hN.n.cells; obtain ⟨r0, r1, r2, r3, r4, r5, r6, r7, r8, r9⟩ := hN.n.rcells; have hS := hN.set 1 (.float .f64 y) (x' := x) (y' := y) (z' := 0) (m' := 0) rfl; have hn := hS.ok h2; clear hS hN h1) | (go_at_call 71; refine hn.mono ?_; clear hn; rintro en w3 ⟨rfl, hN⟩; obtain ⟨d0, d1, d2, d3, d4, d5, d6, d7, d8, d9⟩ := hN.n.cells; obtain ⟨r0, r1, r2, r3, r4, r5, r6, r7, r8, r9⟩ := hN.n.rcells; have hS := hN.set 3 (.float .f64 m) (x' := x) (y' := y) (z' := 0) (m' := m) rfl; clear hN h2) | (go_at_call 52; refine (is3_2 _).mono ?_; rintro en w9 ⟨rfl, rfl⟩) | (go_at_call 53; refine (isM_2 _).mono ?_; rintro en w9 ⟨rfl, rfl⟩))
  (try simp only [Exit.inBlock, Exit.then]); refine bodyPost_ret (results_two rfl _ _ _ _ _ _ _ rfl (blk5 hS.n.res _ _ _ _ _) Tryz.underlying69 info69) rfl ?_
  exact ⟨rfl, hS.ps.othr (hS.n.fin _ _ _ _ _).2, (hS.n.fin _ _ _ _ _).1⟩

set_option maxRecDepth 100000 in
set_option maxHeartbeats 1600000 in
theorem np3f (hV : Ev P w B t) (h : PS w B b r t l) (hg : ∀ k ∈ l, Tg k) {x : Nat} (h0 : pNum (val P) l = some (x, l1)) {y : Nat} (h1 : pNum (val P) l1 = some (y, l2)) (h2 : pNum (val P) l2 = none) :
    Calls Tryz.prog 64 #[.pointer (some ⟨b, 0, none⟩), .int .u8 3] w fun en w' => NptR P B b r t none w en w' := by
  have hS := Nq.start 3 hV h hg
  have hn := hS.ok h0
  clear hS
  have hst := run_store_flt
  go_enter Tryz.func64, Tryz.ntmps64
  go_wp2_with (first | (go_at_call 71; refine hn.mono ?_; clear hn; rintro en w1 ⟨rfl, hN⟩; obtain ⟨d0, d1, d2, d3, d4, d5, d6, d7, d8, d9⟩ := hN.n.cells; obtain ⟨r0, r1, r2, r3, r4, r5, r6, r7, r8, r9⟩ := hN.n.rcells; have hS := hN.set 0 (.float .f64 x) (x' := x) (y' := 0) (z' := 0) (m' := 0) rfl; have hn := hS.ok h1; clear hS hN h0) | (go_at_call 71; refine hn.mono ?_; clear hn; rintro en w2 ⟨rfl, hN⟩; obtain ⟨d0, d1, d2, d3, d4, d5, d6, d7, d8, d9⟩ := hN.n.cells; obtain ⟨r0, r1, r2, r3, r4, r5, r6, r7, r8, r9⟩ := hN.n.rcells; have hS := hN.set 1 (.float .f64 y) (x' := x) (y' := y) (z' := 0) (m' := 0) rfl; have hn := hS.no h2; clear hS hN h1) | (go_at_call 71; refine hn.mono ?_; clear hn; rintro en w3 ⟨⟨v, rfl⟩, hN⟩; obtain ⟨d0, d1, d2, d3, d4, d5, d6, d7, d8, d9⟩ := hN.cells; obtain ⟨r0, r1, r2, r3, r4, r5, r6, r7, r8, r9⟩ := hN.rcells; have hS := hN.set 2 (.float .f64 0) rfl; clear hN h2) | (go_at_call 52; refine (is3_3 _).mono ?_; rintro en w9 ⟨rfl, rfl⟩) | (go_at_call 53; refine (isM_3 _).mono ?_; rintro en w9 ⟨rfl, rfl⟩))
  (try simp only [Exit.inBlock, Exit.then]); refine bodyPost_ret (results_two rfl _ _ _ _ _ _ _ rfl (blk5 hS.res _ _ _ _ _) Tryz.underlying69 info69) rfl ?_
  exact ⟨⟨_, rfl⟩, (hS.fin _ _ _ _ _).1⟩

set_option maxRecDepth 100000 in
set_option maxHeartbeats 1600000 in
theorem np3g (hV : Ev P w B t) (h : PS w B b r t l) (hg : ∀ k ∈ l, Tg k) {x : Nat} (h0 : pNum (val P) l = some (x, l1)) {y : Nat} (h1 : pNum (val P) l1 = some (y, l2)) {z : Nat} (h2 : pNum (val P) l2 = some (z, l3)) (h3 : pNum (val P) l3 = none) :
    Calls Tryz.prog 64 #[.pointer (some ⟨b, 0, none⟩), .int .u8 3] w fun en w' => NptR P B b r t none w en w' := by
  have hS := Nq.start 3 hV h hg
  have hn := hS.ok h0
  clear hS
  have hst := run_store_flt
  go_enter Tryz.func64, Tryz.ntmps64
  go_wp2_with (first | (go_at_call 71; refine hn.mono ?_; clear hn; rintro en w1 ⟨rfl, hN⟩; obtain ⟨d0, d1, d2, d3, d4, d5, d6, d7, d8, d9⟩ := hN.n.cells; obtain ⟨r0, r1, r2, r3, r4, r5, r6, r7, r8, r9⟩ := hN.n.rcells; have hS := hN.set 0 (.float .f64 x) (x' := x) (y' := 0) (z' := 0) (m' := 0) rfl; have hn := hS.ok h1; clear hS hN h0) | (go_at_call 71; refine hn.mono ?_; clear hn; rintro en w2 ⟨rfl, hN⟩; obtain ⟨d0, d1, d2, d3, d4, d5, d6, d7, d8, d9⟩ := hN.n.cells; obtain ⟨r0, r1, r2, r3, r4, r5, r6, r7, r8, r9⟩ := hN.n.rcells; have hS := hN.set 1 (.float .f64 y) (x' := x) (y' := y) (z' := 0) (m' := 0) rfl; have hn := hS.ok h2; clear hS hN h1) | (go_at_call 71; refine hn.mono ?_; clear hn; rintro en w3 ⟨rfl, hN⟩; obtain ⟨d0, d1, d2, d3, d4, d5, d6, d7, d8, d9⟩ := hN.n.cells; obtain ⟨r0, r1, r2, r3, r4, r5, r6, r7, r8, r9⟩ := hN.n.rcells; have hS := hN.set 2 (.float .f64 z) (x' := x) (y' := y) (z' := z) (m' := 0) rfl; have hn := hS.no h3; clear hS hN h2) | (go_at_call 71; refine hn.mono ?_; clear hn; rintro en w4 ⟨⟨v, rfl⟩, hN⟩; obtain ⟨d0, d1, d2, d3, d4, d5, d6, d7, d8, d9⟩ := hN.cells; obtain ⟨r0, r1, r2, r3, r4, r5, r6, r7, r8, r9⟩ := hN.rcells; have hS := hN.set 3 (.float .f64 0) rfl; clear hN h3) | (go_at_call 52; refine (is3_3 _).mono ?_; rintro en w9 ⟨rfl, rfl⟩) | (go_at_call 53; refine (isM_3 _).mono ?_; rintro en w9 ⟨rfl, rfl⟩))
  (try simp only [Exit.inBlock, Exit.then]); refine bodyPost_ret (results_two rfl _ _ _ _ _ _ _ rfl (blk5 hS.res _ _ _ _ _) Tryz.underlying69 info69) rfl ?_
  exact ⟨⟨_, rfl⟩, (hS.fin _ _ _ _ _).1⟩

set_option maxRecDepth 100000 in
set_option maxHeartbeats 1600000 in
theorem np3 (hV : Ev P w B t) (h : PS w B b r t l) (hg : ∀ k ∈ l, Tg k) {x : Nat} (h0 : pNum (val P) l = some (x, l1)) {y : Nat} (h1 : pNum (val P) l1 = some (y, l2)) {z : Nat} (h2 : pNum (val P) l2 = some (z, l3)) {m : Nat} (h3 : pNum (val P) l3 = some (m, l4)) :
    Calls Tryz.prog 64 #[.pointer (some ⟨b, 0, none⟩), .int .u8 3] w fun en w' => NptR P B b r t (some (crdV x y z m 3, l4)) w en w' := by
  have hS := Nq.start 3 hV h hg
  have hn := hS.ok h0
  clear hS
  have hst := run_store_flt
  go_enter Tryz.func64, Tryz.ntmps64
  go_wp2_with (first | (go_at_call 71; refine hn.mono ?_; clear hn; rintro en w1 ⟨rfl, hN⟩; obtain ⟨d0, d1, d2, d3, d4, d5, d6, d7, d8, d9⟩ := hN.n.cells; obtain ⟨r0, r1, r2, r3, r4, r5, r6, r7, r8, r9⟩ := hN.n.rcells; have hS := hN.set 0 (.float .f64 x) (x' := x) (y' := 0) (z' := 0) (m' := 0) rfl; have hn := hS.ok h1; clear hS hN h0) | (go_at_call 71; refine hn.mono ?_; clear hn; rintro en w2 ⟨rfl, hN⟩; obtain ⟨d0, d1, d2, d3, d4, d5, d6, d7, d8, d9⟩ := hN.n.cells; obtain ⟨r0, r1, r2, r3, r4, r5, r6, r7, r8, r9⟩ := hN.n.rcells; have hS := hN.set 1 (.float .f64 y) (x' := x) (y' := y) (z' := 0) (m' := 0) rfl; have hn := hS.ok h2; clear hS hN h1) | (go_at_call 71; refine hn.mono ?_; clear hn; rintro en w3 ⟨rfl, hN⟩; obtain ⟨d0, d1, d2, d3, d4, d5, d6, d7, d8, d9⟩ := hN.n.cells; obtain ⟨r0, r1, r2, r3, r4, r5, r6, r7, r8, r9⟩ := hN.n.rcells; have hS := hN.set 2 (.float .f64 z) (x' := x) (y' := y) (z' := z) (m' := 0) rfl; have hn := hS.ok h3; clear hS hN h2) | (go_at_call 71; refine hn.mono ?_; clear hn; rintro en w4 ⟨rfl, hN⟩; obtain ⟨d0, d1, d2, d3, d4, d5, d6, d7, d8, d9⟩ := hN.n.cells; obtain ⟨r0, r1, r2, r3, r4, r5, r6, r7, r8, r9⟩ := hN.n.rcells; have hS := hN.set 3 (.float .f64 m) (x' := x) (y' := y) (z' := z) (m' := m) rfl; clear hN h3) | (go_at_call 52; refine (is3_3 _).mono ?_; rintro en w9 ⟨rfl, rfl⟩) | (go_at_call 53; refine (isM_3 _).mono ?_; rintro en w9 ⟨rfl, rfl⟩))
  (try simp only [Exit.inBlock, Exit.then]); refine bodyPost_ret (results_two rfl _ _ _ _ _ _ _ rfl (blk5 hS.n.res _ _ _ _ _) Tryz.underlying69 info69) rfl ?_
  exact ⟨rfl, hS.ps.othr (hS.n.fin _ _ _ _ _).2, (hS.n.fin _ _ _ _ _).1⟩

/-- A point out of its numbers. -/
def ptV (ct : Nat) (xs : List Nat) : Value := crdV (xs.getD 0 0) (xs.getD 1 0) (if ct % 2 = 1 then xs.getD 2 0 else 0) (if ct / 2 = 1 then xs.getD (2 + ct % 2) 0 else 0) ct
def wd (ct : Nat) : Nat := 2 + ct % 2 + ct / 2

set_option maxRecDepth 100000 in
theorem np_calls (hV : Ev P w B t) (h : PS w B b r t l) (hg : ∀ k ∈ l, Tg k) (ct : Nat) (hct : ct < 4) :
    Calls Tryz.prog 64 #[.pointer (some ⟨b, 0, none⟩), .int .u8 (ct : Int)] w fun en w' => NptR P B b r t ((pNums (val P) (wd ct) l).map fun y => (ptV ct y.1, y.2)) w en w' := by
  have e1 : ∀ n l, pNums (val P) (n + 1) l = match pNum (val P) l with
    | none => none
    | some (x, r) => match pNums (val P) n r with
      | none => none
      | some (xs, q) => some (x :: xs, q) := fun _ _ => rfl
  have e0 : ∀ l, pNums (val P) 0 l = some ([], l) := fun _ => rfl
  cases h0 : pNum (val P) l with
  | none =>
    have hN : pNums (val P) (wd ct) l = none := by
      rw [show wd ct = (1 + ct % 2 + ct / 2) + 1 by unfold wd; omega, e1, h0]
    rw [hN]
    exact npf1 hV h hg ct h0
  | some p0 =>
    obtain ⟨x, l1⟩ := p0
    cases h1 : pNum (val P) l1 with
    | none =>
      have hN : pNums (val P) (wd ct) l = none := by
        rw [show wd ct = (ct % 2 + ct / 2) + 1 + 1 by unfold wd; omega, e1, h0]
        simp only [e1, h1]
      rw [hN]
      exact npf2 hV h hg ct h0 h1
    | some p1 =>
      obtain ⟨y, l2⟩ := p1
      have hc4 : ct = 0 ∨ ct = 1 ∨ ct = 2 ∨ ct = 3 := by omega
      rcases hc4 with rfl | rfl | rfl | rfl
      · have hN : pNums (val P) (wd 0) l = some ([x, y], l2) := by
          show pNums (val P) (0 + 1 + 1) l = _
          simp only [e1, e0, h0, h1]
        rw [hN]
        exact np0 hV h hg h0 h1
      · cases h2 : pNum (val P) l2 with
        | none =>
          have hN : pNums (val P) (wd 1) l = none := by
            show pNums (val P) (0 + 1 + 1 + 1) l = _
            simp only [e1, e0, h0, h1, h2]
          rw [hN]
          exact np1f hV h hg h0 h1 h2
        | some p2 =>
          obtain ⟨z, l3⟩ := p2
          have hN : pNums (val P) (wd 1) l = some ([x, y, z], l3) := by
            show pNums (val P) (0 + 1 + 1 + 1) l = _
            simp only [e1, e0, h0, h1, h2]
          rw [hN]
          exact np1 hV h hg h0 h1 h2
      · cases h2 : pNum (val P) l2 with
        | none =>
          have hN : pNums (val P) (wd 2) l = none := by
            show pNums (val P) (0 + 1 + 1 + 1) l = _
            simp only [e1, e0, h0, h1, h2]
          rw [hN]
          exact np2f hV h hg h0 h1 h2
        | some p2 =>
          obtain ⟨z, l3⟩ := p2
          have hN : pNums (val P) (wd 2) l = some ([x, y, z], l3) := by
            show pNums (val P) (0 + 1 + 1 + 1) l = _
            simp only [e1, e0, h0, h1, h2]
          rw [hN]
          exact np2 hV h hg h0 h1 h2
      · cases h2 : pNum (val P) l2 with
        | none =>
          have hN : pNums (val P) (wd 3) l = none := by
            show pNums (val P) (0 + 1 + 1 + 1 + 1) l = _
            simp only [e1, e0, h0, h1, h2]
          rw [hN]
          exact np3f hV h hg h0 h1 h2
        | some p2 =>
          obtain ⟨z, l3⟩ := p2
          cases h3 : pNum (val P) l3 with
          | none =>
            have hN : pNums (val P) (wd 3) l = none := by
              show pNums (val P) (0 + 1 + 1 + 1 + 1) l = _
              simp only [e1, e0, h0, h1, h2, h3]
            rw [hN]
            exact np3g hV h hg h0 h1 h2 h3
          | some p3 =>
            obtain ⟨m, l4⟩ := p3
            have hN : pNums (val P) (wd 3) l = some ([x, y, z, m], l4) := by
              show pNums (val P) (0 + 1 + 1 + 1 + 1) l = _
              simp only [e1, e0, h0, h1, h2, h3]
            rw [hN]
            exact np3 hV h hg h0 h1 h2 h3
end
end Go.Proofs.YtlckfiflfkbofaaGreatDoor

/- nextMultiPointStylePoint. -/
namespace Go.Proofs.YtlckfiflfkbofaaGreatDoor
open Go.RowKit

/-- The result's block, made at w0's end, and the lexer's frame. -/
structure Rb (B b r : Nat) (w0 w : World) : Prop where
  fr : Fr B b r w0 w
  bw : B ≤ w0.heap.size
  bl : b < w0.heap.size
  rl : r < w0.heap.size
  res : w.heap[w0.heap.size]? = some (.cells #[.float .f64 0, .float .f64 0, .float .f64 0, .float .f64 0, .int .u8 0] 69 (0, 0))

/-- A block of coordinates that is none of the lexer's. -/
structure Cb (b r c : Nat) (w : World) (x y z m : Nat) (ct : Int) : Prop where
  cb : c ≠ b
  cr : c ≠ r
  blk : w.heap[c]? = some (.cells #[.float .f64 x, .float .f64 y, .float .f64 z, .float .f64 m, .int .u8 ct] 69 (0, 0))

section
variable {P : GP} {w0 w w' : World} {B b r c : Nat} {t : ByteArray} {l : List Tok} {k : Tok} {x y z m : Nat} {ct : Int}
theorem Cb.cells (h : Cb b r c w x y z m ct) : w.cell? ⟨c, 0, none⟩ = some (.float .f64 x) ∧ w.cell? ⟨c, 1, none⟩ = some (.float .f64 y) ∧ w.cell? ⟨c, 2, none⟩ = some (.float .f64 z) ∧ w.cell? ⟨c, 3, none⟩ = some (.float .f64 m) ∧ w.cell? ⟨c, 4, none⟩ = some (.int .u8 ct) ∧ w.frozen? ⟨c, 0, none⟩ = false ∧ w.frozen? ⟨c, 1, none⟩ = false ∧ w.frozen? ⟨c, 2, none⟩ = false ∧ w.frozen? ⟨c, 3, none⟩ = false ∧ w.frozen? ⟨c, 4, none⟩ = false := by
  refine ⟨?_, ?_, ?_, ?_, ?_, ?_, ?_, ?_, ?_, ?_⟩
  all_goals first | (simp only [World.cell?, h.blk]; rfl) | exact Lib.frozen_of_heap h.blk _
theorem Cb.step (h : Cb b r c w x y z m ct) (q : Fr B b r w w') : Cb b r c w' x y z m ct :=
  ⟨h.cb, h.cr, q.oth _ _ h.blk h.cb h.cr (by intro c fz e; cases e)⟩
theorem Rb.cb (h : Rb B b r w0 w) : Cb b r w0.heap.size w 0 0 0 0 0 := ⟨by have := h.bl; omega, by have := h.rl; omega, h.res⟩
theorem Rb.step (h : Rb B b r w0 w) (q : Fr B b r w w') : Rb B b r w0 w' :=
  ⟨h.fr.trans q, h.bw, h.bl, h.rl, (h.cb.step q).blk⟩
theorem Rb.start (h : PS w B b r t l) : Rb B b r w (w.alloc (.cells #[.float .f64 0, .float .f64 0, .float .f64 0, .float .f64 0, .int .u8 0] 69)) :=
  ⟨(Fr.refl B b r w).alloc h.BW.1 _, h.BW.1, h.BW.2.2.1, h.BW.2.2.2, heap_alloc_new w _⟩
theorem Rb.fin (h : Rb B b r w0 w) (v0 v1 v2 v3 v4 : Value) :
    Fr B b r w0 (((((w.setCell ⟨w0.heap.size, 0, none⟩ v0).setCell ⟨w0.heap.size, 1, none⟩ v1).setCell ⟨w0.heap.size, 2, none⟩ v2).setCell ⟨w0.heap.size, 3, none⟩ v3).setCell ⟨w0.heap.size, 4, none⟩ v4) ∧
    Oth b r w (((((w.setCell ⟨w0.heap.size, 0, none⟩ v0).setCell ⟨w0.heap.size, 1, none⟩ v1).setCell ⟨w0.heap.size, 2, none⟩ v2).setCell ⟨w0.heap.size, 3, none⟩ v3).setCell ⟨w0.heap.size, 4, none⟩ v4) :=
  set5 (by decide : (69 : TypeId) ≠ 5) (by have := h.bl; omega) (by have := h.rl; omega) h.bw (Nat.le_refl _) h.fr ⟨_, h.res⟩ v0 v1 v2 v3 v4

/-- The lexer's state at a place, in the parser's world. -/
structure Lz (P : GP) (B b r : Nat) (t : ByteArray) (w0 w : World) (l : List Tok) : Prop where
  rb : Rb B b r w0 w
  ev : Ev P w B t
  ps : PS w B b r t l
  tg : ∀ k ∈ l, Tg k

theorem Lz.start (hV : Ev P w B t) (h : PS w B b r t l) (hg : ∀ k ∈ l, Tg k) : Lz P B b r t w (w.alloc (.cells #[.float .f64 0, .float .f64 0, .float .f64 0, .float .f64 0, .int .u8 0] 69)) l :=
  ⟨Rb.start h, hV.keep ((Keep.refl _ w).alloc _), h.othr ((Oth.refl b r w).alloc _), hg⟩
theorem Lz.go {l' : List Tok} (h : Lz P B b r t w0 w l) (q : Fr B b r w w') (hp : PS w' B b r t l') (hl : ∀ k ∈ l', k ∈ l) : Lz P B b r t w0 w' l' :=
  ⟨h.rb.step q, h.ev.fr q, hp, fun k hk => h.tg k (hl k hk)⟩
theorem Lz.peek (h : Lz P B b r t w0 w (k :: l)) : Calls Tryz.prog 63 #[.pointer (some ⟨b, 0, none⟩)] w fun en w' => en = .returned (.tuple #[.string k.s, .nilIface]) ∧ Lz P B b r t w0 w' (k :: l) := by
  refine (peek_cons h.ev.en h.ps).mono ?_
  rintro en w' ⟨h1, h2, h3⟩
  exact ⟨h1, h.go h3 h2 fun _ h => h⟩
theorem Lz.peekN (h : Lz P B b r t w0 w []) : Calls Tryz.prog 63 #[.pointer (some ⟨b, 0, none⟩)] w fun en w' => ErrT en ∧ Rb B b r w0 w' := by
  refine (peek_nil h.ev.en h.ev.eof h.ps).mono ?_
  rintro en w' ⟨h1, h2⟩
  exact ⟨h1, h.rb.step h2⟩
theorem Lz.next (h : Lz P B b r t w0 w (k :: l)) : Calls Tryz.prog 61 #[.pointer (some ⟨b, 0, none⟩)] w fun en w' => en = .returned (.tuple #[.string k.s, .nilIface]) ∧ Lz P B b r t w0 w' l := by
  refine (next_cons h.ev.en h.ps).mono ?_
  rintro en w' ⟨h1, h2, h3⟩
  exact ⟨h1, h.go h3 h2 fun _ h => List.mem_cons_of_mem _ h⟩
theorem ptV_eq (ct : Nat) (xs : List Nat) : ∃ x y z m : Nat, ptV ct xs = .agg #[.float .f64 x, .float .f64 y, .float .f64 z, .float .f64 m, .int .u8 (ct : Int)] := ⟨_, _, _, _, rfl⟩
theorem Lz.pt (h : Lz P B b r t w0 w l) (c : Nat) (hc : c < 4) {xs : List Nat} {q : List Tok} (hv : pNums (val P) (wd c) l = some (xs, q)) :
    Calls Tryz.prog 64 #[.pointer (some ⟨b, 0, none⟩), .int .u8 (c : Int)] w fun en w' => en = .returned (.tuple #[ptV c xs, .nilIface]) ∧ Lz P B b r t w0 w' q := by
  refine (np_calls h.ev h.ps h.tg c hc).mono ?_
  rintro en w' h1
  rw [hv] at h1
  obtain ⟨h1, h2, h3⟩ := h1
  refine ⟨h1, h.go h3 h2 fun k hk => ?_⟩
  obtain ⟨cc, rfl, _⟩ := pNums_eats (val_kind P) _ l xs q hv
  simp [hk]
theorem Lz.ptN (h : Lz P B b r t w0 w l) (c : Nat) (hc : c < 4) (hv : pNums (val P) (wd c) l = none) :
    Calls Tryz.prog 64 #[.pointer (some ⟨b, 0, none⟩), .int .u8 (c : Int)] w fun en w' => (∃ v, en = .returned (.tuple #[.agg #[.float .f64 0, .float .f64 0, .float .f64 0, .float .f64 0, .int .u8 0], .iface 138 v])) ∧ Rb B b r w0 w' := by
  refine (np_calls h.ev h.ps h.tg c hc).mono ?_
  rintro en w' h1
  rw [hv] at h1
  exact ⟨h1.1, h.rb.step h1.2⟩
/-- The closing parenthesis. -/
theorem Lz.rp {q q' : List Tok} (h : Lz P B b r t w0 w q) (hq : tIs 41 q = some q') : Calls Tryz.prog 65 #[.pointer (some ⟨b, 0, none⟩)] w fun en w' => en = .returned .nilIface ∧ Lz P B b r t w0 w' q' ∧ Fr B b r w w' := by
  cases q with
  | nil => cases hq
  | cons u q =>
    simp only [tIs] at hq
    split at hq
    · rename_i hu
      cases hq
      have hs := (h.tg u (by simp)).sign (x := 41) (by omega) hu
      refine (rp_ok h.ev.en h.ps hs).mono ?_
      rintro en w' ⟨h1, h2, h3⟩
      exact ⟨h1, h.go h3 h2 fun _ h => List.mem_cons_of_mem _ h, h3⟩
    · cases hq
theorem Lz.rpN {q : List Tok} (h : Lz P B b r t w0 w q) (hq : tIs 41 q = none) : Calls Tryz.prog 65 #[.pointer (some ⟨b, 0, none⟩)] w fun en w' => ErrO en ∧ Rb B b r w0 w' := by
  cases q with
  | nil =>
    refine (rp_nil h.ev.en h.ev.eof h.ps).mono ?_
    rintro en w' ⟨h1, h2⟩
    exact ⟨h1, h.rb.step h2⟩
  | cons u q =>
    simp only [tIs] at hq
    split at hq
    · cases hq
    · rename_i hu
      have hs := (h.tg u (by simp)).nsign (x := 41) (by omega) hu
      refine (rp_bad h.ev.en h.ps hs).mono ?_
      rintro en w' ⟨h1, h2⟩
      exact ⟨h1, h.rb.step h2⟩
theorem Rb.blk (h : Rb B b r w0 w) (o : Obj) : Rb B b r w0 (w.alloc o) := h.step ((Fr.refl B b r w).alloc (Nat.le_trans h.bw h.fr.bel.size) o)
/-- A new block of coordinates. -/
theorem Lz.blk (h : Lz P B b r t w0 w l) (o : Obj) : Lz P B b r t w0 (w.alloc o) l := by
  have hB := h.rb.bw
  have hf : Fr B b r w (w.alloc o) := (Fr.refl B b r w).alloc (Nat.le_trans hB h.rb.fr.bel.size) o
  exact h.go hf (h.ps.othr ((Oth.refl b r w).alloc o)) fun _ h => h
theorem Lz.cb (h : Lz P B b r t w0 w l) (x y z m : Nat) (ct : Int) : Cb b r w.heap.size (w.alloc (.cells #[.float .f64 x, .float .f64 y, .float .f64 z, .float .f64 m, .int .u8 ct] 69)) x y z m ct := by
  have h1 := h.rb.bl
  have h2 := h.rb.rl
  have h3 := h.rb.fr.bel.size
  exact ⟨by omega, by omega, heap_alloc_new w _⟩

theorem blk5a {ty : TypeId} {a0 a1 a2 a3 a4 : Value} (hc : w.heap[c]? = some (.cells #[a0, a1, a2, a3, a4] ty (0, 0))) (v0 v1 v2 v3 v4 : Value) (o : Obj) :
    ((((((w.setCell ⟨c, 0, none⟩ v0).setCell ⟨c, 1, none⟩ v1).setCell ⟨c, 2, none⟩ v2).setCell ⟨c, 3, none⟩ v3).setCell ⟨c, 4, none⟩ v4).alloc o).heap[c]? = some (.cells #[v0, v1, v2, v3, v4] ty (0, 0)) := by
  have h := blk5 hc v0 v1 v2 v3 v4
  exact (Below.heap_alloc _ o _ (Array.getElem?_eq_some_iff.1 h).1).trans h
theorem Rb.finA (h : Rb B b r w0 w) (v0 v1 v2 v3 v4 : Value) (o : Obj) :
    Fr B b r w0 ((((((w.setCell ⟨w0.heap.size, 0, none⟩ v0).setCell ⟨w0.heap.size, 1, none⟩ v1).setCell ⟨w0.heap.size, 2, none⟩ v2).setCell ⟨w0.heap.size, 3, none⟩ v3).setCell ⟨w0.heap.size, 4, none⟩ v4).alloc o) ∧
    Oth b r w ((((((w.setCell ⟨w0.heap.size, 0, none⟩ v0).setCell ⟨w0.heap.size, 1, none⟩ v1).setCell ⟨w0.heap.size, 2, none⟩ v2).setCell ⟨w0.heap.size, 3, none⟩ v3).setCell ⟨w0.heap.size, 4, none⟩ v4).alloc o) :=
  ⟨(h.fin v0 v1 v2 v3 v4).1.alloc h.bw o, (h.fin v0 v1 v2 v3 v4).2.alloc o⟩

/-- What it answers. -/
def MspR (P : GP) (B b r : Nat) (t : ByteArray) (ct : Nat) (o : Option (List Nat × List Tok)) (w : World) (en : Ending) (w' : World) : Prop :=
  match o with
  | some (xs, q) => en = .returned (.tuple #[if xs = [] then crdV 0 0 0 0 0 else ptV ct xs, .bool (!xs.isEmpty), .nilIface]) ∧ PS w' B b r t q ∧ Fr B b r w w'
  | none => (∃ v, en = .returned (.tuple #[crdV 0 0 0 0 0, .bool false, .iface 138 v])) ∧ Fr B b r w w'
end

section
variable {P : GP} {w : World} {B b r : Nat} {t : ByteArray} {l : List Tok} {k : Tok}

set_option maxRecDepth 100000 in
set_option maxHeartbeats 1600000 in
theorem msp_nil (hV : Ev P w B t) (h : PS w B b r t []) (ct : Nat) : Calls Tryz.prog 44 #[.pointer (some ⟨b, 0, none⟩), .int .u8 (ct : Int)] w fun en w' => MspR P B b r t ct none w en w' := by
  have hn := (Lz.start hV h (by simp)).peekN
  have hst := run_store_flt
  go_enter Tryz.func44, Tryz.ntmps44
  go_wp2_with (go_at_call 63; refine hn.mono ?_; clear hn; rintro en w1 ⟨⟨v, rfl⟩, hN⟩; obtain ⟨d0, d1, d2, d3, d4, d5, d6, d7, d8, d9⟩ := hN.cb.cells)
  (try simp only [Exit.inBlock, Exit.then]); refine bodyPost_ret (results_three rfl _ _ _ _ _ _ _ rfl (blk5 hN.res _ _ _ _ _) Tryz.underlying69 info69) rfl ?_
  exact ⟨⟨_, rfl⟩, (hN.fin _ _ _ _ _).1⟩
set_option maxRecDepth 100000 in
set_option maxHeartbeats 3200000 in
theorem msp_emp (hV : Ev P w B t) (h : PS w B b r t (k :: l)) (hg : ∀ u ∈ k :: l, Tg u) (ct : Nat) (hct : ct < 4) (hk0 : (k.s.toList == [40]) = false) (hk : k.s.toList = [69, 77, 80, 84, 89]) : Calls Tryz.prog 44 #[.pointer (some ⟨b, 0, none⟩), .int .u8 (ct : Int)] w fun en w' => MspR P B b r t ct (some ([], l)) w en w' := by
  have hn := (Lz.start hV h hg).peek
  have hst := run_store_flt
  go_enter Tryz.func44, Tryz.ntmps44
  go_wp2_with (first | (go_at_call 63; refine hn.mono ?_; clear hn; rintro en w1 ⟨rfl, hN⟩; have hn := hN.next; obtain ⟨d0, d1, d2, d3, d4, d5, d6, d7, d8, d9⟩ := hN.rb.cb.cells; clear hN) | (go_at_call 61; refine hn.mono ?_; clear hn d0 d1 d2 d3 d4 d5 d6 d7 d8 d9; rintro en w2 ⟨rfl, hN⟩; obtain ⟨d0, d1, d2, d3, d4, d5, d6, d7, d8, d9⟩ := hN.rb.cb.cells))
  (try simp only [Exit.inBlock, Exit.then]); refine bodyPost_ret (results_three rfl _ _ _ _ _ _ _ rfl (blk5 hN.rb.res _ _ _ _ _) Tryz.underlying69 info69) rfl ?_
  exact ⟨rfl, hN.ps.othr (hN.rb.fin _ _ _ _ _).2, (hN.rb.fin _ _ _ _ _).1⟩

set_option maxRecDepth 100000 in
set_option maxHeartbeats 3200000 in
theorem msp_par_no (hV : Ev P w B t) (h : PS w B b r t (k :: l)) (hg : ∀ u ∈ k :: l, Tg u) (ct : Nat) (hct : ct < 4) (hk : k.s.toList = [40]) (hv : pNums (val P) (wd ct) l = none) : Calls Tryz.prog 44 #[.pointer (some ⟨b, 0, none⟩), .int .u8 (ct : Int)] w fun en w' => MspR P B b r t ct none w en w' := by
  have hn := (Lz.start hV h hg).peek
  have hst := run_store_flt
  go_enter Tryz.func44, Tryz.ntmps44
  go_wp2_with (first | (go_at_call 63; refine hn.mono ?_; clear hn; rintro en w1 ⟨rfl, hN⟩; have hn := hN.next; obtain ⟨d0, d1, d2, d3, d4, d5, d6, d7, d8, d9⟩ := hN.rb.cb.cells; clear hN) | (go_at_call 61; refine hn.mono ?_; clear hn d0 d1 d2 d3 d4 d5 d6 d7 d8 d9; rintro en w2 ⟨rfl, hN⟩; have hn := hN.ptN ct hct hv; obtain ⟨d0, d1, d2, d3, d4, d5, d6, d7, d8, d9⟩ := hN.rb.cb.cells; clear hN) | (go_at_call 64; refine hn.mono ?_; clear hn d0 d1 d2 d3 d4 d5 d6 d7 d8 d9; rintro en w3 ⟨⟨v, rfl⟩, hN⟩; have hlt := (Array.getElem?_eq_some_iff.1 hN.res).1; obtain ⟨d0, d1, d2, d3, d4, d5, d6, d7, d8, d9⟩ := hN.cb.cells))
  (try simp only [Exit.inBlock, Exit.then]); refine bodyPost_ret (results_three rfl _ _ _ _ _ _ _ rfl (blk5a hN.res _ _ _ _ _ _) Tryz.underlying69 info69) rfl ?_
  exact ⟨⟨_, rfl⟩, (hN.finA _ _ _ _ _ _).1⟩

set_option maxRecDepth 100000 in
set_option maxHeartbeats 3200000 in
theorem msp_no (hV : Ev P w B t) (h : PS w B b r t (k :: l)) (hg : ∀ u ∈ k :: l, Tg u) (ct : Nat) (hct : ct < 4) (hk0 : (k.s.toList == [40]) = false) (hk1 : (k.s.toList == [69, 77, 80, 84, 89]) = false) (hv : pNums (val P) (wd ct) (k :: l) = none) : Calls Tryz.prog 44 #[.pointer (some ⟨b, 0, none⟩), .int .u8 (ct : Int)] w fun en w' => MspR P B b r t ct none w en w' := by
  have hn := (Lz.start hV h hg).peek
  have hst := run_store_flt
  go_enter Tryz.func44, Tryz.ntmps44
  go_wp2_with (first | (go_at_call 63; refine hn.mono ?_; clear hn; rintro en w1 ⟨rfl, hN⟩; have hn := hN.ptN ct hct hv; obtain ⟨d0, d1, d2, d3, d4, d5, d6, d7, d8, d9⟩ := hN.rb.cb.cells; clear hN) | (go_at_call 64; refine hn.mono ?_; clear hn d0 d1 d2 d3 d4 d5 d6 d7 d8 d9; rintro en w3 ⟨⟨v, rfl⟩, hN⟩; have hlt := (Array.getElem?_eq_some_iff.1 hN.res).1; obtain ⟨d0, d1, d2, d3, d4, d5, d6, d7, d8, d9⟩ := hN.cb.cells))
  (try simp only [Exit.inBlock, Exit.then]); refine bodyPost_ret (results_three rfl _ _ _ _ _ _ _ rfl (blk5a hN.res _ _ _ _ _ _) Tryz.underlying69 info69) rfl ?_
  exact ⟨⟨_, rfl⟩, (hN.finA _ _ _ _ _ _).1⟩

set_option maxRecDepth 100000 in
set_option maxHeartbeats 3200000 in
theorem msp_ok (hV : Ev P w B t) (h : PS w B b r t (k :: l)) (hg : ∀ u ∈ k :: l, Tg u) (ct : Nat) (hct : ct < 4) (hk0 : (k.s.toList == [40]) = false) (hk1 : (k.s.toList == [69, 77, 80, 84, 89]) = false) {xs : List Nat} {q : List Tok} (hv : pNums (val P) (wd ct) (k :: l) = some (xs, q)) (hxs : ¬ xs = []) : Calls Tryz.prog 44 #[.pointer (some ⟨b, 0, none⟩), .int .u8 (ct : Int)] w fun en w' => MspR P B b r t ct (some (xs, q)) w en w' := by
  obtain ⟨x, y, z, m, hx⟩ := ptV_eq ct xs
  have hn := (Lz.start hV h hg).peek
  have hv2 : ∀ w0 w1, Lz P B b r t w0 w1 (k :: l) → Calls Tryz.prog 64 #[.pointer (some ⟨b, 0, none⟩), .int .u8 (ct : Int)] w1 fun en w' => en = .returned (.tuple #[.agg #[.float .f64 x, .float .f64 y, .float .f64 z, .float .f64 m, .int .u8 (ct : Int)], .nilIface]) ∧ Lz P B b r t w0 w' q := by
    intro w0 w1 h; have := h.pt ct hct hv; rw [hx] at this; exact this
  have HX := Lib.hid hx
  have hst := run_store_flt
  clear hx hv h hV hg
  go_enter Tryz.func44, Tryz.ntmps44
  go_wp2_with (first | (go_at_call 63; refine hn.mono ?_; clear hn; rintro en w1 ⟨rfl, hN⟩; have hn := hv2 _ _ hN; obtain ⟨d0, d1, d2, d3, d4, d5, d6, d7, d8, d9⟩ := hN.rb.cb.cells; clear hN) | (go_at_call 64; refine hn.mono ?_; clear hn d0 d1 d2 d3 d4 d5 d6 d7 d8 d9; rintro en w3 ⟨rfl, hN⟩; have hlt := (Array.getElem?_eq_some_iff.1 hN.rb.res).1; obtain ⟨d0, d1, d2, d3, d4, d5, d6, d7, d8, d9⟩ := hN.rb.cb.cells))
  (try simp only [Exit.inBlock, Exit.then]); refine bodyPost_ret (results_three rfl _ _ _ _ _ _ _ rfl (blk5a hN.rb.res _ _ _ _ _ _) Tryz.underlying69 info69) rfl ?_
  refine ⟨?_, hN.ps.othr (hN.rb.finA _ _ _ _ _ _).2, (hN.rb.finA _ _ _ _ _ _).1⟩
  rw [if_neg hxs, HX.out]
  cases xs with
  | nil => exact absurd rfl hxs
  | cons a c => rfl

set_option maxRecDepth 100000 in
set_option maxHeartbeats 3200000 in
theorem msp_par_ok (hV : Ev P w B t) (h : PS w B b r t (k :: l)) (hg : ∀ u ∈ k :: l, Tg u) (ct : Nat) (hct : ct < 4) (hk : k.s.toList = [40]) {xs : List Nat} {q q2 : List Tok} (hv : pNums (val P) (wd ct) l = some (xs, q)) (hxs : ¬ xs = []) (hq : tIs 41 q = some q2) : Calls Tryz.prog 44 #[.pointer (some ⟨b, 0, none⟩), .int .u8 (ct : Int)] w fun en w' => MspR P B b r t ct (some (xs, q2)) w en w' := by
  obtain ⟨x, y, z, m, hx⟩ := ptV_eq ct xs
  have hn := (Lz.start hV h hg).peek
  have hv2 : ∀ w0 w1, Lz P B b r t w0 w1 l → Calls Tryz.prog 64 #[.pointer (some ⟨b, 0, none⟩), .int .u8 (ct : Int)] w1 fun en w' => en = .returned (.tuple #[.agg #[.float .f64 x, .float .f64 y, .float .f64 z, .float .f64 m, .int .u8 (ct : Int)], .nilIface]) ∧ Lz P B b r t w0 w' q := by
    intro w0 w1 h; have := h.pt ct hct hv; rw [hx] at this; exact this
  have HX := Lib.hid hx
  have hst := run_store_flt
  clear hx hv h hV hg
  go_enter Tryz.func44, Tryz.ntmps44
  go_wp2_with (first | (go_at_call 63; refine hn.mono ?_; clear hn; rintro en w1 ⟨rfl, hN⟩; have hn := hN.next; obtain ⟨d0, d1, d2, d3, d4, d5, d6, d7, d8, d9⟩ := hN.rb.cb.cells; clear hN) | (go_at_call 61; refine hn.mono ?_; clear hn d0 d1 d2 d3 d4 d5 d6 d7 d8 d9; rintro en w2 ⟨rfl, hN⟩; have hn := hv2 _ _ hN; obtain ⟨d0, d1, d2, d3, d4, d5, d6, d7, d8, d9⟩ := hN.rb.cb.cells; clear hN) | (go_at_call 64; refine hn.mono ?_; clear hn d0 d1 d2 d3 d4 d5 d6 d7 d8 d9; rintro en w3 ⟨rfl, hN⟩; have hlt := (Array.getElem?_eq_some_iff.1 hN.rb.res).1; have hC := hN.cb x y z m ct; have hn := (hN.blk (.cells #[.float .f64 x, .float .f64 y, .float .f64 z, .float .f64 m, .int .u8 (ct : Int)] 69)).rp hq; obtain ⟨d0, d1, d2, d3, d4, d5, d6, d7, d8, d9⟩ := hN.rb.cb.cells; clear hN) | (go_at_call 65; refine hn.mono ?_; clear hn d0 d1 d2 d3 d4 d5 d6 d7 d8 d9 hlt; rintro en w4 ⟨rfl, hN, hF⟩; obtain ⟨e0, e1, e2, e3, e4, e5, e6, e7, e8, e9⟩ := (hC.step hF).cells; obtain ⟨d0, d1, d2, d3, d4, d5, d6, d7, d8, d9⟩ := hN.rb.cb.cells))
  (try simp only [Exit.inBlock, Exit.then]); refine bodyPost_ret (results_three rfl _ _ _ _ _ _ _ rfl (blk5 hN.rb.res _ _ _ _ _) Tryz.underlying69 info69) rfl ?_
  refine ⟨?_, hN.ps.othr (hN.rb.fin _ _ _ _ _).2, (hN.rb.fin _ _ _ _ _).1⟩
  rw [if_neg hxs, HX.out]
  cases xs with
  | nil => exact absurd rfl hxs
  | cons a c => rfl

set_option maxRecDepth 100000 in
set_option maxHeartbeats 3200000 in
theorem msp_par_bad (hV : Ev P w B t) (h : PS w B b r t (k :: l)) (hg : ∀ u ∈ k :: l, Tg u) (ct : Nat) (hct : ct < 4) (hk : k.s.toList = [40]) {xs : List Nat} {q : List Tok} (hv : pNums (val P) (wd ct) l = some (xs, q)) (hq : tIs 41 q = none) : Calls Tryz.prog 44 #[.pointer (some ⟨b, 0, none⟩), .int .u8 (ct : Int)] w fun en w' => MspR P B b r t ct none w en w' := by
  obtain ⟨x, y, z, m, hx⟩ := ptV_eq ct xs
  have hn := (Lz.start hV h hg).peek
  have hv2 : ∀ w0 w1, Lz P B b r t w0 w1 l → Calls Tryz.prog 64 #[.pointer (some ⟨b, 0, none⟩), .int .u8 (ct : Int)] w1 fun en w' => en = .returned (.tuple #[.agg #[.float .f64 x, .float .f64 y, .float .f64 z, .float .f64 m, .int .u8 (ct : Int)], .nilIface]) ∧ Lz P B b r t w0 w' q := by
    intro w0 w1 h; have := h.pt ct hct hv; rw [hx] at this; exact this
  have hst := run_store_flt
  clear hx hv h hV hg
  go_enter Tryz.func44, Tryz.ntmps44
  go_wp2_with (first | (go_at_call 63; refine hn.mono ?_; clear hn; rintro en w1 ⟨rfl, hN⟩; have hn := hN.next; obtain ⟨d0, d1, d2, d3, d4, d5, d6, d7, d8, d9⟩ := hN.rb.cb.cells; clear hN) | (go_at_call 61; refine hn.mono ?_; clear hn d0 d1 d2 d3 d4 d5 d6 d7 d8 d9; rintro en w2 ⟨rfl, hN⟩; have hn := hv2 _ _ hN; obtain ⟨d0, d1, d2, d3, d4, d5, d6, d7, d8, d9⟩ := hN.rb.cb.cells; clear hN) | (go_at_call 64; refine hn.mono ?_; clear hn d0 d1 d2 d3 d4 d5 d6 d7 d8 d9; rintro en w3 ⟨rfl, hN⟩; have hlt := (Array.getElem?_eq_some_iff.1 hN.rb.res).1; have hC := hN.cb x y z m ct; have hn := (hN.blk (.cells #[.float .f64 x, .float .f64 y, .float .f64 z, .float .f64 m, .int .u8 (ct : Int)] 69)).rpN hq; obtain ⟨d0, d1, d2, d3, d4, d5, d6, d7, d8, d9⟩ := hN.rb.cb.cells; clear hN) | (go_at_call 65; refine hn.mono ?_; clear hn d0 d1 d2 d3 d4 d5 d6 d7 d8 d9 hlt; rintro en w4 ⟨⟨v, rfl⟩, hN⟩; obtain ⟨d0, d1, d2, d3, d4, d5, d6, d7, d8, d9⟩ := hN.cb.cells))
  (try simp only [Exit.inBlock, Exit.then]); refine bodyPost_ret (results_three rfl _ _ _ _ _ _ _ rfl (blk5 hN.res _ _ _ _ _) Tryz.underlying69 info69) rfl ?_
  exact ⟨⟨_, rfl⟩, (hN.fin _ _ _ _ _).1⟩


theorem pNums_len (v : Tok → Bool → Option Nat) : ∀ (n : Nat) (l : List Tok) (xs : List Nat) (q : List Tok), pNums v n l = some (xs, q) → xs.length = n := by
  intro n
  induction n with
  | zero => intro l xs q h; simp only [pNums, Option.some.injEq, Prod.mk.injEq] at h; rw [← h.1]; rfl
  | succ n ih =>
    intro l xs q h
    simp only [pNums] at h
    cases e1 : pNum v l with
    | none => rw [e1] at h; simp at h
    | some p =>
      rw [e1] at h
      simp only at h
      cases e2 : pNums v n p.2 with
      | none => rw [e2] at h; simp at h
      | some p2 =>
        rw [e2] at h
        simp only [Option.some.injEq, Prod.mk.injEq] at h
        rw [← h.1, List.length_cons, ih _ _ _ e2]

/-- A point of several, by the plain reading. -/
theorem msp_calls (hV : Ev P w B t) (h : PS w B b r t l) (hg : ∀ u ∈ l, Tg u) (ct : Nat) (hct : ct < 4) :
    Calls Tryz.prog 44 #[.pointer (some ⟨b, 0, none⟩), .int .u8 (ct : Int)] w fun en w' => MspR P B b r t ct (pPoint (val P) (wd ct) l) w en w' := by
  have hne : ∀ l xs q, pNums (val P) (wd ct) l = some (xs, q) → ¬ xs = [] := by
    intro l xs q h e
    have := pNums_len _ _ _ _ _ h
    rw [e] at this
    unfold wd at this
    simp only [List.length_nil] at this
    omega
  cases l with
  | nil => exact msp_nil hV h ct
  | cons k l =>
    have hk := hg k (by simp)
    simp only [pPoint]
    by_cases h40 : k.k = 40
    · rw [if_pos h40]
      have hs : k.s.toList = [40] := hk.sign (x := 40) (by omega) h40
      cases hv : pNums (val P) (wd ct) l with
      | none => exact msp_par_no hV h hg ct hct hs hv
      | some p =>
        obtain ⟨xs, q⟩ := p
        simp only
        cases hq : tIs 41 q with
        | none => exact msp_par_bad hV h hg ct hct hs hv hq
        | some q2 => exact msp_par_ok hV h hg ct hct hs hv (hne _ _ _ hv) hq
    · rw [if_neg h40]
      have hs : (k.s.toList == [40]) = false := hk.nsign (x := 40) (by omega) h40
      cases hE : isE k with
      | true =>
        rw [if_pos rfl]
        exact msp_emp hV h hg ct hct hs ((isE_iff hk).1 hE)
      | false =>
        rw [if_neg (by simp)]
        have hs2 := nE_iff hk hE
        cases hv : pNums (val P) (wd ct) (k :: l) with
        | none => exact msp_no hV h hg ct hct hs hs2 hv
        | some p =>
          obtain ⟨xs, q⟩ := p
          exact msp_ok hV h hg ct hct hs hs2 hv (hne _ _ _ hv)
end

end Go.Proofs.YtlckfiflfkbofaaGreatDoor
