/- The lexer's next and peek. The lexer over the list of the text's tokens. The parser's small steps. Part 27 of 51 of the proof that FnMultiPointBody returns true for every text and every type of coordinates, where the listed variables hold what the text of the program lays. -/
import Derived.Laws.EntriesVeiled
import Derived.WideLaws
import Derived.Test.YtlckfiflfkbofaaGreatDoorM21
import Derived.Test.YtlckfiflfkbofaaGreatDoorM26
set_option linter.all false

/- The lexer's next and peek. -/
namespace Go.Proofs.YtlckfiflfkbofaaGreatDoor
open Go.RowKit

section
variable {w w' : World} {B b r : Nat} {t : ByteArray} {g : Gs} {s : SS} {i : Nat} {er : Value} {pk : ByteArray}
theorem Sx.put_er (h : Sx w B b r t g s) (x : Value) : Sx (w.setCell ⟨b, 1039, none⟩ x) B b r t { g with er := x } { s with er := x } :=
  ⟨h.sc.put_er x, ⟨⟨h.ok.se, h.ok.sp, h.ok.rd, h.ok.sz, h.ok.sb, h.ok.st⟩, h.ok.lc1, h.ok.lc⟩, by
    have := h.tk
    cases hk : g.tk with
    | none => rw [hk] at this; exact this
    | some a => rw [hk] at this; exact this, h.P, h.lc, h.te, h.ch, rfl, h.pk, h.r⟩
theorem Sx.put_pk (h : Sx w B b r t g s) (x : ByteArray) : Sx (w.setCell ⟨b, 1048, none⟩ (.string x)) B b r t { g with pk := x } { s with pk := x } :=
  ⟨h.sc.put_pk x, ⟨⟨h.ok.se, h.ok.sp, h.ok.rd, h.ok.sz, h.ok.sb, h.ok.st⟩, h.ok.lc1, h.ok.lc⟩, by
    have := h.tk
    cases hk : g.tk with
    | none => rw [hk] at this; exact this
    | some a => rw [hk] at this; exact this, h.P, h.lc, h.te, h.ch, h.er, rfl, h.r⟩
theorem Sx.old (h : Sx w B b r t g s) (k : Below w.heap.size w w') : Sx w' B b r t g s := ⟨h.sc.old k, h.ok, h.tk, h.P, h.lc, h.te, h.ch, h.er, h.pk, h.r⟩

theorem At0.put_er (h : At0 w B b r t i er pk) (x : Value) : At0 (w.setCell ⟨b, 1039, none⟩ x) B b r t i x pk := by
  rcases h with ⟨h0, s, hs⟩ | ⟨tk, te, s, hs⟩
  · exact Or.inl ⟨h0, _, hs.put_er x⟩
  · exact Or.inr ⟨tk, te, _, hs.put_er x⟩
theorem At0.put_pk (h : At0 w B b r t i er pk) (x : ByteArray) : At0 (w.setCell ⟨b, 1048, none⟩ (.string x)) B b r t i er x := by
  rcases h with ⟨h0, s, hs⟩ | ⟨tk, te, s, hs⟩
  · exact Or.inl ⟨h0, _, hs.put_pk x⟩
  · exact Or.inr ⟨tk, te, _, hs.put_pk x⟩
theorem At0.old (h : At0 w B b r t i er pk) (k : Below w.heap.size w w') : At0 w' B b r t i er pk := by
  rcases h with ⟨h0, s, hs⟩ | ⟨tk, te, s, hs⟩
  · exact Or.inl ⟨h0, _, hs.old k⟩
  · exact Or.inr ⟨tk, te, _, hs.old k⟩
theorem At0.sx (h : At0 w B b r t i er pk) : ∃ g s, Sx w B b r t g s ∧ g.er = er ∧ g.pk = pk := by
  rcases h with ⟨h0, s, hs⟩ | ⟨tk, te, s, hs⟩
  · exact ⟨_, s, hs, rfl, rfl⟩
  · exact ⟨_, s, hs, rfl, rfl⟩
theorem At0.c_pk (h : At0 w B b r t i er pk) : w.cell? ⟨b, 1048, none⟩ = some (.string pk) := by
  obtain ⟨g, s, hs, _, h2⟩ := h.sx; rw [hs.sc.c_pk, hs.pk, h2]
theorem At0.c_er (h : At0 w B b r t i er pk) : w.cell? ⟨b, 1039, none⟩ = some er := by
  obtain ⟨g, s, hs, h1, _⟩ := h.sx; rw [hs.sc.c_er, hs.er, h1]
theorem At0.fz (h : At0 w B b r t i er pk) (k : Nat) : w.frozen? ⟨b, k, none⟩ = false := by obtain ⟨g, s, hs, _⟩ := h.sx; exact hs.sc.fz k
theorem At0.Bb (h : At0 w B b r t i er pk) : B ≤ b := by obtain ⟨g, s, hs, _⟩ := h.sx; exact hs.sc.Bb
theorem At0.BW (h : At0 w B b r t i er pk) : B ≤ w.heap.size := by obtain ⟨g, s, hs, _⟩ := h.sx; exact hs.sc.BW
theorem At0.lt (h : At0 w B b r t i er pk) : b < w.heap.size ∧ r < w.heap.size := by obtain ⟨g, s, hs, _⟩ := h.sx; exact ⟨hs.sc.lt, by rw [← hs.r]; exact hs.sc.rlt⟩
theorem AtE'.at0 {a e : Nat} (h : AtE' w B b r t a e er pk) : At0 w B b r t e er pk := by
  obtain ⟨s, hs⟩ := h
  exact Or.inr ⟨_, _, s, hs⟩
end

/-- The lexer ahead of the text's place i, with pk peeked. -/
def Lx (w : World) (B b r : Nat) (t : ByteArray) (i : Nat) (pk : ByteArray) : Prop := ∃ er, At0 w B b r t i er pk
def sE : ByteArray := ⟨#[]⟩

set_option maxRecDepth 100000 in
theorem lx_peeked (w : World) (B b r : Nat) (t : ByteArray) (i : Nat) (pk : ByteArray) (h : Lx w B b r t i pk) (hp : (!pk.toList.isEmpty) = true) :
    Calls Tryz.prog 61 #[.pointer (some ⟨b, 0, none⟩)] w fun en w' => en = .returned (.tuple #[.string pk, .nilIface]) ∧ Lx w' B b r t i sE ∧ Fr B b r w w' := by
  obtain ⟨er, h⟩ := h
  have c := h.c_pk
  have z := h.fz 1048
  have hB := h.Bb
  go_enter Tryz.func61, Tryz.ntmps61
  go_wp2_with (fail)
  go_ret2
  exact ⟨rfl, ⟨er, h.put_pk sE⟩, (Fr.refl B b r w).setCell (p := ⟨b, 1048, none⟩) (Or.inl rfl) hB _⟩

set_option maxRecDepth 100000 in
set_option maxHeartbeats 1600000 in
theorem lx_tok (w : World) (B b r : Nat) (t : ByteArray) (i a e : Nat) (hE : En w B t) (h : Lx w B b r t i sE) (hia : i ≤ a) (hae : a < e)
    (hW : ∀ j, i ≤ j → j < a → isW (chA t j) = true) (hX : isW (chA t a) = false) (hT : TokC t a e) :
    Calls Tryz.prog 61 #[.pointer (some ⟨b, 0, none⟩)] w fun en w' => en = .returned (.tuple #[.string (tokS t a e), .nilIface]) ∧ Lx w' B b r t e sE ∧ Fr B b r w w' := by
  obtain ⟨er, h⟩ := h
  have c := h.c_pk
  have hB := h.Bb
  have hlt := h.lt
  obtain ⟨fv, hfv⟩ : ∃ fv, fv = Value.func (Fn.func 68) #[] #[.pointer (some ⟨w.heap.size, 0, none⟩)] := ⟨_, rfl⟩
  have hsz : (w.setCell ⟨b, 1039, none⟩ fv).heap.size = w.heap.size := by simp [World.setCell]
  have hal : Below (w.setCell ⟨b, 1039, none⟩ fv).heap.size (w.setCell ⟨b, 1039, none⟩ fv) ((w.setCell ⟨b, 1039, none⟩ fv).alloc (.cells #[.nilIface] 43)) := (Below.refl _ _).alloc (Nat.le_refl _) _
  have h1 := (h.put_er fv).old hal
  have hF1 : Fr B b r w ((w.setCell ⟨b, 1039, none⟩ fv).alloc (.cells #[.nilIface] 43)) := ((Fr.refl B b r w).setCell (p := ⟨b, 1039, none⟩) (Or.inl rfl) hB fv).trans (Fr.of_below hal (h.put_er fv).BW)
  have hv1 : ((w.setCell ⟨b, 1039, none⟩ fv).alloc (.cells #[.nilIface] 43)).heap[w.heap.size]? = some (.cells #[.nilIface] 43 (0, 0)) := by rw [← hsz]; exact heap_alloc_new _ _
  have hEt := hT.le
  have c3w := h.c_er
  have z3w := h.fz 1039
  have hb1 : ¬ b = w.heap.size := by omega
  have hb2 : ¬ w.heap.size = b := by omega
  have hb3 := hlt.1
  have hpe : (!sE.toList.isEmpty) = false := by decide +kernel
  go_enter Tryz.func61, Tryz.ntmps61
  have sc := scan_tok _ B b r t i a e _ sE (hE.keep hF1.keep) h1 hia (by omega) hW hX hT
  rw [hfv] at sc
  have HF1 := Lib.hid hF1
  have HV := Lib.hid hv1
  have HFV := Lib.hid hfv
  clear hv1 hF1 h1 hal hW hX hfv hsz
  go_wp2_with (first | (go_at_call 69; refine sc.mono ?_; rintro en W2 ⟨k, rfl, hk, hSF⟩; refine Hid.out ?_))
  refine Lib.hid ?_
  obtain ⟨hAt, hFs⟩ := hSF
  have hv1 := HV.out
  have hF1 := HF1.out
  rw [HFV.out] at hv1 hF1
  have hv2 := hFs.oth _ _ hv1 (Ne.symm hb1) (by have := hlt.2; omega) (fun c fz e => by cases e)
  have cv : W2.cell? ⟨w.heap.size, 0, none⟩ = some .nilIface := by rw [Lib.cell_of_heap hv2]; rfl
  have hF2 := hF1.trans hFs
  have tt := tt_calls W2 B b r t a e _ sE (hE.keep hF2.keep) hAt (by omega) hEt
  have hk1 : (k == -1) = false := by simpa using hk
  have HF2 := Lib.hid hF2
  clear hv1 hF1 hFs hv2 hAt hF2
  go_wp2_with (first | (go_at_call 70; refine tt.mono ?_; rintro en W3 ⟨rfl, hA3, hF3⟩))
  go_ret2
  exact ⟨rfl, ⟨_, hA3.at0⟩, HF2.out.trans hF3⟩

/-- wktUnexpectedEOF holds a text. -/
def EofV (w : World) : Prop := ∃ x : ByteArray, w.cell? ⟨1, 0, none⟩ = some (.string x)

set_option maxRecDepth 100000 in
set_option maxHeartbeats 1600000 in
theorem lx_eof (w : World) (B b r : Nat) (t : ByteArray) (i : Nat) (hE : En w B t) (hEv : EofV w) (h : Lx w B b r t i sE) (hia : i ≤ t.size)
    (hW : ∀ j, i ≤ j → j < t.size → isW (chA t j) = true) :
    Calls Tryz.prog 61 #[.pointer (some ⟨b, 0, none⟩)] w fun en w' => (∃ v, en = .returned (.tuple #[.string sE, .iface 138 v])) ∧ Fr B b r w w' := by
  obtain ⟨er, h⟩ := h
  have c := h.c_pk
  have hB := h.Bb
  have hlt := h.lt
  obtain ⟨fv, hfv⟩ : ∃ fv, fv = Value.func (Fn.func 68) #[] #[.pointer (some ⟨w.heap.size, 0, none⟩)] := ⟨_, rfl⟩
  have hsz : (w.setCell ⟨b, 1039, none⟩ fv).heap.size = w.heap.size := by simp [World.setCell]
  have hal : Below (w.setCell ⟨b, 1039, none⟩ fv).heap.size (w.setCell ⟨b, 1039, none⟩ fv) ((w.setCell ⟨b, 1039, none⟩ fv).alloc (.cells #[.nilIface] 43)) := (Below.refl _ _).alloc (Nat.le_refl _) _
  have h1 := (h.put_er fv).old hal
  have hF1 : Fr B b r w ((w.setCell ⟨b, 1039, none⟩ fv).alloc (.cells #[.nilIface] 43)) := ((Fr.refl B b r w).setCell (p := ⟨b, 1039, none⟩) (Or.inl rfl) hB fv).trans (Fr.of_below hal (h.put_er fv).BW)
  have hv1 : ((w.setCell ⟨b, 1039, none⟩ fv).alloc (.cells #[.nilIface] 43)).heap[w.heap.size]? = some (.cells #[.nilIface] 43 (0, 0)) := by rw [← hsz]; exact heap_alloc_new _ _
  have c3w := h.c_er
  have z3w := h.fz 1039
  have hb1 : ¬ b = w.heap.size := by omega
  have hb2 : ¬ w.heap.size = b := by omega
  have hb3 := hlt.1
  have hpe : (!sE.toList.isEmpty) = false := by decide +kernel
  have hX : isW (chA t t.size) = false := by rw [chA_eof (Nat.le_refl _)]; decide
  have sc := scan_eof _ B b r t i t.size _ sE (hE.keep hF1.keep) h1 hia (Nat.le_refl _) hW hX (Nat.le_refl _)
  rw [hfv] at sc
  have HF1 := Lib.hid hF1
  have HV := Lib.hid hv1
  have HFV := Lib.hid hfv
  clear hv1 hF1 h1 hal hW hX hfv hsz
  go_enter Tryz.func61, Tryz.ntmps61
  go_wp2_with (first | (go_at_call 69; refine sc.mono ?_; rintro en W2 ⟨rfl, hFs⟩; refine Hid.out ?_))
  refine Lib.hid ?_
  have hv1 := HV.out
  have hF1 := HF1.out
  rw [HFV.out] at hv1 hF1
  have hv2 := hFs.oth _ _ hv1 (Ne.symm hb1) (by have := hlt.2; omega) (fun c fz e => by cases e)
  have cv : W2.cell? ⟨w.heap.size, 0, none⟩ = some .nilIface := by rw [Lib.cell_of_heap hv2]; rfl
  have hF2 := hF1.trans hFs
  obtain ⟨x, hx⟩ := hEv
  have cx : W2.cell? ⟨1, 0, none⟩ = some (.string x) := hF2.keep.cell hx (by have := hE.hB; show ¬ B ≤ 1; omega)
  have HF2 := Lib.hid hF2
  clear hv1 hF1 hFs hv2 hF2 hx
  go_wp2_with (fail)
  go_quiet (fail)
  go_wp2_with (fail)
  go_ret2
  exact ⟨⟨_, rfl⟩, HF2.out.drewN _⟩

/-! ### peek -/
set_option maxRecDepth 100000 in
theorem pe_peeked (w : World) (B b r : Nat) (t : ByteArray) (i : Nat) (pk : ByteArray) (h : Lx w B b r t i pk) (hp : (!pk.toList.isEmpty) = true) :
    Calls Tryz.prog 63 #[.pointer (some ⟨b, 0, none⟩)] w fun en w' => en = .returned (.tuple #[.string pk, .nilIface]) ∧ w = w' := by
  obtain ⟨er, h⟩ := h
  have c := h.c_pk
  go_enter Tryz.func63, Tryz.ntmps63
  go_wp2_with (fail)
  go_ret2
  exact ⟨rfl, rfl⟩

set_option maxRecDepth 100000 in
/-- peek, by what next answers. -/
theorem pe_tok (w : World) (B b r : Nat) (t : ByteArray) (i e : Nat) (s : ByteArray) (h : Lx w B b r t i sE)
    (hn : Calls Tryz.prog 61 #[.pointer (some ⟨b, 0, none⟩)] w fun en w' => en = .returned (.tuple #[.string s, .nilIface]) ∧ Lx w' B b r t e sE ∧ Fr B b r w w') :
    Calls Tryz.prog 63 #[.pointer (some ⟨b, 0, none⟩)] w fun en w' => en = .returned (.tuple #[.string s, .nilIface]) ∧ Lx w' B b r t e s ∧ Fr B b r w w' := by
  obtain ⟨er, h⟩ := h
  have c := h.c_pk
  have hB := h.Bb
  have hpe : (!sE.toList.isEmpty) = false := by decide +kernel
  go_enter Tryz.func63, Tryz.ntmps63
  go_wp2_with (first | (go_at_call 61; refine hn.mono ?_; rintro en W2 ⟨rfl, hSF⟩; refine Hid.out ?_))
  refine Lib.hid ?_
  obtain ⟨⟨er2, hL2⟩, hF2⟩ := hSF
  have c2 := hL2.c_pk
  have z2 := hL2.fz 1048
  go_wp2_with (fail)
  go_ret2
  exact ⟨rfl, ⟨er2, hL2.put_pk s⟩, hF2.setCell (p := ⟨b, 1048, none⟩) (Or.inl rfl) hB _⟩

set_option maxRecDepth 100000 in
theorem pe_err (w : World) (B b r : Nat) (t : ByteArray) (i : Nat) (h : Lx w B b r t i sE)
    (hn : Calls Tryz.prog 61 #[.pointer (some ⟨b, 0, none⟩)] w fun en w' => (∃ v, en = .returned (.tuple #[.string sE, .iface 138 v])) ∧ Fr B b r w w') :
    Calls Tryz.prog 63 #[.pointer (some ⟨b, 0, none⟩)] w fun en w' => (∃ v, en = .returned (.tuple #[.string sE, .iface 138 v])) ∧ Fr B b r w w' := by
  obtain ⟨er, h⟩ := h
  have c := h.c_pk
  have hpe : (!sE.toList.isEmpty) = false := by decide +kernel
  go_enter Tryz.func63, Tryz.ntmps63
  go_wp2_with (first | (go_at_call 61; refine hn.mono ?_; rintro en W2 ⟨⟨v, rfl⟩, hF⟩))
  go_ret2
  exact ⟨⟨_, rfl⟩, hF⟩

end Go.Proofs.YtlckfiflfkbofaaGreatDoor

/- The lexer over the list of the text's tokens. -/
namespace Go.Proofs.YtlckfiflfkbofaaGreatDoor
open Go.RowKit

/-- The tokens from place i on, as the scanner cuts them. -/
inductive Rem (t : ByteArray) : Nat → List Tok → Prop
  | nil {i : Nat} (hi : i ≤ t.size) (hW : ∀ j, i ≤ j → j < t.size → isW (chA t j) = true) : Rem t i []
  | cons {i a e : Nat} {k : Tok} {l : List Tok} (hia : i ≤ a) (hae : a < e) (hW : ∀ j, i ≤ j → j < a → isW (chA t j) = true) (hX : isW (chA t a) = false) (hT : TokC t a e) (hs : k.s = tokS t a e)
      (hne : (!k.s.toList.isEmpty) = true) (h : Rem t e l) : Rem t i (k :: l)

/-- The lexer with the tokens l ahead of it. -/
def PS (w : World) (B b r : Nat) (t : ByteArray) (l : List Tok) : Prop :=
  (∃ i, Lx w B b r t i sE ∧ Rem t i l) ∨ ∃ i k l', l = k :: l' ∧ Lx w B b r t i k.s ∧ Rem t i l' ∧ (!k.s.toList.isEmpty) = true

def ErrT (en : Ending) : Prop := ∃ v, en = .returned (.tuple #[.string sE, .iface 138 v])

section
variable {w : World} {B b r : Nat} {t : ByteArray} {k : Tok} {l : List Tok}

theorem next_cons (hE : En w B t) (h : PS w B b r t (k :: l)) :
    Calls Tryz.prog 61 #[.pointer (some ⟨b, 0, none⟩)] w fun en w' => en = .returned (.tuple #[.string k.s, .nilIface]) ∧ PS w' B b r t l ∧ Fr B b r w w' := by
  rcases h with ⟨i, hL, hR⟩ | ⟨i, k', l', he, hL, hR, hne⟩
  · cases hR with
    | cons hia hae hW hX hT hs hne hR =>
      refine (lx_tok w B b r t i _ _ hE hL hia hae hW hX hT).mono ?_
      rintro en w' ⟨h1, h2, h3⟩
      rw [← hs] at h1
      exact ⟨h1, Or.inl ⟨_, h2, hR⟩, h3⟩
  · cases he
    refine (lx_peeked w B b r t i _ hL hne).mono ?_
    rintro en w' ⟨h1, h2, h3⟩
    exact ⟨h1, Or.inl ⟨_, h2, hR⟩, h3⟩

theorem next_nil (hE : En w B t) (hEv : EofV w) (h : PS w B b r t []) :
    Calls Tryz.prog 61 #[.pointer (some ⟨b, 0, none⟩)] w fun en w' => ErrT en ∧ Fr B b r w w' := by
  rcases h with ⟨i, hL, hR⟩ | ⟨i, k', l', he, _⟩
  · cases hR with
    | nil hi hW => exact lx_eof w B b r t i hE hEv hL hi hW
  · cases he

theorem peek_cons (hE : En w B t) (h : PS w B b r t (k :: l)) :
    Calls Tryz.prog 63 #[.pointer (some ⟨b, 0, none⟩)] w fun en w' => en = .returned (.tuple #[.string k.s, .nilIface]) ∧ PS w' B b r t (k :: l) ∧ Fr B b r w w' := by
  rcases h with ⟨i, hL, hR⟩ | ⟨i, k', l', he, hL, hR, hne⟩
  · cases hR with
    | cons hia hae hW hX hT hs hne hR =>
      have hn := lx_tok w B b r t i _ _ hE hL hia hae hW hX hT
      rw [← hs] at hn
      refine (pe_tok w B b r t i _ _ hL hn).mono ?_
      rintro en w' ⟨h1, h2, h3⟩
      exact ⟨h1, Or.inr ⟨_, k, l, rfl, h2, hR, hne⟩, h3⟩
  · cases he
    refine (pe_peeked w B b r t i _ hL hne).mono ?_
    rintro en w' ⟨h1, rfl⟩
    exact ⟨h1, Or.inr ⟨i, k, l, rfl, hL, hR, hne⟩, Fr.refl _ _ _ _⟩

theorem peek_nil (hE : En w B t) (hEv : EofV w) (h : PS w B b r t []) :
    Calls Tryz.prog 63 #[.pointer (some ⟨b, 0, none⟩)] w fun en w' => ErrT en ∧ Fr B b r w w' := by
  have hn := next_nil hE hEv h
  rcases h with ⟨i, hL, hR⟩ | ⟨i, k', l', he, _⟩
  · exact pe_err w B b r t i hL hn
  · cases he
end

end Go.Proofs.YtlckfiflfkbofaaGreatDoor

/- The parser's small steps. -/
namespace Go.Proofs.YtlckfiflfkbofaaGreatDoor
open Go.RowKit

theorem wbg_calls (x y : ByteArray) (w : World) : Calls Tryz.prog 62 #[.string x, .string y] w fun en w' => (∃ v, en = .returned (.iface 138 v)) ∧ w = w' := by
  go_enter Tryz.func62, Tryz.ntmps62
  go_wp2_with (fail)
  go_ret
  exact ⟨⟨_, rfl⟩, rfl⟩

def lEMPTY : List UInt8 := [69, 77, 80, 84, 89]
/-- An error alone. -/
def ErrO (en : Ending) : Prop := ∃ v, en = .returned (.iface 138 v)

section
variable {w : World} {B b r : Nat} {t : ByteArray} {k : Tok} {l : List Tok}

set_option maxRecDepth 100000 in
theorem es_empty (hE : En w B t) (h : PS w B b r t (k :: l)) (hk : k.s.toList = [69, 77, 80, 84, 89]) :
    Calls Tryz.prog 43 #[.pointer (some ⟨b, 0, none⟩)] w fun en w' => en = .returned (.tuple #[.string k.s, .nilIface]) ∧ PS w' B b r t l ∧ Fr B b r w w' := by
  have hn := next_cons hE h
  go_enter Tryz.func43, Tryz.ntmps43
  go_wp2_with (first | (go_at_call 61; refine hn.mono ?_; rintro en w2 ⟨rfl, hP, hF⟩))
  go_ret2
  exact ⟨rfl, hP, hF⟩

set_option maxRecDepth 100000 in
theorem es_paren (hE : En w B t) (h : PS w B b r t (k :: l)) (hk : k.s.toList = [40]) :
    Calls Tryz.prog 43 #[.pointer (some ⟨b, 0, none⟩)] w fun en w' => en = .returned (.tuple #[.string k.s, .nilIface]) ∧ PS w' B b r t l ∧ Fr B b r w w' := by
  have hn := next_cons hE h
  go_enter Tryz.func43, Tryz.ntmps43
  go_wp2_with (first | (go_at_call 61; refine hn.mono ?_; rintro en w2 ⟨rfl, hP, hF⟩))
  go_ret2
  exact ⟨rfl, hP, hF⟩

set_option maxRecDepth 100000 in
theorem es_bad (hE : En w B t) (h : PS w B b r t (k :: l)) (hk0 : (k.s.toList == [69, 77, 80, 84, 89]) = false) (hk1 : (k.s.toList == [40]) = false) :
    Calls Tryz.prog 43 #[.pointer (some ⟨b, 0, none⟩)] w fun en w' => ErrT en ∧ Fr B b r w w' := by
  have hn := next_cons hE h
  have hg := fun x y w => wbg_calls x y w
  go_enter Tryz.func43, Tryz.ntmps43
  go_wp2_with (first | (go_at_call 61; refine hn.mono ?_; rintro en w2 ⟨rfl, hP, hF⟩) | (go_at_call 62; refine (hg _ _ _).mono ?_; rintro en w' ⟨⟨v, rfl⟩, rfl⟩))
  go_ret2
  exact ⟨⟨_, rfl⟩, hF⟩

set_option maxRecDepth 100000 in
theorem es_nil (hE : En w B t) (hEv : EofV w) (h : PS w B b r t []) :
    Calls Tryz.prog 43 #[.pointer (some ⟨b, 0, none⟩)] w fun en w' => ErrT en ∧ Fr B b r w w' := by
  have hn := next_nil hE hEv h
  go_enter Tryz.func43, Tryz.ntmps43
  go_wp2_with (first | (go_at_call 61; refine hn.mono ?_; rintro en w2 ⟨⟨v, rfl⟩, hF⟩))
  go_ret2
  exact ⟨⟨_, rfl⟩, hF⟩

set_option maxRecDepth 100000 in
theorem cr_comma (hE : En w B t) (h : PS w B b r t (k :: l)) (hk : k.s.toList = [44]) :
    Calls Tryz.prog 47 #[.pointer (some ⟨b, 0, none⟩)] w fun en w' => en = .returned (.tuple #[.string k.s, .nilIface]) ∧ PS w' B b r t l ∧ Fr B b r w w' := by
  have hn := next_cons hE h
  go_enter Tryz.func47, Tryz.ntmps47
  go_wp2_with (first | (go_at_call 61; refine hn.mono ?_; rintro en w2 ⟨rfl, hP, hF⟩))
  go_ret2
  exact ⟨rfl, hP, hF⟩

set_option maxRecDepth 100000 in
theorem cr_right (hE : En w B t) (h : PS w B b r t (k :: l)) (hk : k.s.toList = [41]) :
    Calls Tryz.prog 47 #[.pointer (some ⟨b, 0, none⟩)] w fun en w' => en = .returned (.tuple #[.string k.s, .nilIface]) ∧ PS w' B b r t l ∧ Fr B b r w w' := by
  have hn := next_cons hE h
  go_enter Tryz.func47, Tryz.ntmps47
  go_wp2_with (first | (go_at_call 61; refine hn.mono ?_; rintro en w2 ⟨rfl, hP, hF⟩))
  go_ret2
  exact ⟨rfl, hP, hF⟩

set_option maxRecDepth 100000 in
theorem cr_bad (hE : En w B t) (h : PS w B b r t (k :: l)) (hk0 : (k.s.toList == [41]) = false) (hk1 : (k.s.toList == [44]) = false) :
    Calls Tryz.prog 47 #[.pointer (some ⟨b, 0, none⟩)] w fun en w' => ErrT en ∧ Fr B b r w w' := by
  have hn := next_cons hE h
  have hg := fun x y w => wbg_calls x y w
  go_enter Tryz.func47, Tryz.ntmps47
  go_wp2_with (first | (go_at_call 61; refine hn.mono ?_; rintro en w2 ⟨rfl, hP, hF⟩) | (go_at_call 62; refine (hg _ _ _).mono ?_; rintro en w' ⟨⟨v, rfl⟩, rfl⟩))
  go_ret2
  exact ⟨⟨_, rfl⟩, hF⟩

set_option maxRecDepth 100000 in
theorem cr_nil (hE : En w B t) (hEv : EofV w) (h : PS w B b r t []) :
    Calls Tryz.prog 47 #[.pointer (some ⟨b, 0, none⟩)] w fun en w' => ErrT en ∧ Fr B b r w w' := by
  have hn := next_nil hE hEv h
  go_enter Tryz.func47, Tryz.ntmps47
  go_wp2_with (first | (go_at_call 61; refine hn.mono ?_; rintro en w2 ⟨⟨v, rfl⟩, hF⟩))
  go_ret2
  exact ⟨⟨_, rfl⟩, hF⟩

set_option maxRecDepth 100000 in
theorem rp_ok (hE : En w B t) (h : PS w B b r t (k :: l)) (hk : k.s.toList = [41]) :
    Calls Tryz.prog 65 #[.pointer (some ⟨b, 0, none⟩)] w fun en w' => en = .returned (.nilIface) ∧ PS w' B b r t l ∧ Fr B b r w w' := by
  have hn := next_cons hE h
  go_enter Tryz.func65, Tryz.ntmps65
  go_wp2_with (first | (go_at_call 61; refine hn.mono ?_; rintro en w2 ⟨rfl, hP, hF⟩))
  go_ret
  exact ⟨rfl, hP, hF⟩

set_option maxRecDepth 100000 in
theorem rp_bad (hE : En w B t) (h : PS w B b r t (k :: l)) (hk0 : (k.s.toList == [41]) = false) :
    Calls Tryz.prog 65 #[.pointer (some ⟨b, 0, none⟩)] w fun en w' => ErrO en ∧ Fr B b r w w' := by
  have hn := next_cons hE h
  have hg := fun x y w => wbg_calls x y w
  go_enter Tryz.func65, Tryz.ntmps65
  go_wp2_with (first | (go_at_call 61; refine hn.mono ?_; rintro en w2 ⟨rfl, hP, hF⟩) | (go_at_call 62; refine (hg _ _ _).mono ?_; rintro en w' ⟨⟨v, rfl⟩, rfl⟩))
  go_ret
  exact ⟨⟨_, rfl⟩, hF⟩

set_option maxRecDepth 100000 in
theorem rp_nil (hE : En w B t) (hEv : EofV w) (h : PS w B b r t []) :
    Calls Tryz.prog 65 #[.pointer (some ⟨b, 0, none⟩)] w fun en w' => ErrO en ∧ Fr B b r w w' := by
  have hn := next_nil hE hEv h
  go_enter Tryz.func65, Tryz.ntmps65
  go_wp2_with (first | (go_at_call 61; refine hn.mono ?_; rintro en w2 ⟨⟨v, rfl⟩, hF⟩))
  go_ret
  exact ⟨⟨_, rfl⟩, hF⟩

end

end Go.Proofs.YtlckfiflfkbofaaGreatDoor
