/- The scanner's block in memory: its fields, the bytes.Buffer in it, and its reader. The scanner's fields, one by one. The scanner's next where the character stands in its buffer. (*strings.Reader).Read into the scanner's buffer. (*bytes.Buffer).Write of bytes that lie in the very block in which the buffer lies. The scanner's next where its buffer is used up. The scanner's small functions over characters: lower, isDecimal, isIdentRune. Part 22 of 51 of the proof that FnMultiPointBody returns true for every text and every type of coordinates, where the listed variables hold what the text of the program lays. -/
import Derived.BigRegion
import Derived.LoopN
import Derived.Deep.RegionWith
import Derived.Test.YtlckfiflfkbofaaGreatDoorM01
import Derived.Test.YtlckfiflfkbofaaGreatDoorM18
set_option linter.all false

/- The scanner's block in memory: its fields, the bytes.Buffer in it, and its reader. -/
namespace Go.Proofs.YtlckfiflfkbofaaGreatDoor
open Go.RowKit

structure SS where
  r : Nat
  sb : Nat → Int
  sp : Nat
  se : Nat
  off : Nat
  line : Int
  col : Int
  lll : Int
  lc : Nat
  tp : Int
  te : Int
  ch : Int
  er : Value
  ec : Int
  fn : ByteArray
  po : Int
  pl : Int
  pc : Int
  pk : ByteArray
  bs : List UInt8
  rd : Nat
  pr : Int

def SS.f (s : SS) (i : Nat) : Value :=
  if i = 0 then .iface 123 (.pointer (some ⟨s.r, 0, none⟩))
  else if i ≤ 1025 then .int .u8 (s.sb (i - 1))
  else if i = 1026 then .int .i64 s.sp
  else if i = 1027 then .int .i64 s.se
  else if i = 1028 then .int .i64 s.off
  else if i = 1029 then .int .i64 s.line
  else if i = 1030 then .int .i64 s.col
  else if i = 1031 then .int .i64 s.lll
  else if i = 1032 then .int .i64 s.lc
  else if i = 1036 then .int .i64 s.tp
  else if i = 1037 then .int .i64 s.te
  else if i = 1038 then .int .i32 s.ch
  else if i = 1039 then s.er
  else if i = 1040 then .int .i64 s.ec
  else if i = 1041 then .int .u64 28
  else if i = 1042 then .int .u64 4294977024
  else if i = 1043 then .nilFunc
  else if i = 1044 then .string s.fn
  else if i = 1045 then .int .i64 s.po
  else if i = 1046 then .int .i64 s.pl
  else if i = 1047 then .int .i64 s.pc
  else if i = 1048 then .string s.pk
  else .nilIface

def SS.R (s : SS) : Nat → Option Value := fun i => if i < 1049 then some (s.f i) else none

/-- The scanner s in block b, the reader of t in block s.r. -/
structure Sc (w : World) (B b : Nat) (t : ByteArray) (s : SS) : Prop where
  buf : LibA.IsBuffer 104 s.R 5 B b 1033 (Lib.byteCells s.bs) w
  rdr : w.heap[s.r]? = some (.cells #[.string t, .int .i64 s.rd, .int .i64 s.pr] 135 (0, 0))
  rB : B ≤ s.r
  BW : B ≤ w.heap.size

section
variable {w w' : World} {B b : Nat} {t : ByteArray} {s s' : SS}

theorem Sc.c (h : Sc w B b t s) (i : Nat) (hi : i < 1033 ∨ 1036 ≤ i) (hi2 : i < 1049) : w.cell? ⟨b, i, none⟩ = some (s.f i) := (h.buf.rest i (by omega)).trans (if_pos hi2)
theorem Sc.fz (h : Sc w B b t s) (i : Nat) : w.frozen? ⟨b, i, none⟩ = false := h.buf.notFrozen i
theorem SS.f_sb (s : SS) {j : Nat} (h : j < 1025) : s.f (1 + j) = .int .u8 (s.sb j) := by
  unfold SS.f; rw [if_neg (by omega), if_pos (by omega), Nat.add_sub_cancel_left]
theorem Sc.sb (h : Sc w B b t s) {j : Nat} (hj : j < 1025) : w.cell? ⟨b, 1 + j, none⟩ = some (.int .u8 (s.sb j)) := (h.c (1 + j) (by omega) (by omega)).trans (by rw [s.f_sb hj])
theorem Sc.lt (h : Sc w B b t s) : b < w.heap.size := h.buf.lt
theorem Sc.Bb (h : Sc w B b t s) : B ≤ b := h.buf.1
theorem Sc.rlt (h : Sc w B b t s) : s.r < w.heap.size := (Array.getElem?_eq_some_iff.1 h.rdr).1
theorem Sc.rb (h : Sc w B b t s) : s.r ≠ b := by
  intro e
  obtain ⟨_, v, lr, ⟨cs, hb, _⟩, _⟩ := h.buf
  have := h.rdr
  rw [e, hb] at this
  cases this

/-- A store into one of the scanner's own fields. -/
theorem Sc.put (h : Sc w B b t s) (i : Nat) (hi : i < 1033 ∨ 1036 ≤ i) (hi2 : i < 1049) (v : Value) (hr : s'.r = s.r) (hbs : s'.bs = s.bs) (hrd : s'.rd = s.rd) (hpr : s'.pr = s.pr)
    (hf : ∀ j, j < 1049 → s'.f j = if j = i then v else s.f j) : Sc (w.setCell ⟨b, i, none⟩ v) B b t s' := by
  have h1 := h.buf.setOther i (by omega) (old := s.f i) (if_pos hi2) v
  refine ⟨?_, ?_, by rw [hr]; exact h.rB, by simpa [World.setCell] using h.BW⟩
  · have e : s'.R = (fun j => if j = i then some v else s.R j) := by
      funext j
      unfold SS.R
      by_cases hj : j < 1049
      · rw [if_pos hj, hf j hj, if_pos hj]; split <;> rfl
      · rw [if_neg hj, if_neg (by omega), if_neg hj]
    rw [e, hbs]
    exact h1
  · rw [hr, hrd, hpr, Below.heap_setCell _ _ _ _ h.rb]
    exact h.rdr

theorem Sc.drew (h : Sc w B b t s) : Sc w.drew B b t s := ⟨h.buf.drew, h.rdr, h.rB, h.BW⟩
theorem Sc.drewN (h : Sc w B b t s) (n : Nat) : Sc (w.drewN n) B b t s := ⟨h.buf.drewN n, h.rdr, h.rB, h.BW⟩
theorem Sc.old (h : Sc w B b t s) (hb : Below w.heap.size w w') : Sc w' B b t s := ⟨h.buf.old hb, (hb.block _ h.rlt).trans h.rdr, h.rB, Nat.le_trans h.BW hb.size⟩
theorem Sc.alloc (h : Sc w B b t s) (o : Obj) : Sc (w.alloc o) B b t s := h.old ((Below.refl _ w).alloc (Nat.le_refl _) o)

/-- What a step of the scanner leaves as it was: what lies below B, and every other block but rows of bytes. -/
structure Fr (B b r : Nat) (w w' : World) : Prop where
  bel : Below B w w'
  oth : ∀ k o, w.heap[k]? = some o → k ≠ b → k ≠ r → (∀ c fz, o ≠ .cells c 5 fz) → w'.heap[k]? = some o

theorem Fr.refl (B b r : Nat) (w : World) : Fr B b r w w := ⟨Below.refl _ _, fun _ _ h _ _ _ => h⟩
theorem Fr.trans {r : Nat} {w'' : World} (h : Fr B b r w w') (k : Fr B b r w' w'') : Fr B b r w w'' :=
  ⟨h.bel.trans k.bel, fun i o hi hb hr ho => k.oth i o (h.oth i o hi hb hr ho) hb hr ho⟩
theorem Fr.drew {r : Nat} (h : Fr B b r w w') : Fr B b r w w'.drew := ⟨h.bel.drew, h.oth⟩
theorem Fr.drewN {r : Nat} (h : Fr B b r w w') (n : Nat) : Fr B b r w (w'.drewN n) := ⟨⟨h.bel.os, h.bel.tape, h.bel.output, h.bel.size, h.bel.block⟩, h.oth⟩
theorem Fr.of_kept {r : Nat} (h1 : Below B w w') (h2 : Lib.OthersKept 5 (some b) w w') : Fr B b r w w' := ⟨h1, fun k o hk hb _ ho => h2 k o hk (fun e => hb (Option.some.inj e)) ho⟩
theorem Fr.setCell {r : Nat} (h : Fr B b r w w') {p : Addr} (hp : p.block = b ∨ p.block = r) (hB : B ≤ p.block) (v : Value) : Fr B b r w (w'.setCell p v) :=
  ⟨h.bel.setCell hB v, fun k o hk hb hr ho => by rw [Below.heap_setCell _ _ _ _ (fun e => by rcases hp with hp | hp <;> omega)]; exact h.oth k o hk hb hr ho⟩
theorem Fr.of_below {r : Nat} (h : Below w.heap.size w w') (hB : B ≤ w.heap.size) : Fr B b r w w' :=
  ⟨⟨h.os, h.tape, h.output, h.size, fun k hk => h.block k (by omega)⟩, fun k o hk _ _ _ => (h.block k (Array.getElem?_eq_some_iff.1 hk).1).trans hk⟩
theorem Fr.keep {r : Nat} (h : Fr B b r w w') : Keep (fun k => B ≤ k) w w' := ⟨h.bel.os, h.bel.tape, h.bel.output, h.bel.size, fun k hk hs => h.bel.block k (by omega)⟩
end

end Go.Proofs.YtlckfiflfkbofaaGreatDoor

/- The scanner's fields, one by one. -/
namespace Go.Proofs.YtlckfiflfkbofaaGreatDoor
open Go.RowKit

section
variable {w w' : World} {B b : Nat} {t : ByteArray} {s s' : SS}
theorem Sc.put_sp (h : Sc w B b t s) (x : Nat) : Sc (w.setCell ⟨b, 1026, none⟩ (.int .i64 (x : Nat))) B b t { s with sp := x } :=
  h.put 1026 (by omega) (by omega) _ rfl rfl rfl rfl (by
    intro j hj
    by_cases e : j = 1026
    · subst e; rfl
    · rw [if_neg e]; simp only [SS.f, if_neg e])
theorem Sc.c_sp (h : Sc w B b t s) : w.cell? ⟨b, 1026, none⟩ = some (.int .i64 (s.sp : Nat)) := h.c 1026 (by omega) (by omega)
theorem Sc.put_se (h : Sc w B b t s) (x : Nat) : Sc (w.setCell ⟨b, 1027, none⟩ (.int .i64 (x : Nat))) B b t { s with se := x } :=
  h.put 1027 (by omega) (by omega) _ rfl rfl rfl rfl (by
    intro j hj
    by_cases e : j = 1027
    · subst e; rfl
    · rw [if_neg e]; simp only [SS.f, if_neg e])
theorem Sc.c_se (h : Sc w B b t s) : w.cell? ⟨b, 1027, none⟩ = some (.int .i64 (s.se : Nat)) := h.c 1027 (by omega) (by omega)
theorem Sc.put_off (h : Sc w B b t s) (x : Nat) : Sc (w.setCell ⟨b, 1028, none⟩ (.int .i64 (x : Nat))) B b t { s with off := x } :=
  h.put 1028 (by omega) (by omega) _ rfl rfl rfl rfl (by
    intro j hj
    by_cases e : j = 1028
    · subst e; rfl
    · rw [if_neg e]; simp only [SS.f, if_neg e])
theorem Sc.c_off (h : Sc w B b t s) : w.cell? ⟨b, 1028, none⟩ = some (.int .i64 (s.off : Nat)) := h.c 1028 (by omega) (by omega)
theorem Sc.put_line (h : Sc w B b t s) (x : Int) : Sc (w.setCell ⟨b, 1029, none⟩ (.int .i64 x)) B b t { s with line := x } :=
  h.put 1029 (by omega) (by omega) _ rfl rfl rfl rfl (by
    intro j hj
    by_cases e : j = 1029
    · subst e; rfl
    · rw [if_neg e]; simp only [SS.f, if_neg e])
theorem Sc.c_line (h : Sc w B b t s) : w.cell? ⟨b, 1029, none⟩ = some (.int .i64 s.line) := h.c 1029 (by omega) (by omega)
theorem Sc.put_col (h : Sc w B b t s) (x : Int) : Sc (w.setCell ⟨b, 1030, none⟩ (.int .i64 x)) B b t { s with col := x } :=
  h.put 1030 (by omega) (by omega) _ rfl rfl rfl rfl (by
    intro j hj
    by_cases e : j = 1030
    · subst e; rfl
    · rw [if_neg e]; simp only [SS.f, if_neg e])
theorem Sc.c_col (h : Sc w B b t s) : w.cell? ⟨b, 1030, none⟩ = some (.int .i64 s.col) := h.c 1030 (by omega) (by omega)
theorem Sc.put_lll (h : Sc w B b t s) (x : Int) : Sc (w.setCell ⟨b, 1031, none⟩ (.int .i64 x)) B b t { s with lll := x } :=
  h.put 1031 (by omega) (by omega) _ rfl rfl rfl rfl (by
    intro j hj
    by_cases e : j = 1031
    · subst e; rfl
    · rw [if_neg e]; simp only [SS.f, if_neg e])
theorem Sc.c_lll (h : Sc w B b t s) : w.cell? ⟨b, 1031, none⟩ = some (.int .i64 s.lll) := h.c 1031 (by omega) (by omega)
theorem Sc.put_lc (h : Sc w B b t s) (x : Nat) : Sc (w.setCell ⟨b, 1032, none⟩ (.int .i64 (x : Nat))) B b t { s with lc := x } :=
  h.put 1032 (by omega) (by omega) _ rfl rfl rfl rfl (by
    intro j hj
    by_cases e : j = 1032
    · subst e; rfl
    · rw [if_neg e]; simp only [SS.f, if_neg e])
theorem Sc.c_lc (h : Sc w B b t s) : w.cell? ⟨b, 1032, none⟩ = some (.int .i64 (s.lc : Nat)) := h.c 1032 (by omega) (by omega)
theorem Sc.put_tp (h : Sc w B b t s) (x : Int) : Sc (w.setCell ⟨b, 1036, none⟩ (.int .i64 x)) B b t { s with tp := x } :=
  h.put 1036 (by omega) (by omega) _ rfl rfl rfl rfl (by
    intro j hj
    by_cases e : j = 1036
    · subst e; rfl
    · rw [if_neg e]; simp only [SS.f, if_neg e])
theorem Sc.c_tp (h : Sc w B b t s) : w.cell? ⟨b, 1036, none⟩ = some (.int .i64 s.tp) := h.c 1036 (by omega) (by omega)
theorem Sc.put_te (h : Sc w B b t s) (x : Int) : Sc (w.setCell ⟨b, 1037, none⟩ (.int .i64 x)) B b t { s with te := x } :=
  h.put 1037 (by omega) (by omega) _ rfl rfl rfl rfl (by
    intro j hj
    by_cases e : j = 1037
    · subst e; rfl
    · rw [if_neg e]; simp only [SS.f, if_neg e])
theorem Sc.c_te (h : Sc w B b t s) : w.cell? ⟨b, 1037, none⟩ = some (.int .i64 s.te) := h.c 1037 (by omega) (by omega)
theorem Sc.put_ch (h : Sc w B b t s) (x : Int) : Sc (w.setCell ⟨b, 1038, none⟩ (.int .i32 x)) B b t { s with ch := x } :=
  h.put 1038 (by omega) (by omega) _ rfl rfl rfl rfl (by
    intro j hj
    by_cases e : j = 1038
    · subst e; rfl
    · rw [if_neg e]; simp only [SS.f, if_neg e])
theorem Sc.c_ch (h : Sc w B b t s) : w.cell? ⟨b, 1038, none⟩ = some (.int .i32 s.ch) := h.c 1038 (by omega) (by omega)
theorem Sc.put_er (h : Sc w B b t s) (x : Value) : Sc (w.setCell ⟨b, 1039, none⟩ (x)) B b t { s with er := x } :=
  h.put 1039 (by omega) (by omega) _ rfl rfl rfl rfl (by
    intro j hj
    by_cases e : j = 1039
    · subst e; rfl
    · rw [if_neg e]; simp only [SS.f, if_neg e])
theorem Sc.c_er (h : Sc w B b t s) : w.cell? ⟨b, 1039, none⟩ = some (s.er) := h.c 1039 (by omega) (by omega)
theorem Sc.put_po (h : Sc w B b t s) (x : Int) : Sc (w.setCell ⟨b, 1045, none⟩ (.int .i64 x)) B b t { s with po := x } :=
  h.put 1045 (by omega) (by omega) _ rfl rfl rfl rfl (by
    intro j hj
    by_cases e : j = 1045
    · subst e; rfl
    · rw [if_neg e]; simp only [SS.f, if_neg e])
theorem Sc.c_po (h : Sc w B b t s) : w.cell? ⟨b, 1045, none⟩ = some (.int .i64 s.po) := h.c 1045 (by omega) (by omega)
theorem Sc.put_pl (h : Sc w B b t s) (x : Int) : Sc (w.setCell ⟨b, 1046, none⟩ (.int .i64 x)) B b t { s with pl := x } :=
  h.put 1046 (by omega) (by omega) _ rfl rfl rfl rfl (by
    intro j hj
    by_cases e : j = 1046
    · subst e; rfl
    · rw [if_neg e]; simp only [SS.f, if_neg e])
theorem Sc.c_pl (h : Sc w B b t s) : w.cell? ⟨b, 1046, none⟩ = some (.int .i64 s.pl) := h.c 1046 (by omega) (by omega)
theorem Sc.put_pc (h : Sc w B b t s) (x : Int) : Sc (w.setCell ⟨b, 1047, none⟩ (.int .i64 x)) B b t { s with pc := x } :=
  h.put 1047 (by omega) (by omega) _ rfl rfl rfl rfl (by
    intro j hj
    by_cases e : j = 1047
    · subst e; rfl
    · rw [if_neg e]; simp only [SS.f, if_neg e])
theorem Sc.c_pc (h : Sc w B b t s) : w.cell? ⟨b, 1047, none⟩ = some (.int .i64 s.pc) := h.c 1047 (by omega) (by omega)
theorem Sc.put_pk (h : Sc w B b t s) (x : ByteArray) : Sc (w.setCell ⟨b, 1048, none⟩ (.string x)) B b t { s with pk := x } :=
  h.put 1048 (by omega) (by omega) _ rfl rfl rfl rfl (by
    intro j hj
    by_cases e : j = 1048
    · subst e; rfl
    · rw [if_neg e]; simp only [SS.f, if_neg e])
theorem Sc.c_pk (h : Sc w B b t s) : w.cell? ⟨b, 1048, none⟩ = some (.string s.pk) := h.c 1048 (by omega) (by omega)
theorem Sc.put_sb (h : Sc w B b t s) (k : Nat) (hk : k < 1025) (x : Int) : Sc (w.setCell ⟨b, 1 + k, none⟩ (.int .u8 x)) B b t { s with sb := fun j => if j = k then x else s.sb j } :=
  h.put (1 + k) (by omega) (by omega) _ rfl rfl rfl rfl (by
    intro j hj
    by_cases e : j = 1 + k
    · subst e; rw [if_pos rfl, SS.f_sb _ hk]; simp
    · rw [if_neg e]
      by_cases h0 : j = 0
      · subst h0; rfl
      · by_cases h1 : j ≤ 1025
        · unfold SS.f; rw [if_neg h0, if_pos h1, if_neg h0, if_pos h1]; dsimp only; rw [if_neg (by omega)]
        · simp only [SS.f, if_neg h0, if_neg h1])
end

end Go.Proofs.YtlckfiflfkbofaaGreatDoor

/- The scanner's next where the character stands in its buffer. -/
namespace Go.Proofs.YtlckfiflfkbofaaGreatDoor
open Go.RowKit

/-- The text's character, -1 behind its end. -/
def chA (t : ByteArray) (i : Nat) : Int := if h : i < t.size then (t[i].toNat : Int) else -1

def Asc (t : ByteArray) : Prop := ∀ i, i < t.size → 0 < chA t i ∧ chA t i < 128

/-- What the scanner's buffer says of the text. -/
structure Ok0 (t : ByteArray) (s : SS) : Prop where
  se : s.se ≤ 1024
  sp : s.sp ≤ s.se
  rd : s.rd = s.off + s.se
  sz : s.off + s.se ≤ t.size
  sb : ∀ j, j < s.se → s.sb j = chA t (s.off + j)
  st : s.sb s.se = 128
/-- What the scanner's fields say of the text. -/
structure Ok (t : ByteArray) (s : SS) : Prop extends Ok0 t s where
  lc1 : s.lc ≤ 1
  lc : s.lc ≤ s.sp

def TK0 (t : ByteArray) (s : SS) : Option Nat → Prop
  | none => s.tp = -1
  | some a => ∃ k : Nat, s.tp = k ∧ k ≤ s.sp ∧ a ≤ s.off + k ∧ s.bs = (t.data.toList.drop a).take (s.off + k - a)
/-- What is collected of the token. -/
def TK (t : ByteArray) (s : SS) : Option Nat → Prop
  | none => s.tp = -1
  | some a => ∃ k : Nat, s.tp = k ∧ k ≤ s.sp ∧ (s.lc = 1 → k < s.sp) ∧ a ≤ s.off + k ∧ s.bs = (t.data.toList.drop a).take (s.off + k - a)

theorem TK.to0 {t : ByteArray} {s : SS} {tk : Option Nat} (h : TK t s tk) : TK0 t s tk := by
  cases tk with
  | none => exact h
  | some a => obtain ⟨k, h1, h2, _, h3, h4⟩ := h; exact ⟨k, h1, h2, h3, h4⟩

/-- One step on. -/
def NxP (B b : Nat) (t : ByteArray) (tk : Option Nat) (s : SS) (w w' : World) : Prop :=
  ∃ s', Sc w' B b t s' ∧ Ok t s' ∧ TK t s' tk ∧ s'.off + s'.sp = min (s.off + s.sp + 1) t.size ∧ s'.lc = (if s.off + s.sp < t.size then 1 else 0) ∧
    s'.r = s.r ∧ s'.te = s.te ∧ s'.ch = s.ch ∧ s'.er = s.er ∧ s'.pk = s.pk ∧ Fr B b s.r w w'

theorem fast_post {w w' : World} {B b : Nat} {t : ByteArray} {s : SS} {tk : Option Nat} {line col lll : Int} (o : Ok0 t s) (k : TK0 t s tk) (hsp : s.sp < s.se) (h' : Sc w' B b t { s with sp := s.sp + 1, lc := 1, line := line, col := col, lll := lll }) (hF : Fr B b s.r w w') : NxP B b t tk s w w' := by
  have := o.sz
  refine ⟨_, h', ⟨⟨o.se, by show s.sp + 1 ≤ s.se; omega, o.rd, o.sz, o.sb, o.st⟩, Nat.le_refl _, by show 1 ≤ s.sp + 1; omega⟩, ?_, ?_, ?_, rfl, rfl, rfl, rfl, rfl, hF⟩
  · cases tk with
    | none => exact k
    | some a => obtain ⟨j, h1, h2, h3, h4⟩ := k; exact ⟨j, h1, by show j ≤ s.sp + 1; omega, fun _ => by show j < s.sp + 1; omega, h3, h4⟩
  · show s.off + (s.sp + 1) = _; omega
  · rw [if_pos (by omega)]

set_option maxRecDepth 100000 in
set_option maxHeartbeats 3200000 in
theorem nx_fast (w : World) (B b : Nat) (t : ByteArray) (s : SS) (tk : Option Nat) (h : Sc w B b t s) (o : Ok t s) (k : TK t s tk) (hA : Asc t) (hsp : s.sp < s.se) :
    Calls Tryz.prog 75 #[.pointer (some ⟨b, 0, none⟩)] w fun e w' => e = .returned (.int .i32 (chA t (s.off + s.sp))) ∧ NxP B b t tk s w w' := by
  have c1 := h.c_sp
  have hse := o.se
  have c2 := h.sb (j := s.sp) (by omega)
  rw [o.sb _ hsp] at c2
  have hx := hA (s.off + s.sp) (by have := o.sz; omega)
  generalize chA t (s.off + s.sp) = x at c2 hx ⊢
  obtain ⟨h1, h2⟩ := hx
  have c3 := h.c_lc
  have c4 := h.c_col
  have c5 := h.c_line
  have c6 := h.c_lll
  have z1 := h.fz 1026
  have z2 := h.fz 1032
  have z3 := h.fz 1030
  have z4 := h.fz 1029
  have z5 := h.fz 1031
  have e0 : (x == 0) = false := by simp; omega
  have es : ((s.sp + 1 : Nat) : Int) = (s.sp : Int) + 1 := by simp
  by_cases h10 : x = 10
  · subst h10
    go_enter Tryz.func75, Tryz.ntmps75
    go_wp2_with (fail)
    go_quiet (fail)
    go_wp2_with (fail)
    go_ret
    refine ⟨rfl, ?_⟩
    have h' := ((((((h.drewN nq).put_sp (s.sp + 1)).put_lc 1).put_col (wrap64 (s.col + 1))).put_line (wrap64 (s.line + 1))).put_lll (wrap64 (s.col + 1))).put_col 0
    rw [es] at h'
    refine fast_post o.toOk0 k.to0 hsp h' ?_
    have hB := h.Bb
    exact ((((((Fr.refl B b s.r w).drewN nq).setCell (p := ⟨b, 1026, none⟩) (Or.inl rfl) hB _).setCell (p := ⟨b, 1032, none⟩) (Or.inl rfl) hB _).setCell (p := ⟨b, 1030, none⟩) (Or.inl rfl) hB _).setCell (p := ⟨b, 1029, none⟩) (Or.inl rfl) hB _).setCell (p := ⟨b, 1031, none⟩) (Or.inl rfl) hB _ |>.setCell (p := ⟨b, 1030, none⟩) (Or.inl rfl) hB _
  · have e10 : (x == 10) = false := by simp; exact h10
    go_enter Tryz.func75, Tryz.ntmps75
    go_wp2_with (fail)
    go_quiet (fail)
    go_wp2_with (fail)
    go_ret
    refine ⟨rfl, ?_⟩
    have h' := (((h.drewN nq).put_sp (s.sp + 1)).put_lc 1).put_col (wrap64 (s.col + 1))
    rw [es] at h'
    refine fast_post o.toOk0 k.to0 hsp h' ?_
    have hB := h.Bb
    exact ((((Fr.refl B b s.r w).drewN nq).setCell (p := ⟨b, 1026, none⟩) (Or.inl rfl) hB _).setCell (p := ⟨b, 1032, none⟩) (Or.inl rfl) hB _).setCell (p := ⟨b, 1030, none⟩) (Or.inl rfl) hB _

end Go.Proofs.YtlckfiflfkbofaaGreatDoor

/- (*strings.Reader).Read into the scanner's buffer. -/
namespace Go.Proofs.YtlckfiflfkbofaaGreatDoor
open Go.RowKit

theorem list_seg_get {α : Type} (L M : List α) (o : Nat) (h : o + M.length ≤ L.length) (i : Nat) : (L.take o ++ M ++ L.drop (o + M.length))[i]? = if i < o then L[i]? else if i < o + M.length then M[i - o]? else L[i]? := by
  have ho : (L.take o).length = o := by rw [List.length_take]; omega
  by_cases h1 : i < o
  · rw [if_pos h1, List.append_assoc, List.getElem?_append_left (by rw [ho]; exact h1), List.getElem?_take_of_lt h1]
  · rw [if_neg h1]
    by_cases h2 : i < o + M.length
    · rw [if_pos h2, List.getElem?_append_left (by rw [List.length_append, ho]; exact h2), List.getElem?_append_right (by omega), ho]
    · rw [if_neg h2, List.getElem?_append_right (by rw [List.length_append, ho]; omega), List.length_append, ho, List.getElem?_drop]
      congr 1
      omega

/-- 'copy(dst, s)' from a string, as much of it as goes in. -/
theorem run_copy_str {P : Program} (w : World) (dT sT ty elem : TypeId) (g o dLen dCap k : Nat) (s : ByteArray) (cur : Array Value) (t : TypeId)
    (hu : P.underlying dT = some (.slice elem)) (hs : (P.info? elem).map (·.size) = some 1) (hg : w.heap[g]? = some (.cells cur t (0, 0))) (hk : k = Nat.min s.size dLen) (hfit : o + k ≤ cur.size) :
    (Builtin.copy_ #[dT, sT] ty #[.slice (some ⟨g, o, none⟩) dLen dCap, .string s]).run P w =
      .ok (goInt k) (w.setRow g (cur.toList.take o ++ Lib.byteCells (s.data.toList.take k) ++ cur.toList.drop (o + (Lib.byteCells (s.data.toList.take k)).length)).toArray) := by
  have hks : k ≤ s.size := by rw [hk]; exact Nat.min_le_left _ _
  have hlen : (Lib.byteCells (s.data.toList.take k)).length = k := by
    rw [Lib.byteCells_length, List.length_take, Array.length_toList]
    have : s.data.size = s.size := rfl
    omega
  have hst := run_storeCells_at P g o t (Lib.byteCells (s.data.toList.take k)) 0 cur w hg (by rw [hlen]; simpa using hfit) (Lib.byteCells_one _)
  simp only [Nat.add_zero] at hst
  cases hq : P.info? elem with
  | none => simp [hq] at hs
  | some i =>
    simp [Builtin.copy_, run_underlying hu, Builtin.lenOf, Builtin.firstCells, sizeOf, typeInfo, hq, ← hk]
    have e : List.take k (List.map (fun b : UInt8 => Value.int IntKind.u8 (b.toNat : Int)) s.data.toList) = Lib.byteCells (s.data.toList.take k) := by
      unfold Lib.byteCells; rw [List.map_take]
    rw [e, hst]
    simp [Result.andThen]

theorem buf_other {T e : TypeId} {R : Nat → Option Value} {B b o r : Nat} {bs : List Value} {w w' : World} (h : LibA.IsBuffer T R e B b o bs w) (hk : ∀ k, k ≠ r → w'.heap[k]? = w.heap[k]?) (hrb : r ≠ b)
    (hre : ∀ c fz, w.heap[r]? ≠ some (.cells c e fz)) : LibA.IsBuffer T R e B b o bs w' := by
  obtain ⟨hB, v, lr, hbk, hown, hne⟩ := h
  refine ⟨hB, v, lr, hbk.of_heap (hk b (Ne.symm hrb)), ⟨hown.1, ?_⟩, hne⟩
  rcases hown.2 with hn | ⟨g, cap, cur, hv, hbg, hg, rest⟩
  · exact .inl hn
  · exact .inr ⟨g, cap, cur, hv, hbg, (hk g (fun e => by rw [e] at hg; exact hre _ _ hg)).trans hg, rest⟩

section
variable {w w' : World} {B b : Nat} {t : ByteArray} {s : SS}
theorem Sc.not5 (h : Sc w B b t s) : ∀ c fz, w.heap[s.r]? ≠ some (.cells c 5 fz) := by
  intro c fz e
  rw [h.rdr] at e
  cases e
theorem Sc.put_pr (h : Sc w B b t s) (x : Int) : Sc (w.setCell ⟨s.r, 2, none⟩ (.int .i64 x)) B b t { s with pr := x } :=
  ⟨buf_other h.buf (fun k hk => Below.heap_setCell _ _ _ _ hk) h.rb h.not5, Lib.heap_setCell_same (i := 2) h.rdr _, h.rB, by simpa [World.setCell] using h.BW⟩
theorem Sc.put_rd (h : Sc w B b t s) (x : Nat) : Sc (w.setCell ⟨s.r, 1, none⟩ (.int .i64 (x : Int))) B b t { s with rd := x } :=
  ⟨buf_other h.buf (fun k hk => Below.heap_setCell _ _ _ _ hk) h.rb h.not5, Lib.heap_setCell_same (i := 1) h.rdr _, h.rB, by simpa [World.setCell] using h.BW⟩
theorem Sc.r0 (h : Sc w B b t s) : w.cell? ⟨s.r, 0, none⟩ = some (.string t) := by rw [Lib.cell_of_heap h.rdr]; rfl
theorem Sc.r1 (h : Sc w B b t s) : w.cell? ⟨s.r, 1, none⟩ = some (.int .i64 s.rd) := by rw [Lib.cell_of_heap h.rdr]; rfl
theorem Sc.r2 (h : Sc w B b t s) : w.cell? ⟨s.r, 2, none⟩ = some (.int .i64 s.pr) := by rw [Lib.cell_of_heap h.rdr]; rfl
theorem Sc.rz (h : Sc w B b t s) (i : Nat) : w.frozen? ⟨s.r, i, none⟩ = false := Lib.frozen_of_heap h.rdr i

/-- Bytes laid at the beginning of the scanner's own buffer. -/
theorem Sc.row (h : Sc w B b t s) (l : List UInt8) (hl : l.length ≤ 1024) : ∃ cs, w.heap[b]? = some (.cells cs 104 (0, 0)) ∧ cs.size = 1049 ∧
    Sc (w.setRow b (cs.toList.take 1 ++ Lib.byteCells l ++ cs.toList.drop (1 + (Lib.byteCells l).length)).toArray) B b t { s with sb := fun j => if j < l.length then ((l.getD j 0).toNat : Int) else s.sb j } := by
  obtain ⟨hB, v, lr, ⟨cs, hb, h0, h1, h2, hr⟩, hown, hne⟩ := h.buf
  have hsz : cs.size = 1049 := by
    have a := hr 1048 (by omega)
    have b' := hr 1049 (by omega)
    rw [show s.R 1048 = some (s.f 1048) from if_pos (by omega)] at a
    rw [show s.R 1049 = none from if_neg (by omega)] at b'
    have := (Array.getElem?_eq_some_iff.1 a).1
    have := Array.getElem?_eq_none_iff.1 b'
    omega
  have hbl : (Lib.byteCells l).length = l.length := Lib.byteCells_length l
  have hcl : cs.toList.length = 1049 := by rw [Array.length_toList]; exact hsz
  have seg := list_seg_get cs.toList (Lib.byteCells l) 1 (by rw [hbl]; omega)
  have hget : ∀ i, (cs.toList.take 1 ++ Lib.byteCells l ++ cs.toList.drop (1 + (Lib.byteCells l).length)).toArray[i]? = if i < 1 then cs[i]? else if i < 1 + l.length then (Lib.byteCells l)[i - 1]? else cs[i]? := by
    intro i
    rw [List.getElem?_toArray, seg i, hbl, Array.getElem?_toList]
  refine ⟨cs, hb, hsz, ⟨hB, v, lr, ⟨_, setRow_heap w b cs _ 104 (0, 0) hb, ?_, ?_, ?_, ?_⟩, ⟨hown.1, ?_⟩, hne⟩, ?_, h.rB, by rw [size_setRow]; exact h.BW⟩
  · rw [hget, if_neg (by omega), if_neg (by omega)]; exact h0
  · rw [hget, if_neg (by omega), if_neg (by omega)]; exact h1
  · rw [hget, if_neg (by omega), if_neg (by omega)]; exact h2
  · intro i hi
    rw [hget]
    by_cases i1 : i < 1
    · rw [if_pos i1, hr i hi]
      have : i = 0 := by omega
      subst this; rfl
    · rw [if_neg i1]
      by_cases i2 : i < 1 + l.length
      · rw [if_pos i2]
        obtain ⟨j, rfl⟩ : ∃ j, i = 1 + j := ⟨i - 1, by omega⟩
        have hj : j < l.length := by omega
        unfold SS.R
        rw [if_pos (by omega), SS.f_sb _ (by omega), Nat.add_sub_cancel_left]
        dsimp only
        rw [if_pos hj]
        unfold Lib.byteCells
        rw [List.getElem?_map, List.getElem?_eq_getElem hj, List.getD_eq_getElem?_getD, List.getElem?_eq_getElem hj]
        rfl
      · rw [if_neg i2, hr i hi]
        unfold SS.R
        by_cases i3 : i < 1049
        · rw [if_pos i3, if_pos i3]
          congr 1
          by_cases i4 : i ≤ 1025
          · obtain ⟨j, rfl⟩ : ∃ j, i = 1 + j := ⟨i - 1, by omega⟩
            rw [SS.f_sb _ (by omega), SS.f_sb _ (by omega)]
            dsimp only
            rw [if_neg (by omega)]
          · unfold SS.f
            have i0 : ¬ i = 0 := by omega
            simp only [if_neg i0, if_neg i4]
        · rw [if_neg i3, if_neg i3]
  · rcases hown.2 with hn | ⟨g, cap, cur, hv, hbg, hg, rest⟩
    · exact .inl hn
    · refine .inr ⟨g, cap, cur, hv, hbg, ?_, rest⟩
      rw [setRow_other]
      · exact hg
      · intro e; apply hne; rw [hv, e]; rfl
  · show (w.setRow b _).heap[s.r]? = _
    rw [setRow_other _ _ _ _ h.rb]
    exact h.rdr

theorem Fr.setRow {r : Nat} (h : Fr B b r w w') (hB : B ≤ b) (cs : Array Value) : Fr B b r w (w'.setRow b cs) :=
  ⟨⟨h.bel.os, h.bel.tape, h.bel.output, by rw [size_setRow]; exact h.bel.size, fun k hk => by rw [setRow_other _ _ _ _ (by omega)]; exact h.bel.block k hk⟩, fun k o hk hb hr ho => by rw [setRow_other _ _ _ _ hb]; exact h.oth k o hk hb hr ho⟩
end

set_option maxRecDepth 100000 in
set_option maxHeartbeats 1600000 in
theorem rd_end (w : World) (B b c : Nat) (t : ByteArray) (s : SS) (h : Sc w B b t s) (hrd : t.size ≤ s.rd) (ev : Value) (he : w.cell? ⟨2, 0, none⟩ = some ev) :
    Calls Tryz.prog 189 #[.pointer (some ⟨s.r, 0, none⟩), .slice (some ⟨b, 1, none⟩) 1024 c] w fun e w' => e = .returned (.tuple #[.int .i64 0, ev]) ∧ ∃ n m, w' = (w.drewN n).drewN m := by
  have c0 := h.r0
  have c1 := h.r1
  have hd : decide ((s.rd : Int) ≥ t.size) = true := decide_eq_true (by omega)
  go_enter Tryz.func189, Tryz.ntmps189
  go_wp2_with (fail)
  go_quiet (fail)
  go_wp2_with (fail)
  go_quiet (fail)
  go_wp2_with (fail)
  go_ret2
  exact ⟨rfl, _, _, rfl⟩

theorem drop_data (t : ByteArray) (a : Nat) : (t.extract a t.size).data.toList = t.data.toList.drop a := by
  rw [Lib.extract_data]
  apply List.take_of_length_le
  rw [List.length_drop, Array.length_toList]
  exact Nat.le_refl _

/-- k bytes read from where the reader stood. -/
def RdP (B b k : Nat) (t : ByteArray) (s : SS) (w w' : World) : Prop := Fr B b s.r w w' ∧ ∃ sb', (∀ j, j < k → sb' j = chA t (s.rd + j)) ∧ Sc w' B b t { s with sb := sb', pr := -1, rd := s.rd + k }

set_option maxRecDepth 100000 in
set_option maxHeartbeats 1600000 in
theorem rd_data (w : World) (B b c k : Nat) (t : ByteArray) (s : SS) (h : Sc w B b t s) (hsz : t.size ≤ 3000) (hrd : s.rd < t.size) (hk : k = min (t.size - s.rd) 1024) :
    Calls Tryz.prog 189 #[.pointer (some ⟨s.r, 0, none⟩), .slice (some ⟨b, 1, none⟩) 1024 c] w fun e w' => e = .returned (.tuple #[.int .i64 k, .nilIface]) ∧ RdP B b k t s w w' := by
  have c0 := h.r0
  have c1 := h.r1
  have hd : decide ((s.rd : Int) ≥ t.size) = false := decide_eq_false (by omega)
  have z1 := h.rz 1
  have z2 := h.rz 2
  have c2 := h.r2
  go_enter Tryz.func189, Tryz.ntmps189
  go_wp2_with (fail)
  go_quiet (fail)
  go_wp2_with (fail)
  have h1 := (h.drewN nq).put_pr (-1)
  have hF1 : Fr B b s.r w ((w.drewN nq).setCell ⟨s.r, 2, none⟩ (.int .i64 (-1))) := ((Fr.refl B b s.r w).drewN nq).setCell (p := ⟨s.r, 2, none⟩) (Or.inr rfl) h.rB _
  generalize hW : (w.drewN nq).setCell ⟨s.r, 2, none⟩ (.int .i64 (-1)) = W at *
  clear hW c0 c1 c2 z1 z2
  have hkl : ((t.data.toList.drop s.rd).take k).length = k := by
    rw [List.length_take, List.length_drop, Array.length_toList]
    have : t.data.size = t.size := rfl
    omega
  obtain ⟨cs, hcs, hcz, hrow⟩ := h1.row ((t.data.toList.drop s.rd).take k) (by omega)
  have c0 : W.cell? ⟨s.r, 0, none⟩ = some (.string t) := h1.r0
  have c1 : W.cell? ⟨s.r, 1, none⟩ = some (.int .i64 s.rd) := h1.r1
  have z1 : W.frozen? ⟨s.r, 1, none⟩ = false := h1.rz 1
  have hcp := run_copy_str (P := Tryz.prog) W.drew 88 9 3 5 b 1 1024 c k (t.extract s.rd t.size) cs 104 Tryz.underlying88 (by kernel_rfl) hcs (by rw [ByteArray.size_extract]; show k = Nat.min _ _; rw [hk]; show _ = min _ _; omega) (by omega)
  rw [drop_data] at hcp
  have hch : ∀ j, j < k → ((((t.data.toList.drop s.rd).take k).getD j 0).toNat : Int) = chA t (s.rd + j) := by
    intro j hj
    have hlt : s.rd + j < t.size := by omega
    unfold chA
    rw [dif_pos hlt, List.getD_eq_getElem?_getD, List.getElem?_take_of_lt hj, List.getElem?_drop, Array.getElem?_toList]
    have : t.data[s.rd + j]? = some t[s.rd + j] := by rw [Array.getElem?_eq_getElem (show s.rd + j < t.data.size from hlt)]; rfl
    rw [this]
    rfl
  rw [hkl] at hrow
  generalize hl : (t.data.toList.drop s.rd).take k = l at *
  have HC := Lib.hid hch
  clear hch
  generalize hM : (List.take 1 cs.toList ++ Lib.byteCells l ++ List.drop (1 + (Lib.byteCells l).length) cs.toList).toArray = M at *
  have hF2 := hF1.setRow h1.Bb M
  have c3 := hrow.r1
  have z3 := hrow.rz 1
  have c4 : (W.setRow b M).cell? ⟨s.r, 1, none⟩ = some (.int .i64 s.rd) := c3
  have z4 : (W.setRow b M).frozen? ⟨s.r, 1, none⟩ = false := z3
  have hle : s.rd ≤ t.size := by omega
  have c5 : (W.drew.setRow b M).cell? ⟨s.r, 1, none⟩ = some (.int .i64 s.rd) := c3
  have z5 : (W.drew.setRow b M).frozen? ⟨s.r, 1, none⟩ = false := z3
  have hk1 : s.rd + k ≤ 3000 := by omega
  clear hM hcs hcz c3 z3 hk hl hkl
  go_region
  go_wp2_with (fail)
  go_ret2
  have hr2 : Sc (W.drew.setRow b M) B b t _ := hrow.drew
  have hr3 := hr2.put_rd (s.rd + k)
  have es : ((s.rd + k : Nat) : Int) = (s.rd : Int) + k := by simp
  rw [es] at hr3
  have hF3 : Fr B b s.r w (W.drew.setRow b M) := hF2.drew
  refine ⟨rfl, hF3.setCell (p := ⟨s.r, 1, none⟩) (Or.inr rfl) h.rB _, _, ?_, hr3⟩
  intro j hj
  dsimp only
  rw [if_pos hj]
  exact HC.out j hj

end Go.Proofs.YtlckfiflfkbofaaGreatDoor

/- (*bytes.Buffer).Write of bytes that lie in the very block in which the buffer lies. -/
namespace Go.Proofs.YtlckfiflfkbofaaGreatDoor
open Go.RowKit

theorem info5 : (Tryz.prog.info? 5).map (·.size) = some 1 := by kernel_rfl

set_option maxRecDepth 100000 in
set_option maxHeartbeats 3200000 in
theorem wr_calls (T : TypeId) (R : Nat → Option Value) (B b q o : Nat) (bs cs : List Value) (n c : Nat) (w : World) (h : LibA.IsBuffer T R 5 B b q bs w) (hBw : B ≤ w.heap.size) (h1 : ∀ v ∈ bs, v.oneCell' = true)
    (hn : cs.length = n) (ho : o + n ≤ q) (hsrc : ∀ j v, cs[j]? = some v → R (o + j) = some v) (h1c : ∀ v ∈ cs, v.oneCell' = true) (hlim : bs.length + n ≤ 140737488355328) (hn0 : 0 < n) :
    Calls Tryz.prog 86 #[.pointer (some ⟨b, q, none⟩), .slice (some ⟨b, o, none⟩) n c] w fun e w' => e = .returned (.tuple #[.int .i64 n, .nilIface]) ∧ LibA.IsBuffer T R 5 B b q (bs ++ cs) w' ∧ Below B w w' ∧ Lib.OthersKept 5 (some b) w w' := by
  obtain ⟨hB, v0, lr, hbk, -, -⟩ := id h
  have c2 : w.cell? ⟨b, q + 2, none⟩ = some (.int .i8 lr) := hbk.c2
  have f2 : w.frozen? ⟨b, q + 2, none⟩ = false := hbk.f (q + 2)
  have h' := h.setLast 0
  have hbel0 : Below B w (w.setCell ⟨b, q + 2, none⟩ (.int .i8 0)) := (Below.refl B w).setCell (p := ⟨b, q + 2, none⟩) hB _
  have hk0 : Lib.OthersKept 5 (some b) w (w.setCell ⟨b, q + 2, none⟩ (.int .i8 0)) := (Lib.OthersKept.refl _ _ w).setCell ⟨b, q + 2, none⟩ rfl _
  have hBw' : B ≤ (w.setCell ⟨b, q + 2, none⟩ (.int .i8 0)).heap.size := by simpa [World.setCell] using hBw
  have hc2l : cs.length = n := hn
  have tg := fun W hW => Tryz.Buffer_tryGrow_at T R B b q n bs W hW
  have gr := fun W hW hnr hBW => Tryz.Buffer_grow_at T R B b q n bs W hW hnr hBW h1 hlim
  clear hbk v0
  go_enter Tryz.func86, Tryz.ntmps86
  go_wp2_with (first | (go_at_call 101; refine (tg _ h').mono ?_; refine Hid.out ?_))
  refine Lib.hid ?_
  rintro e W1 (⟨rfl, xs, hxl, hI, hbel, hk, hg⟩ | ⟨rfl, rfl, hnr⟩)
  · have hbelW := hbel0.trans hbel
    have hkW := hk0.trans hk
    clear h' hbel hbel0 hBw' c2 f2 hg
    obtain ⟨-, lr2, hc⟩ := hI.cases
    rcases hc with ⟨hnil, -⟩ | ⟨g, cap, cur, hbk2, hBg, hg, hnc, hcm, hcs, htk, hgb⟩
    · exact absurd (congrArg List.length hnil) (by rw [List.length_append, hxl, List.length_nil]; omega)
    · rw [List.length_append, hxl] at hbk2 hnc htk
      have d0 : W1.cell? ⟨b, q, none⟩ = some (.slice (some ⟨g, 0, none⟩) (bs.length + n) cap) := hbk2.c0
      have hne : ¬ cap = bs.length := by omega
      have hsrc1 : ∀ j v, cs[j]? = some v → W1.cell? ((⟨b, o, none⟩ : Addr).add j) = some v := by
        intro j v hj
        have hjl : j < cs.length := (List.getElem?_eq_some_iff.1 hj).1
        have e : (⟨b, o, none⟩ : Addr).add j = ⟨b, o + j, none⟩ := Addr.add_lit b o j
        rw [e, hbk2.rest (o + j) (by omega)]; exact hsrc j v hj
      have hcp := run_copy_row (P := Tryz.prog) W1 88 88 3 5 g bs.length n (cap - bs.length) ⟨b, o, none⟩ n c cur 5 cs Tryz.underlying88 info5 hg (by rw [hn]; exact (Nat.min_self n).symm) hsrc1 (by rw [hn]; omega) h1c
      rw [hn] at hcp
      have hcm' := hcm
      unfold maxLen at hcm'
      go_wp2_with (fail)
      go_ret2
      obtain ⟨r1, r2⟩ := LibA.written_end (news := cs) (l := bs.length) hB (by rw [hn]; exact hbk2) hBg hg hcm hcs hgb (by rw [hn]; exact hnc)
      have e1 : cur.toList.take bs.length = bs := by
        have h3 := congrArg (List.take bs.length) htk
        rwa [List.take_take, Nat.min_eq_left (Nat.le_add_right _ _), List.take_left' rfl] at h3
      rw [e1, hn] at r1 r2
      refine ⟨rfl, ?_, ?_, hkW.setRow hg _⟩ <;> rw [e1, ← List.append_assoc]
      · exact r1
      · exact hbelW.trans r2
  · go_wp2_with (first | (go_at_call 102; refine (gr _ h' hnr hBw').mono ?_; refine Hid.out ?_))
    refine Lib.hid ?_
    rintro e W1 ⟨rfl, xs, hxl, hI, hbel, hk, hg⟩
    have hbelW := hbel0.trans hbel
    have hkW := hk0.trans hk
    clear h' hbel hbel0 hBw' c2 f2 hg hnr
    obtain ⟨-, lr2, hc⟩ := hI.cases
    rcases hc with ⟨hnil, -⟩ | ⟨g, cap, cur, hbk2, hBg, hg, hnc, hcm, hcs, htk, hgb⟩
    · exact absurd (congrArg List.length hnil) (by rw [List.length_append, hxl, List.length_nil]; omega)
    · rw [List.length_append, hxl] at hbk2 hnc htk
      have d0 : W1.cell? ⟨b, q, none⟩ = some (.slice (some ⟨g, 0, none⟩) (bs.length + n) cap) := hbk2.c0
      have hne : ¬ cap = bs.length := by omega
      have hsrc1 : ∀ j v, cs[j]? = some v → W1.cell? ((⟨b, o, none⟩ : Addr).add j) = some v := by
        intro j v hj
        have hjl : j < cs.length := (List.getElem?_eq_some_iff.1 hj).1
        have e : (⟨b, o, none⟩ : Addr).add j = ⟨b, o + j, none⟩ := Addr.add_lit b o j
        rw [e, hbk2.rest (o + j) (by omega)]; exact hsrc j v hj
      have hcp := run_copy_row (P := Tryz.prog) W1 88 88 3 5 g bs.length n (cap - bs.length) ⟨b, o, none⟩ n c cur 5 cs Tryz.underlying88 info5 hg (by rw [hn]; exact (Nat.min_self n).symm) hsrc1 (by rw [hn]; omega) h1c
      rw [hn] at hcp
      have hcm' := hcm
      unfold maxLen at hcm'
      go_wp2_with (fail)
      go_ret2
      obtain ⟨r1, r2⟩ := LibA.written_end (news := cs) (l := bs.length) hB (by rw [hn]; exact hbk2) hBg hg hcm hcs hgb (by rw [hn]; exact hnc)
      have e1 : cur.toList.take bs.length = bs := by
        have h3 := congrArg (List.take bs.length) htk
        rwa [List.take_take, Nat.min_eq_left (Nat.le_add_right _ _), List.take_left' rfl] at h3
      rw [e1, hn] at r1 r2
      refine ⟨rfl, ?_, ?_, hkW.setRow hg _⟩ <;> rw [e1, ← List.append_assoc]
      · exact r1
      · exact hbelW.trans r2

end Go.Proofs.YtlckfiflfkbofaaGreatDoor

/- The scanner's next where its buffer is used up. -/
namespace Go.Proofs.YtlckfiflfkbofaaGreatDoor
open Go.RowKit

/-- utf8's table of first bytes, at ASCII. -/
def Fst (w : World) : Prop := ∀ i, i < 128 → w.cell? ⟨3, i, none⟩ = some (.int .u8 240)

set_option maxRecDepth 100000 in
theorem fr_empty (w : World) (a : Addr) (c : Nat) : Calls Tryz.prog 92 #[.slice (some a) 0 c] w fun e w' => e = .returned (.bool false) ∧ w = w' := by
  go_enter Tryz.func92, Tryz.ntmps92
  go_wp2_with (fail)
  go_ret
  exact ⟨rfl, rfl⟩

theorem fr_empty_q (w : World) (n : Nat) (a : Addr) (c : Nat) : Calls Tryz.prog 92 #[.slice (some a) 0 c] (w.drewN n) fun e w'' => e = .returned (.bool false) ∧ ∃ m, w'' = w.drewN m :=
  Calls.quiet_of_same ((fr_empty _ a c).mono fun _ _ h => ⟨h.1, h.2.symm⟩)

theorem fr_empty_q2 (w : World) (k n : Nat) (a : Addr) (c : Nat) : Calls Tryz.prog 92 #[.slice (some a) 0 c] (w.drewN (k + n)) fun e w'' => e = .returned (.bool false) ∧ ∃ m, w'' = w.drewN (k + m) :=
  (fr_empty _ a c).mono fun _ _ h => ⟨h.1, n, h.2.symm⟩

set_option maxRecDepth 100000 in
theorem fr_ascii (w : World) (b o n c : Nat) (x : Nat) (hn : 0 < n) (hx : x < 128) (h : w.cell? ⟨b, o, none⟩ = some (.int .u8 (x : Int))) (hF : Fst w) : Calls Tryz.prog 92 #[.slice (some ⟨b, o, none⟩) n c] w fun e w' => e = .returned (.bool true) ∧ w = w' := by
  have hf := hF x hx
  have hand : Go.bits .and .u8 240 7 = 0 := by decide
  go_enter Tryz.func92, Tryz.ntmps92
  go_wp2_with (fail)
  go_ret
  exact ⟨rfl, rfl⟩

theorem fr_ascii_q (w : World) (k j b o n c : Nat) (x : Nat) (hn : 0 < n) (hx : x < 128) (h : w.cell? ⟨b, o, none⟩ = some (.int .u8 (x : Int))) (hF : Fst w) : Calls Tryz.prog 92 #[.slice (some ⟨b, o, none⟩) n c] (w.drewN (k + j)) fun e w'' => e = .returned (.bool true) ∧ ∃ m, w'' = w.drewN (k + m) :=
  (fr_ascii (w.drewN (k + j)) b o n c x hn hx h hF).mono fun _ _ h => ⟨h.1, j, h.2.symm⟩

theorem NxP.of {B b : Nat} {t : ByteArray} {tk : Option Nat} {s s4 : SS} {w W w' : World} (h : NxP B b t tk s4 W w') (hP : s4.off + s4.sp = s.off + s.sp) (hq : s4.r = s.r ∧ s4.te = s.te ∧ s4.ch = s.ch ∧ s4.er = s.er ∧ s4.pk = s.pk) (hF : Fr B b s.r w W) : NxP B b t tk s w w' := by
  obtain ⟨s', h1, h2, h3, h4, h5, h6, h7, h8, h9, h10, h11⟩ := h
  obtain ⟨q1, q2, q3, q4, q5⟩ := hq
  rw [hP] at h4 h5
  rw [q1] at h11
  exact ⟨s', h1, h2, h3, h4, h5, h6.trans q1, h7.trans q2, h8.trans q3, h9.trans q4, h10.trans q5, hF.trans h11⟩

theorem slice_buf (W : World) (b l h : Nat) (hl : l ≤ h) (hh : h ≤ 1025) (hl2 : l < 1025) :
    (Instr.sliceAt 87 (.pointer (some ⟨b, 1, none⟩)) (some (.int .i64 (l : Int))) (some (.int .i64 (h : Int))) none).run Tryz.prog W = .ok (.slice (some ⟨b, 1 + l, none⟩) (h - l) (1025 - l)) W := by
  have e : Tryz.prog.arrayLen 87 = 1025 := by kernel_rfl
  have e5 : Tryz.prog.elem 87 = 5 := by kernel_rfl
  have hz : (sizeOf (Tryz.prog.elem 87)).run Tryz.prog W = .ok 1 W := by rw [e5]; exact Tryz.sizeOf5 W
  rw [run_sliceAt_array_lh W 87 ⟨b, 1, none⟩ (by kernel_rfl) .i64 .i64 l h (by omega) (by omega) (by rw [e]; omega), hz, e]
  simp only [Result.andThen_ok, slicedAt, Int.toNat_natCast, Nat.mul_one]
  rw [if_neg (by omega), Addr.add_lit]

theorem slice_buf0 (W : World) (b : Nat) :
    (Instr.sliceAt 87 (.pointer (some ⟨b, 1, none⟩)) (some (.int .i64 0)) none none).run Tryz.prog W = .ok (.slice (some ⟨b, 1, none⟩) 1025 1025) W := by
  have e : Tryz.prog.arrayLen 87 = 1025 := by kernel_rfl
  have e5 : Tryz.prog.elem 87 = 5 := by kernel_rfl
  have hz : (sizeOf (Tryz.prog.elem 87)).run Tryz.prog W = .ok 1 W := by rw [e5]; exact Tryz.sizeOf5 W
  rw [run_sliceAt_array_l W 87 ⟨b, 1, none⟩ (by kernel_rfl) .i64 0 (by omega) (by rw [e]; omega), hz, e]
  rfl
theorem meth_read (a : Addr) (w : World) : (method 379 123 (.pointer (some a)) "Read").run Tryz.prog w = .ok (189, .pointer (some a)) w := by kernel_rfl
theorem copy_none (W : World) (b sp : Nat) : (Builtin.copy_ #[88, 88] 3 #[.slice (some ⟨b, 1, none⟩) 1025 1025, .slice (some ⟨b, 1 + sp, none⟩) 0 (1025 - sp)]).run Tryz.prog W = .ok (goInt 0) W :=
  run_copy_none W 88 88 3 5 _ _ 1025 1025 0 _ Tryz.underlying88 info5 (by simp)

set_option maxRecDepth 100000 in
set_option maxHeartbeats 3200000 in
theorem nxr_none_data (w : World) (B b : Nat) (t : ByteArray) (s : SS) (h : Sc w B b t s) (o : Ok t s) (k : TK t s none) (hA : Asc t) (hz : t.size ≤ 3000) (hsp : s.sp = s.se) (hmore : s.off + s.se < t.size) (hFs : Fst w) (hB : 19 ≤ B) :
    Calls Tryz.prog 75 #[.pointer (some ⟨b, 0, none⟩)] w fun e w' => e = .returned (.int .i32 (chA t (s.off + s.sp))) ∧ NxP B b t none s w w' := by
  have c1 := h.c_sp
  have hse := o.se
  have c2 := h.sb (j := s.sp) (by omega)
  have hst := o.st
  rw [← hsp] at hst
  rw [hst] at c2
  have c3 := h.c_se
  rw [← hsp] at c3
  have c4 := h.c_tp
  rw [show s.tp = -1 from k] at c4
  have hspl : s.sp < 1025 := by omega
  have hsl := fun W => slice_buf W b s.sp s.sp (Nat.le_refl _) (by omega) hspl
  have hsl0 := fun W => slice_buf0 W b
  have hcp := fun W => copy_none W b s.sp
  have c5 := h.c_off
  have z5 := h.fz 1028
  have c6 := h.c 0 (by omega) (by omega)
  rw [show s.f 0 = .iface 123 (.pointer (some ⟨s.r, 0, none⟩)) from rfl] at c6
  have hoff : s.off ≤ 3000 := by have := o.sz; omega
  have z1 := h.fz 1026
  have z2 := h.fz 1027
  have hwo : IntKind.i64.wrap ((s.off : Int) + s.sp) = (s.off : Int) + s.sp := IntWalk.i64_in _ (by omega)
  have HSP := Lib.hid hsp
  clear hsp hst
  have hx := hA (s.off + s.sp) (by have := o.rd; have := HSP.out; omega)
  obtain ⟨X, hX⟩ : ∃ X : Nat, chA t (s.off + s.sp) = X := ⟨(chA t (s.off + s.sp)).toNat, by omega⟩
  rw [hX] at hx ⊢
  obtain ⟨hx1, hx2⟩ := hx
  have hX0 : 0 < X := by omega
  have hX1 : X < 128 := by omega
  have HX := Lib.hid hX
  clear hX hx1 hx2
  go_enter Tryz.func75, Tryz.ntmps75
  go_wp2_with (fail)
  go_quiet (fail)
  obtain ⟨nqa, hnqa⟩ : ∃ k, k = nq := ⟨_, rfl⟩
  rw [← hnqa]
  clear hnqa nq
  go_wp2_with (fail)
  refine wp_loop_rounds 2 ?_
  rw [rounds_succ]
  go_wp2_with (fail)
  have hw4 : IntKind.i64.wrap ((s.sp : Int) + 4) = (s.sp : Int) + 4 := IntWalk.i64_in _ (by omega)
  have hd : decide ((s.sp : Int) < (s.sp : Int) + 4) = true := decide_eq_true (by omega)
  go_quiet ((go_at_call 92; exact fr_empty_q2 _ _ _ _ _))
  obtain ⟨nqb, hnqb⟩ : ∃ k, k = nq := ⟨_, rfl⟩
  rw [← hnqb]
  clear hnqb nq
  go_wp2_with (fail)
  go_region
  go_wp2_with (fail)
  go_region
  go_wp2_with (fail)
  go_quiet (fail)
  go_wp2_with (fail)
  generalize hW : (World.setCell (w.drewN _) ⟨b, 1028, none⟩ _).drewN _ = W
  have es : ((s.off + s.sp : Nat) : Int) = (s.off : Int) + s.sp := by simp
  have h10 : Sc W B b t { s with off := s.off + s.sp } := by
    have h8 := ((h.drewN (nqa + nqb + 1 + 1)).put_off (s.off + s.sp)).drewN nq
    rw [es] at h8
    rw [← hW]; exact h8
  have hF10 : Fr B b s.r w W := by
    rw [← hW]
    exact (((Fr.refl B b s.r w).drewN _).setCell (p := ⟨b, 1028, none⟩) (Or.inl rfl) h.Bb _).drewN _
  clear hW c1 c2 c3 c4 c5 c6 z1 z2 z5
  have hrd : ∀ c, Calls Tryz.prog 189 #[.pointer (some ⟨s.r, 0, none⟩), .slice (some ⟨b, 1, none⟩) 1024 c] W.drew _ := fun c => rd_data W.drew B b c (min (t.size - s.rd) 1024) t { s with off := s.off + s.sp } h10.drew hz (by have := o.rd; show s.rd < t.size; omega) rfl
  have c6 := h10.c 0 (by omega) (by omega)
  rw [show ({ s with off := s.off + s.sp } : SS).f 0 = .iface 123 (.pointer (some ⟨s.r, 0, none⟩)) from rfl] at c6
  have hsl2 := fun W => slice_buf W b 0 1024 (by omega) (by omega) (by omega)
  have hm := meth_read ⟨s.r, 0, none⟩
  go_region_with ((go_at_call 189; refine (hrd _).mono ?_; rintro e W2 ⟨rfl, hP⟩))
  obtain ⟨hF2, sb', hsb', h2⟩ := hP
  obtain ⟨n, hn⟩ : ∃ n, n = min (t.size - s.rd) 1024 := ⟨_, rfl⟩
  rw [← hn] at h2 hsb' ⊢
  have hn1 : 0 < n := by have := o.rd; omega
  have hn2 : n ≤ 1024 := by omega
  have hn3 : s.rd + n ≤ t.size := by have := o.rd; have := o.sz; omega
  clear hn
  clear hrd c6 h10
  generalize hs2 : ({ ({ s with off := s.off + s.sp } : SS) with sb := sb', pr := -1, rd := ({ s with off := s.off + s.sp } : SS).rd + n } : SS) = s2 at h2
  have d1 := h2.c_sp
  have d2 := h2.c_se
  have y1 := h2.fz 1026
  have y2 := h2.fz 1027
  go_wp2_with (fail)
  generalize hW3 : World.setCell (W2.setCell ⟨b, 1026, none⟩ _) ⟨b, 1027, none⟩ _ = W3
  have h3 : Sc W3 B b t { s2 with sp := 0, se := n } := by
    have h9 := (h2.put_sp 0).put_se n
    rw [show ((0 : Nat) : Int) = 0 from rfl] at h9
    rw [← hW3]; exact h9
  have hF3 : Fr B b s.r w W3 := by
    rw [← hW3]
    exact ((hF10.trans (Fr.drew (Fr.refl B b s.r W) |>.trans hF2)).setCell (p := ⟨b, 1026, none⟩) (Or.inl rfl) h.Bb _).setCell (p := ⟨b, 1027, none⟩) (Or.inl rfl) h.Bb _
  clear hW3 d1 d2 y1 y2 h2
  have d2 := h3.c_se
  have d3 := h3.sb (j := n) (by omega)
  have y3 := h3.fz (1 + n)
  go_region
  have h4 := h3.put_sb n (by omega) 128
  have hF4 := hF3.setCell (p := ⟨b, 1 + n, none⟩) (Or.inl rfl) h.Bb (.int .u8 128)
  generalize hW4 : W3.setCell ⟨b, 1 + n, none⟩ (.int .u8 128) = W4 at *
  clear hW4 d2 d3 y3 h3
  generalize hs4 : ({ ({ s2 with sp := 0, se := n } : SS) with sb := _ } : SS) = s4 at h4
  have q1 : s4.sp = 0 := by rw [← hs4]
  have q2 : s4.se = n := by rw [← hs4]
  have q3 : s4.off = s.off + s.sp := by rw [← hs4, ← hs2]
  have q4 : ∀ j, j < n → s4.sb j = chA t (s.off + s.sp + j) := by
    intro j hj
    rw [← hs4]
    show (if j = n then 128 else s2.sb j) = _
    rw [if_neg (by omega), ← hs2]
    show sb' j = _
    rw [hsb' j hj]
    show chA t (s.rd + j) = _
    rw [o.rd, HSP.out]
  have q5 : s4.sb n = 128 := by rw [← hs4]; show (if n = n then 128 else _) = _; rw [if_pos rfl]
  have q6 : s4.rd = s.off + s.sp + n := by rw [← hs4, ← hs2]; show s.rd + n = _; rw [o.rd, HSP.out]
  have q7 : s4.r = s.r ∧ s4.tp = s.tp ∧ s4.te = s.te ∧ s4.ch = s.ch ∧ s4.er = s.er ∧ s4.pk = s.pk ∧ s4.bs = s.bs := by rw [← hs4, ← hs2]; exact ⟨rfl, rfl, rfl, rfl, rfl, rfl, rfl⟩
  clear hs4 hs2 hsb'
  have e1 := h4.c_sp
  have e2 := h4.c_se
  rw [q1] at e1
  rw [q2] at e2
  have e4 : W4.cell? ⟨b, 1, none⟩ = some (.int .u8 (X : Int)) := by
    have a := h4.sb (j := 0) (by omega)
    rw [q4 0 (by omega)] at a
    simp only [Nat.add_zero] at a
    rw [HX.out] at a
    exact a
  go_wp2_with (fail)
  rw [rounds_succ]
  go_wp2_with (fail)
  have o4 : Ok0 t s4 := ⟨by omega, by omega, by omega, by have := o.rd; have := HSP.out; omega, by rw [q2, q3]; exact q4, by rw [q2]; exact q5⟩
  have k4 : TK0 t s4 none := q7.2.1.trans k
  have hP4 : s4.off + s4.sp = s.off + s.sp := by omega
  have hq4 : s4.r = s.r ∧ s4.te = s.te ∧ s4.ch = s.ch ∧ s4.er = s.er ∧ s4.pk = s.pk := ⟨q7.1, q7.2.2.1, q7.2.2.2.1, q7.2.2.2.2.1, q7.2.2.2.2.2.1⟩
  have e5 := h4.c_lc
  have e6 := h4.c_col
  have e7 := h4.c_line
  have e8 := h4.c_lll
  have v1 := h4.fz 1026
  have v2 := h4.fz 1032
  have v3 := h4.fz 1030
  have v4 := h4.fz 1029
  have v5 := h4.fz 1031
  have hFs4 : Fst W4 := fun i hi => hF4.keep.cell (hFs i hi) (by show ¬ B ≤ 3; omega)
  have hfr := fun (k j : Nat) (c : Nat) => fr_ascii_q W4 k j b 1 n c X hn1 hX1 e4 hFs4
  have hsl4 : ∀ W, (Instr.sliceAt 87 (.pointer (some ⟨b, 1, none⟩)) (some (.int .i64 0)) (some (.int .i64 (n : Int))) none).run Tryz.prog W = .ok (.slice (some ⟨b, 1, none⟩) n 1025) W := fun W => slice_buf W b 0 n (Nat.zero_le _) (by omega) (by omega)
  have g0 : ((X : Int) == 0) = false := by simp; omega
  have g1 : ((0 + 1 : Nat) : Int) = 1 := rfl
  have hs1 : ((s4.sp + 1 : Nat) : Int) = 1 := by rw [q1]; rfl
  have hsl5 : s4.sp < s4.se := by omega
  clear q1 q2 q3 q4 q5 q6 q7 hFs hFs4 hsl hsl0 hsl2 hm hcp hwo hn3
  have hB := h.Bb
  have hw40 : IntKind.i64.wrap 4 = 4 := by decide
  by_cases hn4 : n < 4
  · have hd4 : (n : Int) < 4 := by omega
    go_quiet ((go_at_call 92; exact hfr _ _ _))
    by_cases h10 : X = 10
    · subst h10
      go_wp2_with (fail)
      go_quiet (fail)
      go_wp2_with (fail)
      go_ret
      refine ⟨rfl, NxP.of (fast_post (line := wrap64 (s4.line + 1)) (col := 0) (lll := wrap64 (s4.col + 1)) o4 k4 hsl5 ?_ ?_) hP4 hq4 hF4⟩
      · have h' := fun k => ((((((h4.drewN k).put_sp (s4.sp + 1)).put_lc 1).put_col (wrap64 (s4.col + 1))).put_line (wrap64 (s4.line + 1))).put_lll (wrap64 (s4.col + 1))).put_col 0
        simp only [hs1] at h'
        exact h' _
      · exact ((((((Fr.refl B b _ W4).drewN _).setCell (p := ⟨b, 1026, none⟩) (Or.inl rfl) hB _).setCell (p := ⟨b, 1032, none⟩) (Or.inl rfl) hB _).setCell (p := ⟨b, 1030, none⟩) (Or.inl rfl) hB _).setCell (p := ⟨b, 1029, none⟩) (Or.inl rfl) hB _).setCell (p := ⟨b, 1031, none⟩) (Or.inl rfl) hB _ |>.setCell (p := ⟨b, 1030, none⟩) (Or.inl rfl) hB _
    · have g10 : ((X : Int) == 10) = false := by simp; omega
      go_wp2_with (fail)
      go_quiet (fail)
      go_wp2_with (fail)
      go_ret
      refine ⟨rfl, NxP.of (fast_post (line := s4.line) (col := wrap64 (s4.col + 1)) (lll := s4.lll) o4 k4 hsl5 ?_ ?_) hP4 hq4 hF4⟩
      · have h' := fun k => (((h4.drewN k).put_sp (s4.sp + 1)).put_lc 1).put_col (wrap64 (s4.col + 1))
        simp only [hs1] at h'
        exact h' _
      · exact ((((Fr.refl B b _ W4).drewN _).setCell (p := ⟨b, 1026, none⟩) (Or.inl rfl) hB _).setCell (p := ⟨b, 1032, none⟩) (Or.inl rfl) hB _).setCell (p := ⟨b, 1030, none⟩) (Or.inl rfl) hB _
  · have hd4 : ¬ (n : Int) < 4 := by omega
    go_quiet (fail)
    by_cases h10 : X = 10
    · subst h10
      go_wp2_with (fail)
      go_quiet (fail)
      go_wp2_with (fail)
      go_ret
      refine ⟨rfl, NxP.of (fast_post (line := wrap64 (s4.line + 1)) (col := 0) (lll := wrap64 (s4.col + 1)) o4 k4 hsl5 ?_ ?_) hP4 hq4 hF4⟩
      · have h' := fun k => ((((((h4.drewN k).put_sp (s4.sp + 1)).put_lc 1).put_col (wrap64 (s4.col + 1))).put_line (wrap64 (s4.line + 1))).put_lll (wrap64 (s4.col + 1))).put_col 0
        simp only [hs1] at h'
        exact h' _
      · exact ((((((Fr.refl B b _ W4).drewN _).setCell (p := ⟨b, 1026, none⟩) (Or.inl rfl) hB _).setCell (p := ⟨b, 1032, none⟩) (Or.inl rfl) hB _).setCell (p := ⟨b, 1030, none⟩) (Or.inl rfl) hB _).setCell (p := ⟨b, 1029, none⟩) (Or.inl rfl) hB _).setCell (p := ⟨b, 1031, none⟩) (Or.inl rfl) hB _ |>.setCell (p := ⟨b, 1030, none⟩) (Or.inl rfl) hB _
    · have g10 : ((X : Int) == 10) = false := by simp; omega
      go_wp2_with (fail)
      go_quiet (fail)
      go_wp2_with (fail)
      go_ret
      refine ⟨rfl, NxP.of (fast_post (line := s4.line) (col := wrap64 (s4.col + 1)) (lll := s4.lll) o4 k4 hsl5 ?_ ?_) hP4 hq4 hF4⟩
      · have h' := fun k => (((h4.drewN k).put_sp (s4.sp + 1)).put_lc 1).put_col (wrap64 (s4.col + 1))
        simp only [hs1] at h'
        exact h' _
      · exact ((((Fr.refl B b _ W4).drewN _).setCell (p := ⟨b, 1026, none⟩) (Or.inl rfl) hB _).setCell (p := ⟨b, 1032, none⟩) (Or.inl rfl) hB _).setCell (p := ⟨b, 1030, none⟩) (Or.inl rfl) hB _

end Go.Proofs.YtlckfiflfkbofaaGreatDoor

/- The scanner's small functions over characters: lower, isDecimal, isIdentRune. -/
namespace Go.Proofs.YtlckfiflfkbofaaGreatDoor
open Go.RowKit

def lowA (x : Int) : Int := Go.bits .or .i32 32 x
def isL (x : Int) : Bool := (decide (65 ≤ x) && decide (x ≤ 90)) || (decide (97 ≤ x) && decide (x ≤ 122))
def isD (x : Int) : Bool := decide (48 ≤ x) && decide (x ≤ 57)

theorem low_letter_all : ((List.range 129).all fun n => (decide (97 ≤ lowA ((n : Int) - 1)) && decide (lowA ((n : Int) - 1) ≤ 122)) == isL ((n : Int) - 1)) = true := by decide +kernel
theorem low_letter {x : Int} (h1 : -1 ≤ x) (h2 : x < 128) : (decide (97 ≤ lowA x) && decide (lowA x ≤ 122)) = isL x := by
  have := List.all_eq_true.1 low_letter_all (x + 1).toNat (List.mem_range.2 (by omega))
  have e : (((x + 1).toNat : Nat) : Int) - 1 = x := by omega
  rw [e] at this
  exact beq_iff_eq.1 this

theorem lower_run (x : Int) (w : World) : Calls Tryz.prog 95 #[.int .i32 x] w fun e w' => e = .returned (.int .i32 (lowA x)) ∧ w = w' := by
  go_enter Tryz.func95, Tryz.ntmps95
  go_wp2_with (fail)
  go_ret
  exact ⟨rfl, rfl⟩

theorem dec_run (x : Int) (w : World) : Calls Tryz.prog 79 #[.int .i32 x] w fun e w' => e = .returned (.bool (isD x)) ∧ w = w' := by
  by_cases h1 : 48 ≤ x
  · by_cases h2 : x ≤ 57
    · have e1 : decide ((48 : Int) ≤ x) = true := decide_eq_true h1
      have e2 : decide (x ≤ 57) = true := decide_eq_true h2
      have e : isD x = true := by unfold isD; rw [e1, e2]; rfl
      rw [e]
      go_enter Tryz.func79, Tryz.ntmps79
      go_wp2_with (fail)
      go_ret
      exact ⟨rfl, rfl⟩
    · have e1 : decide ((48 : Int) ≤ x) = true := decide_eq_true h1
      have e2 : decide (x ≤ 57) = false := decide_eq_false h2
      have e : isD x = false := by unfold isD; rw [e1, e2]; rfl
      rw [e]
      go_enter Tryz.func79, Tryz.ntmps79
      go_wp2_with (fail)
      go_ret
      exact ⟨rfl, rfl⟩
  · have e1 : decide ((48 : Int) ≤ x) = false := decide_eq_false h1
    have e : isD x = false := by unfold isD; rw [e1]; rfl
    rw [e]
    go_enter Tryz.func79, Tryz.ntmps79
    go_wp2_with (fail)
    go_ret
    exact ⟨rfl, rfl⟩

theorem neq_nilf (w : World) : (binOp .neq 95 .nilFunc .nilFunc).run Tryz.prog w = .ok (.bool false) w := by kernel_rfl

def identB (x i : Int) : Bool := x == 95 || isL x || (isD x && decide (0 < i))

set_option maxRecDepth 100000 in
set_option maxHeartbeats 1600000 in
theorem ident_run (w : World) (B b : Nat) (t : ByteArray) (s : SS) (x i : Int) (h : Sc w B b t s) (h1 : -1 ≤ x) (h2 : x < 128) :
    Calls Tryz.prog 77 #[.pointer (some ⟨b, 0, none⟩), .int .i32 x, .int .i64 i] w fun e w' => e = .returned (.bool (identB x i)) ∧ w = w' := by
  have c := h.c 1043 (by omega) (by omega)
  rw [show s.f 1043 = .nilFunc from rfl] at c
  have hnf := neq_nilf
  have hl := low_letter h1 h2
  have hlow := fun w => lower_run x w
  have hdec := fun w => dec_run x w
  by_cases h95 : x = 95
  · have e : identB x i = true := by subst h95; rfl
    rw [e]
    have e1 : (x == 95) = true := by simpa using h95
    clear h95 hl
    go_enter Tryz.func77, Tryz.ntmps77
    go_wp2_with (fail)
    go_ret
    exact ⟨rfl, rfl⟩
  · have e1 : (x == 95) = false := by simpa using h95
    by_cases ha : 97 ≤ lowA x
    · have a1 : decide ((97 : Int) ≤ lowA x) = true := decide_eq_true ha
      by_cases hb : lowA x ≤ 122
      · have a2 : decide (lowA x ≤ 122) = true := decide_eq_true hb
        have e : identB x i = true := by unfold identB; rw [← hl, a1, a2]; simp
        rw [e]
        clear hl
        go_enter Tryz.func77, Tryz.ntmps77
        go_wp2_with (go_at_call 95; refine (hlow _).mono ?_; rintro e w' ⟨rfl, rfl⟩)
        go_ret
        exact ⟨rfl, rfl⟩
      · have a2 : decide (lowA x ≤ 122) = false := decide_eq_false hb
        have e : identB x i = (isD x && decide (0 < i)) := by unfold identB; rw [← hl, a1, a2, e1]; rfl
        rw [e]
        clear hl
        by_cases hd : isD x = true
        · rw [hd] at hdec ⊢
          go_enter Tryz.func77, Tryz.ntmps77
          go_wp2_with (first | (go_at_call 95; refine (hlow _).mono ?_; rintro e w' ⟨rfl, rfl⟩) | (go_at_call 79; refine (hdec _).mono ?_; rintro e w' ⟨rfl, rfl⟩))
          go_ret
          exact ⟨rfl, rfl⟩
        · have hd' : isD x = false := by simpa using hd
          rw [hd'] at hdec ⊢
          clear hd hd'
          go_enter Tryz.func77, Tryz.ntmps77
          go_wp2_with (first | (go_at_call 95; refine (hlow _).mono ?_; rintro e w' ⟨rfl, rfl⟩) | (go_at_call 79; refine (hdec _).mono ?_; rintro e w' ⟨rfl, rfl⟩))
          go_ret
          exact ⟨rfl, rfl⟩
    · have a1 : decide ((97 : Int) ≤ lowA x) = false := decide_eq_false ha
      have e : identB x i = (isD x && decide (0 < i)) := by unfold identB; rw [← hl, a1, e1]; rfl
      rw [e]
      clear hl
      by_cases hd : isD x = true
      · rw [hd] at hdec ⊢
        go_enter Tryz.func77, Tryz.ntmps77
        go_wp2_with (first | (go_at_call 95; refine (hlow _).mono ?_; rintro e w' ⟨rfl, rfl⟩) | (go_at_call 79; refine (hdec _).mono ?_; rintro e w' ⟨rfl, rfl⟩))
        go_ret
        exact ⟨rfl, rfl⟩
      · have hd' : isD x = false := by simpa using hd
        rw [hd'] at hdec ⊢
        clear hd hd'
        go_enter Tryz.func77, Tryz.ntmps77
        go_wp2_with (first | (go_at_call 95; refine (hlow _).mono ?_; rintro e w' ⟨rfl, rfl⟩) | (go_at_call 79; refine (hdec _).mono ?_; rintro e w' ⟨rfl, rfl⟩))
        go_ret
        exact ⟨rfl, rfl⟩

end Go.Proofs.YtlckfiflfkbofaaGreatDoor
