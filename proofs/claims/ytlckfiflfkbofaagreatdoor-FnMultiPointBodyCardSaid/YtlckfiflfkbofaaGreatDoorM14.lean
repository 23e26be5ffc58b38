/- Unrounded scaling of internal/strconv: bool2, Len64, log2Pow10, Mul64, unmin, round. Len64 of math/bits. prescale, uscale of internal/strconv. uscale of internal/strconv. pack64 of internal/strconv: a mantissa and an exponent as a float's bits, the sign apart. parseFloat64 of internal/strconv: what it answers for either sign is one magnitude and one error; without an error the magnitude is finite. Part 14 of 51 of the proof that FnMultiPointBody returns true for every text and every type of coordinates, where the listed variables hold what the text of the program lays. -/
import Derived.Test.YtlckfiflfkbofaaGreatDoorM11
import Derived.Test.YtlckfiflfkbofaaGreatDoorM13
set_option linter.all false

/- Unrounded scaling of internal/strconv: bool2, Len64, log2Pow10, Mul64, unmin, round. -/
namespace Go.Proofs.YtlckfiflfkbofaaGreatDoor
open Go.RowKit

theorem b2u_calls (b : Bool) (w : World) : Calls Tryz.prog 130 #[.bool b] w fun e w' => e = .returned (.int .u64 (if b then 1 else 0)) ∧ w = w' := by
  cases b <;> (go_enter Tryz.func130, Tryz.ntmps130; go_wp2_with (fail); go_ret; exact ⟨rfl, rfl⟩)
theorem b2i_calls (b : Bool) (w : World) : Calls Tryz.prog 144 #[.bool b] w fun e w' => e = .returned (.int .i64 (if b then 1 else 0)) ∧ w = w' := by
  cases b <;> (go_enter Tryz.func144, Tryz.ntmps144; go_wp2_with (fail); go_ret; exact ⟨rfl, rfl⟩)

theorem lp_calls (p : Int) (w : World) (h1 : -400 ≤ p) (h2 : p ≤ 400) : Calls Tryz.prog 141 #[.int .i64 p] w fun e w' => e = .returned (.int .i64 (p * 108853 / 32768)) ∧ w = w' := by
  go_enter Tryz.func141, Tryz.ntmps141
  go_wp2_with (fail)
  go_ret
  exact ⟨rfl, rfl⟩

theorem and32 {x : Nat} (h : x < 18446744073709551616) : Go.bits .and .u64 (x : Int) 4294967295 = ((x % 4294967296 : Nat) : Int) := by
  have e := u64_and_nat x 4294967295 (by omega) (by omega)
  rw [show x &&& 4294967295 = x % 4294967296 from Nat.and_two_pow_sub_one_eq_mod x 32] at e
  exact e
theorem mul32 {a b : Nat} (ha : a < 4294967296) (hb : b < 4294967296) : a * b ≤ 18446744065119617025 := by
  have := Nat.mul_le_mul (show a ≤ 4294967295 by omega) (show b ≤ 4294967295 by omega)
  exact this

/-- Mul64's high half, by its own steps. -/
def mHi (x y : Nat) : Nat :=
  let t := (x / 4294967296) * (y % 4294967296) + (x % 4294967296) * (y % 4294967296) / 4294967296
  (x / 4294967296) * (y / 4294967296) + t / 4294967296 + (t % 4294967296 + (x % 4294967296) * (y / 4294967296)) / 4294967296
def mLo (x y : Nat) : Nat := x * y % 18446744073709551616

set_option maxRecDepth 100000 in
set_option maxHeartbeats 800000 in
theorem mul_calls (x y : Nat) (w : World) (hx : x < 18446744073709551616) (hy : y < 18446744073709551616) : Calls Tryz.prog 152 #[.int .u64 x, .int .u64 y] w fun e w' => e = .returned (.tuple #[.int .u64 (mHi x y), .int .u64 (mLo x y)]) ∧ w = w' := by
  obtain ⟨x0, hx0⟩ : ∃ a, a = x % 4294967296 := ⟨_, rfl⟩
  obtain ⟨x1, hx1⟩ : ∃ a, a = x / 4294967296 := ⟨_, rfl⟩
  obtain ⟨y0, hy0⟩ : ∃ a, a = y % 4294967296 := ⟨_, rfl⟩
  obtain ⟨y1, hy1⟩ : ∃ a, a = y / 4294967296 := ⟨_, rfl⟩
  have ax := and32 hx
  have ay := and32 hy
  rw [← hx0] at ax
  rw [← hy0] at ay
  have dx : (x : Int) / 4294967296 = (x1 : Int) := by omega
  have dy : (y : Int) / 4294967296 = (y1 : Int) := by omega
  have p00 := mul32 (a := x0) (b := y0) (by omega) (by omega)
  have p10 := mul32 (a := x1) (b := y0) (by omega) (by omega)
  have p01 := mul32 (a := x0) (b := y1) (by omega) (by omega)
  have p11 := mul32 (a := x1) (b := y1) (by omega) (by omega)
  obtain ⟨P, hP⟩ : ∃ P, P = x0 * y0 := ⟨_, rfl⟩
  obtain ⟨Q, hQ⟩ : ∃ P, P = x1 * y0 := ⟨_, rfl⟩
  obtain ⟨R, hR⟩ : ∃ P, P = x0 * y1 := ⟨_, rfl⟩
  obtain ⟨S, hS⟩ : ∃ P, P = x1 * y1 := ⟨_, rfl⟩
  have eP : (x0 : Int) * (y0 : Int) = (P : Int) := by rw [hP]; simp
  have eQ : (x1 : Int) * (y0 : Int) = (Q : Int) := by rw [hQ]; simp
  have eR : (x0 : Int) * (y1 : Int) = (R : Int) := by rw [hR]; simp
  have eS : (x1 : Int) * (y1 : Int) = (S : Int) := by rw [hS]; simp
  rw [← hP] at p00
  rw [← hQ] at p10
  rw [← hR] at p01
  rw [← hS] at p11
  have eT : (P : Int) / 4294967296 = ((P / 4294967296 : Nat) : Int) := by omega
  obtain ⟨t, ht⟩ : ∃ t, t = Q + P / 4294967296 := ⟨_, rfl⟩
  have eTT : (Q : Int) + (P : Int) / 4294967296 = (t : Int) := by omega
  have at' := and32 (x := t) (by omega)
  obtain ⟨u, hu⟩ : ∃ u, u = t % 4294967296 := ⟨_, rfl⟩
  rw [← hu] at at'
  have htb : t < 18446744073709551616 := by omega
  have hub : u < 4294967296 := by omega
  have hres : Hid (mHi x y = S + t / 4294967296 + (u + R) / 4294967296) := Lib.hid (by
    unfold mHi; dsimp only; rw [← hx0, ← hx1, ← hy0, ← hy1, ← hP, ← hQ, ← hR, ← hS, ← ht, ← hu])
  have hmul : IntKind.u64.wrap ((x : Int) * (y : Int)) = (mLo x y : Int) := by
    rw [IntKind.wrap_u64]; unfold mLo; simp
  clear hx0 hx1 hy0 hy1 hP hQ hR hS ht hu eT
  go_enter Tryz.func152, Tryz.ntmps152
  go_wp2_with (fail)
  go_ret2
  have e : (S : Int) + (t : Int) / 4294967296 + ((u : Int) + (R : Int)) / 4294967296 = (mHi x y : Int) := by rw [hres.out]; omega
  exact ⟨congrArg (fun z => Ending.returned (.tuple #[.int .u64 z, .int .u64 (mLo x y)])) e, rfl⟩

theorem mHi_lt {x y : Nat} (hx : x < 18446744073709551616) (hy : y < 18446744073709551616) : mHi x y < 18446744073709551616 := by
  unfold mHi
  dsimp only
  have p00 := mul32 (a := x % 4294967296) (b := y % 4294967296) (by omega) (by omega)
  have p10 := mul32 (a := x / 4294967296) (b := y % 4294967296) (by omega) (by omega)
  have p01 := mul32 (a := x % 4294967296) (b := y / 4294967296) (by omega) (by omega)
  have p11 := mul32 (a := x / 4294967296) (b := y / 4294967296) (by omega) (by omega)
  omega
theorem mLo_lt (x y : Nat) : mLo x y < 18446744073709551616 := Nat.mod_lt _ (by decide)

theorem unmin_calls (w : World) : Calls Tryz.prog 145 #[.int .u64 9007199254740992] w fun e w' => e = .returned (.int .u64 36028797018963966) ∧ w = w' := by
  go_enter Tryz.func145, Tryz.ntmps145
  go_wp2_with (fail)
  go_ret
  exact ⟨rfl, rfl⟩

theorem and1 {x : Nat} (h : x < 18446744073709551616) : Go.bits .and .u64 (x : Int) 1 = ((x % 2 : Nat) : Int) := by
  have e := u64_and_nat x 1 (by omega) (by omega)
  rw [show x &&& 1 = x % 2 from Nat.and_two_pow_sub_one_eq_mod x 1] at e
  exact e

def uRound (u : Nat) : Nat := (u + 1 + u / 4 % 2) / 4
theorem round_calls (u : Nat) (w : World) (h : u < 9223372036854775808) : Calls Tryz.prog 147 #[.int .u64 u] w fun e w' => e = .returned (.int .u64 (uRound u)) ∧ w = w' := by
  have a := and1 (x := u / 4) (by omega)
  have d : (u : Int) / 4 = ((u / 4 : Nat) : Int) := by omega
  obtain ⟨q, hq⟩ : ∃ q, q = u / 4 % 2 := ⟨_, rfl⟩
  rw [← hq, ← d] at a
  have hq1 : q ≤ 1 := by omega
  have hr : Hid (uRound u = (u + 1 + q) / 4) := Lib.hid (by unfold uRound; rw [hq])
  clear hq d
  go_enter Tryz.func147, Tryz.ntmps147
  go_wp2_with (fail)
  go_ret
  exact ⟨congrArg Ending.returned (int_eq (by rw [hr.out]; omega)), rfl⟩

end Go.Proofs.YtlckfiflfkbofaaGreatDoor

/- Len64 of math/bits. -/
namespace Go.Proofs.YtlckfiflfkbofaaGreatDoor
open Go.RowKit

/-- How many bits a byte has. -/
def l8 (n : Nat) : Nat := if n = 0 then 0 else Nat.log2 n + 1
def lenA (x : Int) : Int × Int := if 4294967296 ≤ x then (x / 4294967296, 32) else (x, 0)
def lenB (a : Int × Int) : Int × Int := if 65536 ≤ a.1 then (a.1 / 65536, a.2 + 16) else a
def lenC (a : Int × Int) : Int × Int := if 256 ≤ a.1 then (a.1 / 256, a.2 + 8) else a
def lenD (a : Int × Int) : Int := a.2 + l8 (a.1.toNat % 256)
def len64 (x : Int) : Int := lenD (lenC (lenB (lenA x)))

theorem l8_le : ((List.range 256).all fun n => decide (l8 n ≤ 8)) = true := by decide +kernel
theorem len64_le {x : Int} : 0 ≤ len64 x ∧ len64 x ≤ 64 := by
  have h8 : l8 ((lenC (lenB (lenA x))).1.toNat % 256) ≤ 8 := by
    have := List.all_eq_true.1 l8_le ((lenC (lenB (lenA x))).1.toNat % 256) (List.mem_range.2 (Nat.mod_lt _ (by decide)))
    simpa using this
  have : 0 ≤ (lenC (lenB (lenA x))).2 ∧ (lenC (lenB (lenA x))).2 ≤ 56 := by
    unfold lenC lenB lenA
    split <;> split <;> split <;> simp
  unfold len64 lenD; omega

set_option maxRecDepth 100000 in
set_option maxHeartbeats 800000 in
theorem len_calls (x : Int) (w : World) (h0 : 0 ≤ x) (hx : x < 18446744073709551616) : Calls Tryz.prog 140 #[.int .u64 x] w fun e w' => e = .returned (.int .i64 (len64 x)) ∧ w = w' := by
  obtain ⟨a, ha⟩ : ∃ a, a = lenA x := ⟨_, rfl⟩
  have hres : len64 x = lenD (lenC (lenB a)) := by rw [ha]; rfl
  have a1 : 0 ≤ a.1 ∧ a.1 < 4294967296 ∧ 0 ≤ a.2 ∧ a.2 ≤ 32 := by rw [ha]; unfold lenA; split <;> dsimp only <;> omega
  obtain ⟨b, hb⟩ : ∃ b, b = lenB a := ⟨_, rfl⟩
  rw [← hb] at hres
  have b1 : 0 ≤ b.1 ∧ b.1 < 65536 ∧ 0 ≤ b.2 ∧ b.2 ≤ 48 := by rw [hb]; unfold lenB; split <;> (try dsimp only) <;> omega
  obtain ⟨c, hc⟩ : ∃ c, c = lenC b := ⟨_, rfl⟩
  rw [← hc] at hres
  have c1 : 0 ≤ c.1 ∧ c.1 < 256 ∧ 0 ≤ c.2 ∧ c.2 ≤ 56 := by rw [hc]; unfold lenC; split <;> (try dsimp only) <;> omega
  obtain ⟨A, A', hA⟩ : ∃ A A', a = (A, A') := ⟨a.1, a.2, rfl⟩
  obtain ⟨B, B', hB⟩ : ∃ A A', b = (A, A') := ⟨b.1, b.2, rfl⟩
  obtain ⟨C, C', hC⟩ : ∃ A A', c = (A, A') := ⟨c.1, c.2, rfl⟩
  subst hA hB hC
  dsimp only at a1 b1 c1
  obtain ⟨a1, a2, a3, a4⟩ := a1
  obtain ⟨b1, b2, b3, b4⟩ := b1
  obtain ⟨c1, c2, c3, c4⟩ := c1
  rw [hres]
  clear hres
  have HA := Lib.hid ha
  have HB := Lib.hid hb
  have HC := Lib.hid hc
  clear ha hb hc
  go_enter Tryz.func140, Tryz.ntmps140
  generalize hT : ByteArray.mk _ = T
  have hT1 : T.size = 256 := by rw [← hT]; rfl
  have hT2 : ((List.range 256).all fun n => decide ((T[n]!).toNat = l8 n)) = true := by rw [← hT]; decide +kernel
  clear hT
  have HT2 := Lib.hid hT2
  clear hT2
  go_upto_if 4 with (fail)
  go_cut [0, 2] (fun s0 s2 wx => s0 = .int .u64 A ∧ s2 = .int .i64 A' ∧ w = wx)
  case first =>
    by_cases h : 4294967296 ≤ x
    · have hd : decide (4294967296 ≤ x) = true := decide_eq_true h
      have he := HA.out
      unfold lenA at he
      rw [if_pos h] at he
      obtain ⟨rfl, rfl⟩ := Prod.mk.inj he
      go_wp2_with (fail)
      go_meet
      exact ⟨rfl, rfl, rfl⟩
    · have hd : decide (4294967296 ≤ x) = false := decide_eq_false h
      have he := HA.out
      unfold lenA at he
      rw [if_neg h] at he
      obtain ⟨rfl, rfl⟩ := Prod.mk.inj he
      go_wp2_with (fail)
      go_meet
      exact ⟨rfl, rfl, rfl⟩
  case rest =>
  obtain ⟨rfl, rfl, rfl⟩ := hcut
  go_upto_if 8 with (fail)
  go_cut [0, 2] (fun s0 s2 wx => s0 = .int .u64 B ∧ s2 = .int .i64 B' ∧ w = wx)
  case first =>
    by_cases h : 65536 ≤ A
    · have hd : decide (65536 ≤ A) = true := decide_eq_true h
      have he := HB.out
      unfold lenB at he
      rw [if_pos h] at he
      obtain ⟨rfl, rfl⟩ := Prod.mk.inj he
      go_wp2_with (fail)
      go_meet
      exact ⟨rfl, rfl, rfl⟩
    · have hd : decide (65536 ≤ A) = false := decide_eq_false h
      have he := HB.out
      unfold lenB at he
      rw [if_neg h] at he
      obtain ⟨rfl, rfl⟩ := Prod.mk.inj he
      go_wp2_with (fail)
      go_meet
      exact ⟨rfl, rfl, rfl⟩
  case rest =>
  obtain ⟨rfl, rfl, rfl⟩ := hcut
  go_upto_if 14 with (fail)
  go_cut [0, 2] (fun s0 s2 wx => s0 = .int .u64 C ∧ s2 = .int .i64 C' ∧ w = wx)
  case first =>
    by_cases h : 256 ≤ B
    · have hd : decide (256 ≤ B) = true := decide_eq_true h
      have he := HC.out
      unfold lenC at he
      rw [if_pos h] at he
      obtain ⟨rfl, rfl⟩ := Prod.mk.inj he
      go_wp2_with (fail)
      go_meet
      exact ⟨rfl, rfl, rfl⟩
    · have hd : decide (256 ≤ B) = false := decide_eq_false h
      have he := HC.out
      unfold lenC at he
      rw [if_neg h] at he
      obtain ⟨rfl, rfl⟩ := Prod.mk.inj he
      go_wp2_with (fail)
      go_meet
      exact ⟨rfl, rfl, rfl⟩
  case rest =>
  obtain ⟨rfl, rfl, rfl⟩ := hcut
  obtain ⟨k, rfl⟩ : ∃ k : Nat, C = k := ⟨C.toNat, by omega⟩
  have hci : (k : Int) < T.size := by omega
  have hcn : k < T.size := by omega
  have hk : k < 256 := by omega
  have hl : T[k].toNat = l8 k := by
    have := List.all_eq_true.1 HT2.out k (List.mem_range.2 hk)
    rw [decide_eq_true_eq] at this
    rw [← this]
    rw [getElem!_pos T k hcn]
  have hres : Hid (lenD ((k : Int), C') = C' + l8 k) := Lib.hid (by
    unfold lenD; rw [show ((k : Int), C').1.toNat = k from rfl, Nat.mod_eq_of_lt hk])
  have hl9 : T[k].toNat < 256 := UInt8.toNat_lt _
  have HL := Lib.hid hl
  clear hl
  go_wp2_with (fail)
  go_ret
  exact ⟨congrArg Ending.returned (int_eq (by rw [hres.out, HL.out])), rfl⟩

end Go.Proofs.YtlckfiflfkbofaaGreatDoor

/- prescale, uscale of internal/strconv. -/
namespace Go.Proofs.YtlckfiflfkbofaaGreatDoor
open Go.RowKit

/-- The table of powers of ten: two words a power. -/
structure PTab (w : World) (pt : Nat → Nat) : Prop where
  c : ∀ i, i < 1392 → w.cell? ⟨14, i, none⟩ = some (.int .u64 (pt i : Int))
  b : ∀ i, pt i < 18446744073709551616

theorem PTab.keep {w w' : World} {pt : Nat → Nat} {S : Nat → Prop} (h : PTab w pt) (k : Keep S w w') (hb : ¬ S 14) : PTab w' pt := ⟨fun i hi => k.cell (h.c i hi) hb, h.b⟩

/-- A scaler's cells. -/
def scF (hi lo : Nat) (s : Int) : Nat → Value := fun i => if i = 0 then .int .u64 (hi : Int) else if i = 1 then .int .u64 (lo : Int) else .int .i64 s
def IsSc (w : World) (b hi lo : Nat) (s : Int) : Prop := Cells w b 3 (scF hi lo s)
theorem IsSc.c0 {w : World} {b hi lo : Nat} {s : Int} (h : IsSc w b hi lo s) : w.cell? ⟨b, 0, none⟩ = some (.int .u64 (hi : Int)) := Cells.cell h (i := 0) (by decide)
theorem IsSc.c1 {w : World} {b hi lo : Nat} {s : Int} (h : IsSc w b hi lo s) : w.cell? ⟨b, 1, none⟩ = some (.int .u64 (lo : Int)) := Cells.cell h (i := 1) (by decide)
theorem IsSc.c2 {w : World} {b hi lo : Nat} {s : Int} (h : IsSc w b hi lo s) : w.cell? ⟨b, 2, none⟩ = some (.int .i64 s) := Cells.cell h (i := 2) (by decide)
theorem IsSc.set0 {w : World} {b hi lo : Nat} {s : Int} (h : IsSc w b hi lo s) (x : Nat) : IsSc (w.setCell ⟨b, 0, none⟩ (.int .u64 (x : Int))) b x lo s :=
  Cells.set h 0 _ fun i _ => by
    by_cases e : i = 0
    · subst e; rfl
    · simp only [scF, e, if_false]
theorem IsSc.set1 {w : World} {b hi lo : Nat} {s : Int} (h : IsSc w b hi lo s) (x : Nat) : IsSc (w.setCell ⟨b, 1, none⟩ (.int .u64 (x : Int))) b hi x s :=
  Cells.set h 1 _ fun i _ => by
    by_cases e : i = 1
    · subst e; rfl
    · simp only [scF, e, if_false]
theorem IsSc.set2 {w : World} {b hi lo : Nat} {s : Int} (h : IsSc w b hi lo s) (x : Int) : IsSc (w.setCell ⟨b, 2, none⟩ (.int .i64 x)) b hi lo x :=
  Cells.set h 2 _ fun i hi => by
    have : i = 0 ∨ i = 1 ∨ i = 2 := by omega
    rcases this with rfl | rfl | rfl <;> rfl

set_option maxRecDepth 100000 in
set_option maxHeartbeats 800000 in
theorem pre_calls (b : Nat) (e lp : Int) (q : Nat) (pt : Nat → Nat) (hi lo : Nat) (s : Int) (w : World) (T : PTab w pt) (hq : q < 690) (he : -10000 ≤ e ∧ e ≤ 10000) (hl : -10000 ≤ lp ∧ lp ≤ 10000) (hb : b ≠ 14) (h : IsSc w b hi lo s) :
    Calls Tryz.prog 142 #[.pointer (some ⟨b, 0, none⟩), .int .i64 e, .int .i64 ((q : Int) - 348), .int .i64 lp] w fun r w' => r = .returned (.tuple #[]) ∧ IsSc w' b (pt (q * 2)) (pt (q * 2 + 1)) (-(e + lp + 3)) ∧ Keep (At1 b) w w' := by
  have c0 := h.c0
  have c1 := h.c1
  have c2 := h.c2
  have f0 := Cells.froz h (i := 0) (by decide)
  have f1 := Cells.froz h (i := 1) (by decide)
  have f2 := Cells.froz h (i := 2) (by decide)
  have t0 := T.c (q * 2) (by omega)
  have t1 := T.c (q * 2 + 1) (by omega)
  have hi1 : (q : Int) - 348 - -348 = (q : Int) := by omega
  have HH := Lib.hid h
  clear h
  go_enter Tryz.func142, Tryz.ntmps142
  have hbn : (14 = b) = False := eq_false (fun h => hb h.symm)
  have hbn' : (b = 14) = False := eq_false hb
  go_wp2_with (fail)
  go_end0
  exact ⟨rfl, ((HH.out.set0 _).set1 _).set2 _, (((Keep.refl (At1 b) w).setCell (p := ⟨b, 0, none⟩) (.inr rfl) _).setCell (p := ⟨b, 1, none⟩) (.inr rfl) _).setCell (p := ⟨b, 2, none⟩) (.inr rfl) _⟩

end Go.Proofs.YtlckfiflfkbofaaGreatDoor

/- uscale of internal/strconv. -/
namespace Go.Proofs.YtlckfiflfkbofaaGreatDoor
open Go.RowKit

/-- A difference in 64 bits. -/
def sub64 (a b : Nat) : Nat := (a + 18446744073709551616 - b) % 18446744073709551616
theorem sub64_lt (a b : Nat) : sub64 a b < 18446744073709551616 := Nat.mod_lt _ (by decide)
theorem wrap_sub {a b : Nat} (ha : a < 18446744073709551616) (hb : b < 18446744073709551616) : IntKind.u64.wrap ((a : Int) - (b : Int)) = (sub64 a b : Int) := by
  rw [IntKind.wrap_u64]; unfold sub64; omega

/-- What uscale answers. -/
def usc (x h l k : Nat) : Nat :=
  let H := mHi x h
  if H / 2 ^ k * 2 ^ k ≠ H then (H / 2 ^ k) ||| 1
  else
    let H1 := sub64 H (if mLo x h < mHi x l then 1 else 0)
    (H1 / 2 ^ k) ||| (if sub64 (mLo x h) (mHi x l) > 1 then 1 else 0)

theorem b2u_quiet (b : Bool) (w : World) (n : Nat) : Calls Tryz.prog 130 #[.bool b] (w.drewN n) fun e w'' => e = .returned (.int .u64 (if b then 1 else 0)) ∧ ∃ m, w'' = w.drewN m :=
  Calls.quiet_of_same ((b2u_calls b _).mono fun _ _ h => ⟨h.1, h.2.symm⟩)

theorem or1 {x : Nat} (h : x < 18446744073709551616) : Go.bits .or .u64 (x : Int) 1 = ((x ||| 1 : Nat) : Int) := u64_or_nat x 1 (by omega) (by omega)
theorem i64_and63 {n : Nat} (h : n ≤ 63) : Go.bits .and .i64 (n : Int) 63 = n := by
  have hd : ((List.range 64).all fun n => decide (Go.bits .and .i64 ((n : Nat) : Int) 63 = n)) = true := by decide +kernel
  have := List.all_eq_true.1 hd n (List.mem_range.2 (by omega))
  simpa using this

set_option maxRecDepth 100000 in
set_option maxHeartbeats 1600000 in
theorem usc_calls (b x h l k : Nat) (w : World) (hx : x < 18446744073709551616) (hh : h < 18446744073709551616) (hl : l < 18446744073709551616) (hk : k ≤ 63) (hI : IsSc w b h l k) :
    Calls Tryz.prog 143 #[.int .u64 x, .pointer (some ⟨b, 0, none⟩)] w fun e w' => e = .returned (.int .u64 (usc x h l k)) ∧ ∃ n, w' = w.drewN n := by
  have c0 := hI.c0
  have c1 := hI.c1
  have c2 := hI.c2
  have HHlt : mHi x h < 18446744073709551616 := mHi_lt hx hh
  have MMlt : mLo x h < 18446744073709551616 := mLo_lt _ _
  have M2lt : mHi x l < 18446744073709551616 := mHi_lt hx hl
  have hu : usc x h l k = if mHi x h / 2 ^ k * 2 ^ k ≠ mHi x h then (mHi x h / 2 ^ k) ||| 1 else
      (sub64 (mHi x h) (if mLo x h < mHi x l then 1 else 0)) / 2 ^ k ||| (if sub64 (mLo x h) (mHi x l) > 1 then 1 else 0) := rfl
  rw [hu]
  clear hu hI
  have ak := i64_and63 hk
  obtain ⟨D, hD⟩ : ∃ D, D = (mHi x h) / 2 ^ k := ⟨_, rfl⟩
  have dD : ((mHi x h) : Int) / 2 ^ k = (D : Int) := by rw [hD]; exact div_eq _ _
  obtain ⟨G, hG⟩ : ∃ G, G = D * 2 ^ k := ⟨_, rfl⟩
  have hGH : G ≤ (mHi x h) := by rw [hG, hD]; exact Nat.div_mul_le_self _ _
  have hDH : D ≤ (mHi x h) := by rw [hD]; exact Nat.div_le_self _ _
  have wG : IntKind.u64.wrap ((D : Int) * 2 ^ k) = (G : Int) := by
    have : (D : Int) * 2 ^ k = (G : Int) := by rw [hG]; simp
    rw [this, IntWalk.u64_in _ (by omega)]
  have oD := or1 (x := D) (by omega)
  have hO := Nat.or_lt_two_pow (n := 64) (show D < 2 ^ 64 by omega) (show 1 < 2 ^ 64 by decide)
  rw [← hD, ← hG]
  clear hD hG
  obtain ⟨W, hW⟩ : ∃ W, W = sub64 (mLo x h) (mHi x l) := ⟨_, rfl⟩
  have wW : IntKind.u64.wrap (((mLo x h) : Int) - ((mHi x l) : Int)) = (W : Int) := by rw [hW]; exact wrap_sub MMlt M2lt
  have hWlt : W < 18446744073709551616 := hW ▸ sub64_lt _ _
  rw [← hW]
  clear hW
  obtain ⟨H1, hH1⟩ : ∃ H1, H1 = sub64 (mHi x h) (if mLo x h < mHi x l then 1 else 0) := ⟨_, rfl⟩
  have wH : ∀ c : Nat, c = (if mLo x h < mHi x l then 1 else 0) → IntKind.u64.wrap ((mHi x h : Int) - (c : Int)) = (H1 : Int) := by
    intro c hc
    rw [hH1, ← hc]; exact wrap_sub HHlt (by split at hc <;> omega)
  have H1lt : H1 < 18446744073709551616 := hH1 ▸ sub64_lt _ _
  rw [← hH1]
  clear hH1
  obtain ⟨D1, hD1⟩ : ∃ D, D = H1 / 2 ^ k := ⟨_, rfl⟩
  have dD1 : (H1 : Int) / 2 ^ k = (D1 : Int) := by rw [hD1]; exact div_eq _ _
  have hD1b : D1 ≤ H1 := by rw [hD1]; exact Nat.div_le_self _ _
  rw [← hD1]
  clear hD1
  by_cases hq : G = mHi x h
  · have bq : ((G : Int) != (mHi x h : Int)) = false := by rw [hq]; simp
    have last : ∀ z : Nat, z = (if W > 1 then 1 else 0) → Go.bits .or .u64 (D1 : Int) (z : Int) = ((D1 ||| (if W > 1 then 1 else 0) : Nat) : Int) := by
      intro z hz; rw [← hz]; exact u64_or_nat D1 z (by omega) (by split at hz <;> omega)
    rw [if_neg (by simpa using hq)]
    clear hq
    have w1 : mLo x h < mHi x l → IntKind.u64.wrap ((mHi x h : Int) - 1) = (H1 : Int) := fun hlt => wH 1 (if_pos hlt).symm
    have w0 : ¬ mLo x h < mHi x l → IntKind.u64.wrap ((mHi x h : Int)) = (H1 : Int) := fun hlt => by have := wH 0 (if_neg hlt).symm; simpa using this
    have l1 : W > 1 → Go.bits .or .u64 (D1 : Int) 1 = ((D1 ||| (if W > 1 then 1 else 0) : Nat) : Int) := fun hw => last 1 (if_pos hw).symm
    have l0 : ¬ W > 1 → Go.bits .or .u64 (D1 : Int) 0 = ((D1 ||| (if W > 1 then 1 else 0) : Nat) : Int) := fun hw => last 0 (if_neg hw).symm
    generalize (D1 ||| (if W > 1 then 1 else 0)) = R at last l1 l0 ⊢
    clear wH last
    have WH := Lib.hid (And.intro w1 w0)
    have LH := Lib.hid (And.intro l1 l0)
    clear w1 w0 l1 l0
    by_cases hlt : mLo x h < mHi x l
    · have wH := WH.out.1 hlt
      by_cases hw1 : W > 1
      · have oz := LH.out.1 hw1
        clear WH LH
        go_enter Tryz.func143, Tryz.ntmps143
        go_wp2_with (first | (go_at_call 152; refine (mul_calls _ _ _ hx (by assumption)).mono ?_; rintro e w' ⟨rfl, rfl⟩) | (go_at_call 130; refine (b2u_calls _ _).mono ?_; rintro e w' ⟨rfl, rfl⟩))
        go_quiet ((go_at_call 130; exact b2u_quiet _ _ _))
        go_wp2
        all_goals (go_ret; exact ⟨rfl, _, rfl⟩)
      · have oz := LH.out.2 hw1
        clear WH LH
        go_enter Tryz.func143, Tryz.ntmps143
        go_wp2_with (first | (go_at_call 152; refine (mul_calls _ _ _ hx (by assumption)).mono ?_; rintro e w' ⟨rfl, rfl⟩) | (go_at_call 130; refine (b2u_calls _ _).mono ?_; rintro e w' ⟨rfl, rfl⟩))
        go_quiet ((go_at_call 130; exact b2u_quiet _ _ _))
        go_wp2
        all_goals (go_ret; exact ⟨rfl, _, rfl⟩)
    · have wH := WH.out.2 hlt
      by_cases hw1 : W > 1
      · have oz := LH.out.1 hw1
        clear WH LH
        go_enter Tryz.func143, Tryz.ntmps143
        go_wp2_with (first | (go_at_call 152; refine (mul_calls _ _ _ hx (by assumption)).mono ?_; rintro e w' ⟨rfl, rfl⟩) | (go_at_call 130; refine (b2u_calls _ _).mono ?_; rintro e w' ⟨rfl, rfl⟩))
        go_quiet ((go_at_call 130; exact b2u_quiet _ _ _))
        go_wp2
        all_goals (go_ret; exact ⟨rfl, _, rfl⟩)
      · have oz := LH.out.2 hw1
        clear WH LH
        go_enter Tryz.func143, Tryz.ntmps143
        go_wp2_with (first | (go_at_call 152; refine (mul_calls _ _ _ hx (by assumption)).mono ?_; rintro e w' ⟨rfl, rfl⟩) | (go_at_call 130; refine (b2u_calls _ _).mono ?_; rintro e w' ⟨rfl, rfl⟩))
        go_quiet ((go_at_call 130; exact b2u_quiet _ _ _))
        go_wp2
        all_goals (go_ret; exact ⟨rfl, _, rfl⟩)
  · rw [if_pos (by simpa using hq)]
    have bq : ((G : Int) != (mHi x h : Int)) = true := by simp; omega
    clear wH
    go_enter Tryz.func143, Tryz.ntmps143
    go_wp2_with (first | (go_at_call 152; refine (mul_calls _ _ _ hx (by assumption)).mono ?_; rintro e w' ⟨rfl, rfl⟩) | (go_at_call 130; refine (b2u_calls _ _).mono ?_; rintro e w' ⟨rfl, rfl⟩))
    go_ret
    exact ⟨rfl, 0, rfl⟩

end Go.Proofs.YtlckfiflfkbofaaGreatDoor

/- pack64 of internal/strconv: a mantissa and an exponent as a float's bits, the sign apart. -/
namespace Go.Proofs.YtlckfiflfkbofaaGreatDoor
open Go.RowKit

/-- The sign bit ahead of a pattern. -/
def sgN (n : Bool) (x : Nat) : Nat := if n then x + 9223372036854775808 else x
theorem sgN_lt {n : Bool} {x : Nat} (h : x < 9223372036854775808) : sgN n x < 18446744073709551616 := by unfold sgN; split <;> omega

def infN : Nat := 9218868437227405312

def pkE (r : Nat) (e : Int) : Bool := decide (r / 4503599627370496 % 2 = 1) && decide (972 ≤ e)
def pkB (r : Nat) (e : Int) : Nat := if r / 4503599627370496 % 2 = 0 then r else if 972 ≤ e then infN else (r - 4503599627370496) + (1075 + e).toNat * 4503599627370496

theorem pkB_lt {r : Nat} {e : Int} (h : r ≤ 9007199254740992) (he : -1074 ≤ e) : pkB r e < 9223372036854775808 := by
  unfold pkB infN; split
  · omega
  · split
    · omega
    · have : (1075 + e).toNat ≤ 2046 := by omega
      have : (1075 + e).toNat * 4503599627370496 ≤ 2046 * 4503599627370496 := Nat.mul_le_mul_right _ this
      omega
theorem pkB_fin {r : Nat} {e : Int} (h : r ≤ 9007199254740992) (he : -1074 ≤ e) (hE : pkE r e = false) : pkB r e < infN := by
  unfold pkE at hE; unfold pkB infN; split
  · omega
  · split
    · rename_i h1 h2
      have : r / 4503599627370496 % 2 = 1 := by omega
      simp [this, h2] at hE
    · have : (1075 + e).toNat ≤ 2046 := by omega
      have : (1075 + e).toNat * 4503599627370496 ≤ 2046 * 4503599627370496 := Nat.mul_le_mul_right _ this
      have : r - 4503599627370496 < 4503599627370496 := by omega
      omega

theorem and_pow {m k : Nat} : m &&& 2 ^ k = if m / 2 ^ k % 2 = 1 then 2 ^ k else 0 := by
  apply Nat.eq_of_testBit_eq
  intro i
  rw [Nat.testBit_and, Nat.testBit_two_pow]
  by_cases hi : k = i
  · subst hi
    rw [Nat.testBit_eq_decide_div_mod_eq]
    by_cases hb : m / 2 ^ k % 2 = 1
    · simp [hb]
    · simp [hb]
  · by_cases hb : m / 2 ^ k % 2 = 1
    · simp [hb, hi, Nat.testBit_two_pow]
    · simp [hb, hi]
theorem and52 {m : Nat} : m &&& 4503599627370496 = if m / 4503599627370496 % 2 = 1 then 4503599627370496 else 0 := and_pow (k := 52)
theorem and63 {m : Nat} : m &&& 9223372036854775808 = if m / 9223372036854775808 % 2 = 1 then 9223372036854775808 else 0 := and_pow (k := 63)

theorem sgN_and52 (n : Bool) (r : Nat) (h : r < 9223372036854775808) : sgN n r &&& 4503599627370496 = if r / 4503599627370496 % 2 = 1 then 4503599627370496 else 0 := by
  rw [and52]
  have : sgN n r / 4503599627370496 % 2 = r / 4503599627370496 % 2 := by unfold sgN; split <;> omega
  rw [this]
theorem sgN_inf (n : Bool) (r : Nat) (h : r < 9223372036854775808) : (sgN n r &&& 9223372036854775808) ||| 9218868437227405312 = sgN n infN := by
  rw [and63]
  cases n with
  | true =>
    rw [if_pos (by unfold sgN; rw [if_pos rfl]; omega)]
    decide
  | false =>
    rw [if_neg (by unfold sgN; rw [if_neg (by decide)]; omega)]
    decide
theorem sgN_or (n : Bool) {r : Nat} (h : r < 9223372036854775808) : (if n then 9223372036854775808 else 0) ||| r = sgN n r := by
  cases n with
  | true =>
    have := Nat.two_pow_add_eq_or_of_lt (i := 63) (b := r) h 1
    unfold sgN
    have e : (9223372036854775808 : Nat) = 2 ^ 63 * 1 := by decide
    simp only [if_true]
    rw [e, ← this]; omega
  | false => simp [sgN]

theorem clear52 (c : Nat) (hc : c < 4503599627370496) : c &&& 18442240474082181119 = c := by
  rw [show (18442240474082181119 : Nat) = 2 ^ 53 * 2047 ||| (2 ^ 52 - 1) by decide, Nat.and_or_distrib_left, Nat.and_two_pow_sub_one_eq_mod]
  have h0 : c &&& 2 ^ 53 * 2047 = 0 := by
    apply Nat.eq_of_testBit_eq
    intro i
    rw [Nat.testBit_and, Nat.testBit_two_pow_mul, Nat.zero_testBit]
    by_cases hi : i ≥ 53
    · have : c < 2 ^ i := Nat.lt_of_lt_of_le (show c < 2 ^ 52 from hc) (Nat.pow_le_pow_right (by omega) (by omega))
      simp [Nat.testBit_lt_two_pow this]
    · simp [hi]
  rw [h0, Nat.zero_or]
  exact Nat.mod_eq_of_lt hc

theorem sgN_norm (n : Bool) (r k : Nat) (h1 : 4503599627370496 ≤ r) (h2 : r < 9007199254740992) (hk : k ≤ 2047) :
    (sgN n r &&& 18442240474082181119) ||| k * 4503599627370496 = sgN n (r - 4503599627370496 + k * 4503599627370496) := by
  obtain ⟨c, rfl⟩ : ∃ c, r = c + 4503599627370496 := ⟨r - 4503599627370496, by omega⟩
  have hc : c < 4503599627370496 := by omega
  have e0 : c + 4503599627370496 = 4503599627370496 ||| c := by
    have := Nat.two_pow_add_eq_or_of_lt (i := 52) (b := c) hc 1
    rw [show (4503599627370496 : Nat) = 2 ^ 52 * 1 by decide, ← this]; omega
  have ek : k * 4503599627370496 ||| c = k * 4503599627370496 + c := by
    have := Nat.two_pow_add_eq_or_of_lt (i := 52) (b := c) hc k
    rw [show k * 4503599627370496 = 2 ^ 52 * k by omega, ← this]
  rw [← sgN_or n (r := c + 4503599627370496) (by omega), Nat.and_or_distrib_right, e0, Nat.and_or_distrib_right, clear52 c hc]
  have hkl : k * 4503599627370496 ≤ 2047 * 4503599627370496 := Nat.mul_le_mul_right _ hk
  have hz : 4503599627370496 &&& 18442240474082181119 = 0 := by decide
  rw [hz, Nat.zero_or]
  have hn : (if n = true then 9223372036854775808 else 0) &&& 18442240474082181119 = (if n = true then 9223372036854775808 else 0) := by cases n <;> decide
  rw [hn, Nat.or_assoc, Nat.or_comm c, ek]
  have := sgN_or n (r := k * 4503599627370496 + c) (by omega)
  rw [this, ← e0, show c + 4503599627370496 - 4503599627370496 + k * 4503599627370496 = k * 4503599627370496 + c by omega]

def errV (e : Bool) : Value := if e then .iface 167 (.int .i64 1) else .nilIface

set_option maxRecDepth 100000 in
set_option maxHeartbeats 1600000 in
theorem pack_calls (n : Bool) (r : Nat) (e : Int) (w : World) (hr : r ≤ 9007199254740992) (he : -1074 ≤ e) (he2 : e ≤ 100000) :
    Calls Tryz.prog 150 #[.int .u64 (sgN n r : Nat), .int .i64 e] w fun en w' => en = .returned (.tuple #[.float .f64 (sgN n (pkB r e)), errV (pkE r e)]) ∧ w = w' := by
  have hm := sgN_lt (n := n) (x := r) (by omega)
  have a52 := sgN_and52 n r (by omega)
  have ainf := sgN_inf n r (by omega)
  have hB := pkB_lt hr he
  obtain ⟨m, hme⟩ : ∃ m, m = sgN n r := ⟨_, rfl⟩
  rw [← hme] at hm a52 ainf ⊢
  have A1 : Go.bits .and .u64 (m : Int) 4503599627370496 = ((m &&& 4503599627370496 : Nat) : Int) := u64_and_nat m 4503599627370496 hm (by decide)
  have f1 := frombits_run (m : Int)
  by_cases h52 : r / 4503599627370496 % 2 = 1
  · rw [a52, if_pos h52] at A1
    have h1 : 4503599627370496 ≤ r := by omega
    have h2 : r < 9007199254740992 := by omega
    by_cases hE : 972 ≤ e
    · have hp : pkB r e = infN := by unfold pkB; rw [if_neg (by omega), if_pos hE]
      have hpe : pkE r e = true := by unfold pkE; simp [h52, hE]
      have A2 : Go.bits .and .u64 (m : Int) 9223372036854775808 = ((m &&& 9223372036854775808 : Nat) : Int) := u64_and_nat m 9223372036854775808 hm (by decide)
      have hand : m &&& 9223372036854775808 ≤ 9223372036854775808 := Nat.and_le_right
      have A3 : Go.bits .or .u64 ((m &&& 9223372036854775808 : Nat) : Int) 9218868437227405312 = (sgN n infN : Nat) := by
        rw [← ainf]; exact u64_or_nat _ 9218868437227405312 (by omega) (by decide)
      have f2 := frombits_run ((sgN n infN : Nat) : Int)
      rw [hp, hpe]
      generalize sgN n infN = Z at *
      clear ainf a52
      generalize m &&& 9223372036854775808 = Y at *
      have e2 : decide (e ≥ 972) = true := decide_eq_true hE
      clear hme
      go_enter Tryz.func150, Tryz.ntmps150
      go_wp2_with (fail)
      go_ret2
      exact ⟨rfl, rfl⟩
    · have hk : (1075 + e).toNat ≤ 2046 := by omega
      have hp : pkB r e = (r - 4503599627370496) + (1075 + e).toNat * 4503599627370496 := by unfold pkB; rw [if_neg (by omega), if_neg hE]
      have hpe : pkE r e = false := by unfold pkE; simp [hE]
      have norm := sgN_norm n r (1075 + e).toNat h1 h2 (by omega)
      rw [← hp, ← hme] at norm
      have A2 : Go.bits .andNot .u64 (m : Int) 4503599627370496 = ((m &&& 18442240474082181119 : Nat) : Int) := u64_andNot_nat m 4503599627370496 hm (by decide)
      have hand : m &&& 18442240474082181119 ≤ 18442240474082181119 := Nat.and_le_right
      have hkl : (1075 + e).toNat * 4503599627370496 ≤ 2046 * 4503599627370496 := Nat.mul_le_mul_right _ hk
      have A3 : Go.bits .or .u64 ((m &&& 18442240474082181119 : Nat) : Int) (((1075 + e).toNat * 4503599627370496 : Nat) : Int) = (sgN n (pkB r e) : Nat) := by
        rw [← norm]; exact u64_or_nat _ _ (by omega) (by omega)
      have A4 : IntKind.u64.wrap (1075 + e) = ((1075 + e).toNat : Int) := by rw [IntWalk.u64_in _ (by omega)]; omega
      have A0 : 1075 + e = ((1075 + e).toNat : Int) := by omega
      have f2 := frombits_run ((sgN n (pkB r e) : Nat) : Int)
      rw [hpe]
      clear norm hp
      generalize sgN n (pkB r e) = Z at *
      generalize m &&& 18442240474082181119 = Y at *
      generalize (1075 + e).toNat = K at *
      have e2 : decide (e ≥ 972) = false := decide_eq_false hE
      have A5 : IntKind.u64.wrap ((K : Int) * 4503599627370496) = ((K * 4503599627370496 : Nat) : Int) := by rw [IntWalk.u64_in _ (by omega)]; simp
      clear hme
      have A6 : Go.bits .or .u64 (Y : Int) ((K : Int) * 4503599627370496) = (Z : Int) := by rw [← A3]; simp
      clear A3
      go_enter Tryz.func150, Tryz.ntmps150
      go_wp2_with (fail)
      go_ret2
      exact ⟨rfl, rfl⟩
  · rw [a52, if_neg h52] at A1
    have hp : pkB r e = r := by unfold pkB; rw [if_pos (by omega)]
    have hpe : pkE r e = false := by unfold pkE; simp [h52]
    rw [hp, hpe, ← hme]
    clear hme
    go_enter Tryz.func150, Tryz.ntmps150
    go_wp2_with (fail)
    go_ret2
    exact ⟨rfl, rfl⟩

end Go.Proofs.YtlckfiflfkbofaaGreatDoor

/- parseFloat64 of internal/strconv: what it answers for either sign is one magnitude and one error; without an error the magnitude is finite. -/
namespace Go.Proofs.YtlckfiflfkbofaaGreatDoor
open Go.RowKit

theorem div_pow_lt {a k : Nat} (h : a < 18446744073709551616) (hk : 8 ≤ k) : a / 2 ^ k < 2 ^ 56 := by
  have h1 : 2 ^ 8 ≤ 2 ^ k := Nat.pow_le_pow_right (by decide) hk
  have h2 : a / 2 ^ k ≤ a / 2 ^ 8 := Nat.div_le_div_left h1 (by decide)
  have : a / 2 ^ 8 < 2 ^ 56 := by omega
  omega
theorem usc_lt {x h l k : Nat} (hx : x < 18446744073709551616) (hh : h < 18446744073709551616) (hk : 8 ≤ k) : usc x h l k < 2 ^ 56 := by
  unfold usc
  simp only
  split
  · exact Nat.or_lt_two_pow (div_pow_lt (mHi_lt hx hh) hk) (by decide)
  · refine Nat.or_lt_two_pow (div_pow_lt (sub64_lt _ _) hk) ?_
    split <;> decide

/-- The bits that are left of an unrounded value, made one shorter where it is great. -/
def uCut (u : Nat) : Nat := if 36028797018963966 ≤ u then (u / 2) ||| (u % 2) else u
theorem uCut_lt {u : Nat} (h : u < 2 ^ 56) : uCut u < 36028797018963968 := by
  unfold uCut; split
  · exact Nat.or_lt_two_pow (n := 55) (by omega) (by omega)
  · omega
theorem uRound_le {u : Nat} (h : u < 36028797018963968) : uRound u ≤ 9007199254740992 := by unfold uRound; omega
theorem or_mod2 (u : Nat) : u ||| u % 2 = u := by
  apply Nat.eq_of_testBit_eq
  intro i
  rw [Nat.testBit_or]
  cases i with
  | zero => simp [Nat.testBit_zero]
  | succ i =>
    have : (u % 2).testBit (i + 1) = false := Nat.testBit_lt_two_pow (by have : 2 ≤ 2 ^ (i + 1) := by rw [Nat.pow_succ]; have := Nat.one_le_two_pow (n := i); omega
                                                                         omega)
    simp [this]

theorem sgN_comp (n : Bool) {r : Nat} (h : r < 9223372036854775808) : Go.bits .or .u64 ((sgN n 0 : Nat) : Int) (r : Int) = ((sgN n r : Nat) : Int) := by
  rw [u64_or_nat (sgN n 0) r (by unfold sgN; split <;> omega) (by omega), ← sgN_or n h]
  cases n <;> rfl
theorem sgN_comp0 (n : Bool) : Go.bits .or .u64 ((sgN n 0 : Nat) : Int) 0 = ((sgN n 0 : Nat) : Int) := sgN_comp n (r := 0) (by decide)

/-- What it answers, whatever the sign: the magnitude's bits and whether it is out of range. -/
structure Ans (B : Nat) (E : Bool) : Prop where
  lt : B < 9223372036854775808
  fin : E = false → B < infN

set_option maxRecDepth 100000 in
set_option maxHeartbeats 1600000 in
theorem pf_a (d b lp s : Int) (q : Nat) (pt : Nat → Nat) (hd : 0 ≤ d) (hd2 : d < 18446744073709551616) (hq : 3 ≤ q) (hq2 : q ≤ 658) (hpt : ∀ i, pt i < 18446744073709551616)
    (hbl : 0 ≤ b ∧ b ≤ 64) (hlen : ∀ w, Calls Tryz.prog 140 #[.int .u64 d] w fun e w' => e = .returned (.int .i64 b) ∧ w = w')
    (lp1 : -1200 ≤ lp) (lp2 : lp ≤ 1200) (hlpc : ∀ w, Calls Tryz.prog 141 #[.int .i64 ((q : Int) - 348)] w fun e w' => e = .returned (.int .i64 lp) ∧ w = w')
    (hm : 1074 ≤ 53 - b - lp) (hs : s = -(1074 - (64 - b) + lp + 3)) :
    ∃ B E, Ans B E ∧ ∀ (n : Bool) (w : World), PTab w pt → 14 < w.heap.size →
      Calls Tryz.prog 133 #[.int .u64 d, .int .i64 ((q : Int) - 348), .int .u64 (sgN n 0 : Nat)] w fun e w' => e = .returned (.tuple #[.float .f64 (sgN n B), errV E]) ∧ Keep (fun _ => False) w w' := by
  have hs8 : 8 ≤ s := by omega
  have hsu : s ≤ 4000 := by omega
  have pre : ∀ (w : World), PTab w pt → 14 < w.heap.size → Calls Tryz.prog 142 #[.pointer (some ⟨w.heap.size, 0, none⟩), .int .i64 (1074 - (64 - b)), .int .i64 ((q : Int) - 348), .int .i64 lp]
      (w.alloc (.cells #[.int .u64 0, .int .u64 0, .int .i64 0] 219)) fun r w' => r = .returned (.tuple #[]) ∧ IsSc w' w.heap.size (pt (q * 2)) (pt (q * 2 + 1)) s ∧ Keep (fun _ => False) w w' := by
    intro w T h14
    have T' : PTab (w.alloc (.cells #[.int .u64 0, .int .u64 0, .int .i64 0] 219)) pt := T.keep ((Keep.refl (fun _ => False) w).alloc _) (by simp)
    have hI : IsSc (w.alloc (.cells #[.int .u64 0, .int .u64 0, .int .i64 0] 219)) w.heap.size 0 0 0 := by
      refine Cells.new w _ _ _ 3 ?_
      intro i hi
      have : i = 0 ∨ i = 1 ∨ i = 2 := by omega
      rcases this with rfl | rfl | rfl <;> rfl
    refine (pre_calls w.heap.size (1074 - (64 - b)) lp q pt 0 0 0 _ T' (by omega) (by omega) (by omega) (by omega) hI).mono ?_
    rintro r w' ⟨rfl, h1, h2⟩
    rw [← hs] at h1
    refine ⟨rfl, h1, ((Keep.refl (fun _ => False) w).alloc _).trans' h2 ?_⟩
    intro i hi h; simp only [At1] at h; omega
  by_cases h64 : 64 ≤ s
  · refine ⟨0, false, ⟨by decide, fun _ => by decide⟩, ?_⟩
    intro n w T h14
    have f1 := frombits_run ((sgN n 0 : Nat) : Int)
    have o1 := sgN_comp0 n
    have hpre := pre w T h14
    generalize sgN n 0 = Z at *
    have e64 : decide (s ≥ 64) = true := decide_eq_true h64
    clear hs pre
    go_enter Tryz.func133, Tryz.ntmps133
    go_wp2_with (first | (go_at_call 140; refine (hlen _).mono ?_; rintro e w' ⟨rfl, rfl⟩) | (go_at_call 141; refine (hlpc _).mono ?_; rintro e w' ⟨rfl, rfl⟩) | (go_at_call 142; refine hpre.mono ?_; rintro e wx ⟨rfl, hI, hK⟩; refine Hid.out ?_))
    refine Lib.hid ?_
    have c2 := hI.c2
    go_wp2_with (fail)
    go_ret2
    exact ⟨rfl, hK⟩
  · obtain ⟨k, rfl⟩ : ∃ k : Nat, s = k := ⟨s.toNat, by omega⟩
    have hk : k ≤ 63 := by omega
    have hk8 : 8 ≤ k := by omega
    obtain ⟨X, hX⟩ : ∃ X : Nat, IntKind.u64.wrap (d * 2 ^ (64 - b).toNat) = (X : Int) := by
      refine ⟨(IntKind.u64.wrap (d * 2 ^ (64 - b).toNat)).toNat, ?_⟩
      rw [IntKind.wrap_u64]; omega
    have hXl : X < 18446744073709551616 := by rw [IntKind.wrap_u64] at hX; omega
    obtain ⟨u, hu⟩ : ∃ u, u = usc X (pt (q * 2)) (pt (q * 2 + 1)) k := ⟨_, rfl⟩
    have hul : u < 2 ^ 56 := hu ▸ usc_lt hXl (hpt _) hk8
    obtain ⟨s1, hs1⟩ : ∃ s1 : Nat, s1 = if 36028797018963966 ≤ u then 1 else 0 := ⟨_, rfl⟩
    have hs1l : s1 ≤ 1 := by rw [hs1]; split <;> omega
    have hB1 := uRound_le (uCut_lt hul)
    refine ⟨pkB (uRound (uCut u)) (-(1074 - s1)), pkE (uRound (uCut u)) (-(1074 - s1)), ⟨pkB_lt hB1 (by omega), pkB_fin hB1 (by omega)⟩, ?_⟩
    intro n w T h14
    have o1 := sgN_comp n (r := uRound (uCut u)) (by omega)
    have pk := pack_calls n (uRound (uCut u)) (-(1074 - s1))
    have rc := round_calls (uCut u)
    have hpre := pre w T h14
    have husc : ∀ wx, IsSc wx w.heap.size (pt (q * 2)) (pt (q * 2 + 1)) k → Calls Tryz.prog 143 #[.int .u64 X, .pointer (some ⟨w.heap.size, 0, none⟩)] wx fun e w' => e = .returned (.int .u64 u) ∧ ∃ n, w' = wx.drewN n := by
      intro wx hI; rw [hu]; exact usc_calls _ X _ _ k wx hXl (hpt _) (hpt _) hk hI
    have cut1 : Go.bits .or .u64 ((u : Int) / 2 ^ s1) ((u % 2 : Nat) : Int) = ((uCut u : Nat) : Int) := by
      rw [hs1]
      unfold uCut
      split
      · rw [show ((u : Int) / 2 ^ 1) = ((u / 2 : Nat) : Int) by omega]
        exact u64_or_nat _ _ (by omega) (by omega)
      · rw [show ((u : Int) / 2 ^ 0) = ((u : Nat) : Int) by simp, u64_or_nat _ _ (by omega) (by omega), or_mod2]
    have a1 := and1 (x := u) (by omega)
    rw [a1.symm] at cut1
    have e64 : decide ((k : Int) ≥ 64) = false := decide_eq_false (by omega)
    have hc1 : (if decide ((u : Int) ≥ 36028797018963966) = true then (1 : Int) else 0) = (s1 : Int) := by
      rw [hs1]; by_cases h : 36028797018963966 ≤ u
      · rw [if_pos h, if_pos (decide_eq_true (by omega))]; rfl
      · rw [if_neg h, if_neg (by rw [decide_eq_true_iff]; omega)]; rfl
    clear hs pre hu hs1 a1
    have hul2 : uCut u < 36028797018963968 := uCut_lt hul
    generalize uRound (uCut u) = r at *
    generalize uCut u = uc at *
    go_enter Tryz.func133, Tryz.ntmps133
    go_wp2_with (first | (go_at_call 140; refine (hlen _).mono ?_; rintro e w' ⟨rfl, rfl⟩) | (go_at_call 141; refine (hlpc _).mono ?_; rintro e w' ⟨rfl, rfl⟩) | (go_at_call 142; refine hpre.mono ?_; rintro e wx ⟨rfl, hI, hK⟩; refine Hid.out ?_))
    refine Lib.hid ?_
    have c2 := hI.c2
    go_wp2_with (first | (go_at_call 143; refine (husc _ hI).mono ?_; rintro e w' ⟨rfl, m, rfl⟩) | (go_at_call 145; refine (unmin_calls _).mono ?_; rintro e w' ⟨rfl, rfl⟩) | (go_at_call 144; refine (b2i_calls _ _).mono ?_; rintro e w' ⟨rfl, rfl⟩; rw [hc1]) | (go_at_call 147; refine (rc _ (by omega)).mono ?_; rintro e w' ⟨rfl, rfl⟩) | (go_at_call 150; refine (pk _ hB1 (by omega) (by omega)).mono ?_; rintro e w' ⟨rfl, rfl⟩))
    go_ret2
    exact ⟨rfl, hK.drewN _⟩

set_option maxRecDepth 100000 in
set_option maxHeartbeats 1600000 in
theorem pf_b (d b lp s : Int) (q : Nat) (pt : Nat → Nat) (hd : 0 ≤ d) (hd2 : d < 18446744073709551616) (hq : 3 ≤ q) (hq2 : q ≤ 658) (hpt : ∀ i, pt i < 18446744073709551616)
    (hbl : 0 ≤ b ∧ b ≤ 64) (hlen : ∀ w, Calls Tryz.prog 140 #[.int .u64 d] w fun e w' => e = .returned (.int .i64 b) ∧ w = w')
    (lp1 : -1200 ≤ lp) (lp2 : lp ≤ 1200) (hlpc : ∀ w, Calls Tryz.prog 141 #[.int .i64 ((q : Int) - 348)] w fun e w' => e = .returned (.int .i64 lp) ∧ w = w')
    (hm : 53 - b - lp < 1074) (hs : s = -((53 - b - lp) - (64 - b) + lp + 3)) :
    ∃ B E, Ans B E ∧ ∀ (n : Bool) (w : World), PTab w pt → 14 < w.heap.size →
      Calls Tryz.prog 133 #[.int .u64 d, .int .i64 ((q : Int) - 348), .int .u64 (sgN n 0 : Nat)] w fun e w' => e = .returned (.tuple #[.float .f64 (sgN n B), errV E]) ∧ Keep (fun _ => False) w w' := by
  have hs8 : 8 ≤ s := by omega
  have hsu : s ≤ 4000 := by omega
  have pre : ∀ (w : World), PTab w pt → 14 < w.heap.size → Calls Tryz.prog 142 #[.pointer (some ⟨w.heap.size, 0, none⟩), .int .i64 ((53 - b - lp) - (64 - b)), .int .i64 ((q : Int) - 348), .int .i64 lp]
      (w.alloc (.cells #[.int .u64 0, .int .u64 0, .int .i64 0] 219)) fun r w' => r = .returned (.tuple #[]) ∧ IsSc w' w.heap.size (pt (q * 2)) (pt (q * 2 + 1)) s ∧ Keep (fun _ => False) w w' := by
    intro w T h14
    have T' : PTab (w.alloc (.cells #[.int .u64 0, .int .u64 0, .int .i64 0] 219)) pt := T.keep ((Keep.refl (fun _ => False) w).alloc _) (by simp)
    have hI : IsSc (w.alloc (.cells #[.int .u64 0, .int .u64 0, .int .i64 0] 219)) w.heap.size 0 0 0 := by
      refine Cells.new w _ _ _ 3 ?_
      intro i hi
      have : i = 0 ∨ i = 1 ∨ i = 2 := by omega
      rcases this with rfl | rfl | rfl <;> rfl
    refine (pre_calls w.heap.size ((53 - b - lp) - (64 - b)) lp q pt 0 0 0 _ T' (by omega) (by omega) (by omega) (by omega) hI).mono ?_
    rintro r w' ⟨rfl, h1, h2⟩
    rw [← hs] at h1
    refine ⟨rfl, h1, ((Keep.refl (fun _ => False) w).alloc _).trans' h2 ?_⟩
    intro i hi h; simp only [At1] at h; omega
  by_cases h64 : 64 ≤ s
  · refine ⟨0, false, ⟨by decide, fun _ => by decide⟩, ?_⟩
    intro n w T h14
    have f1 := frombits_run ((sgN n 0 : Nat) : Int)
    have o1 := sgN_comp0 n
    have hpre := pre w T h14
    generalize sgN n 0 = Z at *
    have e64 : decide (s ≥ 64) = true := decide_eq_true h64
    clear hs pre
    go_enter Tryz.func133, Tryz.ntmps133
    go_wp2_with (first | (go_at_call 140; refine (hlen _).mono ?_; rintro e w' ⟨rfl, rfl⟩) | (go_at_call 141; refine (hlpc _).mono ?_; rintro e w' ⟨rfl, rfl⟩) | (go_at_call 142; refine hpre.mono ?_; rintro e wx ⟨rfl, hI, hK⟩; refine Hid.out ?_))
    refine Lib.hid ?_
    have c2 := hI.c2
    go_wp2_with (fail)
    go_ret2
    exact ⟨rfl, hK⟩
  · obtain ⟨k, rfl⟩ : ∃ k : Nat, s = k := ⟨s.toNat, by omega⟩
    have hk : k ≤ 63 := by omega
    have hk8 : 8 ≤ k := by omega
    obtain ⟨X, hX⟩ : ∃ X : Nat, IntKind.u64.wrap (d * 2 ^ (64 - b).toNat) = (X : Int) := by
      refine ⟨(IntKind.u64.wrap (d * 2 ^ (64 - b).toNat)).toNat, ?_⟩
      rw [IntKind.wrap_u64]; omega
    have hXl : X < 18446744073709551616 := by rw [IntKind.wrap_u64] at hX; omega
    obtain ⟨u, hu⟩ : ∃ u, u = usc X (pt (q * 2)) (pt (q * 2 + 1)) k := ⟨_, rfl⟩
    have hul : u < 2 ^ 56 := hu ▸ usc_lt hXl (hpt _) hk8
    obtain ⟨s1, hs1⟩ : ∃ s1 : Nat, s1 = if 36028797018963966 ≤ u then 1 else 0 := ⟨_, rfl⟩
    have hs1l : s1 ≤ 1 := by rw [hs1]; split <;> omega
    have hB1 := uRound_le (uCut_lt hul)
    refine ⟨pkB (uRound (uCut u)) (-((53 - b - lp) - s1)), pkE (uRound (uCut u)) (-((53 - b - lp) - s1)), ⟨pkB_lt hB1 (by omega), pkB_fin hB1 (by omega)⟩, ?_⟩
    intro n w T h14
    have o1 := sgN_comp n (r := uRound (uCut u)) (by omega)
    have pk := pack_calls n (uRound (uCut u)) (-((53 - b - lp) - s1))
    have rc := round_calls (uCut u)
    have hpre := pre w T h14
    have husc : ∀ wx, IsSc wx w.heap.size (pt (q * 2)) (pt (q * 2 + 1)) k → Calls Tryz.prog 143 #[.int .u64 X, .pointer (some ⟨w.heap.size, 0, none⟩)] wx fun e w' => e = .returned (.int .u64 u) ∧ ∃ n, w' = wx.drewN n := by
      intro wx hI; rw [hu]; exact usc_calls _ X _ _ k wx hXl (hpt _) (hpt _) hk hI
    have cut1 : Go.bits .or .u64 ((u : Int) / 2 ^ s1) ((u % 2 : Nat) : Int) = ((uCut u : Nat) : Int) := by
      rw [hs1]
      unfold uCut
      split
      · rw [show ((u : Int) / 2 ^ 1) = ((u / 2 : Nat) : Int) by omega]
        exact u64_or_nat _ _ (by omega) (by omega)
      · rw [show ((u : Int) / 2 ^ 0) = ((u : Nat) : Int) by simp, u64_or_nat _ _ (by omega) (by omega), or_mod2]
    have a1 := and1 (x := u) (by omega)
    rw [a1.symm] at cut1
    have e64 : decide ((k : Int) ≥ 64) = false := decide_eq_false (by omega)
    have hc1 : (if decide ((u : Int) ≥ 36028797018963966) = true then (1 : Int) else 0) = (s1 : Int) := by
      rw [hs1]; by_cases h : 36028797018963966 ≤ u
      · rw [if_pos h, if_pos (decide_eq_true (by omega))]; rfl
      · rw [if_neg h, if_neg (by rw [decide_eq_true_iff]; omega)]; rfl
    clear hs pre hu hs1 a1
    have hul2 : uCut u < 36028797018963968 := uCut_lt hul
    generalize uRound (uCut u) = r at *
    generalize uCut u = uc at *
    go_enter Tryz.func133, Tryz.ntmps133
    go_wp2_with (first | (go_at_call 140; refine (hlen _).mono ?_; rintro e w' ⟨rfl, rfl⟩) | (go_at_call 141; refine (hlpc _).mono ?_; rintro e w' ⟨rfl, rfl⟩) | (go_at_call 142; refine hpre.mono ?_; rintro e wx ⟨rfl, hI, hK⟩; refine Hid.out ?_))
    refine Lib.hid ?_
    have c2 := hI.c2
    go_wp2_with (first | (go_at_call 143; refine (husc _ hI).mono ?_; rintro e w' ⟨rfl, m, rfl⟩) | (go_at_call 145; refine (unmin_calls _).mono ?_; rintro e w' ⟨rfl, rfl⟩) | (go_at_call 144; refine (b2i_calls _ _).mono ?_; rintro e w' ⟨rfl, rfl⟩; rw [hc1]) | (go_at_call 147; refine (rc _ (by omega)).mono ?_; rintro e w' ⟨rfl, rfl⟩) | (go_at_call 150; refine (pk _ hB1 (by omega) (by omega)).mono ?_; rintro e w' ⟨rfl, rfl⟩))
    go_ret2
    exact ⟨rfl, hK.drewN _⟩

theorem pf_calls (d : Int) (q : Nat) (pt : Nat → Nat) (hd : 0 ≤ d) (hd2 : d < 18446744073709551616) (hq : 3 ≤ q) (hq2 : q ≤ 658) (hpt : ∀ i, pt i < 18446744073709551616) :
    ∃ B E, Ans B E ∧ ∀ (n : Bool) (w : World), PTab w pt → 14 < w.heap.size →
      Calls Tryz.prog 133 #[.int .u64 d, .int .i64 ((q : Int) - 348), .int .u64 (sgN n 0 : Nat)] w fun e w' => e = .returned (.tuple #[.float .f64 (sgN n B), errV E]) ∧ Keep (fun _ => False) w w' := by
  have hbl := len64_le (x := d)
  have hlen := fun w => len_calls d w hd hd2
  obtain ⟨lp, hlp⟩ : ∃ lp, lp = ((q : Int) - 348) * 108853 / 32768 := ⟨_, rfl⟩
  have hlpc := fun w => lp_calls ((q : Int) - 348) w (by omega) (by omega)
  rw [← hlp] at hlpc
  have lp1 : -1200 ≤ lp := by omega
  have lp2 : lp ≤ 1200 := by omega
  by_cases hm : 1074 ≤ 53 - len64 d - lp
  · exact pf_a d (len64 d) lp _ q pt hd hd2 hq hq2 hpt hbl hlen lp1 lp2 hlpc hm rfl
  · exact pf_b d (len64 d) lp _ q pt hd hd2 hq hq2 hpt hbl hlen lp1 lp2 hlpc (by omega) rfl

end Go.Proofs.YtlckfiflfkbofaaGreatDoor
