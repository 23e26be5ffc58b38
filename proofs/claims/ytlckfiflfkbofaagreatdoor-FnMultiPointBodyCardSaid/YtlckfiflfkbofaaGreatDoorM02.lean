/- The decimal of internal/strconv: its cells; trim. Plain: decimals as lists of bytes, and what Go's two readers of their mantissa and exponent come to; no program in sight. Part 2 of 51 of the proof that FnMultiPointBody returns true for every text and every type of coordinates, where the listed variables hold what the text of the program lays. -/
import Derived.Test.YtlckfiflfkbofaaGreatDoorM01
set_option linter.all false

/- The decimal of internal/strconv: its cells; trim. -/
namespace Go.Proofs.YtlckfiflfkbofaaGreatDoor
open Go.RowKit

/-- A decimal: its digits (bytes), how many, the point, the sign, whether digits were dropped. -/
structure Dc where
  d : Nat → Int
  nd : Nat
  dp : Int
  neg : Bool
  tr : Bool

def Dc.at (s : Dc) (i : Nat) : Value := if i < 800 then .int .u8 (s.d i) else if i = 800 then .int .i64 s.nd else if i = 801 then .int .i64 s.dp else if i = 802 then .bool s.neg else .bool s.tr

theorem Dc.at_d (s : Dc) {i : Nat} (h : i < 800) : s.at i = .int .u8 (s.d i) := if_pos h
theorem Dc.at_nd (s : Dc) : s.at 800 = .int .i64 s.nd := rfl
theorem Dc.at_dp (s : Dc) : s.at 801 = .int .i64 s.dp := rfl
theorem Dc.at_neg (s : Dc) : s.at 802 = .bool s.neg := rfl
theorem Dc.at_tr (s : Dc) : s.at 803 = .bool s.tr := rfl

def IsDc (w : World) (b : Nat) (s : Dc) : Prop := Cells w b 804 s.at

theorem IsDc.c_d {w : World} {b : Nat} {s : Dc} (h : IsDc w b s) {i : Nat} (hi : i < 800) : w.cell? ⟨b, i, none⟩ = some (.int .u8 (s.d i)) := (Cells.cell h (by omega)).trans (by rw [Dc.at_d _ hi])
theorem IsDc.c_nd {w : World} {b : Nat} {s : Dc} (h : IsDc w b s) : w.cell? ⟨b, 800, none⟩ = some (.int .i64 s.nd) := Cells.cell h (by omega)
theorem IsDc.c_dp {w : World} {b : Nat} {s : Dc} (h : IsDc w b s) : w.cell? ⟨b, 801, none⟩ = some (.int .i64 s.dp) := Cells.cell h (by omega)
theorem IsDc.c_neg {w : World} {b : Nat} {s : Dc} (h : IsDc w b s) : w.cell? ⟨b, 802, none⟩ = some (.bool s.neg) := Cells.cell h (by omega)
theorem IsDc.c_tr {w : World} {b : Nat} {s : Dc} (h : IsDc w b s) : w.cell? ⟨b, 803, none⟩ = some (.bool s.tr) := Cells.cell h (by omega)
theorem IsDc.fz {w : World} {b : Nat} {s : Dc} (h : IsDc w b s) (i : Nat) (hi : i < 804) : w.frozen? ⟨b, i, none⟩ = false := Cells.froz h hi
theorem IsDc.drewN {w : World} {b : Nat} {s : Dc} (h : IsDc w b s) (k : Nat) : IsDc (w.drewN k) b s := h
theorem IsDc.drew {w : World} {b : Nat} {s : Dc} (h : IsDc w b s) : IsDc w.drew b s := h
theorem IsDc.lt {w : World} {b : Nat} {s : Dc} (h : IsDc w b s) : b < w.heap.size := Cells.lt h (by omega)

theorem IsDc.set_nd {w : World} {b : Nat} {s : Dc} (h : IsDc w b s) (n : Nat) : IsDc (w.setCell ⟨b, 800, none⟩ (.int .i64 n)) b { s with nd := n } :=
  Cells.set h 800 _ fun i _ => by
    by_cases e : i = 800
    · subst e; rfl
    · simp only [Dc.at, e, if_false]
theorem IsDc.set_dp {w : World} {b : Nat} {s : Dc} (h : IsDc w b s) (n : Int) : IsDc (w.setCell ⟨b, 801, none⟩ (.int .i64 n)) b { s with dp := n } :=
  Cells.set h 801 _ fun i _ => by
    by_cases e : i = 801
    · subst e; rfl
    · simp only [Dc.at, e, if_false]
theorem IsDc.set_d {w : World} {b : Nat} {s : Dc} (h : IsDc w b s) {k : Nat} (hk : k < 800) (x : Int) : IsDc (w.setCell ⟨b, k, none⟩ (.int .u8 x)) b { s with d := fun i => if i = k then x else s.d i } :=
  Cells.set h k _ fun i _ => by
    by_cases e : i = k
    · subst e; rw [if_pos rfl, Dc.at_d _ hk]; simp
    · simp only [Dc.at, e, if_false]
theorem IsDc.set_tr {w : World} {b : Nat} {s : Dc} (h : IsDc w b s) (x : Bool) : IsDc (w.setCell ⟨b, 803, none⟩ (.bool x)) b { s with tr := x } :=
  Cells.set h 803 _ fun i hi => by
    by_cases e : i = 803
    · subst e; rfl
    · have : i < 800 ∨ i = 800 ∨ i = 801 ∨ i = 802 := by omega
      rcases this with h | h | h | h
      · simp only [Dc.at, h, if_true, e, if_false]
      · subst h; rfl
      · subst h; rfl
      · subst h; rfl

/-- How many digits are left when zeros at the end are dropped. -/
def trimN (d : Nat → Int) : Nat → Nat
  | 0 => 0
  | n + 1 => if d n = 48 then trimN d n else n + 1

def Dc.trim (s : Dc) : Dc := { s with nd := trimN s.d s.nd, dp := if trimN s.d s.nd = 0 then 0 else s.dp }

set_option maxHeartbeats 400000 in
theorem trim_calls (b : Nat) (s : Dc) (w : World) (h : IsDc w b s) (hn : s.nd ≤ 800) :
    Calls Tryz.prog 161 #[.pointer (some ⟨b, 0, none⟩)] w fun e w' => e = .returned (.tuple #[]) ∧ IsDc w' b s.trim ∧ Keep (At1 b) w w' := by
  go_enter Tryz.func161, Tryz.ntmps161
  go_wp2
  go_loopg [] s.nd (fun k wr => ∃ n : Nat, n = k ∧ n ≤ 800 ∧ IsDc wr b { s with nd := n } ∧ Keep (At1 b) w wr ∧ trimN s.d n = trimN s.d s.nd)
  case atStart => exact ⟨_, rfl, hn, h, Keep.refl _ _, rfl⟩
  case round =>
    obtain ⟨n, rfl, hn8, hI, hK, ht⟩ := hrel
    have HT := Lib.hid ht
    have c0 := hI.c_nd
    have c1 := hI.c_dp
    have f0 := hI.fz 800 (by omega)
    have f1 := hI.fz 801 (by omega)
    dsimp only at c0 c1
    clear ht
    cases n with
    | zero =>
      go_wp2
      go_quiet (fail)
      go_wp2
      go_end0
      have e0 : trimN s.d s.nd = 0 := HT.out.symm
      refine ⟨rfl, ?_, ?_⟩
      · have := (hI.drewN nq).set_dp 0
        unfold Dc.trim
        rw [e0, if_pos rfl]
        exact this
      · exact (hK.drewN nq).setCell (.inr rfl) _
    | succ m =>
      have c2 : wr.cell? ⟨b, m, none⟩ = some (.int .u8 (s.d m)) := hI.c_d (by omega)
      have hm : m < 800 := by omega
      by_cases hd : s.d m = 48
      · have hdb : (s.d m == 48) = true := by rw [hd]; rfl
        clear hd
        go_wp2
        go_quiet (fail)
        go_wp2
        go_roundg m
        case measure => omega
        case rel =>
          refine ⟨m, rfl, by omega, ?_, ?_, ?_⟩
          · have := (hI.drewN nq).set_nd m
            exact this
          · exact (hK.drewN nq).setCell (.inr rfl) _
          · rw [← HT.out, trimN, if_pos (by simpa using hdb)]
      · have hdb : (s.d m == 48) = false := by simpa using hd
        clear hd
        go_wp2
        go_quiet (fail)
        go_wp2
        have e0 : trimN s.d s.nd = m + 1 := by rw [← HT.out, trimN, if_neg (by simpa using hdb)]
        go_end0
        refine ⟨rfl, ?_, ?_⟩
        · unfold Dc.trim
          rw [e0, if_neg (by omega)]
          exact hI.drewN nq
        · exact hK.drewN nq

end Go.Proofs.YtlckfiflfkbofaaGreatDoor

/- Plain: decimals as lists of bytes, and what Go's two readers of their mantissa and exponent come to; no program in sight. -/
namespace Go.Proofs.YtlckfiflfkbofaaGreatDoor

def isDg (c : UInt8) : Bool := decide (48 ≤ c.toNat) && decide (c.toNat ≤ 57)
/-- A mantissa: digits and at most one point. -/
def okM : List UInt8 → Bool → Bool
  | [], _ => true
  | c :: r, dot => if isDg c then okM r dot else c == 46 && !dot && okM r true
def anyDg (l : List UInt8) : Bool := l.any isDg
/-- A sign of an exponent. -/
def isSg (g : List UInt8) : Bool := g == [] || g == [43] || g == [45]

/-- A decimal: mantissa, then perhaps e or E, a sign and digits. -/
structure Num where
  m : List UInt8
  x : Option (UInt8 × List UInt8 × List UInt8)

def Num.xs (n : Num) : List UInt8 := match n.x with
  | none => []
  | some (e, g, d) => e :: (g ++ d)
def Num.l (n : Num) : List UInt8 := n.m ++ n.xs
structure Num.Ok (n : Num) : Prop where
  m : okM n.m false = true
  dg : anyDg n.m = true
  x : ∀ e g d, n.x = some (e, g, d) → (e = 101 ∨ e = 69) ∧ isSg g = true ∧ d ≠ [] ∧ d.all isDg = true

/-! ### The mantissa, by readFloat -/
structure Rf where
  mant : Nat := 0
  nd : Nat := 0
  ndm : Nat := 0
  dp : Int := 0
  tr : Bool := false
  dot : Bool := false
  dig : Bool := false

def Rf.step (r : Rf) (c : UInt8) : Rf :=
  if c.toNat = 46 then { r with dot := true, dp := r.nd }
  else if c.toNat = 48 ∧ r.nd = 0 then { r with dig := true, dp := r.dp - 1 }
  else if r.ndm < 19 then { r with dig := true, nd := r.nd + 1, mant := r.mant * 10 + (c.toNat - 48), ndm := r.ndm + 1 }
  else { r with dig := true, nd := r.nd + 1, tr := r.tr || decide (c.toNat ≠ 48) }
def Rf.of (l : List UInt8) : Rf := l.foldl Rf.step {}

theorem Rf.of_snoc (l : List UInt8) (c : UInt8) : Rf.of (l ++ [c]) = (Rf.of l).step c := by simp [Rf.of, List.foldl_append]

structure Rf.Bd (r : Rf) (n : Nat) : Prop where
  nd : r.nd ≤ n
  ndm : r.ndm ≤ 19
  mant : r.mant < 10 ^ r.ndm
  lo : -(n : Int) ≤ r.dp
  hi : r.dp ≤ n

theorem Rf.Bd.step {r : Rf} {n : Nat} (h : r.Bd n) {c : UInt8} (hc : c.toNat = 46 ∨ isDg c = true) : (r.step c).Bd (n + 1) := by
  obtain ⟨h1, h2, h3, h4, h5⟩ := h
  unfold Rf.step
  split
  · exact ⟨by dsimp only; omega, h2, h3, by dsimp only; omega, by dsimp only; omega⟩
  · rename_i hne
    have hd : 48 ≤ c.toNat ∧ c.toNat ≤ 57 := by
      rcases hc with hc | hc
      · exact absurd hc hne
      · simpa [isDg] using hc
    split
    · exact ⟨by dsimp only; omega, h2, h3, by dsimp only; omega, by dsimp only; omega⟩
    · split
      · refine ⟨by dsimp only; omega, by dsimp only; omega, ?_, by dsimp only; omega, by dsimp only; omega⟩
        dsimp only
        rw [Nat.pow_succ]; omega
      · exact ⟨by dsimp only; omega, h2, h3, by dsimp only; omega, by dsimp only; omega⟩

/-! ### The mantissa, by decimal's set -/
structure Ds where
  s : Dc
  dot : Bool := false
  dig : Bool := false

def Ds.step (r : Ds) (c : UInt8) : Ds :=
  if c.toNat = 46 then { r with dot := true, s := { r.s with dp := r.s.nd } }
  else if c.toNat = 48 ∧ r.s.nd = 0 then { r with dig := true, s := { r.s with dp := r.s.dp - 1 } }
  else if r.s.nd < 800 then { r with dig := true, s := { r.s with d := fun i => if i = r.s.nd then (c.toNat : Int) else r.s.d i, nd := r.s.nd + 1 } }
  else { r with dig := true, s := { r.s with tr := r.s.tr || decide (c.toNat ≠ 48) } }
/-- The decimal of nothing. -/
def Dc.zero (neg : Bool) : Dc := ⟨fun _ => 0, 0, 0, neg, false⟩
def Ds.of (neg : Bool) (l : List UInt8) : Ds := l.foldl Ds.step { s := Dc.zero neg }
theorem Ds.of_snoc (neg : Bool) (l : List UInt8) (c : UInt8) : Ds.of neg (l ++ [c]) = (Ds.of neg l).step c := by simp [Ds.of, List.foldl_append]

structure Ds.Bd (r : Ds) (n : Nat) : Prop where
  nd : r.s.nd ≤ n
  n8 : r.s.nd ≤ 800
  dig : ∀ i, i < r.s.nd → 48 ≤ r.s.d i ∧ r.s.d i ≤ 57
  top : 1 ≤ r.s.nd → 49 ≤ r.s.d 0
  lo : -(n : Int) ≤ r.s.dp
  hi : r.s.dp ≤ n

theorem Ds.Bd.step {r : Ds} {n : Nat} (h : r.Bd n) {c : UInt8} (hc : c.toNat = 46 ∨ isDg c = true) : (r.step c).Bd (n + 1) := by
  obtain ⟨h1, h2, h3, h4, h5, h6⟩ := h
  unfold Ds.step
  split
  · exact ⟨by dsimp only; omega, h2, h3, h4, by dsimp only; omega, by dsimp only; omega⟩
  · rename_i hne
    have hd : 48 ≤ c.toNat ∧ c.toNat ≤ 57 := by
      rcases hc with hc | hc
      · exact absurd hc hne
      · simpa [isDg] using hc
    split
    · exact ⟨by dsimp only; omega, h2, h3, h4, by dsimp only; omega, by dsimp only; omega⟩
    · rename_i h48
      split
      · refine ⟨by dsimp only; omega, by dsimp only; omega, ?_, ?_, by dsimp only; omega, by dsimp only; omega⟩
        · intro i hi
          dsimp only at hi ⊢
          split
          · omega
          · exact h3 i (by omega)
        · intro _
          dsimp only
          split
          · rename_i h0
            have : c.toNat ≠ 48 := fun h => h48 ⟨h, h0.symm⟩
            omega
          · exact h4 (by omega)
      · exact ⟨by dsimp only; omega, h2, h3, h4, by dsimp only; omega, by dsimp only; omega⟩

theorem okM_cons {c : UInt8} {r : List UInt8} {dot : Bool} (h : okM (c :: r) dot = true) : (c.toNat = 46 ∧ dot = false ∧ okM r true = true) ∨ (c.toNat ≠ 46 ∧ isDg c = true ∧ okM r dot = true) := by
  rw [okM] at h
  split at h
  · rename_i hd
    refine .inr ⟨?_, hd, h⟩
    have : 48 ≤ c.toNat ∧ c.toNat ≤ 57 := by simpa [isDg] using hd
    omega
  · simp only [Bool.and_eq_true, beq_iff_eq, Bool.not_eq_true'] at h
    exact .inl ⟨by rw [h.1.1]; rfl, h.1.2, h.2⟩

theorem Rf.step_dot {r : Rf} {c : UInt8} : (r.step c).dot = (if c.toNat = 46 then true else r.dot) := by
  unfold Rf.step
  split
  · rfl
  · split
    · rfl
    · split <;> rfl
theorem Rf.step_dig {r : Rf} {c : UInt8} : (r.step c).dig = (if c.toNat = 46 then r.dig else true) := by
  unfold Rf.step
  split
  · rfl
  · split
    · rfl
    · split <;> rfl
theorem Ds.step_dot {r : Ds} {c : UInt8} : (r.step c).dot = (if c.toNat = 46 then true else r.dot) := by
  unfold Ds.step
  split
  · rfl
  · split
    · rfl
    · split <;> rfl
theorem Ds.step_dig {r : Ds} {c : UInt8} : (r.step c).dig = (if c.toNat = 46 then r.dig else true) := by
  unfold Ds.step
  split
  · rfl
  · split
    · rfl
    · split <;> rfl
theorem Ds.step_neg {r : Ds} {c : UInt8} : (r.step c).s.neg = r.s.neg := by
  unfold Ds.step
  split
  · rfl
  · split
    · rfl
    · split <;> rfl

/-! ### The exponent -/
def expStep (e : Int) (c : UInt8) : Int := if e < 10000 then e * 10 + (c.toNat : Int) - 48 else e
def expOf (l : List UInt8) : Int := l.foldl expStep 0
theorem expOf_snoc (l : List UInt8) (c : UInt8) : expOf (l ++ [c]) = expStep (expOf l) c := by simp [expOf, List.foldl_append]
theorem expStep_bd {e : Int} {c : UInt8} (h : 0 ≤ e ∧ e ≤ 100000) (hc : isDg c = true) : 0 ≤ expStep e c ∧ expStep e c ≤ 100000 := by
  have : 48 ≤ c.toNat ∧ c.toNat ≤ 57 := by simpa [isDg] using hc
  unfold expStep
  split <;> omega
def sgOf (g : List UInt8) : Int := if g = [45] then -1 else 1
/-- The exponent as a number. -/
def Num.ex (n : Num) : Int := match n.x with
  | none => 0
  | some (_, g, d) => expOf d * sgOf g

/-- What readFloat answers: mantissa, exponent, whether digits were dropped. -/
def Num.rf (n : Num) : Rf := Rf.of n.m
def Num.dp (n : Num) : Int := (if n.rf.dot then n.rf.dp else n.rf.nd) + n.ex
def Num.exp (n : Num) : Int := if n.rf.mant = 0 then 0 else n.dp - n.rf.ndm

/-- What set leaves. -/
def Num.dc (n : Num) (neg : Bool) : Dc :=
  { (Ds.of neg n.m).s with dp := (if (Ds.of neg n.m).dot then (Ds.of neg n.m).s.dp else (Ds.of neg n.m).s.nd) + n.ex }

end Go.Proofs.YtlckfiflfkbofaaGreatDoor
