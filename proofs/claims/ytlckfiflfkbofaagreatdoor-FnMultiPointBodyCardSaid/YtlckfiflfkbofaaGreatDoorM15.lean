/- Plain facts on IEEE doubles: the sign bit and '*', '/', '<'; times minus one; no program in sight. Part 15 of 51 of the proof that FnMultiPointBody returns true for every text and every type of coordinates, where the listed variables hold what the text of the program lays. -/
import Ieee.Arith
import Derived.Laws.FloatBits
set_option linter.all false

/- Plain facts on IEEE doubles: the sign bit and '*', '/', '<'; times minus one; no program in sight. -/
namespace Go.Proofs.YtlckfiflfkbofaaGreatDoor
namespace Fl
open Ieee

/-- The sign bit turned. -/
def flip (x : Nat) : Nat := if x < 2 ^ 63 then x + 2 ^ 63 else x - 2 ^ 63

/-- Not infinite, no NaN. -/
def fin (x : Nat) : Prop := x % 2 ^ 63 < 0x7ff0000000000000

theorem sw : double.signWeight = 2 ^ 63 := by decide
theorem bin : double.binade = 2 ^ 52 := by decide
theorem inf : double.infRung = 0x7ff0000000000000 := by decide
theorem leastp : double.leastPlace = -1074 := by decide
theorem fb : double.fractionBits = 52 := by decide

theorem flip_lt {x : Nat} (h : x < 2 ^ 64) : flip x < 2 ^ 64 := by unfold flip; split <;> omega
theorem flip_flip {x : Nat} (h : x < 2 ^ 64) : flip (flip x) = x := by unfold flip; split <;> split <;> omega
theorem flip_mod {x : Nat} (h : x < 2 ^ 64) : flip x % 2 ^ 63 = x % 2 ^ 63 := by unfold flip; split <;> omega
theorem flip_fin {x : Nat} (h : x < 2 ^ 64) : fin (flip x) ↔ fin x := by unfold fin; rw [flip_mod h]

theorem xor_flip {x : Nat} (h : x < 2 ^ 64) : x ^^^ 2 ^ 63 = flip x := by
  apply Nat.eq_of_testBit_eq
  intro i
  rw [Nat.testBit_xor, Nat.testBit_two_pow]
  unfold flip
  split
  · rename_i hx
    by_cases hi : i = 63
    · subst hi
      rw [Nat.testBit_lt_two_pow hx, Nat.add_comm, Nat.testBit_two_pow_add_eq, Nat.testBit_lt_two_pow hx]; rfl
    · by_cases hlt : i < 63
      · rw [Nat.add_comm, Nat.testBit_two_pow_add_gt hlt]; simp [Ne.symm hi]
      · have hxi : x < 2 ^ i := Nat.lt_of_lt_of_le hx (Nat.pow_le_pow_right (by omega) (by omega))
        have hyi : x + 2 ^ 63 < 2 ^ i := by
          have : 2 ^ 64 ≤ 2 ^ i := Nat.pow_le_pow_right (by omega) (by omega)
          omega
        rw [Nat.testBit_lt_two_pow hxi, Nat.testBit_lt_two_pow hyi]; simp [Ne.symm hi]
  · rename_i hx
    obtain ⟨y, rfl⟩ : ∃ y, x = 2 ^ 63 + y := ⟨x - 2 ^ 63, by omega⟩
    have hy : y < 2 ^ 63 := by omega
    rw [Nat.add_sub_cancel_left]
    by_cases hi : i = 63
    · subst hi
      rw [Nat.testBit_two_pow_add_eq, Nat.testBit_lt_two_pow hy]; rfl
    · by_cases hlt : i < 63
      · rw [Nat.testBit_two_pow_add_gt hlt]; simp [Ne.symm hi]
      · have hyi : y < 2 ^ i := Nat.lt_of_lt_of_le hy (Nat.pow_le_pow_right (by omega) (by omega))
        have hxi : 2 ^ 63 + y < 2 ^ i := by
          have : 2 ^ 64 ≤ 2 ^ i := Nat.pow_le_pow_right (by omega) (by omega)
          omega
        rw [Nat.testBit_lt_two_pow hxi, Nat.testBit_lt_two_pow hyi]; simp [Ne.symm hi]

theorem read_flip {x : Nat} (h : x < 2 ^ 64) : double.read (flip x) = (double.read x).opposite := by
  have e1 : flip x % 2 ^ 63 = x % 2 ^ 63 := flip_mod h
  have e2 : (flip x / 2 ^ 63 % 2 == 1) = !(x / 2 ^ 63 % 2 == 1) := by
    unfold flip
    split
    · have : (x + 2 ^ 63) / 2 ^ 63 = 1 := by omega
      have h0 : x / 2 ^ 63 = 0 := by omega
      rw [this, h0]; rfl
    · have : (x - 2 ^ 63) / 2 ^ 63 = 0 := by omega
      have h0 : x / 2 ^ 63 = 1 := by omega
      rw [this, h0]; rfl
  unfold Format.read
  simp only [sw, e1, e2]
  split
  · rfl
  · split
    · rfl
    · split <;> rfl

theorem word_flip (s : Bool) {r : Nat} (h : r < 2 ^ 63) : double.word (!s) r = flip (double.word s r) := by
  unfold Format.word flip
  rw [sw]
  cases s
  · simp only [Bool.not_false, if_true, Bool.false_eq_true, if_false]
    rw [if_pos h, Nat.add_comm]
  · simp only [Bool.not_true, if_true, Bool.false_eq_true, if_false]
    rw [if_neg (by omega)]; omega

theorem nearest_flip (s : Bool) (m : Nat) (p : Int) : double.nearest (!s) m p = flip (double.nearest s m p) := by
  unfold Format.nearest
  dsimp only
  split
  · exact word_flip s (by decide)
  · refine (word_flip s ?_)
    refine Nat.lt_of_le_of_lt (Nat.min_le_right ..) (by rw [inf]; decide)

theorem write_flip {d : Datum} (h : d.isNaN = false) : double.write d.opposite = flip (double.write d) := by
  cases d with
  | number s m p => exact nearest_flip s m p
  | infinity s => exact word_flip s (by rw [inf]; decide)
  | nan s t => cases h

theorem prod_opp (a b : Datum) : a.opposite.product b = (a.product b).map Datum.opposite := by
  cases a with
  | nan s t => cases b <;> rfl
  | infinity s =>
    cases b with
    | nan => rfl
    | infinity t => cases s <;> cases t <;> rfl
    | number t n p =>
      simp only [Datum.opposite, Datum.product]
      split
      · rfl
      · cases s <;> cases t <;> rfl
  | number s m i =>
    cases b with
    | nan => rfl
    | infinity t =>
      simp only [Datum.opposite, Datum.product]
      split
      · rfl
      · cases s <;> cases t <;> rfl
    | number t n p => cases s <;> cases t <;> rfl

theorem quot_opp (k : Nat) (a b : Datum) : a.opposite.quotient k b = (a.quotient k b).map Datum.opposite := by
  cases a with
  | nan s t => cases b <;> rfl
  | infinity s =>
    cases b with
    | nan => rfl
    | infinity t => rfl
    | number t n p => cases s <;> cases t <;> rfl
  | number s m i =>
    cases b with
    | nan => rfl
    | infinity t => cases s <;> cases t <;> rfl
    | number t n p =>
      simp only [Datum.opposite, Datum.quotient]
      split
      · split
        · rfl
        · cases s <;> cases t <;> rfl
      · cases s <;> cases t <;> rfl

theorem prod_num {s t : Bool} {m n : Nat} {i j : Int} : ∃ u k l, (Datum.number s m i).product (.number t n j) = some (.number u k l) := ⟨_, _, _, rfl⟩

theorem prod_nan {a b d : Datum} (h : a.product b = some d) : d.isNaN = false := by
  cases a <;> cases b <;> simp [Datum.product] at h
  · subst h; rfl
  · obtain ⟨_, rfl⟩ := h; rfl
  · obtain ⟨_, rfl⟩ := h; rfl
  · subst h; rfl

theorem quot_nan {k : Nat} {a b d : Datum} (h : a.quotient k b = some d) : d.isNaN = false := by
  cases a <;> cases b <;> simp only [Datum.quotient] at h
  all_goals first | (cases h; done) | skip
  · split at h
    · split at h
      · cases h
      · cases h; rfl
    · cases h; rfl
  · cases h; rfl
  · cases h; rfl

/-- '*' with the left sign turned. -/
theorem mul_flip {x y r : Nat} (hx : x < 2 ^ 64) (h : double.mul x y = some r) : double.mul (flip x) y = some (flip r) := by
  unfold Format.mul at *
  rw [read_flip hx, prod_opp]
  cases hd : (double.read x).product (double.read y) with
  | none => rw [hd] at h; cases h
  | some d =>
    rw [hd] at h
    cases h
    simp only [Option.map_some]
    rw [write_flip (prod_nan hd)]

/-- '/' with the left sign turned. -/
theorem div_flip {x y r : Nat} (hx : x < 2 ^ 64) (h : double.div x y = some r) : double.div (flip x) y = some (flip r) := by
  unfold Format.div at *
  rw [read_flip hx, quot_opp]
  cases hd : (double.read x).quotient (double.fractionBits + 2) (double.read y) with
  | none => rw [hd] at h; cases h
  | some d =>
    rw [hd] at h
    cases h
    simp only [Option.map_some]
    rw [write_flip (quot_nan hd)]

theorem signed_neg (s : Bool) (m u : Nat) : signed (!s) m u = - signed s m u := by
  unfold signed; cases s <;> simp

theorem order_opp (a b : Datum) : a.opposite.order b.opposite = (a.order b).map Ordering.swap := by
  cases a with
  | nan s t => cases b <;> rfl
  | infinity s => cases b with
    | nan => rfl
    | infinity t => cases s <;> cases t <;> rfl
    | number t n p => cases s <;> cases t <;> rfl
  | number s m i => cases b with
    | nan => rfl
    | infinity t => cases s <;> cases t <;> rfl
    | number t n p =>
      simp only [Datum.opposite, Datum.order, Option.map_some, signed_neg, Option.some.injEq]
      generalize signed s m _ = A
      generalize signed t n _ = B
      show compareOfLessAndEq (-A) (-B) = (compareOfLessAndEq A B).swap
      unfold compareOfLessAndEq
      by_cases h1 : A < B
      · rw [if_pos h1, if_neg (by omega), if_neg (by omega)]; rfl
      · by_cases h2 : A = B
        · subst h2; simp
        · rw [if_neg h1, if_neg h2, if_pos (by omega)]; rfl

theorem order_flip {x y : Nat} (hx : x < 2 ^ 64) (hy : y < 2 ^ 64) : double.order (flip x) (flip y) = (double.order x y).map Ordering.swap := by
  unfold Format.order
  rw [read_flip hx, read_flip hy, order_opp]

theorem gt_flip {x y : Nat} (hx : x < 2 ^ 64) (hy : y < 2 ^ 64) : (double.order (flip x) (flip y) == some .gt) = (double.order x y == some .lt) := by
  rw [order_flip hx hy]
  cases double.order x y with
  | none => rfl
  | some o => cases o <;> rfl

theorem lt_flip {x y : Nat} (hx : x < 2 ^ 64) (hy : y < 2 ^ 64) : (double.order (flip x) (flip y) == some .lt) = (double.order x y == some .gt) := by
  rw [order_flip hx hy]
  cases double.order x y with
  | none => rfl
  | some o => cases o <;> rfl

/-- Finite: a number. -/
theorem read_fin {x : Nat} (hx : x < 2 ^ 64) (h : fin x) : ∃ m p, double.read x = .number (x / 2 ^ 63 % 2 == 1) m p ∧
    ((m = x % 2 ^ 63 ∧ p = -1074 ∧ m < 2 ^ 52) ∨ (m = 2 ^ 52 + x % 2 ^ 63 % 2 ^ 52 ∧ p = -1074 + (x % 2 ^ 63 / 2 ^ 52 - 1 : Nat) ∧ 2 ^ 52 ≤ x % 2 ^ 63)) := by
  unfold fin at h
  unfold Format.read
  simp only [sw, bin, inf, leastp]
  by_cases h1 : x % 2 ^ 63 < 2 ^ 52
  · rw [if_pos h1]
    exact ⟨_, _, rfl, .inl ⟨rfl, rfl, h1⟩⟩
  · rw [if_neg h1, if_pos h]
    exact ⟨_, _, rfl, .inr ⟨rfl, rfl, by omega⟩⟩

theorem read_m1 : double.read 0xBFF0000000000000 = .number true (2 ^ 52) (-52) := by decide

theorem log2_eq {m k : Nat} (h1 : 2 ^ k ≤ m) (h2 : m < 2 ^ (k + 1)) : m.log2 = k := by
  have hm : m ≠ 0 := by have := Nat.two_pow_pos k; omega
  have a := (Nat.le_log2 hm (k := k)).2 h1
  have b := (Nat.log2_lt hm (k := k + 1)).2 h2
  omega

theorem cut_even (n k : Nat) (neg : Bool) (hk : k ≤ (n * 2 ^ k).log2 + 2) : Toward.even.cut neg (n * 2 ^ k) k = n := by
  unfold Toward.cut
  dsimp only
  rw [Nat.min_eq_left hk, Nat.one_shiftLeft]
  have hp := Nat.two_pow_pos k
  rw [Nat.mul_div_cancel _ hp, Nat.mul_mod_left]
  have h0 : ¬ 2 ^ k < 2 * 0 := by omega
  have h1 : (2 ^ k == 2 * 0) = false := by simp
  simp [h0]

theorem write_number (f : Format) (s : Bool) (m : Nat) (p : Int) : f.write (.number s m p) = f.nearest s m p := rfl

theorem back_word {x : Nat} (hx : x < 2 ^ 64) : double.word (x / 2 ^ 63 % 2 == 1) (x % 2 ^ 63) = x := by
  unfold Format.word
  rw [sw]
  by_cases hb : x < 2 ^ 63
  · have e : x / 2 ^ 63 % 2 = 0 := by omega
    rw [e, if_neg (by decide), Nat.mod_eq_of_lt hb]
  · have e : x / 2 ^ 63 % 2 = 1 := by omega
    rw [e, if_pos (by decide)]; omega

theorem rung_back (r B : Nat) (hB : 0 < B) (h : B ≤ r) : (r / B - 1) * B + (B + r % B) = r := by
  have h1 : 1 ≤ r / B := (Nat.le_div_iff_mul_le hB).2 (by omega)
  obtain ⟨q, hq⟩ : ∃ q, r / B = q + 1 := ⟨r / B - 1, by omega⟩
  have := Nat.div_add_mod r B
  rw [hq] at this ⊢
  rw [Nat.add_sub_cancel]
  rw [Nat.mul_comm B, Nat.add_mul] at this
  omega

theorem log2_mul (m k : Nat) (hm0 : m ≠ 0) : (m * 2 ^ k).log2 = m.log2 + k := by
  have a := Nat.log2_self_le hm0
  have b := Nat.lt_log2_self (n := m)
  refine log2_eq ?_ ?_
  · rw [Nat.pow_add]; exact Nat.mul_le_mul_right _ a
  · rw [show m.log2 + k + 1 = (m.log2 + 1) + k by omega, Nat.pow_add]; exact Nat.mul_lt_mul_of_pos_right b (Nat.two_pow_pos _)

/-- The nearest of a number that the format has, its magnitude written with k zeros more. -/
theorem nearest_exact (f : Format) (s : Bool) (m k : Nat) (p : Int) (hm0 : m ≠ 0) (hp : max (p + (m.log2 : Int) - f.fractionBits) f.leastPlace = p) :
    f.nearest s (m * 2 ^ k) (p - k) = f.word s (min ((p - f.leastPlace).toNat * f.binade + m) f.infRung) := by
  unfold Format.nearest
  dsimp only
  have hne : m * 2 ^ k ≠ 0 := Nat.mul_ne_zero hm0 (Nat.ne_of_gt (Nat.two_pow_pos k))
  rw [if_neg hne, log2_mul m k hm0]
  have hlast : max (p - (k : Int) + ((m.log2 + k : Nat) : Int) - (f.fractionBits : Int)) f.leastPlace = p := by
    rw [← hp]; omega
  rw [hlast]
  have d1 : (p - (k : Int) - p).toNat = 0 := by omega
  have d2 : (p - (p - (k : Int))).toNat = k := by omega
  rw [d1, d2, Nat.shiftLeft_zero, cut_even m k _ (by rw [log2_mul m k hm0]; omega)]

theorem key_m1 {x : Nat} (hx : x < 2 ^ 64) (h : fin x) (m : Nat) (p : Int)
    (hm : (m = x % 2 ^ 63 ∧ p = -1074 ∧ m < 2 ^ 52) ∨ (m = 2 ^ 52 + x % 2 ^ 63 % 2 ^ 52 ∧ p = -1074 + (x % 2 ^ 63 / 2 ^ 52 - 1 : Nat) ∧ 2 ^ 52 ≤ x % 2 ^ 63)) (k : Nat) :
    double.nearest (x / 2 ^ 63 % 2 == 1) (m * 2 ^ k) (p - k) = x := by
  by_cases hm0 : m = 0
  · have hz : x % 2 ^ 63 = 0 := by
      rcases hm with ⟨e1, _, _⟩ | ⟨e1, _, _⟩
      · rw [← e1]; exact hm0
      · have := Nat.two_pow_pos 52; omega
    unfold Format.nearest
    rw [hm0, Nat.zero_mul, if_pos rfl, ← hz]
    exact back_word hx
  · have hr : x % 2 ^ 63 < 0x7ff0000000000000 := h
    rw [nearest_exact double _ m k p hm0]
    · have e : min ((p - double.leastPlace).toNat * double.binade + m) double.infRung = x % 2 ^ 63 := by
        rw [leastp, bin, inf]
        have e' : (p - -1074).toNat * 2 ^ 52 + m = x % 2 ^ 63 := by
          rcases hm with ⟨e1, e2, e3⟩ | ⟨e1, e2, e3⟩
          · have : (p - -1074).toNat = 0 := by omega
            rw [this, Nat.zero_mul, Nat.zero_add]; exact e1
          · have : (p - -1074).toNat = x % 2 ^ 63 / 2 ^ 52 - 1 := by omega
            rw [this, e1]
            exact rung_back _ _ (Nat.two_pow_pos 52) e3
        rw [e']
        exact Nat.min_eq_left (Nat.le_of_lt hr)
      rw [e]
      exact back_word hx
    · rw [leastp, fb]
      rcases hm with ⟨e1, e2, e3⟩ | ⟨e1, e2, e3⟩
      · have : m.log2 < 52 := (Nat.log2_lt hm0).2 e3
        omega
      · have hlt : x % 2 ^ 63 % 2 ^ 52 < 2 ^ 52 := Nat.mod_lt _ (Nat.two_pow_pos 52)
        have hl : m.log2 = 52 := log2_eq (by rw [e1]; exact Nat.le_add_right _ _) (by rw [e1, Nat.pow_succ]; omega)
        omega

theorem xor_true (b : Bool) : (b ^^ true) = !b := by cases b <;> rfl

/-- A finite number times minus one: its sign turned, exactly. -/
theorem mul_m1 {x : Nat} (hx : x < 2 ^ 64) (h : fin x) : double.mul x 0xBFF0000000000000 = some (flip x) := by
  obtain ⟨m, p, e, hm⟩ := read_fin hx h
  have hk := key_m1 hx h m p hm 52
  unfold Format.mul
  rw [e, read_m1]
  simp only [Datum.product, Option.map_some, Option.some.injEq]
  rw [write_number, xor_true, nearest_flip]
  congr 1

end Fl
end Go.Proofs.YtlckfiflfkbofaaGreatDoor
