/- Plain: bounds on products and quotients of doubles of moderate size: they are finite; no program in sight. Part 16 of 51 of the proof that FnMultiPointBody returns true for every text and every type of coordinates, where the listed variables hold what the text of the program lays. -/
import Derived.Laws.FloatArith
import Derived.Test.YtlckfiflfkbofaaGreatDoorM15
set_option linter.all false

/- Plain: bounds on products and quotients of doubles of moderate size: they are finite; no program in sight. -/
namespace Go.Proofs.YtlckfiflfkbofaaGreatDoor
namespace Fl
open Ieee

theorem log2_le {n k : Nat} (h : n < 2 ^ (k + 1)) : n.log2 ≤ k := by
  by_cases h0 : n = 0
  · subst h0; simp
  · have := (Nat.log2_lt h0 (k := k + 1)).2 h; omega

theorem shl_lt {n k j : Nat} (h : n < 2 ^ k) : n <<< j < 2 ^ (k + j) := by
  rw [Nat.shiftLeft_eq, Nat.pow_add]
  exact (Nat.mul_lt_mul_right (Nat.two_pow_pos j)).2 h

theorem cut_le {s : Bool} {n drop : Nat} (h : n.log2 ≤ drop + 52) : Toward.even.cut s n drop ≤ 2 ^ 53 := by
  unfold Toward.cut
  dsimp only
  have hg : n / (1 <<< min drop (n.log2 + 2)) < 2 ^ 53 := by
    rw [Nat.one_shiftLeft]
    rw [Nat.div_lt_iff_lt_mul (Nat.two_pow_pos _), ← Nat.pow_add]
    have h1 : n < 2 ^ (n.log2 + 1) := Nat.lt_log2_self
    refine Nat.lt_of_lt_of_le h1 (Nat.pow_le_pow_right (by decide) ?_)
    omega
  have hb : ∀ b : Bool, b.toNat ≤ 1 := by intro b; cases b <;> decide
  exact Nat.le_trans (Nat.add_le_add_left (hb _) _) (by omega)

/-- A number that is not too great is written at a rung below K binades. -/
theorem nearest_rung (s : Bool) (m : Nat) (p : Int) (K : Nat) (hK : 2 ≤ K) (hK2 : K ≤ 2046) (h : m = 0 ∨ p + m.log2 ≤ (K : Int) - 1024) :
    ∃ r, double.nearest s m p = double.word s r ∧ r ≤ K * 2 ^ 52 := by
  unfold Format.nearest
  by_cases h0 : m = 0
  · rw [if_pos h0]; exact ⟨0, rfl, by omega⟩
  · rw [if_neg h0]
    dsimp only
    refine ⟨_, rfl, ?_⟩
    rw [bin, leastp, fb]
    have hp : p + m.log2 ≤ (K : Int) - 1024 := by rcases h with h | h; exact absurd h h0; exact h
    obtain ⟨L, hL⟩ : ∃ L : Int, L = max (p + (m.log2 : Int) - ((52 : Nat) : Int)) (-1074) := ⟨_, rfl⟩
    rw [← hL]
    have hL1 : L ≤ (K : Int) - 1076 := by omega
    have hL2 : -1074 ≤ L := by omega
    have hL3 : p + m.log2 - 52 ≤ L := by omega
    have hc : Toward.even.cut s (m <<< (p - L).toNat) (L - p).toNat ≤ 2 ^ 53 := by
      refine cut_le ?_
      refine log2_le ?_
      have h1 : m < 2 ^ (m.log2 + 1) := Nat.lt_log2_self
      refine Nat.lt_of_lt_of_le (shl_lt h1) (Nat.pow_le_pow_right (by decide) ?_)
      omega
    refine Nat.le_trans (Nat.min_le_left _ _) ?_
    have hm : (L - -1074).toNat ≤ K - 2 := by omega
    generalize Toward.even.cut s (m <<< (p - L).toNat) (L - p).toNat = z at hc
    generalize (L - -1074).toNat = y at hm
    obtain ⟨j, rfl⟩ : ∃ j, K = y + 2 + j := ⟨K - 2 - y, by omega⟩
    clear hm hL hL1 hL2 hL3 hp h hK2
    rw [Nat.add_mul, Nat.add_mul]
    have : 0 ≤ j * 2 ^ 52 := Nat.zero_le _
    have e : (2 : Nat) ^ 53 = 2 * 2 ^ 52 := by decide
    rw [e] at hc
    generalize (2 : Nat) ^ 52 = z52 at *
    omega

theorem word_pos (r : Nat) : double.word false r = r := rfl

/-- A positive double's parts. -/
theorem read_pos {x A : Nat} (h : x ≤ A * 2 ^ 52) (hA : A ≤ 2046) : ∃ m p, double.read x = .number false m p ∧ m < 2 ^ 53 ∧ p ≤ (A : Int) - 1074 ∧ (1023 * 2 ^ 52 ≤ x → -52 ≤ p ∧ 2 ^ 52 ≤ m) := by
  have hx : x < 2 ^ 63 := by omega
  obtain ⟨m, p, hr, hc⟩ := read_fin (x := x) (by omega) (by unfold fin; rw [Nat.mod_eq_of_lt hx]; omega)
  have hs : (x / 2 ^ 63 % 2 == 1) = false := by rw [Nat.div_eq_of_lt hx]; decide
  rw [hs] at hr
  rw [Nat.mod_eq_of_lt hx] at hc
  refine ⟨m, p, hr, ?_⟩
  rcases hc with ⟨h1, h2, h3⟩ | ⟨h1, h2, h3⟩
  · omega
  · have hd : x / 2 ^ 52 ≤ A := by
      rw [Nat.div_le_iff_le_mul_add_pred (by decide)]; omega
    have hd1 : 1 ≤ x / 2 ^ 52 := by omega
    refine ⟨by omega, by omega, fun h => ⟨by omega, by omega⟩⟩

theorem mul_pos {x y A C : Nat} (hx : x ≤ A * 2 ^ 52) (hy : y ≤ C * 2 ^ 52) (hA : A ≤ 2000) (hC : C ≤ 2000) (hAC : 1021 ≤ A + C) (hAC2 : A + C ≤ 3065) :
    ∃ r, double.mul x y = some r ∧ r ≤ (A + C - 1019) * 2 ^ 52 := by
  obtain ⟨m, p, hr, hm, hp, _⟩ := read_pos hx (by omega)
  obtain ⟨n, q, hs, hn, hq, _⟩ := read_pos hy (by omega)
  unfold Format.mul
  rw [hr, hs]
  simp only [Datum.product, Option.map_some, write_number]
  have hmn : m * n < 2 ^ 106 := by
    have := Nat.mul_lt_mul'' hm hn
    rw [show (2 : Nat) ^ 106 = 2 ^ 53 * 2 ^ 53 by decide]; exact this
  obtain ⟨r, h1, h2⟩ := nearest_rung (false ^^ false) (m * n) (p + q) (A + C - 1019) (by omega) (by omega) (Or.inr (by have := log2_le (n := m * n) (k := 105) hmn; omega))
  exact ⟨r, by rw [h1]; rfl, h2⟩

theorem div_pos {x y A C : Nat} (hx : x ≤ A * 2 ^ 52) (hy : y ≤ C * 2 ^ 52) (hy2 : 1023 * 2 ^ 52 ≤ y) (hA : A ≤ 1500) (hA1 : 1100 ≤ A + 0) (hC : C ≤ 2000) :
    ∃ r, double.div x y = some r ∧ r ≤ (A + 60) * 2 ^ 52 := by
  obtain ⟨m, p, hr, hm, hp, _⟩ := read_pos hx (by omega)
  obtain ⟨n, q, hs, hn, hq, hlow⟩ := read_pos hy (by omega)
  obtain ⟨hq2, hn2⟩ := hlow hy2
  unfold Format.div
  rw [hr, hs]
  have hn0 : n ≠ 0 := by omega
  simp only [Datum.quotient, hn0, if_false, Option.map_some, write_number, fb]
  obtain ⟨more, hmore⟩ : ∃ k, k = 52 + 2 + n.log2 - m.log2 := ⟨_, rfl⟩
  rw [← hmore]
  obtain ⟨r, h1, h2⟩ := nearest_rung (false ^^ false) (2 * (m <<< more / n) + (m <<< more % n != 0).toNat) (p - q - more - 1) (A + 60) (by omega) (by omega) (by
    right
    have h3 : m <<< more < 2 ^ (53 + more) := shl_lt hm
    have h4 : m <<< more / n ≤ m <<< more := Nat.div_le_self _ _
    have h5 : (m <<< more % n != 0).toNat ≤ 1 := by cases (m <<< more % n != 0) <;> decide
    have h6 : 2 * (m <<< more / n) + (m <<< more % n != 0).toNat < 2 ^ (53 + more + 1) := by rw [Nat.pow_succ]; omega
    have := log2_le (k := 53 + more) h6
    omega)
  exact ⟨r, by rw [h1]; rfl, h2⟩

end Fl
end Go.Proofs.YtlckfiflfkbofaaGreatDoor
