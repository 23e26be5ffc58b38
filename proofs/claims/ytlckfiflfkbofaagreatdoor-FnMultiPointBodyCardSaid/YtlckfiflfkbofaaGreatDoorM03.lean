/- Plain facts on decimal digits, shifted right and left by powers of two; no program in sight. Part 3 of 51 of the proof that FnMultiPointBody returns true for every text and every type of coordinates, where the listed variables hold what the text of the program lays. -/
set_option linter.all false

/- Plain facts on decimal digits, shifted right and left by powers of two; no program in sight. -/
namespace Go.Proofs.YtlckfiflfkbofaaGreatDoor
namespace Dp

/-- The number that the first r digits make. -/
def pre (e : Nat → Nat) : Nat → Nat
  | 0 => 0
  | r + 1 => 10 * pre e r + e r

theorem pre_lt (e : Nat → Nat) (he : ∀ i, e i ≤ 9) : ∀ r, pre e r < 10 ^ r
  | 0 => by simp [pre]
  | r + 1 => by
    have := pre_lt e he r
    have := he r
    rw [pre, Nat.pow_succ]; omega

theorem pre_ge (e : Nat → Nat) (h0 : 1 ≤ e 0) : ∀ r, 10 ^ r ≤ pre e (r + 1)
  | 0 => by simp [pre]; omega
  | r + 1 => by
    have := pre_ge e h0 r
    rw [pre, Nat.pow_succ]; omega

theorem pre_congr {e f : Nat → Nat} : ∀ {r}, (∀ i, i < r → e i = f i) → pre e r = pre f r
  | 0, _ => rfl
  | r + 1, h => by rw [pre, pre, pre_congr (fun i hi => h i (by omega)), h r (by omega)]

theorem pre_mono (e : Nat → Nat) {r s : Nat} (h : r ≤ s) : pre e r ≤ pre e s := by
  induction s with
  | zero => obtain rfl : r = 0 := by omega
            exact Nat.le_refl _
  | succ s ih =>
    by_cases hr : r = s + 1
    · subst hr; exact Nat.le_refl _
    · have := ih (by omega)
      rw [pre]; omega

/-! ### Right -/

/-- How many digits are taken till the number reaches 2^k; the search begins at r. -/
def rsR (e : Nat → Nat) (k : Nat) : Nat → Nat → Nat
  | 0, r => r
  | f + 1, r => if pre e r < 2 ^ k then rsR e k f (r + 1) else r

/-- The count of digits that the first quotient takes. -/
def rr (e : Nat → Nat) (k : Nat) : Nat := rsR e k 25 0

theorem rsR_spec (e : Nat → Nat) (k : Nat) : ∀ f r, (∃ s, s ≤ r + f ∧ 2 ^ k ≤ pre e s) → (∀ s, s < r → pre e s < 2 ^ k) →
    2 ^ k ≤ pre e (rsR e k f r) ∧ (∀ s, s < rsR e k f r → pre e s < 2 ^ k) ∧ r ≤ rsR e k f r ∧ rsR e k f r ≤ r + f
  | 0, r, ⟨s, hs, hp⟩, hlt => by
    have : ¬ s < r := fun h => by have := hlt s h; omega
    obtain rfl : s = r := by omega
    exact ⟨hp, hlt, Nat.le_refl _, Nat.le_refl _⟩
  | f + 1, r, ⟨s, hs, hp⟩, hlt => by
    rw [rsR]
    split
    · rename_i h
      have := rsR_spec e k f (r + 1) ⟨s, by omega, hp⟩ (fun t ht => by
        by_cases e' : t = r
        · subst e'; exact h
        · exact hlt t (by omega))
      exact ⟨this.1, this.2.1, by omega, by omega⟩
    · rename_i h
      exact ⟨by omega, hlt, Nat.le_refl _, by omega⟩

theorem rr_spec {e : Nat → Nat} {k : Nat} (h0 : 1 ≤ e 0) (hk : k ≤ 60) :
    2 ^ k ≤ pre e (rr e k) ∧ (∀ s, s < rr e k → pre e s < 2 ^ k) ∧ rr e k ≤ 25 := by
  have h := rsR_spec e k 25 0 ⟨20, by omega, by
    have a := pre_ge e h0 19
    have b : 2 ^ k ≤ 2 ^ 60 := Nat.pow_le_pow_right (by omega) hk
    have c : 2 ^ 60 ≤ 10 ^ 19 := by decide
    exact Nat.le_trans b (Nat.le_trans c a)⟩ (fun s hs => by omega)
  exact ⟨h.1, h.2.1, by have := h.2.2.2; unfold rr; omega⟩

theorem rr_pos {e : Nat → Nat} {k : Nat} (h0 : 1 ≤ e 0) (hk : k ≤ 60) : 1 ≤ rr e k := by
  have h := (rr_spec h0 hk).1
  cases hr : rr e k with
  | zero => rw [hr] at h; simp [pre] at h
  | succ n => omega

/-- The first quotient's dividend is below 10 * 2^k. -/
theorem rr_lt {e : Nat → Nat} {k : Nat} (he : ∀ i, e i ≤ 9) (h0 : 1 ≤ e 0) (hk : k ≤ 60) : pre e (rr e k) < 10 * 2 ^ k := by
  have hp := rr_pos h0 hk
  obtain ⟨q, hq⟩ : ∃ q, rr e k = q + 1 := ⟨rr e k - 1, by omega⟩
  have := (rr_spec h0 hk).2.1 q (by omega)
  have := he q
  rw [hq, pre]; omega

/-- The dividends. -/
def nn (e : Nat → Nat) (k : Nat) : Nat → Nat
  | 0 => pre e (rr e k)
  | j + 1 => nn e k j % 2 ^ k * 10 + e (rr e k + j)

theorem nn_lt {e : Nat → Nat} {k : Nat} (he : ∀ i, e i ≤ 9) (h0 : 1 ≤ e 0) (hk : k ≤ 60) : ∀ j, nn e k j < 10 * 2 ^ k
  | 0 => rr_lt he h0 hk
  | j + 1 => by
    have := Nat.mod_lt (nn e k j) (Nat.two_pow_pos k)
    have := he (rr e k + j)
    rw [nn]; omega

/-- The digits that come out. -/
def qq (e : Nat → Nat) (k j : Nat) : Nat := nn e k j / 2 ^ k

theorem qq_le {e : Nat → Nat} {k : Nat} (he : ∀ i, e i ≤ 9) (h0 : 1 ≤ e 0) (hk : k ≤ 60) (j : Nat) : qq e k j ≤ 9 := by
  have h := nn_lt he h0 hk j
  unfold qq
  have : nn e k j / 2 ^ k < 10 := (Nat.div_lt_iff_lt_mul (Nat.two_pow_pos k)).2 h
  omega

theorem qq_pos {e : Nat → Nat} {k : Nat} (h0 : 1 ≤ e 0) (hk : k ≤ 60) : 1 ≤ qq e k 0 :=
  (Nat.le_div_iff_mul_le (Nat.two_pow_pos k)).2 (by have := (rr_spec h0 hk).1; rw [nn]; omega)

/-- Behind the last digit (nd) the dividends come to 0 in k steps. -/
theorem nn_dvd {e : Nat → Nat} {k nd : Nat} (hz : ∀ i, nd ≤ i → e i = 0) (j0 : Nat) (hj : nd ≤ rr e k + j0) : ∀ i, i ≤ k → 2 ^ i ∣ nn e k (j0 + i)
  | 0, _ => by simp
  | i + 1, hi => by
    obtain ⟨c, hc⟩ := nn_dvd hz j0 hj i (by omega)
    rw [← Nat.add_assoc, nn, hz _ (by omega), Nat.add_zero]
    have hm : nn e k (j0 + i) % 2 ^ k = 2 ^ i * (c % 2 ^ (k - i)) := by
      rw [hc, show 2 ^ k = 2 ^ i * 2 ^ (k - i) by rw [← Nat.pow_add]; congr 1; omega, Nat.mul_mod_mul_left]
    rw [hm]
    exact ⟨c % 2 ^ (k - i) * 5, by rw [Nat.pow_succ, Nat.add_zero, Nat.mul_assoc, Nat.mul_assoc]; congr 1; omega⟩

theorem nn_zero {e : Nat → Nat} {k nd : Nat} (hz : ∀ i, nd ≤ i → e i = 0) (j0 : Nat) (hj : nd ≤ rr e k + j0) : nn e k (j0 + k + 1) = 0 := by
  have h := nn_dvd hz j0 hj k (Nat.le_refl _)
  rw [nn, hz _ (by omega), Nat.mod_eq_zero_of_dvd h]

/-- How many digits come out: the search begins at j. -/
def rsW (e : Nat → Nat) (k : Nat) : Nat → Nat → Nat
  | 0, j => j
  | f + 1, j => if nn e k j = 0 then j else rsW e k f (j + 1)

/-- How many digits come out; nd are given. -/
def ww (e : Nat → Nat) (k nd : Nat) : Nat := rsW e k (k + 1) (nd - rr e k)

theorem rsW_spec (e : Nat → Nat) (k : Nat) : ∀ f j, nn e k (j + f) = 0 →
    nn e k (rsW e k f j) = 0 ∧ (∀ i, j ≤ i → i < rsW e k f j → nn e k i ≠ 0) ∧ j ≤ rsW e k f j ∧ rsW e k f j ≤ j + f
  | 0, j, h => ⟨h, fun i h1 h2 => by rw [rsW] at h2; omega, Nat.le_refl _, Nat.le_refl _⟩
  | f + 1, j, h => by
    rw [rsW]
    split
    · rename_i h0
      exact ⟨h0, fun i h1 h2 => by omega, Nat.le_refl _, by omega⟩
    · rename_i h0
      have := rsW_spec e k f (j + 1) (by rw [show j + 1 + f = j + (f + 1) by omega]; exact h)
      refine ⟨this.1, fun i h1 h2 => ?_, by omega, by omega⟩
      by_cases e' : i = j
      · subst e'; exact h0
      · exact this.2.1 i (by omega) h2

theorem ww_spec {e : Nat → Nat} {k nd : Nat} (hz : ∀ i, nd ≤ i → e i = 0) :
    nn e k (ww e k nd) = 0 ∧ (∀ i, nd - rr e k ≤ i → i < ww e k nd → nn e k i ≠ 0) ∧ nd - rr e k ≤ ww e k nd ∧ ww e k nd ≤ nd - rr e k + (k + 1) :=
  rsW_spec e k (k + 1) (nd - rr e k) (by rw [← Nat.add_assoc]; exact nn_zero hz _ (by omega))

theorem ww_pos {e : Nat → Nat} {k nd : Nat} (hz : ∀ i, nd ≤ i → e i = 0) (h0 : 1 ≤ e 0) (hk : k ≤ 60) : 1 ≤ ww e k nd := by
  rcases Nat.eq_zero_or_pos (ww e k nd) with h | h
  · have := (ww_spec (k := k) hz).1
    rw [h, nn] at this
    have h2 := (rr_spec h0 hk).1
    have := Nat.two_pow_pos k
    omega
  · exact h

/-! ### Left: the digits of N * 2^k -/

theorem low_step (N k j : Nat) : (N % 10 ^ j * 2 ^ k) / 10 ^ j + N / 10 ^ j % 10 * 2 ^ k = (N % 10 ^ (j + 1) * 2 ^ k) / 10 ^ j := by
  have hp : 0 < 10 ^ j := Nat.pow_pos (by omega)
  have h : N % 10 ^ (j + 1) = N % 10 ^ j + 10 ^ j * (N / 10 ^ j % 10) := by rw [Nat.pow_succ, Nat.mod_mul]
  rw [h, Nat.add_mul, Nat.mul_assoc, Nat.add_mul_div_left _ _ hp]

theorem low_digit (N k j : Nat) : (N % 10 ^ (j + 1) * 2 ^ k) / 10 ^ j % 10 = N * 2 ^ k / 10 ^ j % 10 := by
  have hp : 0 < 10 ^ j := Nat.pow_pos (by omega)
  have h : N * 2 ^ k = N % 10 ^ (j + 1) * 2 ^ k + 10 ^ j * (10 * (N / 10 ^ (j + 1) * 2 ^ k)) := by
    conv => lhs; rw [← Nat.mod_add_div N (10 ^ (j + 1))]
    rw [Nat.add_mul, Nat.pow_succ]
    congr 1
    simp only [Nat.mul_assoc, Nat.mul_comm, Nat.mul_left_comm]
  rw [h, Nat.add_mul_div_left _ _ hp, Nat.add_mul_mod_self_left]

theorem low_quo (N k j : Nat) : (N % 10 ^ (j + 1) * 2 ^ k) / 10 ^ j / 10 = (N % 10 ^ (j + 1) * 2 ^ k) / 10 ^ (j + 1) := by
  rw [Nat.div_div_eq_div_mul, Nat.pow_succ]

theorem low_lt (N k j : Nat) : (N % 10 ^ j * 2 ^ k) / 10 ^ j < 2 ^ k := by
  have hp : 0 < 10 ^ j := Nat.pow_pos (by omega)
  rw [Nat.div_lt_iff_lt_mul hp, Nat.mul_comm]
  exact Nat.mul_lt_mul_of_pos_left (Nat.mod_lt _ hp) (Nat.two_pow_pos k)

/-- The digit j places above the last one is a given digit. -/
theorem pre_digit (e : Nat → Nat) (he : ∀ i, e i ≤ 9) (nd : Nat) : ∀ j, j < nd → pre e nd / 10 ^ j % 10 = e (nd - 1 - j) := by
  intro j
  induction j generalizing nd with
  | zero =>
    intro h
    obtain ⟨m, rfl⟩ : ∃ m, nd = m + 1 := ⟨nd - 1, by omega⟩
    have := he m
    simp [pre]; omega
  | succ j ih =>
    intro h
    obtain ⟨m, rfl⟩ : ∃ m, nd = m + 1 := ⟨nd - 1, by omega⟩
    have h2 := ih m (by omega)
    have := he m
    rw [Nat.pow_succ, Nat.mul_comm, ← Nat.div_div_eq_div_mul, pre, show (10 * pre e m + e m) / 10 = pre e m by omega, h2]
    congr 1; omega

end Dp
end Go.Proofs.YtlckfiflfkbofaaGreatDoor
