/- Plain facts: how many digits N * 2^k has, by the table of Go's decimal; no program in sight. Part 5 of 51 of the proof that FnMultiPointBody returns true for every text and every type of coordinates, where the listed variables hold what the text of the program lays. -/
import GoSem.PinnedTables
import Derived.Test.YtlckfiflfkbofaaGreatDoorM03
set_option linter.all false

/- Plain facts: how many digits N * 2^k has, by the table of Go's decimal; no program in sight. -/
namespace Go.Proofs.YtlckfiflfkbofaaGreatDoor
namespace Dp

/-- Is what begins at the i-th digit less than the text? -/
def plt (d : Nat → Int) (nd : Nat) : Nat → List UInt8 → Bool
  | _, [] => false
  | i, c :: r => if nd ≤ i then true else if d i = (c.toNat : Int) then plt d nd (i + 1) r else decide (d i < (c.toNat : Int))

/-- The number that L digits from i on make. -/
def win (e : Nat → Nat) : Nat → Nat → Nat
  | _, 0 => 0
  | i, L + 1 => e i * 10 ^ L + win e (i + 1) L

def lval : List UInt8 → Nat
  | [] => 0
  | c :: r => (c.toNat - 48) * 10 ^ r.length + lval r

def digs (l : List UInt8) : Bool := l.all fun c => decide (48 ≤ c.toNat) && decide (c.toNat ≤ 57)
def lastNz : List UInt8 → Bool
  | [] => true
  | [c] => decide (c.toNat ≠ 48)
  | _ :: r => lastNz r

theorem win_lt (e : Nat → Nat) (he : ∀ i, e i ≤ 9) : ∀ L i, win e i L < 10 ^ L
  | 0, _ => by simp [win]
  | L + 1, i => by
    have h1 := win_lt e he L (i + 1)
    have h2 := he i
    have h3 : e i * 10 ^ L ≤ 9 * 10 ^ L := Nat.mul_le_mul_right _ h2
    rw [win, Nat.pow_succ]; omega

theorem win_zero (e : Nat → Nat) : ∀ L i, (∀ j, i ≤ j → e j = 0) → win e i L = 0
  | 0, _, _ => rfl
  | L + 1, i, h => by rw [win, h i (Nat.le_refl _), win_zero e L (i + 1) (fun j hj => h j (by omega))]; omega

theorem lval_lt : ∀ l, digs l = true → lval l < 10 ^ l.length
  | [], _ => by simp [lval]
  | c :: r, h => by
    simp only [digs, List.all_cons, Bool.and_eq_true, decide_eq_true_eq] at h
    have h1 := lval_lt r h.2
    have h3 : (c.toNat - 48) * 10 ^ r.length ≤ 9 * 10 ^ r.length := Nat.mul_le_mul_right _ (by omega)
    rw [lval, List.length_cons, Nat.pow_succ]; omega

theorem lval_pos : ∀ l, l ≠ [] → digs l = true → lastNz l = true → 0 < lval l
  | [], h, _, _ => absurd rfl h
  | [c], _, h, h2 => by
    simp only [digs, List.all_cons, Bool.and_eq_true, decide_eq_true_eq] at h
    simp only [lastNz, decide_eq_true_eq] at h2
    simp [lval]; omega
  | c :: c2 :: r, _, h, h2 => by
    have h' : digs (c2 :: r) = true := by
      simp only [digs, List.all_cons, Bool.and_eq_true] at h ⊢
      exact h.2
    have := lval_pos (c2 :: r) (by simp) h' h2
    rw [lval]; omega

theorem plt_iff (d : Nat → Int) (nd : Nat) (e : Nat → Nat) (he : ∀ i, e i ≤ 9) (hz : ∀ i, nd ≤ i → e i = 0) (hd : ∀ i, i < nd → d i = 48 + (e i : Int)) :
    ∀ l i, digs l = true → lastNz l = true → (plt d nd i l = true ↔ win e i l.length < lval l)
  | [], i, _, _ => by simp [plt, win, lval]
  | c :: r, i, h, h2 => by
    have hd' : digs r = true := by
      simp only [digs, List.all_cons, Bool.and_eq_true] at h ⊢
      exact h.2
    have hl' : lastNz r = true := by
      cases r with
      | nil => rfl
      | cons c2 r => exact h2
    have hc : 48 ≤ c.toNat ∧ c.toNat ≤ 57 := by
      simp only [digs, List.all_cons, Bool.and_eq_true, decide_eq_true_eq] at h
      exact h.1
    rw [plt]
    split
    · rename_i hn
      rw [win_zero e _ i (fun j hj => hz j (by omega))]
      have := lval_pos (c :: r) (by simp) h h2
      simp; omega
    · rename_i hn
      have hdi := hd i (by omega)
      have w1 := win_lt e he r.length (i + 1)
      have w2 := lval_lt r hd'
      have ih := plt_iff d nd e he hz hd r (i + 1) hd' hl'
      rw [List.length_cons, win, lval]
      split
      · rename_i heq
        have hei : e i = c.toNat - 48 := by omega
        rw [ih, hei]; omega
      · rename_i hne
        rw [decide_eq_true_iff]
        generalize 10 ^ r.length = B at *
        constructor
        · intro hlt
          have : e i + 1 ≤ c.toNat - 48 := by omega
          have := Nat.mul_le_mul_right B this
          rw [Nat.add_mul] at this
          omega
        · intro hlt
          rcases Nat.lt_or_ge (e i) (c.toNat - 48) with h | h
          · omega
          · have : c.toNat - 48 + 1 ≤ e i := by omega
            have := Nat.mul_le_mul_right B this
            rw [Nat.add_mul] at this
            omega

theorem win_pre (e : Nat → Nat) : ∀ L i, pre e (i + L) = pre e i * 10 ^ L + win e i L
  | 0, i => by simp [win]
  | L + 1, i => by
    rw [show i + (L + 1) = (i + 1) + L by omega, win_pre e L (i + 1), pre, win, Nat.pow_succ, Nat.add_mul]
    have : 10 * pre e i * 10 ^ L = pre e i * (10 ^ L * 10) := by rw [Nat.mul_comm 10, Nat.mul_assoc, Nat.mul_comm 10]
    omega

theorem win0 (e : Nat → Nat) (L : Nat) : win e 0 L = pre e L := by
  have := win_pre e L 0
  simp [pre] at this
  exact this.symm

/-- The prefixes of a number with nd digits. -/
theorem pre_up (e : Nat → Nat) {nd m : Nat} (hz : ∀ i, nd ≤ i → e i = 0) (h : nd ≤ m) : pre e m = pre e nd * 10 ^ (m - nd) := by
  have := win_pre e (m - nd) nd
  rw [win_zero e _ nd hz, show nd + (m - nd) = m by omega] at this
  omega
theorem pre_down (e : Nat → Nat) (he : ∀ i, e i ≤ 9) {nd m : Nat} (h : m ≤ nd) : pre e m = pre e nd / 10 ^ (nd - m) := by
  have h1 := win_pre e (nd - m) m
  rw [show m + (nd - m) = nd by omega] at h1
  have h2 := win_lt e he (nd - m) m
  rw [h1, Nat.mul_comm, Nat.mul_add_div (Nat.pow_pos (by omega)), Nat.div_eq_of_lt h2, Nat.add_zero]

/-! ### The table -/
def lcRow (k : Nat) : Nat × List UInt8 := Go.Pinned.cheatRows.getD k (0, [])
def lcD (k : Nat) : Nat := (lcRow k).1
def okRow (k : Nat) : Bool :=
  digs (lcRow k).2 && lastNz (lcRow k).2 && decide (lval (lcRow k).2 = 5 ^ k) && decide (2 ^ k ≤ 10 ^ lcD k) && decide (10 ^ (lcD k - 1) ≤ 2 ^ k) && decide (lcD k + (lcRow k).2.length = k + 1) && decide (1 ≤ lcD k) && decide (lcD k ≤ 19) && decide ((lcRow k).2.length ≤ 60) && decide (1 ≤ (lcRow k).2.length)
theorem rows_ok : ((List.range 60).all fun k => okRow (k + 1)) = true := by decide +kernel
theorem rows_len : Go.Pinned.cheatRows.length = 61 := by decide +kernel

structure Row (k : Nat) : Prop where
  dg : digs (lcRow k).2 = true
  nz : lastNz (lcRow k).2 = true
  v : lval (lcRow k).2 = 5 ^ k
  up : 2 ^ k ≤ 10 ^ lcD k
  lo : 10 ^ (lcD k - 1) ≤ 2 ^ k
  len : lcD k + (lcRow k).2.length = k + 1
  d1 : 1 ≤ lcD k
  d19 : lcD k ≤ 19
  l60 : (lcRow k).2.length ≤ 60
  l1 : 1 ≤ (lcRow k).2.length

theorem row {k : Nat} (h1 : 1 ≤ k) (h : k ≤ 60) : Row k := by
  have := List.all_eq_true.1 rows_ok (k - 1) (List.mem_range.2 (by omega))
  rw [show k - 1 + 1 = k by omega] at this
  simp only [okRow, Bool.and_eq_true, decide_eq_true_eq] at this
  obtain ⟨⟨⟨⟨⟨⟨⟨⟨⟨b, c⟩, d⟩, e⟩, f⟩, g⟩, h⟩, i⟩, j⟩, l⟩ := this
  exact ⟨b, c, d, e, f, g, h, i, j, l⟩

/-- How many digits more. -/
def dl (d : Nat → Int) (nd k : Nat) : Nat := if plt d nd 0 (lcRow k).2 then lcD k - 1 else lcD k

theorem count {d : Nat → Int} {nd k : Nat} {e : Nat → Nat} (he : ∀ i, e i ≤ 9) (h0 : 1 ≤ e 0) (hn : 1 ≤ nd) (hz : ∀ i, nd ≤ i → e i = 0) (hd : ∀ i, i < nd → d i = 48 + (e i : Int)) (h1 : 1 ≤ k) (hk : k ≤ 60) :
    10 ^ (nd + dl d nd k - 1) ≤ pre e nd * 2 ^ k ∧ pre e nd * 2 ^ k < 10 ^ (nd + dl d nd k) := by
  have R := row h1 hk
  have hi := plt_iff d nd e he hz hd (lcRow k).2 0 R.dg R.nz
  rw [win0, R.v] at hi
  have hL := R.len
  have hl1 := R.l1
  have hd1 := R.d1
  have hlt : pre e nd < 10 ^ nd := pre_lt e he nd
  have hge : 10 ^ (nd - 1) ≤ pre e nd := by
    have := pre_ge e h0 (nd - 1)
    rw [show nd - 1 + 1 = nd by omega] at this
    exact this
  have h10 : (10 : Nat) ^ k = 5 ^ k * 2 ^ k := by rw [← Nat.mul_pow]
  have hp2 : 0 < 2 ^ k := Nat.two_pow_pos k
  -- the test says on which side of 10^(nd + delta - 1) the product lies
  have key : pre e (lcRow k).2.length < 5 ^ k ↔ pre e nd * 2 ^ k < 10 ^ (nd + lcD k - 1) := by
    generalize hLL : (lcRow k).2.length = L at *
    by_cases hc : L ≤ nd
    · rw [pre_down e he hc, Nat.div_lt_iff_lt_mul (Nat.pow_pos (by omega))]
      have e1 : (10 : Nat) ^ (nd + lcD k - 1) = 5 ^ k * 10 ^ (nd - L) * 2 ^ k := by
        rw [show nd + lcD k - 1 = k + (nd - L) by omega, Nat.pow_add, h10]
        simp only [Nat.mul_assoc, Nat.mul_comm, Nat.mul_left_comm]
      rw [e1]
      exact (Nat.mul_lt_mul_right hp2).symm
    · rw [pre_up e hz (by omega : nd ≤ L)]
      have hpL : 0 < 10 ^ (L - nd) := Nat.pow_pos (by omega)
      have e1 : (10 : Nat) ^ (nd + lcD k - 1) * 10 ^ (L - nd) = 5 ^ k * 2 ^ k := by
        rw [← Nat.pow_add, ← h10]; congr 1; omega
      constructor
      · intro h
        refine Nat.lt_of_mul_lt_mul_right (a := 10 ^ (L - nd)) ?_
        rw [e1]
        have := (Nat.mul_lt_mul_right hp2).2 h
        simp only [Nat.mul_assoc, Nat.mul_comm, Nat.mul_left_comm] at this ⊢
        exact this
      · intro h
        refine Nat.lt_of_mul_lt_mul_right (a := 2 ^ k) ?_
        have := (Nat.mul_lt_mul_right hpL).2 h
        rw [e1] at this
        simp only [Nat.mul_assoc, Nat.mul_comm, Nat.mul_left_comm] at this ⊢
        exact this
  unfold dl
  split
  · rename_i hp
    have hs := key.1 (hi.1 hp)
    constructor
    · have := Nat.mul_le_mul hge R.lo
      rw [← Nat.pow_add] at this
      rw [show nd + (lcD k - 1) - 1 = nd - 1 + (lcD k - 1) by omega]
      exact this
    · rw [show nd + (lcD k - 1) = nd + lcD k - 1 by omega]; exact hs
  · rename_i hp
    have hs : ¬ (pre e nd * 2 ^ k < 10 ^ (nd + lcD k - 1)) := fun h => hp (hi.2 (key.2 h))
    refine ⟨by omega, ?_⟩
    rw [Nat.pow_add]
    exact Nat.lt_of_lt_of_le ((Nat.mul_lt_mul_right hp2).2 hlt) (Nat.mul_le_mul_left _ R.up)

end Dp
end Go.Proofs.YtlckfiflfkbofaaGreatDoor
