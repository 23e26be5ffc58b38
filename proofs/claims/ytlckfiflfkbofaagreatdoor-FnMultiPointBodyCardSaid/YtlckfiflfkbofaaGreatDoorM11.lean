/- shouldRoundUp and RoundedInteger of internal/strconv's decimal. Plain: what floatBits of internal/strconv's decimal computes; its two loops end. floatBits of internal/strconv's decimal: the walk. What the walk of floatBits leans on. Part 11 of 51 of the proof that FnMultiPointBody returns true for every text and every type of coordinates, where the listed variables hold what the text of the program lays. -/
import Derived.Test.YtlckfiflfkbofaaGreatDoorM07
import Derived.Test.YtlckfiflfkbofaaGreatDoorM10
set_option linter.all false

/- shouldRoundUp and RoundedInteger of internal/strconv's decimal. -/
namespace Go.Proofs.YtlckfiflfkbofaaGreatDoor
open Go.RowKit

/-- Is it rounded up behind n digits? -/
def Dc.sru (s : Dc) (n : Int) : Bool :=
  if n < 0 then false else if (s.nd : Int) ≤ n then false
  else if s.d n.toNat = 53 ∧ n + 1 = s.nd then (if s.tr then true else if 0 < n then (s.d (n.toNat - 1) - 48) % 2 != 0 else false)
  else decide (53 ≤ s.d n.toNat)

set_option maxHeartbeats 1600000 in
set_option maxRecDepth 100000 in
theorem sru_calls (b : Nat) (s : Dc) (n : Int) (w : World) (h : IsDc w b s) (g : Good s) (hn : -100000 ≤ n) (hn2 : n ≤ 100000) :
    Calls Tryz.prog 155 #[.pointer (some ⟨b, 0, none⟩), .int .i64 n] w fun e w' => e = .returned (.bool (s.sru n)) ∧ ∃ m, w' = w.drewN m := by
  have c0 := h.c_nd
  have ct := h.c_tr
  have n1 := g.n1
  have n8 := g.n8
  have hfin : Hid (s.sru n = s.sru n) := Lib.hid rfl
  by_cases hneg : n < 0
  · have hf : s.sru n = false := by unfold Dc.sru; rw [if_pos hneg]
    rw [hf]
    go_enter Tryz.func155, Tryz.ntmps155
    go_wp2_with (fail)
    go_ret
    exact ⟨rfl, 0, rfl⟩
  · by_cases hge : (s.nd : Int) ≤ n
    · have hf : s.sru n = false := by unfold Dc.sru; rw [if_neg hneg, if_pos hge]
      rw [hf]
      go_enter Tryz.func155, Tryz.ntmps155
      go_wp2_with (fail)
      go_ret
      exact ⟨rfl, 0, rfl⟩
    · obtain ⟨m, rfl⟩ : ∃ m : Nat, n = m := ⟨n.toNat, by omega⟩
      have hs : s.sru m = if s.d m = 53 ∧ (m : Int) + 1 = s.nd then (if s.tr then true else if 0 < (m : Int) then (s.d (m - 1) - 48) % 2 != 0 else false) else decide (53 ≤ s.d m) := by
        unfold Dc.sru
        rw [if_neg hneg, if_neg hge]
        simp
      have hm8 : m < 800 := by omega
      have cm := h.c_d (i := m) hm8
      have hdm := g.dig m (by omega)
      have HS := Lib.hid hs
      have hlt : (m : Int) < s.nd := by omega
      clear hneg hge hs
      by_cases h5 : s.d m = 53
      · have h5b : (s.d m == 53) = true := by rw [h5]; rfl
        have H5 := Lib.hid h5
        clear h5
        by_cases he : (m : Int) + 1 = s.nd
        · have heb : ((m : Int) + 1 == (s.nd : Int)) = true := by rw [he]; simp
          have HE := Lib.hid he
          clear he
          cases htr : s.tr with
          | true =>
            rw [htr] at ct
            have hf : s.sru m = true := by rw [HS.out, if_pos ⟨H5.out, HE.out⟩, if_pos htr]
            rw [hf]
            clear hf htr
            go_enter Tryz.func155, Tryz.ntmps155
            go_wp2_with (fail)
            go_ret
            exact ⟨rfl, 0, rfl⟩
          | false =>
            rw [htr] at ct
            by_cases hm0 : 0 < m
            · have hf : s.sru m = ((s.d (m - 1) - 48) % 2 != 0) := by rw [HS.out, if_pos ⟨H5.out, HE.out⟩, htr, if_neg (by decide), if_pos (by omega)]
              rw [hf]
              have cq := h.c_d (i := m - 1) (by omega)
              have hdq := g.dig (m - 1) (by omega)
              have hq0 : (0 : Int) < (m : Int) := by omega
              generalize s.d (m - 1) = c at *
              clear hf htr
              go_enter Tryz.func155, Tryz.ntmps155
              go_wp2_with (fail)
              go_ret
              exact ⟨rfl, 0, rfl⟩
            · have hf : s.sru m = false := by rw [HS.out, if_pos ⟨H5.out, HE.out⟩, htr, if_neg (by decide), if_neg (by omega)]
              rw [hf]
              have hm0' : ¬ (0 : Int) < (m : Int) := by omega
              clear hf htr
              go_enter Tryz.func155, Tryz.ntmps155
              go_wp2_with (fail)
              go_ret
              exact ⟨rfl, 0, rfl⟩
        · have heb : ((m : Int) + 1 == (s.nd : Int)) = false := by rw [beq_eq_false_iff_ne]; exact he
          have hf : s.sru m = decide (53 ≤ s.d m) := by rw [HS.out, if_neg (fun x => he x.2)]
          rw [hf]
          clear hf he
          go_enter Tryz.func155, Tryz.ntmps155
          go_wp2_with (fail)
          go_ret
          exact ⟨rfl, 0, rfl⟩
      · have h5b : (s.d m == 53) = false := by rw [beq_eq_false_iff_ne]; exact h5
        have hf : s.sru m = decide (53 ≤ s.d m) := by rw [HS.out, if_neg (fun x => h5 x.1)]
        rw [hf]
        clear hf h5
        go_enter Tryz.func155, Tryz.ntmps155
        go_wp2_with (fail)
        go_ret
        exact ⟨rfl, 0, rfl⟩

/-- The whole part's number behind i places. -/
def Dc.ri (s : Dc) : Nat → Int
  | 0 => 0
  | i + 1 => if i < s.nd then IntKind.u64.wrap (IntKind.u64.wrap (Dc.ri s i * 10) + (s.d i - 48)) else IntKind.u64.wrap (Dc.ri s i * 10)
def Dc.rint (s : Dc) : Int := if 20 < s.dp then 18446744073709551615 else if s.sru s.dp then IntKind.u64.wrap (s.ri s.dp.toNat + 1) else s.ri s.dp.toNat

theorem ri_bd (s : Dc) : ∀ i, 0 ≤ s.ri i ∧ s.ri i < 18446744073709551616
  | 0 => by simp [Dc.ri]
  | i + 1 => by
    rw [Dc.ri]
    split <;> rw [IntKind.wrap_u64] <;> omega

theorem rint_bd (s : Dc) : 0 ≤ s.rint ∧ s.rint < 18446744073709551616 := by
  have := ri_bd s s.dp.toNat
  unfold Dc.rint
  split
  · omega
  · split
    · rw [IntKind.wrap_u64]; omega
    · exact this

set_option maxHeartbeats 1600000 in
set_option maxRecDepth 100000 in
theorem rint_calls (b : Nat) (s : Dc) (w : World) (h : IsDc w b s) (g : Good s) (hn : -100000 ≤ s.dp) (hn2 : s.dp ≤ 100000) :
    Calls Tryz.prog 149 #[.pointer (some ⟨b, 0, none⟩)] w fun e w' => e = .returned (.int .u64 s.rint) ∧ ∃ m, w' = w.drewN m := by
  have c0 := h.c_nd
  have c1 := h.c_dp
  have n1 := g.n1
  have n8 := g.n8
  by_cases h20 : 20 < s.dp
  · have hf : s.rint = 18446744073709551615 := by unfold Dc.rint; rw [if_pos h20]
    rw [hf]
    clear hf
    go_enter Tryz.func149, Tryz.ntmps149
    go_wp2_with (fail)
    go_ret
    exact ⟨rfl, 0, rfl⟩
  · have hf : s.rint = if s.sru s.dp then IntKind.u64.wrap (s.ri s.dp.toNat + 1) else s.ri s.dp.toNat := by unfold Dc.rint; rw [if_neg h20]
    have HF := Lib.hid hf
    clear hf
    obtain ⟨D, hD⟩ : ∃ D, D = s.dp.toNat := ⟨_, rfl⟩
    have HD := Lib.hid hD
    have hD20 : D ≤ 20 := by omega
    have hDge : s.dp ≤ D := by omega
    clear hD
    go_enter Tryz.func149, Tryz.ntmps149
    go_wp2_with (fail)
    go_loopg [3, 4] (min D s.nd) (fun kq s3 s4 wx => w = wx ∧ ∃ i : Nat, kq + i = min D s.nd ∧ s3 = .int .i64 (i : Int) ∧ s4 = .int .u64 (s.ri i))
    case atStart => exact ⟨rfl, 0, by omega, rfl, rfl⟩
    case round =>
      obtain ⟨rfl, i, hi, rfl, rfl⟩ := hrel
      have HI := Lib.hid hi
      have hi20 : i ≤ 20 := by omega
      by_cases hlt : i < D ∧ i < s.nd
      · have hl1 : (i : Int) < s.dp := by have := HD.out; omega
        have hl2 : (i : Int) < s.nd := by omega
        have ci := h.c_d (i := i) (by omega)
        have hdi := g.dig i hlt.2
        have hnx : Hid (s.ri (i + 1) = IntKind.u64.wrap (IntKind.u64.wrap (s.ri i * 10) + (s.d i - 48))) := Lib.hid (by rw [Dc.ri, if_pos hlt.2])
        have hl : decide ((i : Int) < (s.nd : Int)) = true := decide_eq_true hl2
        have hi8 : i < 800 := by omega
        clear hlt hi
        obtain ⟨x, hx⟩ : ∃ x, x = s.ri i := ⟨_, rfl⟩
        rw [← hx]
        have HX := Lib.hid hx
        clear hx
        go_wp2_with (fail)
        go_roundg (gk - 1)
        case measure => have := HI.out; omega
        case rel => exact ⟨rfl, i + 1, by have := HI.out; omega, int_eq (by omega), by rw [hnx.out, HX.out]⟩
      · have hx : Hid (i = min D s.nd) := Lib.hid (by omega)
        have hl : (decide ((i : Int) < s.dp) && decide ((i : Int) < (s.nd : Int))) = false := by
          have := HD.out
          rw [Bool.and_eq_false_iff, decide_eq_false_iff_not, decide_eq_false_iff_not]; omega
        have HIJ : Hid (min D s.nd = i) := Lib.hid hx.out.symm
        by_cases hd2 : (i : Int) < s.dp
        · have hl2 : decide (i < s.nd) = false := decide_eq_false (by have := HD.out; omega)
          have hl3 : s.nd ≤ i := by have := HD.out; omega
          clear hlt hi
          go_wp2_with (fail)
          go_loopg [3, 4] (D - i) (fun kq s3 s4 wx => w = wx ∧ ∃ j : Nat, kq + j = D ∧ i ≤ j ∧ s3 = .int .i64 (j : Int) ∧ s4 = .int .u64 (s.ri j))
          case atStart => exact ⟨rfl, i, by have := HD.out; omega, Nat.le_refl _, rfl, rfl⟩
          case round =>
            obtain ⟨rfl, j, hj, hij, rfl, rfl⟩ := hrel
            have HJ := Lib.hid hj
            have hj20 : j ≤ 20 := by omega
            by_cases hjd : j < D
            · have hj1 : (j : Int) < s.dp := by have := HD.out; omega
              have hnx : Hid (s.ri (j + 1) = IntKind.u64.wrap (s.ri j * 10)) := Lib.hid (by rw [Dc.ri, if_neg (by omega)])
              clear hj hjd
              go_wp2_with (fail)
              go_roundg (gk - 1)
              case measure => have := HJ.out; omega
              case rel => exact ⟨rfl, j + 1, by have := HJ.out; omega, by omega, int_eq (by omega), by rw [hnx.out]⟩
            · have hj1 : ¬ (j : Int) < s.dp := by have := HD.out; omega
              have hjD : Hid (j = s.dp.toNat) := Lib.hid (by have := HD.out; omega)
              clear hj hjd
              go_wp2_with (fail)
              refine (sru_calls b s s.dp w h g hn hn2).mono ?_
              rintro e w' ⟨rfl, m, rfl⟩
              cases hsr : s.sru s.dp with
              | true =>
                go_wp2_with (fail)
                go_ret
                exact ⟨by rw [HF.out, if_pos hsr, ← hjD.out]; rfl, m, rfl⟩
              | false =>
                go_wp2_with (fail)
                go_ret
                exact ⟨by rw [HF.out, if_neg (by rw [hsr]; decide), ← hjD.out]; rfl, m, rfl⟩
        · have hd3 : s.dp ≤ i := by omega
          have hjD : Hid (i = s.dp.toNat) := Lib.hid (by have := HD.out; have := hx.out; omega)
          clear hlt hi
          go_wp2_with (fail)
          go_loopg [3, 4] 0 (fun kq s3 s4 wx => w = wx ∧ s3 = .int .i64 (i : Int) ∧ s4 = .int .u64 (s.ri i))
          case atStart => exact ⟨rfl, rfl, rfl⟩
          case round =>
            obtain ⟨rfl, rfl, rfl⟩ := hrel
            go_wp2_with (fail)
            refine (sru_calls b s s.dp w h g hn hn2).mono ?_
            rintro e w' ⟨rfl, m, rfl⟩
            cases hsr : s.sru s.dp with
            | true =>
              go_wp2_with (fail)
              go_ret
              exact ⟨by rw [HF.out, if_pos hsr, ← hjD.out]; rfl, m, rfl⟩
            | false =>
              go_wp2_with (fail)
              go_ret
              exact ⟨by rw [HF.out, if_neg (by rw [hsr]; decide), ← hjD.out]; rfl, m, rfl⟩

end Go.Proofs.YtlckfiflfkbofaaGreatDoor

/- Plain: what floatBits of internal/strconv's decimal computes; its two loops end. -/
namespace Go.Proofs.YtlckfiflfkbofaaGreatDoor
open Go.RowKit

/-- The table powtab. -/
def pwT (m : Nat) : Nat := [1, 3, 6, 9, 13, 16, 19, 23, 26].getD m 0
def pw (m : Nat) : Nat := if 9 ≤ m then 27 else pwT m

theorem pw_all : ((List.range 9).all fun m => decide (1 ≤ pwT m) && decide (pwT m ≤ 26) && decide (10 ^ (m - 1) ≤ 2 ^ pwT m) && (m == 0 || decide (Dp.lcD (pwT m) = m))) = true := by decide +kernel
theorem pw_fact {m : Nat} (h : m < 9) : 1 ≤ pwT m ∧ pwT m ≤ 26 ∧ 10 ^ (m - 1) ≤ 2 ^ pwT m ∧ (m = 0 ∨ Dp.lcD (pwT m) = m) := by
  have := List.all_eq_true.1 pw_all m (List.mem_range.2 h)
  simp only [Bool.and_eq_true, decide_eq_true_eq, Bool.or_eq_true, beq_iff_eq] at this
  exact ⟨this.1.1.1, this.1.1.2, this.1.2, this.2⟩
theorem pw_bd (m : Nat) : 1 ≤ pw m ∧ pw m ≤ 27 := by
  unfold pw
  split
  · omega
  · have := pw_fact (m := m) (by omega); omega

def R1 (t : Dc) : Nat := if 2 ≤ t.dp then 4 * t.dp.toNat + 40 else if t.dp = 1 then (if 56 ≤ t.d 0 then 20 else 10) else 0
def R2 (t : Dc) : Nat := if t.dp ≤ -2 then 4 * (-t.dp).toNat + 40 else if t.dp = -1 then (if t.d 0 = 49 then 20 else 15) else if t.dp = 0 ∧ t.d 0 < 53 then 57 - (t.d 0).toNat else 0

theorem R1_step {t : Dc} (g : Good t) (h : 0 < t.dp) : R1 (t.rsh (pw t.dp.toNat)) + pw t.dp.toNat ≤ R1 t := by
  have hb := pw_bd t.dp.toNat
  have hg := rsh_good g (k := pw t.dp.toNat) (by omega)
  have hp := rr_pos' g (k := pw t.dp.toNat) (by omega)
  have hle : R1 (t.rsh (pw t.dp.toNat)) ≤ 4 * (t.rsh (pw t.dp.toNat)).dp.toNat + 40 := by
    unfold R1; split
    · omega
    · split
      · split <;> omega
      · omega
  by_cases h9 : 9 ≤ t.dp
  · have e : pw t.dp.toNat = 27 := by unfold pw; rw [if_pos (by omega)]
    rw [e] at hg hp hle ⊢
    have hr := rr_ge g (k := 27) (m := 8) (by omega) (by decide)
    have : R1 t = 4 * t.dp.toNat + 40 := by unfold R1; rw [if_pos (by omega)]
    rw [this]
    have := hg.2.1
    omega
  · have e : pw t.dp.toNat = pwT t.dp.toNat := by unfold pw; rw [if_neg (by omega)]
    have hf := pw_fact (m := t.dp.toNat) (by omega)
    by_cases h2 : 2 ≤ t.dp
    · have hr := rr_ge g (k := pw t.dp.toNat) (m := t.dp.toNat - 1) (by omega) (by rw [e]; exact hf.2.2.1)
      have hd := hg.2.1
      have h1 : R1 (t.rsh (pw t.dp.toNat)) ≤ 20 := by
        unfold R1
        rw [if_neg (by omega)]
        split
        · split <;> omega
        · omega
      have : R1 t = 4 * t.dp.toNat + 40 := by unfold R1; rw [if_pos (by omega)]
      omega
    · have h1 : t.dp = 1 := by omega
      have e3 : pw t.dp.toNat = 3 := by rw [h1]; decide
      rw [e3] at hg hp hle ⊢
      have hd := hg.2.1
      by_cases hr : Dp.rr t.e 3 = 1
      · have hq := rsh_qq0 g hr
        have h56 : 56 ≤ t.d 0 := by
          have h3 := (Dp.rr_spec g.e_0 (k := 3) (by omega)).1
          rw [hr, show Dp.pre t.e 1 = t.e 0 by simp [Dp.pre]] at h3
          have := g.e_d (i := 0) (by have := g.n1; omega)
          omega
        have e1 : R1 t = 20 := by unfold R1; rw [if_neg (by omega), if_pos h1, if_pos h56]
        have e2 : R1 (t.rsh 3) = 10 := by unfold R1; rw [if_neg (by omega), if_pos (by omega), if_neg (by omega)]
        omega
      · have e2 : R1 (t.rsh 3) = 0 := by unfold R1; rw [if_neg (by omega), if_neg (by omega)]
        have e1 : 10 ≤ R1 t := by
          unfold R1; rw [if_neg (by omega), if_pos h1]
          split <;> omega
        omega

theorem R1_pos {t : Dc} (h : 0 < t.dp) : 1 ≤ R1 t := by
  unfold R1
  split
  · omega
  · rw [if_pos (by omega)]; split <;> omega

theorem R2_step {t : Dc} (g : Good t) (h : t.dp < 0 ∨ (t.dp = 0 ∧ t.d 0 < 53)) : R2 (t.lsh (pw (-t.dp).toNat)) + pw (-t.dp).toNat ≤ R2 t := by
  have hb := pw_bd (-t.dp).toNat
  have hg := lsh_good g (k := pw (-t.dp).toNat) (by omega) (by omega)
  have hdl := dl_ge (s := t) (pw (-t.dp).toNat)
  have htop := hg.1.top
  rcases h with h | ⟨h0, h5⟩
  · by_cases h9 : t.dp ≤ -9
    · have e : pw (-t.dp).toNat = 27 := by unfold pw; rw [if_pos (by omega)]
      rw [e] at hg hdl htop ⊢
      have e9 : Dp.lcD 27 = 9 := by decide +kernel
      have hd := hg.2
      have h1 : R2 t = 4 * (-t.dp).toNat + 40 := by unfold R2; rw [if_pos (by omega)]
      have h2 : R2 (t.lsh 27) ≤ 4 * (-(t.lsh 27).dp).toNat + 40 := by
        unfold R2
        split
        · omega
        · split
          · split <;> omega
          · split <;> omega
      omega
    · by_cases h2 : t.dp ≤ -2
      · have e : pw (-t.dp).toNat = pwT (-t.dp).toNat := by unfold pw; rw [if_neg (by omega)]
        have hf := pw_fact (m := (-t.dp).toNat) (by omega)
        have hl : Dp.lcD (pw (-t.dp).toNat) = (-t.dp).toNat := by
          rw [e]; rcases hf.2.2.2 with h | h
          · omega
          · exact h
        have hd := hg.2
        have h1 : R2 t = 4 * (-t.dp).toNat + 40 := by unfold R2; rw [if_pos (by omega)]
        have h3 : R2 (t.lsh (pw (-t.dp).toNat)) ≤ 20 := by
          unfold R2
          rw [if_neg (by omega)]
          split
          · split <;> omega
          · split <;> omega
        omega
      · have hm : t.dp = -1 := by omega
        have e3 : pw (-t.dp).toNat = 3 := by rw [hm]; decide
        rw [e3] at hg hdl htop ⊢
        have hd := hg.2
        have e1 : R2 t = if t.d 0 = 49 then 20 else 15 := by unfold R2; rw [if_neg (by omega), if_pos hm]
        rcases lsh_three g with h3 | ⟨h3, h4, h5⟩
        · have e2 : R2 (t.lsh 3) ≤ 8 := by
            unfold R2
            rw [if_neg (by omega), if_neg (by omega)]
            split <;> omega
          rw [e1]; split <;> omega
        · have e2 : R2 (t.lsh 3) = 15 := by
            unfold R2
            rw [if_neg (by omega), if_pos (by omega), if_neg (by omega)]
          rw [e1, if_pos h4]; omega
  · have e3 : pw (-t.dp).toNat = 1 := by rw [h0]; decide
    rw [e3] at hg hdl htop ⊢
    have hd := hg.2
    have h1 := lsh_one g h5
    have ht := g.top
    have e1 : R2 t = 57 - (t.d 0).toNat := by unfold R2; rw [if_neg (by omega), if_neg (by omega), if_pos ⟨h0, h5⟩]
    have e2 : R2 (t.lsh 1) ≤ 56 - (t.d 0).toNat := by
      unfold R2
      rw [if_neg (by omega), if_neg (by omega)]
      split <;> omega
    omega

theorem R2_pos {t : Dc} (g : Good t) (h : t.dp < 0 ∨ (t.dp = 0 ∧ t.d 0 < 53)) : 1 ≤ R2 t := by
  unfold R2
  split
  · omega
  · split
    · split <;> omega
    · rcases h with h | h
      · omega
      · rw [if_pos h]; omega

def fl1 : Nat → Dc → Int → Dc × Int
  | 0, s, e => (s, e)
  | f + 1, s, e => if 0 < s.dp then fl1 f (s.rsh (pw s.dp.toNat)) (e + (pw s.dp.toNat : Int)) else (s, e)
def fl2 : Nat → Dc → Int → Dc × Int
  | 0, s, e => (s, e)
  | f + 1, s, e => if s.dp < 0 ∨ (s.dp = 0 ∧ s.d 0 < 53) then fl2 f (s.lsh (pw (-s.dp).toNat)) (e - (pw (-s.dp).toNat : Int)) else (s, e)

def infB : Int := 9218868437227405312
/-- The bits of a fraction and an exponent. -/
def asmB (ma ex : Int) : Int := ma % 4503599627370496 + (ex + 1023) * 4503599627370496

/-- From the number in [0.5, 1) on, whose exponent is fit. -/
def fbEnd (s : Dc) (e : Int) : Int × Bool :=
  if 1024 ≤ e then (infB, true)
  else if (s.lsh 53).rint = 9007199254740992 then
    if 1024 ≤ e + 1 then (infB, true) else (asmB 4503599627370496 (e + 1), false)
  else if Go.bits .and .u64 (s.lsh 53).rint 4503599627370496 = 0 then (asmB (s.lsh 53).rint (-1023), false)
  else (asmB (s.lsh 53).rint e, false)

/-- What floatBits answers for a number that is not negative. -/
def fbRes (s : Dc) : Int × Bool :=
  if s.nd = 0 then (0, false)
  else if 310 < s.dp then (infB, true)
  else if s.dp < -330 then (0, false)
  else
    let p := fl1 (R1 s) s 0
    let q := fl2 (R2 p.1) p.1 p.2
    if q.2 - 1 < -1022 then fbEnd (Dc.rshN 9 (-1022 - (q.2 - 1)).toNat q.1) (-1022) else fbEnd q.1 (q.2 - 1)

theorem asm_bd {ma ex : Int} (h1 : -1023 ≤ ex) (h2 : ex ≤ 1023) : 0 ≤ asmB ma ex ∧ asmB ma ex < infB := by
  unfold asmB infB; omega

theorem fbEnd_bd (s : Dc) (e : Int) (h : -1022 ≤ e) : 0 ≤ (fbEnd s e).1 ∧ (fbEnd s e).1 ≤ infB ∧ ((fbEnd s e).2 = false → (fbEnd s e).1 < infB) := by
  unfold fbEnd
  split
  · exact ⟨by unfold infB; omega, by omega, fun h => by cases h⟩
  · split
    · split
      · exact ⟨by unfold infB; omega, by omega, fun h => by cases h⟩
      · have := asm_bd (ma := 4503599627370496) (ex := e + 1) (by omega) (by omega)
        exact ⟨this.1, by have := this.2; show asmB _ _ ≤ _; omega, fun _ => this.2⟩
    · split
      · have := asm_bd (ma := (s.lsh 53).rint) (ex := -1023) (by omega) (by omega)
        exact ⟨this.1, by have := this.2; show asmB _ _ ≤ _; omega, fun _ => this.2⟩
      · have := asm_bd (ma := (s.lsh 53).rint) (ex := e) (by omega) (by omega)
        exact ⟨this.1, by have := this.2; show asmB _ _ ≤ _; omega, fun _ => this.2⟩

theorem fbRes_bd (s : Dc) : 0 ≤ (fbRes s).1 ∧ (fbRes s).1 ≤ infB ∧ ((fbRes s).2 = false → (fbRes s).1 < infB) := by
  unfold fbRes
  split
  · exact ⟨by omega, by unfold infB; omega, fun _ => by unfold infB; omega⟩
  · split
    · exact ⟨by unfold infB; omega, by omega, fun h => by cases h⟩
    · split
      · exact ⟨by omega, by unfold infB; omega, fun _ => by unfold infB; omega⟩
      · dsimp only
        split
        · exact fbEnd_bd _ _ (by omega)
        · exact fbEnd_bd _ _ (by omega)

/-! ### The sign goes by -/
def Dc.sg (s : Dc) (n : Bool) : Dc := { s with neg := n }
theorem Good.sg {s : Dc} (g : Good s) (n : Bool) : Good (s.sg n) := ⟨g.n1, g.n8, g.dig, g.top⟩
theorem Good.of_sg {s : Dc} {n : Bool} (g : Good (s.sg n)) : Good s := ⟨g.n1, g.n8, g.dig, g.top⟩
theorem rsh_sg (s : Dc) (n : Bool) (k : Nat) : (s.sg n).rsh k = (s.rsh k).sg n := rfl
theorem lsh_sg (s : Dc) (n : Bool) (k : Nat) : (s.sg n).lsh k = (s.lsh k).sg n := rfl
theorem sru_sg (s : Dc) (n : Bool) (k : Int) : (s.sg n).sru k = s.sru k := rfl
theorem ri_sg (s : Dc) (n : Bool) : ∀ i, (s.sg n).ri i = s.ri i
  | 0 => rfl
  | i + 1 => by rw [Dc.ri, Dc.ri, ri_sg s n i]; rfl
theorem rint_sg (s : Dc) (n : Bool) : (s.sg n).rint = s.rint := by unfold Dc.rint; rw [ri_sg]; rfl
theorem rshN_sg : ∀ (f n : Nat) (s : Dc) (b : Bool), Dc.rshN f n (s.sg b) = (Dc.rshN f n s).sg b
  | 0, _, _, _ => rfl
  | f + 1, n, s, b => by
    rw [Dc.rshN, Dc.rshN]
    split
    · rw [rsh_sg, rshN_sg f]
    · rfl
theorem rshN_one (s : Dc) {n : Nat} (h : n ≤ 60) : Dc.rshN 9 n s = s.rsh n := by rw [Dc.rshN, if_neg (by omega)]
theorem rshN_dp : ∀ (f n : Nat) (s : Dc), Good s → 1 ≤ n → n ≤ 60 * (f + 1) → s.dp - 24 * (f + 1) ≤ (Dc.rshN f n s).dp ∧ (Dc.rshN f n s).dp ≤ s.dp
  | 0, n, s, g, h1, h => by
    have := (rsh_good g (k := n) (by omega)).2.1
    have := rr_le g (k := n) (by omega)
    have := rr_pos' g (k := n) (by omega)
    rw [Dc.rshN]; omega
  | f + 1, n, s, g, h1, h => by
    rw [Dc.rshN]
    split
    · have a := rsh_good g (k := 60) (by omega)
      have := rshN_dp f (n - 60) _ a.1 (by omega) (by omega)
      have := a.2.1
      have := rr_le g (k := 60) (by omega)
      have := rr_pos' g (k := 60) (by omega)
      omega
    · have := (rsh_good g (k := n) (by omega)).2.1
      have := rr_le g (k := n) (by omega)
      have := rr_pos' g (k := n) (by omega)
      omega

end Go.Proofs.YtlckfiflfkbofaaGreatDoor

/- floatBits of internal/strconv's decimal: the walk. -/
namespace Go.Proofs.YtlckfiflfkbofaaGreatDoor
open Go.RowKit

/-- What floatBits reads of the package's variables. -/
structure FbTab (w : World) : Prop where
  m : w.cell? ⟨10, 0, none⟩ = some (.int .u64 52)
  e : w.cell? ⟨10, 1, none⟩ = some (.int .u64 11)
  b : w.cell? ⟨10, 2, none⟩ = some (.int .i64 (-1023))
  p : ∃ B off cap, B ≠ 12 ∧ w.cell? ⟨12, 0, none⟩ = some (.slice (some ⟨B, off, none⟩) 9 cap) ∧ ∀ i, i < 9 → w.cell? ⟨B, off + i, none⟩ = some (.int .i64 (pwT i : Int))
  c : ∃ B off cap, ∀ k, 1 ≤ k → k ≤ 60 → Cheat w k B off cap

/-- The tables lie below block G. -/
structure FbAt (w : World) (G : Nat) (Bp op cp Bc oc cc : Nat) : Prop where
  g : 18 < G
  gp : Bp < G
  gc : Bc < G
  m : w.cell? ⟨10, 0, none⟩ = some (.int .u64 52)
  e : w.cell? ⟨10, 1, none⟩ = some (.int .u64 11)
  b : w.cell? ⟨10, 2, none⟩ = some (.int .i64 (-1023))
  pv : w.cell? ⟨12, 0, none⟩ = some (.slice (some ⟨Bp, op, none⟩) 9 cp)
  p : ∀ i, i < 9 → w.cell? ⟨Bp, op + i, none⟩ = some (.int .i64 (pwT i : Int))
  c : ∀ k, 1 ≤ k → k ≤ 60 → Cheat w k Bc oc cc

theorem FbAt.keep {w w' : World} {G Bp op cp Bc oc cc b : Nat} (h : FbAt w G Bp op cp Bc oc cc) (k : Keep (At1 b) w w') (hb : G ≤ b) : FbAt w' G Bp op cp Bc oc cc := by
  have key : ∀ (B o : Nat) (v : Value), B < G → w.cell? ⟨B, o, none⟩ = some v → w'.cell? ⟨B, o, none⟩ = some v := fun B o v hB hc => k.cell hc (by show ¬ B = b; omega)
  exact ⟨h.g, h.gp, h.gc, key _ _ _ (by have := h.g; omega) h.m, key _ _ _ (by have := h.g; omega) h.e, key _ _ _ (by have := h.g; omega) h.b, key _ _ _ (by have := h.g; omega) h.pv, fun i hi => key _ _ _ h.gp (h.p i hi),
    fun q h1 h2 => ⟨key _ _ _ (by have := h.g; omega) (h.c q h1 h2).v, key _ _ _ h.gc (h.c q h1 h2).d, key _ _ _ h.gc (h.c q h1 h2).c⟩⟩

end Go.Proofs.YtlckfiflfkbofaaGreatDoor

/- What the walk of floatBits leans on. -/
namespace Go.Proofs.YtlckfiflfkbofaaGreatDoor
open Go.RowKit
theorem or_add {a e i : Nat} (ha : a < 2 ^ i) : (a ||| (2 ^ i * e)) = a + 2 ^ i * e := by
  rw [Nat.or_comm, ← Nat.two_pow_add_eq_or_of_lt ha, Nat.add_comm]
theorem mask52 {M : Int} (h : 0 ≤ M ∧ M < 18446744073709551616) : Go.bits .and .u64 M 4503599627370495 = M % 4503599627370496 := by
  obtain ⟨m, rfl⟩ : ∃ m : Nat, M = m := ⟨M.toNat, by omega⟩
  have e := u64_and_nat m 4503599627370495 (by omega) (by omega)
  rw [show m &&& 4503599627370495 = m % 4503599627370496 from Nat.and_two_pow_sub_one_eq_mod m 52] at e
  rw [show ((m % 4503599627370496 : Nat) : Int) = (m : Int) % 4503599627370496 by omega] at e
  exact e
theorem i64_and2047 (n : Int) : Go.bits .and .i64 n 2047 = n % 2048 := by
  have h127 : (BitVec.ofInt 64 2047).toNat = 2 ^ 11 - 1 := by decide
  have key : (BitVec.ofInt 64 n &&& BitVec.ofInt 64 2047).toNat = (n % ((2 ^ 64 : Nat) : Int)).toNat % 2 ^ 11 := by
    rw [BitVec.toNat_and, BitVec.toNat_ofInt, h127, Nat.and_two_pow_sub_one_eq_mod]
  show IntKind.i64.wrap ((BitVec.ofInt 64 n &&& BitVec.ofInt 64 2047).toNat : Nat) = n % 2048
  rw [key, IntKind.wrap_i64]
  omega
theorem or52 {A E : Int} (h1 : 0 ≤ A) (h2 : A < 4503599627370496) (h3 : 0 ≤ E) (h4 : E ≤ 2047) :
    Go.bits .or .u64 A (IntKind.u64.wrap (IntKind.u64.wrap (Go.bits .and .i64 E 2047) * 4503599627370496)) = A + E * 4503599627370496 := by
  obtain ⟨a, rfl⟩ : ∃ m : Nat, A = m := ⟨A.toNat, by omega⟩
  obtain ⟨x, rfl⟩ : ∃ m : Nat, E = m := ⟨E.toNat, by omega⟩
  rw [i64_and2047, Int.emod_eq_of_lt (by omega) (by omega), IntWalk.u64_in (x : Int) (by omega), IntWalk.u64_in _ (by omega)]
  have e2 := u64_or_nat a (x * 4503599627370496) (by omega) (by omega)
  rw [show a ||| x * 4503599627370496 = a + x * 4503599627370496 by
    rw [Nat.mul_comm]; exact or_add (i := 52) (by omega)] at e2
  rw [show ((x * 4503599627370496 : Nat) : Int) = (x : Int) * 4503599627370496 by omega] at e2
  rw [e2]; omega
theorem or63 {A : Int} (h1 : 0 ≤ A) (h2 : A < 9223372036854775808) : Go.bits .or .u64 A 9223372036854775808 = A + 9223372036854775808 := by
  obtain ⟨a, rfl⟩ : ∃ m : Nat, A = m := ⟨A.toNat, by omega⟩
  have e2 := u64_or_nat a 9223372036854775808 (by omega) (by omega)
  rw [show a ||| 9223372036854775808 = a + 9223372036854775808 from or_add (i := 63) (e := 1) (by omega)] at e2
  exact e2

theorem fb_fin {x r : Int} {o o' : Bool} (h1 : x = r) (h2 : o = o') : Ending.returned (.tuple #[.int .u64 x, .bool o]) = .returned (.tuple #[.int .u64 r, .bool o']) := by rw [h1, h2]

/-- With its sign. -/
def sgB (n : Bool) (x : Int) : Int := if n then x + 9223372036854775808 else x

theorem shr27 (b : Nat) (s : Dc) (w : World) (h : IsDc w b s) (g : Good s) (hdp : -50000 ≤ s.dp) (hdp2 : s.dp ≤ 100000) :
    Calls Tryz.prog 148 #[.pointer (some ⟨b, 0, none⟩), .int .i64 (-27)] w fun e w' => e = .returned (.tuple #[]) ∧ IsDc w' b (s.rsh 27) ∧ Keep (At1 b) w w' :=
  shr_calls b s 27 w h g (by omega) (by omega) hdp hdp2
theorem shl27 (b : Nat) (s : Dc) (w : World) {B off cap : Nat} (h : IsDc w b s) (g : Good s) (hdp : -50000 ≤ s.dp) (hdp2 : s.dp ≤ 100000) (ht : Cheat w 27 B off cap) :
    Calls Tryz.prog 148 #[.pointer (some ⟨b, 0, none⟩), .int .i64 27] w fun e w' => e = .returned (.tuple #[]) ∧ IsDc w' b (s.lsh 27) ∧ Keep (At1 b) w w' :=
  shl_calls b s 27 B off cap w h g (by omega) (by omega) (by omega) (by omega) ht
theorem shl53 (b : Nat) (s : Dc) (w : World) {B off cap : Nat} (h : IsDc w b s) (g : Good s) (hdp : -50000 ≤ s.dp) (hdp2 : s.dp ≤ 100000) (ht : Cheat w 53 B off cap) :
    Calls Tryz.prog 148 #[.pointer (some ⟨b, 0, none⟩), .int .i64 53] w fun e w' => e = .returned (.tuple #[]) ∧ IsDc w' b (s.lsh 53) ∧ Keep (At1 b) w w' :=
  shl_calls b s 53 B off cap w h g (by omega) (by omega) (by omega) (by omega) ht
theorem shr_one (b : Nat) (s : Dc) (n : Nat) (w : World) (h : IsDc w b s) (g : Good s) (h1 : 1 ≤ n) (hn : n ≤ 60) (hdp : -50000 ≤ s.dp) (hdp2 : s.dp ≤ 100000) :
    Calls Tryz.prog 148 #[.pointer (some ⟨b, 0, none⟩), .int .i64 (-(n : Int))] w fun e w' => e = .returned (.tuple #[]) ∧ IsDc w' b (s.rsh n) ∧ Keep (At1 b) w w' := by
  have := shr_calls b s n w h g h1 (by omega) hdp hdp2
  rw [rshN_one s hn] at this
  exact this

theorem Cheat.drewN {w : World} {k B o c : Nat} (h : Cheat w k B o c) (n : Nat) : Cheat (w.drewN n) k B o c := ⟨h.v, h.d, h.c⟩
theorem FbAt.drewN {w : World} {G Bp op cp Bc oc cc : Nat} (h : FbAt w G Bp op cp Bc oc cc) (n : Nat) : FbAt (w.drewN n) G Bp op cp Bc oc cc := ⟨h.g, h.gp, h.gc, h.m, h.e, h.b, h.pv, h.p, fun k a b => (h.c k a b).drewN n⟩

end Go.Proofs.YtlckfiflfkbofaaGreatDoor
