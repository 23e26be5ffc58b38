/- leftShift of internal/strconv's decimal. Plain facts: the shifts keep a decimal good; how the point moves. Shift, shouldRoundUp, RoundedInteger of internal/strconv's decimal. Part 10 of 51 of the proof that FnMultiPointBody returns true for every text and every type of coordinates, where the listed variables hold what the text of the program lays. -/
import Derived.Test.YtlckfiflfkbofaaGreatDoorM06
set_option linter.all false

/- leftShift of internal/strconv's decimal. -/
namespace Go.Proofs.YtlckfiflfkbofaaGreatDoor
open Go.RowKit

def latel (P T : Nat) : Nat → Bool
  | 0 => false
  | j + 1 => latel P T j || (decide (800 ≤ T - 1 - j) && decide (P / 10 ^ j % 10 ≠ 0))

def Dc.N (s : Dc) : Nat := Dp.pre s.e s.nd
def Dc.dl (s : Dc) (k : Nat) : Nat := Dp.dl s.d s.nd k

/-- After j digits from the low end have been written. -/
def Dc.lpart (s : Dc) (k j : Nat) : Dc :=
  { s with
    d := fun i => if s.nd + s.dl k - j ≤ i ∧ i < s.nd + s.dl k then 48 + ((s.N * 2 ^ k / 10 ^ (s.nd + s.dl k - 1 - i) % 10 : Nat) : Int) else s.d i
    tr := s.tr || latel (s.N * 2 ^ k) (s.nd + s.dl k) j }
def Dc.lsh0 (s : Dc) (k : Nat) : Dc :=
  { s.lpart k (s.nd + s.dl k) with
    nd := min (s.nd + s.dl k) 800
    dp := s.dp + s.dl k }
def Dc.lsh (s : Dc) (k : Nat) : Dc := (s.lsh0 k).trim

theorem Good.hd {s : Dc} (g : Good s) : ∀ i, i < s.nd → s.d i = 48 + (s.e i : Int) := fun i hi => by have := g.e_d hi; omega

theorem dl_le {s : Dc} {k : Nat} (h1 : 1 ≤ k) (hk : k ≤ 60) : s.dl k ≤ 19 := by
  have := (Dp.row h1 hk).d19
  unfold Dc.dl Dp.dl
  split <;> omega

/-- The table of the left shift in memory. -/
structure Cheat (w : World) (k : Nat) (B off cap : Nat) : Prop where
  v : w.cell? ⟨15, 0, none⟩ = some (.slice (some ⟨B, off, none⟩) 61 cap)
  d : w.cell? ⟨B, off + k * 2, none⟩ = some (.int .i64 (Dp.lcD k : Int))
  c : w.cell? ⟨B, off + k * 2 + 1, none⟩ = some (.string ⟨(Dp.lcRow k).2.toArray⟩)

theorem lpart_set {w : World} {b : Nat} {s : Dc} {k j p : Nat} (hI : IsDc w b (s.lpart k j)) (hp : p + j + 1 = s.nd + s.dl k) (hp8 : p < 800) {x : Int} (hx : x = 48 + ((s.N * 2 ^ k / 10 ^ j % 10 : Nat) : Int)) :
    IsDc (w.setCell ⟨b, p, none⟩ (.int .u8 x)) b (s.lpart k (j + 1)) := by
  refine (hI.set_d hp8 x).congr (fun i _ => ?_) rfl rfl rfl ?_
  · show (if _ then _ else _) = if i = p then x else if _ then _ else _
    by_cases e : i = p
    · rw [if_pos (by omega), if_pos e, hx, show s.nd + s.dl k - 1 - i = j by omega]
    · rw [if_neg e]
      by_cases h2 : s.nd + s.dl k - j ≤ i ∧ i < s.nd + s.dl k
      · rw [if_pos h2, if_pos (by omega)]
      · rw [if_neg h2, if_neg (by omega)]
  · show (s.tr || latel _ _ (j + 1)) = (s.tr || latel _ _ j)
    rw [latel, decide_eq_false (by omega : ¬ 800 ≤ s.nd + s.dl k - 1 - j), Bool.false_and, Bool.or_false]

theorem lpart_hi {w : World} {b : Nat} {s : Dc} {k j p : Nat} (hI : IsDc w b (s.lpart k j)) (hp : p + j + 1 = s.nd + s.dl k) (hp8 : 800 ≤ p) (hx : s.N * 2 ^ k / 10 ^ j % 10 ≠ 0) :
    IsDc (w.setCell ⟨b, 803, none⟩ (.bool true)) b (s.lpart k (j + 1)) := by
  refine (hI.set_tr true).congr (fun i _ => ?_) rfl rfl rfl ?_
  · show (if _ then _ else _) = if _ then _ else _
    by_cases h2 : s.nd + s.dl k - j ≤ i ∧ i < s.nd + s.dl k
    · rw [if_pos h2, if_pos (by omega)]
    · rw [if_neg h2, if_neg (by omega)]
  · show (s.tr || latel _ _ (j + 1)) = true
    rw [latel, decide_eq_true (by omega : 800 ≤ s.nd + s.dl k - 1 - j), decide_eq_true hx]; simp

theorem lpart_no {w : World} {b : Nat} {s : Dc} {k j p : Nat} (hI : IsDc w b (s.lpart k j)) (hp : p + j + 1 = s.nd + s.dl k) (hp8 : 800 ≤ p) (hx : s.N * 2 ^ k / 10 ^ j % 10 = 0) :
    IsDc w b (s.lpart k (j + 1)) := by
  refine hI.congr (fun i _ => ?_) rfl rfl rfl ?_
  · show (if _ then _ else _) = if _ then _ else _
    by_cases h2 : s.nd + s.dl k - j ≤ i ∧ i < s.nd + s.dl k
    · rw [if_pos h2, if_pos (by omega)]
    · rw [if_neg h2, if_neg (by omega)]
  · show (s.tr || latel _ _ (j + 1)) = (s.tr || latel _ _ j)
    rw [latel, decide_eq_false (p := s.N * 2 ^ k / 10 ^ j % 10 ≠ 0) (fun h => h hx)]; simp

theorem Good.N_mod {s : Dc} (g : Good s) : s.N % 10 ^ s.nd = s.N := Nat.mod_eq_of_lt (Dp.pre_lt s.e g.e_le s.nd)

theorem al200 : Tryz.prog.arrayLen 200 = 800 := by kernel_rfl
theorem slice_d (b n : Nat) (hn : n ≤ 800) (w : World) : (Instr.sliceAt 200 (.pointer (some ⟨b, 0, none⟩)) (some (.int .i64 0)) (some (.int .i64 n)) none).run Tryz.prog w = .ok (.slice (some ⟨b, 0, none⟩) n 800) w := by
  have h := run_sliceAt_array_lh (P := Tryz.prog) (w := w) 200 ⟨b, 0, none⟩ (by kernel_rfl) .i64 .i64 0 n (by omega) (by omega) (by rw [al200]; omega)
  have hs : (sizeOf (Tryz.prog.elem 200)).run Tryz.prog w = .ok 1 w := by kernel_rfl
  rw [h, hs]
  simp [slicedAt, al200, Addr.add]

set_option maxHeartbeats 1600000 in
set_option maxRecDepth 100000 in
theorem lsh_calls (b : Nat) (s : Dc) (k B off cap : Nat) (w : World) (h : IsDc w b s) (g : Good s) (h1 : 1 ≤ k) (hk : k ≤ 60) (hdp : -100000 ≤ s.dp) (hdp2 : s.dp ≤ 100000) (ht : Cheat w k B off cap) :
    Calls Tryz.prog 153 #[.pointer (some ⟨b, 0, none⟩), .int .u64 k] w fun e w' => e = .returned (.tuple #[]) ∧ IsDc w' b (s.lsh k) ∧ Keep (At1 b) w w' := by
  have c0 := h.c_nd
  have tv := ht.v
  have td := ht.d
  have tc := ht.c
  have R := Dp.row h1 hk
  have hcs : (⟨(Dp.lcRow k).2.toArray⟩ : ByteArray).size ≤ 60 := by
    show (Dp.lcRow k).2.toArray.size ≤ 60
    simpa using R.l60
  have n1 := g.n1
  have n8 := g.n8
  have hplt := Lib.hid (fun m => plt_calls b s.nd 800 s.d ⟨(Dp.lcRow k).2.toArray⟩ (w.drewN m) hcs n8 (fun i hi => h.c_d (by omega)))
  have hkl : k < 61 := by omega
  have hsl := slice_d b s.nd n8
  go_enter Tryz.func153, Tryz.ntmps153
  go_wp2_with (fail)
  go_quiet ((go_at_call 160; refine Calls.quiet_of (hplt.out _)))
  have hdl : Hid (s.dl k = if Dp.plt s.d s.nd 0 (Dp.lcRow k).2 then Dp.lcD k - 1 else Dp.lcD k) := Lib.hid rfl
  have hd1 := R.d1
  have hd19 := R.d19
  obtain ⟨dv, hdv⟩ : ∃ dv, dv = s.dl k := ⟨_, rfl⟩
  have HDV := Lib.hid hdv
  have hdv19 : dv ≤ 19 := by rw [hdv]; exact dl_le h1 hk
  clear hdv
  go_upto_if 30 with (fail)
  go_cut [4] (fun s4 wx => s4 = .int .i64 (dv : Int) ∧ wx = w.drewN nq)
  case first =>
    cases hp : Dp.plt s.d s.nd 0 (Dp.lcRow k).2 with
    | true =>
      have hq : Dp.plt s.d s.nd 0 (⟨(Dp.lcRow k).2.toArray⟩ : ByteArray).data.toList = true := hp
      go_wp2_with (fail)
      go_meet
      exact ⟨int_eq (by have := HDV.out; have := hdl.out; rw [hp] at this; simp at this; omega), rfl⟩
    | false =>
      go_wp2_with (fail)
      go_meet
      exact ⟨int_eq (by have := HDV.out; have := hdl.out; rw [hp] at this; simp at this; omega), rfl⟩
  case rest =>
    obtain ⟨rfl, rfl⟩ := hcut
    have h60 := Lib.hid (two60 hk)
    have hw0 := Lib.hid (h.drewN nq)
    go_wp2_with (fail)
    go_loopg [5, 6, 7, 8, 9] s.nd (fun kq s5 s6 s7 s8 s9 wx => ∃ j : Nat, kq + j = s.nd ∧ s5 = .int .i64 ((s.nd : Int) - 1 - j) ∧ s6 = .int .i64 ((s.nd : Int) + dv - j) ∧
      s7 = .int .u64 (((s.N % 10 ^ j * 2 ^ k) / 10 ^ j : Nat) : Int) ∧ IsDc wx b (s.lpart k j) ∧ Keep (At1 b) w wx)
    case atStart =>
      refine ⟨0, by omega, int_eq (by omega), int_eq (by omega), int_eq ?_, ?_, (Keep.refl _ _).drewN nq⟩
      · rw [Nat.pow_zero, Nat.mod_one, Nat.zero_mul, Nat.zero_div]; rfl
      · refine hw0.out.congr (fun i _ => ?_) rfl rfl rfl (by simp [Dc.lpart, latel])
        show (if _ then _ else _) = _
        rw [if_neg (by omega)]
    case round =>
      obtain ⟨j, hj, rfl, rfl, rfl, hI, hK⟩ := hrel
      have HJ := Lib.hid hj
      obtain ⟨A, hA⟩ : ∃ A, A = (s.N % 10 ^ j * 2 ^ k) / 10 ^ j := ⟨_, rfl⟩
      have hA2 : A < 1152921504606846976 := by rw [hA]; exact Nat.lt_of_lt_of_le (Dp.low_lt _ _ _) h60.out
      have HA := Lib.hid hA
      rw [← hA]
      clear hA
      have hj8 : j ≤ 800 := by omega
      have fT := hI.fz 803 (by omega)
      have cT := hI.c_tr
      by_cases hlt : j < s.nd
      · obtain ⟨q, hq⟩ : ∃ q, q + j + 1 = s.nd := ⟨s.nd - 1 - j, by omega⟩
        have e1 : (s.nd : Int) - 1 - j = (q : Int) := by omega
        have cr := hI.c_d (i := q) (by omega)
        have hdq : (s.lpart k j).d q = s.d q := if_neg (by have := HDV.out; omega)
        rw [hdq, g.hd q (by omega)] at cr
        have he9 := g.e_le q
        obtain ⟨X, hX⟩ : ∃ X, X = s.e q * 2 ^ k := ⟨_, rfl⟩
        have hX9 : X ≤ 10376293541461622784 := by
          have := h60.out
          have := Nat.mul_le_mul he9 h60.out
          omega
        have hsh : IntKind.u64.wrap ((48 + (s.e q : Int) - 48) * 2 ^ k) = (X : Int) := by
          have : (48 + (s.e q : Int) - 48) * 2 ^ k = (X : Int) := by
            rw [hX, show (48 + (s.e q : Int) - 48) = (s.e q : Int) by omega]; simp
          rw [this]; exact IntWalk.u64_in _ (by omega)
        have hst : Hid (A + X = (s.N % 10 ^ (j + 1) * 2 ^ k) / 10 ^ j) := Lib.hid (by
          rw [HA.out, hX, ← Dp.low_step]
          congr 2
          have := Dp.pre_digit s.e g.e_le s.nd j hlt
          rw [show s.nd - 1 - j = q by omega] at this
          exact this.symm)
        have hdg : Hid ((A + X) % 10 = s.N * 2 ^ k / 10 ^ j % 10) := Lib.hid (by rw [hst.out, Dp.low_digit])
        have hqu : Hid ((A + X) / 10 = (s.N % 10 ^ (j + 1) * 2 ^ k) / 10 ^ (j + 1)) := Lib.hid (by rw [hst.out, Dp.low_quo])
        have hq8 : q < 800 := by omega
        clear hX hq
        obtain ⟨p, hp⟩ : ∃ p, p + j + 1 = s.nd + dv := ⟨s.nd + dv - 1 - j, by omega⟩
        have e2 : (s.nd : Int) + dv - j = (p : Int) + 1 := by omega
        have HP := Lib.hid (HDV.out ▸ hp : p + j + 1 = s.nd + s.dl k)
        have hp8 : p ≤ 1000 := by omega
        have E1 := Lib.hid e1
        have E2 := Lib.hid e2
        rw [e1, e2]
        clear hdq hj e1 e2 hp
        by_cases hp9 : p < 800
        · have cw := hI.c_d (i := p) hp9
          have fw := hI.fz p (by omega)
          go_wp2_with (fail)
          go_roundg (gk - 1)
          case measure => have := HJ.out; omega
          case rel =>
            refine ⟨j + 1, by have := HJ.out; omega, int_eq (by have := E1.out; omega), int_eq (by have := E2.out; omega), int_eq (by rw [← hqu.out]; omega), lpart_set hI HP.out hp9 (by rw [← hdg.out]; omega), hK.setCell (p := ⟨b, p, none⟩) (.inr rfl) _⟩
        · have hp9' : (800 : Int) ≤ p := by omega
          by_cases hz : (A + X) % 10 = 0
          · have hzb : (((A : Int) + X - 10 * (((A : Int) + X) / 10)) != 0) = false := by
              have : ((A : Int) + X - 10 * (((A : Int) + X) / 10)) = 0 := by omega
              rw [this]; rfl
            have HZ := Lib.hid hz
            clear hz
            go_wp2_with (fail)
            go_roundg (gk - 1)
            case measure => have := HJ.out; omega
            case rel =>
              refine ⟨j + 1, by have := HJ.out; omega, int_eq (by have := E1.out; omega), int_eq (by have := E2.out; omega), int_eq (by rw [← hqu.out]; omega), lpart_no hI HP.out (by omega) (by rw [← hdg.out]; exact HZ.out), hK⟩
          · have hzb : (((A : Int) + X - 10 * (((A : Int) + X) / 10)) != 0) = true := by
              rw [bne_iff_ne]; omega
            have HZ := Lib.hid hz
            clear hz
            go_wp2_with (fail)
            go_roundg (gk - 1)
            case measure => have := HJ.out; omega
            case rel =>
              refine ⟨j + 1, by have := HJ.out; omega, int_eq (by have := E1.out; omega), int_eq (by have := E2.out; omega), int_eq (by rw [← hqu.out]; omega), lpart_hi hI HP.out (by omega) (by rw [← hdg.out]; exact HZ.out), hK.setCell (p := ⟨b, 803, none⟩) (.inr rfl) _⟩
      · obtain rfl : j = s.nd := by omega
        have hc := Dp.count g.e_le g.e_0 n1 s.e_z g.hd h1 hk
        have HC := Lib.hid hc
        have e0 : Hid (A = s.N * 2 ^ k / 10 ^ s.nd) := Lib.hid (by
          rw [HA.out, g.N_mod])
        have e1 : (s.nd : Int) - 1 - s.nd = -1 := by omega
        have e2 : (s.nd : Int) + dv - s.nd = (dv : Int) := by omega
        rw [e1, e2]
        clear e1 e2 hc hj HJ hlt
        go_wp2_with (fail)
        go_loopg [6, 7, 10, 11] dv (fun kq s6 s7 s10 s11 wx => ∃ j : Nat, kq + j = s.nd + dv ∧ s6 = .int .i64 (kq : Int) ∧
          s7 = .int .u64 ((s.N * 2 ^ k / 10 ^ j : Nat) : Int) ∧ s.nd ≤ j ∧ IsDc wx b (s.lpart k j) ∧ Keep (At1 b) w wx)
        case atStart => exact ⟨s.nd, by omega, rfl, int_eq (by rw [e0.out]), Nat.le_refl _, hI, hK⟩
        case round =>
          clear cT fT hI hK
          obtain ⟨j, hj, rfl, rfl, hnj, hI, hK⟩ := hrel
          have HJ := Lib.hid hj
          have hg20 : gk ≤ 19 := by omega
          obtain ⟨C, hC⟩ : ∃ C, C = s.N * 2 ^ k / 10 ^ j := ⟨_, rfl⟩
          have HCC := Lib.hid hC
          have hC2 : C < 1152921504606846976 := by
            have h2 : s.N * 2 ^ k / 10 ^ s.nd < 2 ^ k := by
              have := Dp.low_lt s.N k s.nd
              rw [g.N_mod] at this
              exact this
            have h3 : C ≤ s.N * 2 ^ k / 10 ^ s.nd := by
              rw [hC]
              exact Nat.div_le_div_left (Nat.pow_le_pow_right (by omega) hnj) (Nat.pow_pos (by omega))
            have := h60.out
            omega
          rw [← hC]
          clear hC
          have fT := hI.fz 803 (by omega)
          have cT := hI.c_tr
          cases gk with
          | zero =>
            have hjT : j = s.nd + s.dl k := by have := HDV.out; omega
            have hC0 : C = 0 := by
              rw [HCC.out, hjT]
              exact Nat.div_eq_of_lt HC.out.2
            subst hC0
            have cn := hI.c_nd
            have cp := hI.c_dp
            have fn := hI.fz 800 (by omega)
            have fp := hI.fz 801 (by omega)
            rw [show (s.lpart k j).nd = s.nd from rfl] at cn
            rw [show (s.lpart k j).dp = s.dp from rfl] at cp
            have HJT := Lib.hid hjT
            have hfin : Hid (∀ wx, IsDc wx b { s.lpart k j with nd := min (s.nd + dv) 800, dp := s.dp + dv } → IsDc wx b (s.lsh0 k)) := Lib.hid (fun wx hx => hx.congr (fun i _ => by rw [hjT]; rfl) (by rw [HDV.out]; rfl) (by rw [HDV.out]; rfl) rfl (by rw [hjT]; rfl))
            have hm8 : (s.lsh0 k).nd ≤ 800 := by unfold Dc.lsh0; exact Nat.min_le_right _ _
            clear hj hjT
            by_cases h8 : 800 ≤ s.nd + dv
            · have h8' : (800 : Int) ≤ (s.nd : Int) + dv := by omega
              have hi1 := Lib.hid (hfin.out _ ((((hI.set_nd (s.nd + dv)).set_nd 800).set_dp (s.dp + dv)).congr (t := { s.lpart k j with nd := min (s.nd + dv) 800, dp := s.dp + dv }) (fun _ _ => rfl) (by show min (s.nd + dv) 800 = 800; omega) rfl rfl rfl))
              have hk1 := Lib.hid (((hK.setCell (p := ⟨b, 800, none⟩) (.inr rfl) (.int .i64 ((s.nd + dv : Nat) : Int))).setCell (p := ⟨b, 800, none⟩) (.inr rfl) (.int .i64 ((800 : Nat) : Int))).setCell (p := ⟨b, 801, none⟩) (.inr rfl) (.int .i64 (s.dp + dv)))
              go_wp2_with (fail)
              refine (trim_calls b (s.lsh0 k) _ ?_ hm8).mono ?_
              · exact hi1.out
              · rintro e w' ⟨rfl, h1, h2⟩
                go_wp2_with (fail)
                go_end0
                exact ⟨rfl, h1, hk1.out.trans h2⟩
            · have h8' : (s.nd : Int) + dv < (800 : Int) := by omega
              have hi1 := Lib.hid (hfin.out _ (((hI.set_nd (s.nd + dv)).set_dp (s.dp + dv)).congr (t := { s.lpart k j with nd := min (s.nd + dv) 800, dp := s.dp + dv }) (fun _ _ => rfl) (by show min (s.nd + dv) 800 = s.nd + dv; omega) rfl rfl rfl))
              have hk1 := Lib.hid ((hK.setCell (p := ⟨b, 800, none⟩) (.inr rfl) (.int .i64 ((s.nd + dv : Nat) : Int))).setCell (p := ⟨b, 801, none⟩) (.inr rfl) (.int .i64 (s.dp + dv)))
              go_wp2_with (fail)
              refine (trim_calls b (s.lsh0 k) _ ?_ hm8).mono ?_
              · exact hi1.out
              · rintro e w' ⟨rfl, h1, h2⟩
                go_wp2_with (fail)
                go_end0
                exact ⟨rfl, h1, hk1.out.trans h2⟩
          | succ m =>
            have hp : m + j + 1 = s.nd + s.dl k := by have := HDV.out; omega
            have HP := Lib.hid hp
            have hdg : Hid (C % 10 = s.N * 2 ^ k / 10 ^ j % 10) := Lib.hid (by rw [HCC.out])
            have hqu : Hid (C / 10 = s.N * 2 ^ k / 10 ^ (j + 1)) := Lib.hid (by rw [HCC.out, Nat.div_div_eq_div_mul, Nat.pow_succ])
            have hC1 : 0 < C := by
              rw [HCC.out]
              refine Nat.div_pos (Nat.le_trans (Nat.pow_le_pow_right (by omega) ?_) HC.out.1) (Nat.pow_pos (by omega))
              show j ≤ s.nd + s.dl k - 1
              omega
            have hj' : j ≤ 1000 := by omega
            have em : ((m + 1 : Nat) : Int) = (m : Int) + 1 := by omega
            rw [em]
            clear hp hj em
            have hp9 : m < 800 := by omega
            have cw := hI.c_d (i := m) hp9
            have fw := hI.fz m (by omega)
            go_wp2_with (fail)
            go_roundg m
            case measure => omega
            case rel =>
              exact ⟨j + 1, by have := HJ.out; omega, rfl, int_eq (by rw [← hqu.out]; omega), by omega, lpart_set hI HP.out hp9 (by rw [← hdg.out]; omega), hK.setCell (p := ⟨b, m, none⟩) (.inr rfl) _⟩

end Go.Proofs.YtlckfiflfkbofaaGreatDoor

/- Plain facts: the shifts keep a decimal good; how the point moves. -/
namespace Go.Proofs.YtlckfiflfkbofaaGreatDoor
open Go.RowKit

theorem trimN_le (d : Nat → Int) : ∀ n, trimN d n ≤ n
  | 0 => Nat.le_refl _
  | n + 1 => by
    rw [trimN]
    split
    · have := trimN_le d n; omega
    · omega
theorem trimN_pos {d : Nat → Int} (h : d 0 ≠ 48) : ∀ n, 1 ≤ n → 1 ≤ trimN d n
  | 0, h1 => by omega
  | n + 1, _ => by
    rw [trimN]
    split
    · rename_i h2
      cases n with
      | zero => exact absurd h2 h
      | succ n => exact trimN_pos h (n + 1) (by omega)
    · omega

/-- What trim keeps. -/
theorem Good.trim {s : Dc} (g : Good s) : Good s.trim ∧ s.trim.dp = s.dp ∧ s.trim.d = s.d := by
  have h1 : 1 ≤ trimN s.d s.nd := trimN_pos (by have := g.top; omega) s.nd g.n1
  have h2 := trimN_le s.d s.nd
  refine ⟨⟨h1, by have := g.n8; show trimN s.d s.nd ≤ 800; omega, fun i hi => g.dig i (by have : i < trimN s.d s.nd := hi; omega), g.top⟩, ?_, rfl⟩
  show (if trimN s.d s.nd = 0 then 0 else s.dp) = s.dp
  rw [if_neg (by omega)]

theorem rsh0_d (s : Dc) (k i : Nat) (hi : i < Dp.ww s.e k s.nd) : (s.rsh0 k).d i = 48 + (Dp.qq s.e k i : Int) := if_pos hi

theorem rsh0_good {s : Dc} (g : Good s) {k : Nat} (hk : k ≤ 60) : Good (s.rsh0 k) := by
  have hw : 1 ≤ Dp.ww s.e k s.nd := Dp.ww_pos s.e_z g.e_0 hk
  refine ⟨by show 1 ≤ min _ 800; omega, by show min _ 800 ≤ 800; omega, fun i hi => ?_, ?_⟩
  · have hi' : i < min (Dp.ww s.e k s.nd) 800 := hi
    rw [rsh0_d s k i (by omega)]
    have := Dp.qq_le g.e_le g.e_0 hk i
    omega
  · rw [rsh0_d s k 0 (by omega)]
    have := Dp.qq_pos g.e_0 hk
    omega

theorem rsh_good {s : Dc} (g : Good s) {k : Nat} (hk : k ≤ 60) : Good (s.rsh k) ∧ (s.rsh k).dp = s.dp - ((Dp.rr s.e k : Int) - 1) ∧ (s.rsh k).d 0 = 48 + (Dp.qq s.e k 0 : Int) := by
  have h := (rsh0_good g hk).trim
  refine ⟨h.1, h.2.1, ?_⟩
  show (s.rsh0 k).trim.d 0 = _
  rw [h.2.2]
  exact rsh0_d s k 0 (by have := Dp.ww_pos (k := k) s.e_z g.e_0 hk; omega)

/-- At least so many digits are taken. -/
theorem rr_ge {s : Dc} (g : Good s) {k m : Nat} (hk : k ≤ 60) (h : 10 ^ m ≤ 2 ^ k) : m < Dp.rr s.e k := by
  have h1 := (Dp.rr_spec g.e_0 hk).1
  have h2 := Dp.pre_lt s.e g.e_le (Dp.rr s.e k)
  rcases Nat.lt_or_ge m (Dp.rr s.e k) with h3 | h3
  · exact h3
  · have : 10 ^ Dp.rr s.e k ≤ 10 ^ m := Nat.pow_le_pow_right (by omega) h3
    omega
theorem rr_le {s : Dc} (g : Good s) {k : Nat} (hk : k ≤ 60) : Dp.rr s.e k ≤ 25 := (Dp.rr_spec g.e_0 hk).2.2
theorem rr_pos' {s : Dc} (g : Good s) {k : Nat} (hk : k ≤ 60) : 1 ≤ Dp.rr s.e k := Dp.rr_pos g.e_0 hk

theorem lsh0_good {s : Dc} (g : Good s) {k : Nat} (h1 : 1 ≤ k) (hk : k ≤ 60) : Good (s.lsh0 k) := by
  have hc := Dp.count g.e_le g.e_0 g.n1 s.e_z g.hd h1 hk
  have hn := g.n1
  have hd : ∀ i, i < s.nd + s.dl k → (s.lsh0 k).d i = 48 + ((s.N * 2 ^ k / 10 ^ (s.nd + s.dl k - 1 - i) % 10 : Nat) : Int) := fun i hi => if_pos (by omega)
  refine ⟨by show 1 ≤ min _ 800; omega, by show min _ 800 ≤ 800; omega, fun i hi => ?_, ?_⟩
  · have hi' : i < min (s.nd + s.dl k) 800 := hi
    rw [hd i (by omega)]
    omega
  · rw [hd 0 (by omega)]
    have h2 : 1 ≤ s.N * 2 ^ k / 10 ^ (s.nd + s.dl k - 1 - 0) := Nat.div_pos hc.1 (Nat.pow_pos (by omega))
    have h3 : s.N * 2 ^ k / 10 ^ (s.nd + s.dl k - 1 - 0) < 10 := by
      rw [Nat.div_lt_iff_lt_mul (Nat.pow_pos (by omega))]
      have : 10 * 10 ^ (s.nd + s.dl k - 1 - 0) = 10 ^ (s.nd + s.dl k) := by rw [Nat.mul_comm, ← Nat.pow_succ]; congr 1; omega
      rw [this]
      exact hc.2
    rw [Nat.mod_eq_of_lt h3]
    omega

/-- The leading digit behind a left shift. -/
theorem lsh_top {s : Dc} (g : Good s) {k : Nat} (h1 : 1 ≤ k) (hk : k ≤ 60) : (s.lsh k).d 0 = 48 + ((s.N * 2 ^ k / 10 ^ (s.nd + s.dl k - 1) : Nat) : Int) := by
  have hc := Dp.count g.e_le g.e_0 g.n1 s.e_z g.hd h1 hk
  have hn := g.n1
  have h := (lsh0_good g h1 hk).trim
  show (s.lsh0 k).trim.d 0 = _
  rw [h.2.2]
  show (if _ then _ else _) = _
  rw [if_pos (by omega)]
  have h3 : s.N * 2 ^ k / 10 ^ (s.nd + s.dl k - 1) < 10 := by
    rw [Nat.div_lt_iff_lt_mul (Nat.pow_pos (by omega))]
    have : 10 * 10 ^ (s.nd + s.dl k - 1) = 10 ^ (s.nd + s.dl k) := by rw [Nat.mul_comm, ← Nat.pow_succ]; congr 1; omega
    rw [this]
    exact hc.2
  rw [Nat.sub_zero, Nat.mod_eq_of_lt h3]

theorem lsh_good {s : Dc} (g : Good s) {k : Nat} (h1 : 1 ≤ k) (hk : k ≤ 60) : Good (s.lsh k) ∧ (s.lsh k).dp = s.dp + s.dl k := by
  have h := (lsh0_good g h1 hk).trim
  exact ⟨h.1, h.2.1⟩

theorem dl_ge {s : Dc} (k : Nat) : Dp.lcD k - 1 ≤ s.dl k ∧ s.dl k ≤ Dp.lcD k := by
  unfold Dc.dl Dp.dl
  split <;> omega

theorem N_top {s : Dc} (g : Good s) : s.e 0 * 10 ^ (s.nd - 1) ≤ s.N ∧ s.N < (s.e 0 + 1) * 10 ^ (s.nd - 1) := by
  have h := Dp.win_pre s.e (s.nd - 1) 1
  have hn := g.n1
  rw [show 1 + (s.nd - 1) = s.nd by omega, show Dp.pre s.e 1 = s.e 0 by simp [Dp.pre]] at h
  have h2 := Dp.win_lt s.e g.e_le (s.nd - 1) 1
  unfold Dc.N
  rw [h, Nat.add_mul]
  omega

/-- dp = 0, the first digit below 5, doubled: the point stays, the first digit grows. -/
theorem lsh_one {s : Dc} (g : Good s) (h : s.d 0 < 53) : s.dl 1 = 0 ∧ s.d 0 < (s.lsh 1).d 0 := by
  have hc := Dp.count g.e_le g.e_0 g.n1 s.e_z g.hd (k := 1) (by omega) (by omega)
  have hn := g.n1
  have hN := N_top g
  have he : (s.e 0 : Int) = s.d 0 - 48 := g.e_d (by omega)
  have h4 : s.e 0 ≤ 4 := by omega
  have hp : 10 ^ s.nd = 10 * 10 ^ (s.nd - 1) := by rw [Nat.mul_comm, ← Nat.pow_succ]; congr 1; omega
  have hlow := hc.1
  change 10 ^ (s.nd + s.dl 1 - 1) ≤ s.N * 2 ^ 1 at hlow
  have hdl : s.dl 1 = 0 := by
    rcases Nat.eq_zero_or_pos (s.dl 1) with h0 | h0
    · exact h0
    · have : 10 ^ s.nd ≤ 10 ^ (s.nd + s.dl 1 - 1) := Nat.pow_le_pow_right (by omega) (by omega)
      have : (s.e 0 + 1) * 10 ^ (s.nd - 1) ≤ 5 * 10 ^ (s.nd - 1) := Nat.mul_le_mul_right _ (by omega)
      omega
  refine ⟨hdl, ?_⟩
  rw [lsh_top g (by omega) (by omega), hdl, Nat.add_zero]
  have : s.e 0 * 2 ≤ s.N * 2 ^ 1 / 10 ^ (s.nd - 1) := by
    rw [Nat.le_div_iff_mul_le (Nat.pow_pos (by omega))]
    have := hN.1
    have e : s.e 0 * 2 * 10 ^ (s.nd - 1) = 2 * (s.e 0 * 10 ^ (s.nd - 1)) := by rw [Nat.mul_comm (s.e 0), Nat.mul_assoc]
    omega
  have := g.e_0
  omega

/-- dp = -1, times 8: the point moves, or the first digit was 1 and is 8 or 9. -/
theorem lsh_three {s : Dc} (g : Good s) : s.dl 3 = 1 ∨ (s.dl 3 = 0 ∧ s.d 0 = 49 ∧ 56 ≤ (s.lsh 3).d 0) := by
  have hc := Dp.count g.e_le g.e_0 g.n1 s.e_z g.hd (k := 3) (by omega) (by omega)
  have hn := g.n1
  have hN := N_top g
  have he : (s.e 0 : Int) = s.d 0 - 48 := g.e_d (by omega)
  have h13 : Dp.lcD 3 = 1 := by decide +kernel
  have hb := dl_ge (s := s) 3
  rw [h13] at hb
  rcases (by omega : s.dl 3 = 1 ∨ s.dl 3 = 0) with h | h
  · exact .inl h
  · refine .inr ⟨h, ?_, ?_⟩
    · have hu := hc.2
      change s.N * 2 ^ 3 < 10 ^ (s.nd + s.dl 3) at hu
      rw [h, Nat.add_zero] at hu
      have hp : 10 ^ s.nd = 10 * 10 ^ (s.nd - 1) := by rw [Nat.mul_comm, ← Nat.pow_succ]; congr 1; omega
      have h0 := g.e_0
      have hpp : 0 < 10 ^ (s.nd - 1) := Nat.pow_pos (by omega)
      have : s.e 0 < 2 := by
        rcases Nat.lt_or_ge (s.e 0) 2 with h2 | h2
        · exact h2
        · have := Nat.mul_le_mul_right (10 ^ (s.nd - 1)) h2
          omega
      omega
    · rw [lsh_top g (by omega) (by omega), h, Nat.add_zero]
      have : s.e 0 * 8 ≤ s.N * 2 ^ 3 / 10 ^ (s.nd - 1) := by
        rw [Nat.le_div_iff_mul_le (Nat.pow_pos (by omega))]
        have := hN.1
        have e : s.e 0 * 8 * 10 ^ (s.nd - 1) = 8 * (s.e 0 * 10 ^ (s.nd - 1)) := by rw [Nat.mul_comm (s.e 0), Nat.mul_assoc]
        omega
      have := g.e_0
      omega

theorem rsh_qq0 {s : Dc} (g : Good s) (h : Dp.rr s.e 3 = 1) : (s.rsh 3).d 0 = 49 := by
  rw [(rsh_good g (by omega)).2.2]
  have : Dp.qq s.e 3 0 = Dp.pre s.e 1 / 8 := by
    show Dp.pre s.e (Dp.rr s.e 3) / 2 ^ 3 = _
    rw [h]
  rw [this, show Dp.pre s.e 1 = s.e 0 by simp [Dp.pre]]
  have h1 := (Dp.rr_spec g.e_0 (k := 3) (by omega)).1
  rw [h, show Dp.pre s.e 1 = s.e 0 by simp [Dp.pre]] at h1
  have := g.e_le 0
  omega

end Go.Proofs.YtlckfiflfkbofaaGreatDoor

/- Shift, shouldRoundUp, RoundedInteger of internal/strconv's decimal. -/
namespace Go.Proofs.YtlckfiflfkbofaaGreatDoor
open Go.RowKit

/-- n to the right, sixty at a time. -/
def Dc.rshN : Nat → Nat → Dc → Dc
  | 0, n, s => s.rsh n
  | f + 1, n, s => if 60 < n then Dc.rshN f (n - 60) (s.rsh 60) else s.rsh n

theorem rshN_good : ∀ (f n : Nat) (s : Dc), Good s → 1 ≤ n → n ≤ 60 * (f + 1) → Good (Dc.rshN f n s)
  | 0, n, s, g, h1, h => (rsh_good g (by omega)).1
  | f + 1, n, s, g, h1, h => by
    rw [Dc.rshN]
    split
    · exact rshN_good f (n - 60) _ (rsh_good g (by omega)).1 (by omega) (by omega)
    · exact (rsh_good g (by omega)).1

set_option maxHeartbeats 1600000 in
set_option maxRecDepth 100000 in
theorem shl_calls (b : Nat) (s : Dc) (k B off cap : Nat) (w : World) (h : IsDc w b s) (g : Good s) (h1 : 1 ≤ k) (hk : k ≤ 60) (hdp : -100000 ≤ s.dp) (hdp2 : s.dp ≤ 100000) (ht : Cheat w k B off cap) :
    Calls Tryz.prog 148 #[.pointer (some ⟨b, 0, none⟩), .int .i64 k] w fun e w' => e = .returned (.tuple #[]) ∧ IsDc w' b (s.lsh k) ∧ Keep (At1 b) w w' := by
  have c0 := h.c_nd
  have n1 := g.n1
  have hne : ((s.nd : Int) == 0) = false := by rw [beq_eq_false_iff_ne]; omega
  have hpos : (0 : Int) < k := by omega
  have hle : ¬ ((60 : Int) < k) := by omega
  go_enter Tryz.func148, Tryz.ntmps148
  go_wp2_with (fail)
  go_loopg [1] 0 (fun kq s1 wx => w = wx ∧ s1 = .int .i64 (k : Int))
  case atStart => exact ⟨rfl, rfl⟩
  case round =>
    obtain ⟨rfl, rfl⟩ := hrel
    go_wp2_with (fail)
    refine (lsh_calls b s k B off cap w h g h1 hk hdp hdp2 ht).mono ?_
    rintro e w' ⟨rfl, h2, h3⟩
    go_wp2_with (fail)
    go_end0
    exact ⟨rfl, h2, h3⟩

set_option maxHeartbeats 1600000 in
set_option maxRecDepth 100000 in
theorem shr_calls (b : Nat) (s : Dc) (n : Nat) (w : World) (h : IsDc w b s) (g : Good s) (h1 : 1 ≤ n) (hn : n ≤ 600) (hdp : -50000 ≤ s.dp) (hdp2 : s.dp ≤ 100000) :
    Calls Tryz.prog 148 #[.pointer (some ⟨b, 0, none⟩), .int .i64 (-(n : Int))] w fun e w' => e = .returned (.tuple #[]) ∧ IsDc w' b (Dc.rshN 9 n s) ∧ Keep (At1 b) w w' := by
  have c0 := h.c_nd
  have n1 := g.n1
  have hne : ((s.nd : Int) == 0) = false := by rw [beq_eq_false_iff_ne]; omega
  have hpos : ¬ ((0 : Int) < -(n : Int)) := by omega
  have hneg : -(n : Int) < 0 := by omega
  go_enter Tryz.func148, Tryz.ntmps148
  go_wp2_with (fail)
  go_loopg [1] 9 (fun kq s1 wx => ∃ (m : Nat) (t : Dc), s1 = .int .i64 (-(m : Int)) ∧ 1 ≤ m ∧ m ≤ 60 * (kq + 1) ∧ kq ≤ 9 ∧ IsDc wx b t ∧ Good t ∧ -50000 - 100 * (9 - (kq : Int)) ≤ t.dp ∧ t.dp ≤ 100000 ∧ Hid (Dc.rshN kq m t = Dc.rshN 9 n s) ∧ Keep (At1 b) w wx)
  case atStart => exact ⟨n, s, rfl, h1, by omega, Nat.le_refl _, h, g, by omega, hdp2, Lib.hid rfl, Keep.refl _ _⟩
  case round =>
    obtain ⟨m, t, rfl, hm1, hm, hq9, hI, gt, hd1, hd2, hE, hK⟩ := hrel
    have cn := hI.c_nd
    by_cases hlt : 60 < m
    · have hlt' : -(m : Int) < -60 := by omega
      cases gk with
      | zero => omega
      | succ gk =>
        have hr := rsh_good gt (k := 60) (by omega)
        have hr1 := rr_le gt (k := 60) (by omega)
        have hr2 := rr_pos' gt (k := 60) (by omega)
        go_wp2_with (fail)
        refine (rsh_calls b t 60 _ hI gt (by omega) (by omega) (by omega)).mono ?_
        rintro e w' ⟨rfl, h2, h3⟩
        have hE' : Hid (Dc.rshN gk (m - 60) (t.rsh 60) = Dc.rshN 9 n s) := Lib.hid (by rw [← hE.out, Dc.rshN, if_pos hlt])
        have hd := Lib.hid hr.2.1
        clear hr
        go_wp2_with (fail)
        go_roundg gk
        case measure => omega
        case rel => exact ⟨m - 60, _, int_eq (by omega), by omega, by omega, by omega, h2, (rsh_good gt (k := 60) (by omega)).1, by rw [hd.out]; omega, by rw [hd.out]; omega, hE', hK.trans h3⟩
    · have hlt' : ¬ (-(m : Int) < -60) := by omega
      have hE' : Hid (t.rsh m = Dc.rshN 9 n s) := Lib.hid (by
        rw [← hE.out]
        cases gk with
        | zero => rfl
        | succ q => rw [Dc.rshN, if_neg hlt])
      go_wp2_with (fail)
      refine (rsh_calls b t m _ hI gt (by omega) (by omega) (by omega)).mono ?_
      rintro e w' ⟨rfl, h2, h3⟩
      go_wp2_with (fail)
      go_end0
      exact ⟨rfl, by rw [← hE'.out]; exact h2, hK.trans h3⟩

end Go.Proofs.YtlckfiflfkbofaaGreatDoor
