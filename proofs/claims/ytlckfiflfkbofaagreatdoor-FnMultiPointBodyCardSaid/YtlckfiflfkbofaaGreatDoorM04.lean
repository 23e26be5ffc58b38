/- rightShift of internal/strconv's decimal. Part 4 of 51 of the proof that FnMultiPointBody returns true for every text and every type of coordinates, where the listed variables hold what the text of the program lays. -/
import Derived.Deep.DeepCutAuto
import Derived.Deep.CutBlock
import Derived.Test.YtlckfiflfkbofaaGreatDoorM02
import Derived.Test.YtlckfiflfkbofaaGreatDoorM03
set_option linter.all false

/- rightShift of internal/strconv's decimal. -/
namespace Go.Proofs.YtlckfiflfkbofaaGreatDoor
open Go.RowKit

/-- The digits as numbers, 0 behind the last. -/
def Dc.e (s : Dc) (i : Nat) : Nat := if i < s.nd then (s.d i - 48).toNat else 0

/-- A decimal that is not 0, as the code keeps it. -/
structure Good (s : Dc) : Prop where
  n1 : 1 ≤ s.nd
  n8 : s.nd ≤ 800
  dig : ∀ i, i < s.nd → 48 ≤ s.d i ∧ s.d i ≤ 57
  top : 49 ≤ s.d 0

theorem Good.e_le {s : Dc} (g : Good s) (i : Nat) : s.e i ≤ 9 := by
  unfold Dc.e
  split
  · rename_i h; have := g.dig i h; omega
  · omega
theorem Good.e_0 {s : Dc} (g : Good s) : 1 ≤ s.e 0 := by
  unfold Dc.e
  rw [if_pos (by have := g.n1; omega)]
  have := g.top
  omega
theorem Dc.e_z (s : Dc) (i : Nat) (h : s.nd ≤ i) : s.e i = 0 := if_neg (by omega)
theorem Good.e_d {s : Dc} (g : Good s) {i : Nat} (h : i < s.nd) : (s.e i : Int) = s.d i - 48 := by
  have := g.dig i h
  unfold Dc.e
  rw [if_pos h]; omega

def Dc.late (e : Nat → Nat) (k : Nat) : Nat → Bool
  | 0 => false
  | j + 1 => Dc.late e k j || (decide (800 ≤ j) && decide (0 < Dp.qq e k j))

/-- The shift before the zeros at the end are dropped. -/
def Dc.rsh0 (s : Dc) (k : Nat) : Dc :=
  { d := fun i => if i < Dp.ww s.e k s.nd then 48 + (Dp.qq s.e k i : Int) else s.d i
    nd := min (Dp.ww s.e k s.nd) 800
    dp := s.dp - ((Dp.rr s.e k : Int) - 1)
    neg := s.neg
    tr := s.tr || Dc.late s.e k (Dp.ww s.e k s.nd) }
def Dc.rsh (s : Dc) (k : Nat) : Dc := (s.rsh0 k).trim

theorem int_eq {k : IntKind} {a b : Int} (h : a = b) : Value.int k a = .int k b := by rw [h]
theorem shr_t {n k : Nat} (h : n < 2 ^ k) : ((n : Int) / 2 ^ k == 0) = true := by
  have e : ((n : Int) / 2 ^ k) = ((n / 2 ^ k : Nat) : Int) := by simp
  rw [e, Nat.div_eq_of_lt h]; rfl
theorem shr_f {n k : Nat} (h : 2 ^ k ≤ n) : ((n : Int) / 2 ^ k == 0) = false := by
  have e : ((n : Int) / 2 ^ k) = ((n / 2 ^ k : Nat) : Int) := by simp
  have h1 : 0 < n / 2 ^ k := Nat.div_pos h (Nat.two_pow_pos k)
  rw [e]
  rw [beq_eq_false_iff_ne]; omega
theorem two60 {k : Nat} (hk : k ≤ 60) : 2 ^ k ≤ 1152921504606846976 := Nat.le_trans (Nat.pow_le_pow_right (by omega) hk) (by decide)
theorem Dp.pre_pos {e : Nat → Nat} (h0 : 1 ≤ e 0) {r : Nat} (hr : 1 ≤ r) : 1 ≤ Dp.pre e r := by
  have h := Dp.pre_mono e hr
  rw [show Dp.pre e 1 = e 0 by simp [Dp.pre]] at h
  omega

theorem IsDc.congr {w : World} {b : Nat} {s t : Dc} (h : IsDc w b s) (hd : ∀ i, i < 800 → t.d i = s.d i) (h1 : t.nd = s.nd) (h2 : t.dp = s.dp) (h3 : t.neg = s.neg) (h4 : t.tr = s.tr) : IsDc w b t :=
  Cells.of_eq h fun i hi => by
    unfold Dc.at
    by_cases h : i < 800
    · rw [if_pos h, if_pos h, hd i h]
    · rw [if_neg h, if_neg h, h1, h2, h3, h4]

theorem late_false (e : Nat → Nat) (k : Nat) : ∀ j, j ≤ 800 → Dc.late e k j = false
  | 0, _ => rfl
  | j + 1, h => by rw [Dc.late, late_false e k j (by omega), decide_eq_false (by omega : ¬ 800 ≤ j)]; rfl

theorem mask_eq {k : Nat} (hk : k ≤ 60) : IntKind.u64.wrap (IntKind.u64.wrap (2 ^ k) - 1) = ((2 ^ k - 1 : Nat) : Int) := by
  have h := two60 hk
  have h1 := Nat.two_pow_pos k
  have e : ((2 : Int) ^ k) = ((2 ^ k : Nat) : Int) := by simp
  rw [e]
  generalize 2 ^ k = m at *
  rw [IntWalk.u64_in (m : Int) (by omega), IntWalk.u64_in _ (by omega)]; omega

theorem and_eq {n k : Nat} (hn : n < 18446744073709551616) (hk : k ≤ 60) : Go.bits .and .u64 (n : Int) ((2 ^ k - 1 : Nat) : Int) = ((n % 2 ^ k : Nat) : Int) := by
  have h := two60 hk
  rw [u64_and_nat _ _ hn (by omega), Nat.and_two_pow_sub_one_eq_mod]

theorem div_eq (n k : Nat) : (n : Int) / 2 ^ k = ((n / 2 ^ k : Nat) : Int) := by simp

set_option maxHeartbeats 1600000 in
set_option maxRecDepth 100000 in
theorem rsh_calls (b : Nat) (s : Dc) (k : Nat) (w : World) (h : IsDc w b s) (g : Good s) (hk : k ≤ 60) (hdp : -100000 ≤ s.dp) (hdp2 : s.dp ≤ 100000) :
    Calls Tryz.prog 154 #[.pointer (some ⟨b, 0, none⟩), .int .u64 k] w fun e w' => e = .returned (.tuple #[]) ∧ IsDc w' b (s.rsh k) ∧ Keep (At1 b) w w' := by
  have hrr := Lib.hid (Dp.rr_spec g.e_0 hk)
  have c0 := h.c_nd
  have c1 := h.c_dp
  have f0 := h.fz 800 (by omega)
  have f1 := h.fz 801 (by omega)
  have h60 := Lib.hid (two60 hk)
  have n1 := g.n1
  have n8 := g.n8
  go_enter Tryz.func154, Tryz.ntmps154
  go_upto_block 0 with (fail)
  go_cut [4, 6] (fun s4 s6 wx => w = wx ∧ s4 = .int .i64 (Dp.rr s.e k : Int) ∧ s6 = .int .u64 (Dp.pre s.e (Dp.rr s.e k) : Int))
  case first =>
    go_wp2_with (fail)
    go_loopg [4, 6, 7] (Dp.rr s.e k) (fun kq s4 s6 s7 wx => w = wx ∧ ∃ r : Nat, kq + r = Dp.rr s.e k ∧ s4 = .int .i64 (r : Int) ∧ s6 = .int .u64 (Dp.pre s.e r : Int))
    case atStart => exact ⟨rfl, 0, rfl, rfl, rfl⟩
    case round =>
      obtain ⟨rfl, r, hr, rfl, rfl⟩ := hrel
      have HR := Lib.hid hr
      have hr25 : r ≤ 25 := by have := hrr.out.2.2; omega
      clear hr
      by_cases hlt : r < Dp.rr s.e k
      · have hp0 := hrr.out.2.1 r hlt
        have hp := hrr.out.2.1 r hlt
        have ht := shr_t hp
        have hb : (Dp.pre s.e r : Int) < 1152921504606846976 := by have := h60.out; omega
        by_cases hnd : s.nd ≤ r
        · have hne : (((Dp.pre s.e r : Nat) : Int) == 0) = false := by
            have := Dp.pre_pos g.e_0 (r := r) (by omega)
            rw [beq_eq_false_iff_ne]; omega
          have hnd' : (s.nd : Int) ≤ r := by omega
          clear hp0 hp
          go_wp2_with (fail)
          go_loopg [4, 6] (Dp.rr s.e k - r) (fun kq s4 s6 wx => w = wx ∧ ∃ q : Nat, r ≤ q ∧ kq + q = Dp.rr s.e k ∧ s4 = .int .i64 (q : Int) ∧ s6 = .int .u64 (Dp.pre s.e q : Int))
          case atStart => exact ⟨rfl, r, by omega, by omega, rfl, rfl⟩
          case round =>
            obtain ⟨rfl, q, hrq, hq, rfl, rfl⟩ := hrel
            have HQ := Lib.hid hq
            have hq25 : q ≤ 25 := by have := hrr.out.2.2; omega
            have hez : Hid (s.e q = 0) := Lib.hid (s.e_z q (by omega))
            clear hq
            by_cases hlq : q < Dp.rr s.e k
            · have hp := hrr.out.2.1 q hlq
              have ht := shr_t hp
              have hb : (Dp.pre s.e q : Int) < 1152921504606846976 := by have := h60.out; omega
              clear hp
              go_wp2_with (fail)
              go_roundg (gk - 1)
              case measure => have := HQ.out; omega
              case rel =>
                refine ⟨rfl, q + 1, by omega, by have := HQ.out; omega, int_eq (by omega), int_eq ?_⟩
                have := hez.out
                rw [Dp.pre]; omega
            · obtain rfl : q = Dp.rr s.e k := by have := HQ.out; omega
              have ht := shr_f hrr.out.1
              go_wp2_with (fail)
              go_meet
              exact ⟨rfl, rfl, rfl⟩
        · have cd := h.c_d (i := r) (by omega)
          have hlt' : (r : Int) < s.nd := by omega
          have hdg := g.dig r (by omega)
          have he := Lib.hid (g.e_d (i := r) (by omega))
          clear hp0 hp
          go_wp2_with (fail)
          go_roundg (gk - 1)
          case measure => have := HR.out; omega
          case rel =>
            refine ⟨rfl, r + 1, by have := HR.out; omega, int_eq (by omega), int_eq ?_⟩
            have := he.out
            rw [Dp.pre]; omega
      · obtain rfl : r = Dp.rr s.e k := by have := HR.out; omega
        have ht := shr_f hrr.out.1
        go_wp2_with (fail)
        go_meet
        exact ⟨rfl, rfl, rfl⟩
  case rest =>
    obtain ⟨rfl, rfl, rfl⟩ := hcut
    have hr25 : Dp.rr s.e k ≤ 25 := hrr.out.2.2
    have hr1 : 1 ≤ Dp.rr s.e k := Dp.rr_pos g.e_0 hk
    obtain ⟨M, hM⟩ : ∃ M : Nat, M = 2 ^ k - 1 := ⟨_, rfl⟩
    have hmask : IntKind.u64.wrap (IntKind.u64.wrap (2 ^ k) - 1) = (M : Int) := by rw [hM]; exact mask_eq hk
    have HM := Lib.hid hM
    clear hM
    have hI0 := Lib.hid (h.set_dp (s.dp - ((Dp.rr s.e k : Int) - 1)))
    obtain ⟨r, hr⟩ : ∃ r, r = Dp.rr s.e k := ⟨_, rfl⟩
    have HR := Lib.hid hr
    rw [← hr] at hr25 hr1
    have hN0 : Dp.pre s.e (Dp.rr s.e k) = Dp.nn s.e k 0 := rfl
    rw [hN0, ← hr]
    rw [← hr] at hI0
    clear hr hN0
    go_wp2_with (fail)
    go_loopg [4, 5, 6, 9, 10] (s.nd - r) (fun kq s4 s5 s6 s9 s10 wx => ∃ j : Nat, kq + j = s.nd - r ∧ s4 = .int .i64 ((r : Int) + (j : Int)) ∧ s5 = .int .i64 (j : Int) ∧ s6 = .int .u64 (Dp.nn s.e k j : Int) ∧
      IsDc wx b { s with d := fun i => if i < j then 48 + (Dp.qq s.e k i : Int) else s.d i, dp := s.dp - ((r : Int) - 1) } ∧ Keep (At1 b) w wx)
    case atStart =>
      refine ⟨0, by omega, rfl, rfl, rfl, ?_, (Keep.refl (At1 b) w).setCell (p := ⟨b, 801, none⟩) (.inr rfl) _⟩
      exact hI0.out.congr (fun i _ => rfl) rfl rfl rfl rfl
    case round =>
      obtain ⟨j, hj, rfl, rfl, rfl, hI, hK⟩ := hrel
      have HJ := Lib.hid hj
      have hn := Dp.nn_lt (k := k) g.e_le g.e_0 hk j
      have hq9 := Dp.qq_le (k := k) g.e_le g.e_0 hk j
      have hdv : (Dp.nn s.e k j : Int) / 2 ^ k = ((Dp.qq s.e k j : Nat) : Int) := div_eq _ _
      have c0 := hI.c_nd
      dsimp only at c0
      have hj8 : r + j ≤ 1000 := by omega
      by_cases hlt : r + j < s.nd
      · have hnb : Dp.nn s.e k j < 11529215046068469760 := by have := h60.out; omega
        obtain ⟨m, hm⟩ : ∃ m, m = Dp.nn s.e k j % 2 ^ k := ⟨_, rfl⟩
        have hand : Go.bits .and .u64 (Dp.nn s.e k j : Int) (M : Int) = (m : Int) := by rw [HM.out, hm]; exact and_eq (by omega) hk
        have hmb : m < 1152921504606846976 := by rw [hm]; exact Nat.lt_of_lt_of_le (Nat.mod_lt _ (Nat.two_pow_pos k)) h60.out
        have HMM := Lib.hid hm
        clear hm
        have cr := hI.c_d (i := r + j) (by omega)
        have cw := hI.c_d (i := j) (by omega)
        have fw := hI.fz j (by omega)
        dsimp only at cr cw
        rw [if_neg (by omega)] at cr
        rw [if_neg (by omega)] at cw
        have hdg := g.dig (r + j) hlt
        have he := Lib.hid (g.e_d hlt)
        have hlt' : ((r + j : Nat) : Int) < s.nd := by omega
        have hj9 : j < 800 := by omega
        clear hj hn
        go_wp2_with (fail)
        go_roundg (gk - 1)
        case measure => have := HJ.out; omega
        case rel =>
          refine ⟨j + 1, by have := HJ.out; omega, int_eq (by omega), int_eq (by omega), int_eq ?_, ?_, ?_⟩
          · have h1 := he.out
            have h2 := HMM.out
            rw [Dp.nn, ← h2, ← HR.out]; omega
          · refine (hI.set_d (k := j) (by omega) _).congr (fun i _ => ?_) rfl rfl rfl rfl
            dsimp only
            by_cases e1 : i = j
            · subst e1; rw [if_pos (by omega), if_pos rfl]; omega
            · rw [if_neg e1]
              by_cases e2 : i < j
              · rw [if_pos e2, if_pos (by omega)]
              · rw [if_neg e2, if_neg (by omega)]
          · exact hK.setCell (p := ⟨b, j, none⟩) (.inr rfl) _
      · have hdec : decide ((r : Int) + (j : Int) < (s.nd : Int)) = false := decide_eq_false (by omega)
        have hW := Lib.hid (Dp.ww_spec (k := k) s.e_z)
        have hJ : j = s.nd - r := by omega
        have HJ2 := Lib.hid hJ
        have hjw : j ≤ Dp.ww s.e k s.nd := by have := hW.out.2.2.1; rw [← HR.out] at this; omega
        have hwb : Dp.ww s.e k s.nd ≤ 1000 := by have := hW.out.2.2.2; omega
        have hj8' : j ≤ 800 := by omega
        have hI' := Lib.hid (hI.congr (t := { s with d := fun i => if i < j then 48 + (Dp.qq s.e k i : Int) else s.d i, dp := s.dp - ((r : Int) - 1), tr := s.tr || Dc.late s.e k j }) (fun _ _ => rfl) rfl rfl rfl (by rw [late_false _ _ _ hj8', Bool.or_false]))
        clear hj hn hI hJ hlt
        go_wp2_with (fail)
        clear c0
        go_loopg [5, 6, 11] (Dp.ww s.e k s.nd - j) (fun kq s5 s6 s11 wx => ∃ i : Nat, j ≤ i ∧ kq + i = Dp.ww s.e k s.nd ∧ s5 = .int .i64 ((min i 800 : Nat) : Int) ∧ s6 = .int .u64 (Dp.nn s.e k i : Int) ∧
          IsDc wx b { s with d := fun x => if x < i then 48 + (Dp.qq s.e k x : Int) else s.d x, dp := s.dp - ((r : Int) - 1), tr := s.tr || Dc.late s.e k i } ∧ Keep (At1 b) w wx)
        case atStart => exact ⟨j, by omega, by omega, int_eq (by omega), rfl, hI'.out, hK⟩
        case round =>
          obtain ⟨i, hji, hi, rfl, rfl, hI, hK⟩ := hrel
          have HI := Lib.hid hi
          have hn := Dp.nn_lt (k := k) g.e_le g.e_0 hk i
          have hq9 := Dp.qq_le (k := k) g.e_le g.e_0 hk i
          have hdv : (Dp.nn s.e k i : Int) / 2 ^ k = ((Dp.qq s.e k i : Nat) : Int) := div_eq _ _
          have hz : Hid (s.e (r + i) = 0) := Lib.hid (s.e_z _ (by have := HJ2.out; omega))
          have hi10 : i ≤ 1000 := by omega
          obtain ⟨mi, hmi⟩ : ∃ mi, mi = min i 800 := ⟨_, rfl⟩
          have HMI := Lib.hid hmi
          rw [← hmi]
          clear hmi
          have hmi8 : mi ≤ 800 := by have := HMI.out; omega
          have fT := hI.fz 803 (by omega)
          have cT := hI.c_tr
          have fn := hI.fz 800 (by omega)
          have cn := hI.c_nd
          dsimp only at cT cn
          by_cases hlt : i < Dp.ww s.e k s.nd
          · have hnz : 0 < Dp.nn s.e k i := by
              have := hW.out.2.1 i (by rw [← HR.out]; have := HJ2.out; omega) hlt
              omega
            have hnb : Dp.nn s.e k i < 11529215046068469760 := by have := h60.out; omega
            obtain ⟨m, hm⟩ : ∃ m, m = Dp.nn s.e k i % 2 ^ k := ⟨_, rfl⟩
            have hand : Go.bits .and .u64 (Dp.nn s.e k i : Int) (M : Int) = (m : Int) := by rw [HM.out, hm]; exact and_eq (by omega) hk
            have hmb : m < 1152921504606846976 := by rw [hm]; exact Nat.lt_of_lt_of_le (Nat.mod_lt _ (Nat.two_pow_pos k)) h60.out
            have HMM := Lib.hid hm
            have hnext : Hid (((Dp.nn s.e k (i + 1) : Nat) : Int) = m * 10) := Lib.hid (by rw [Dp.nn, ← hm, ← HR.out, hz.out]; omega)
            clear hm hi hn
            by_cases hmi' : mi < 800
            · have hii : i = mi := by have := HMI.out; omega
              have HII := Lib.hid hii
              have cw := hI.c_d (i := mi) (by omega)
              have fw := hI.fz mi (by omega)
              dsimp only at cw
              rw [if_neg (by omega)] at cw
              clear hii
              go_wp2_with (fail)
              go_roundg (gk - 1)
              case measure => have := HI.out; omega
              case rel =>
                refine ⟨i + 1, by omega, by have := HI.out; omega, int_eq (by have := HII.out; omega), int_eq (by rw [hnext.out]), ?_, ?_⟩
                · refine (hI.set_d (k := mi) (by omega) _).congr (fun x _ => ?_) rfl rfl rfl ?_
                  · dsimp only
                    have := HII.out
                    by_cases e1 : x = mi
                    · rw [if_pos (by omega), if_pos e1, e1, ← this]; omega
                    · rw [if_neg e1]
                      by_cases e2 : x < i
                      · rw [if_pos e2, if_pos (by omega)]
                      · rw [if_neg e2, if_neg (by omega)]
                  · dsimp only
                    have := HII.out
                    rw [Dc.late, decide_eq_false (by omega : ¬ 800 ≤ i), Bool.false_and, Bool.or_false]
                · exact hK.setCell (p := ⟨b, mi, none⟩) (.inr rfl) _
            · have hmi9 : Hid (mi = 800) := Lib.hid (by omega)
              have hi8 : 800 ≤ i := by have := HMI.out; omega
              have hge : ¬ ((mi : Int) < 800) := by omega
              by_cases hqp : 0 < Dp.qq s.e k i
              · go_wp2_with (fail)
                go_roundg (gk - 1)
                case measure => have := HI.out; omega
                case rel =>
                  refine ⟨i + 1, by omega, by have := HI.out; omega, int_eq (by have := HMI.out; omega), int_eq (by rw [hnext.out]), ?_, ?_⟩
                  · refine (hI.set_tr true).congr (fun x _ => ?_) rfl rfl rfl ?_
                    · dsimp only
                      rw [if_pos (by omega), if_pos (by omega)]
                    · dsimp only
                      rw [Dc.late, decide_eq_true hi8, decide_eq_true hqp]; simp
                  · exact hK.setCell (p := ⟨b, 803, none⟩) (.inr rfl) _
              · go_wp2_with (fail)
                go_roundg (gk - 1)
                case measure => have := HI.out; omega
                case rel =>
                  refine ⟨i + 1, by omega, by have := HI.out; omega, int_eq (by have := HMI.out; omega), int_eq (by rw [hnext.out]), ?_, hK⟩
                  refine hI.congr (fun x _ => ?_) rfl rfl rfl ?_
                  · dsimp only
                    rw [if_pos (by omega), if_pos (by omega)]
                  · dsimp only
                    rw [Dc.late, decide_eq_false hqp]; simp
          · obtain rfl : i = Dp.ww s.e k s.nd := by omega
            have hz0 := hW.out.1
            have hz0' : ¬ ((0 : Int) < (Dp.nn s.e k (Dp.ww s.e k s.nd) : Int)) := by omega
            have hI2 := Lib.hid ((hI.set_nd mi).congr (t := s.rsh0 k) (fun _ _ => rfl) (HMI.out.symm ▸ rfl) (by unfold Dc.rsh0; rw [← HR.out]) rfl rfl)
            have hK2 := Lib.hid (hK.setCell (p := ⟨b, 800, none⟩) (.inr rfl) (.int .i64 (mi : Int)))
            have hm8 : (s.rsh0 k).nd ≤ 800 := by unfold Dc.rsh0; exact Nat.min_le_right _ _
            clear hz0 hI hK hW
            go_wp2_with (fail)
            refine (trim_calls b (s.rsh0 k) _ hI2.out hm8).mono ?_
            rintro e w' ⟨rfl, h1, h2⟩
            go_wp2_with (fail)
            go_end0
            exact ⟨rfl, h1, hK2.out.trans h2⟩

end Go.Proofs.YtlckfiflfkbofaaGreatDoor
