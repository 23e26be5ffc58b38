/- floatBits of internal/strconv's decimal: a number that is neither 0 nor out of reach. floatBits of internal/strconv's decimal: every decimal. Part 12 of 51 of the proof that FnMultiPointBody returns true for every text and every type of coordinates, where the listed variables hold what the text of the program lays. -/
import Derived.Test.YtlckfiflfkbofaaGreatDoorM11
set_option linter.all false

/- floatBits of internal/strconv's decimal: a number that is neither 0 nor out of reach. -/
namespace Go.Proofs.YtlckfiflfkbofaaGreatDoor
open Go.RowKit
set_option maxHeartbeats 4000000 in
set_option maxRecDepth 100000 in
theorem fb_main (b : Nat) (s : Dc) (w : World) (h : IsDc w b s) (g : Good s) (hd1 : s.dp ≤ 310) (hd2 : -330 ≤ s.dp) {G Bp op cp Bc oc cc : Nat} (T : FbAt w G Bp op cp Bc oc cc) (hGb : G ≤ b) :
    Calls Tryz.prog 129 #[.pointer (some ⟨b, 0, none⟩), .pointer (some ⟨10, 0, none⟩)] w fun e w' => e = .returned (.tuple #[.int .u64 (sgB s.neg (fbRes s).1), .bool (fbRes s).2]) ∧ Keep (At1 b) w w' := by
  have c0 := h.c_nd
  have c1 := h.c_dp
  have n1 := g.n1
  have hnz : ((s.nd : Int) == 0) = false := by rw [beq_eq_false_iff_ne]; omega
  have hz1 : decide (310 < s.dp) = false := decide_eq_false (by omega)
  have hz2 : decide (s.dp < -330) = false := decide_eq_false (by omega)
  go_enter Tryz.func129, Tryz.ntmps129
  go_wp2_with (fail)
  refine wp_scope_two rfl rfl ?_
  go_upto_block 0 with (fail)
  clear c0 c1 hnz hz1 hz2
  go_cut [6] (fun s6 wx => ∃ (t : Dc) (e : Int), s6 = .int .i64 e ∧ IsDc wx b (t.sg s.neg) ∧ Good t ∧ t.dp ≤ 0 ∧ -330 ≤ t.dp ∧ 0 ≤ e ∧ e ≤ 1280 ∧ Hid ((t, e) = fl1 (R1 s) s 0) ∧ Keep (At1 b) w wx)
  case first =>
    go_wp2_with (fail)
    go_loopg [6, 8] (R1 s) (fun kq s6 s8 wx => ∃ (t : Dc) (e : Int), s6 = .int .i64 e ∧ IsDc wx b (t.sg s.neg) ∧ Good t ∧ t.dp ≤ 310 ∧ -330 ≤ t.dp ∧ 0 ≤ e ∧ e + R1 t ≤ 1280 ∧ R1 t ≤ kq ∧ Hid (fl1 kq t e = fl1 (R1 s) s 0) ∧ Keep (At1 b) w wx)
    case atStart =>
      refine ⟨s, 0, rfl, h, g, hd1, hd2, by omega, ?_, Nat.le_refl _, Lib.hid rfl, Keep.refl _ _⟩
      unfold R1; split
      · omega
      · split
        · split <;> omega
        · omega
    case round =>
      obtain ⟨t, e, rfl, hI, gt, hp1, hp2, he0, heR, hR, hE, hK⟩ := hrel
      have T' := T.keep hK hGb
      have cp : wr.cell? ⟨b, 801, none⟩ = some (.int .i64 t.dp) := hI.c_dp
      have tp := T'.pv
      by_cases hlt : 0 < t.dp
      · obtain ⟨m, hm⟩ : ∃ m : Nat, t.dp = m := ⟨t.dp.toNat, by omega⟩
        have cp' : wr.cell? ⟨b, 801, none⟩ = some (.int .i64 (m : Int)) := by rw [← hm]; exact cp
        have hpw := pw_bd m
        have HM := Lib.hid hm
        clear cp hm
        have hm0 : (0 : Int) < m := by have := HM.out; omega
        have hst := R1_step gt hlt
        have hrg := rsh_good gt (k := pw m) (by omega)
        have hr1 := rr_le gt (k := pw m) (by omega)
        have hr2 := rr_pos' gt (k := pw m) (by omega)
        rw [show t.dp.toNat = m by have := HM.out; omega] at hst
        cases gk with
        | zero => omega
        | succ gk =>
        have hE' : Hid (fl1 gk (t.rsh (pw m)) (e + (pw m : Int)) = fl1 (R1 s) s 0) := Lib.hid (by
          rw [← hE.out, fl1, if_pos hlt, show t.dp.toNat = m by have := HM.out; omega])
        have hrd := Lib.hid hrg.2.1
        have hrg' := hrg.1
        clear hrg
        by_cases h9 : 9 ≤ m
        · have h9' : (9 : Int) ≤ m := by omega
          have hpe : pw m = 27 := if_pos h9
          rw [hpe] at hst hE' hrd hrg' hr1 hr2
          clear hpe
          go_wp2_with (fail)
          go_quiet (fail)
          go_wp2_with (fail)
          refine (shr27 b (t.sg s.neg) _ (hI.drewN _) (gt.sg _) (by show -50000 ≤ t.dp; omega) (by show t.dp ≤ 100000; omega)).mono ?_
          rintro e w' ⟨rfl, h2, h3⟩
          go_wp2_with (fail)
          go_roundg gk
          case measure => omega
          case rel => exact ⟨t.rsh 27, _, rfl, h2, hrg', by have := hrd.out; omega, by have := hrd.out; omega, by omega, by omega, by omega, hE', (hK.drewN _).trans h3⟩
        · have h9' : (m : Int) < 9 := by omega
          have hpe : pw m = pwT m := if_neg h9
          have cm := T'.p m (by omega)
          rw [← hpe] at cm
          clear hpe
          go_wp2_with (fail)
          go_quiet (fail)
          go_wp2_with (fail)
          go_quiet (fail)
          go_wp2_with (fail)
          refine (shr_one b (t.sg s.neg) (pw m) _ (hI.drewN _) (gt.sg _) (by omega) (by omega) (by show -50000 ≤ t.dp; omega) (by show t.dp ≤ 100000; omega)).mono ?_
          rintro e w' ⟨rfl, h2, h3⟩
          go_wp2_with (fail)
          go_roundg gk
          case measure => omega
          case rel => exact ⟨t.rsh (pw m), _, rfl, h2, hrg', by have := hrd.out; omega, by have := hrd.out; omega, by omega, by omega, by omega, hE', (hK.drewN _).trans h3⟩
      · have hf : Hid ((t, e) = fl1 (R1 s) s 0) := Lib.hid (by
          rw [← hE.out]
          cases gk with
          | zero => rfl
          | succ q => rw [fl1, if_neg hlt])
        go_wp2_with (fail)
        go_meet
        exact ⟨t, e, rfl, hI, gt, by omega, hp2, he0, by omega, hf, hK⟩
  case rest =>
    obtain ⟨t, e, rfl, hI0, gt, hp1, hp2, he0, he1, hE1, hK0⟩ := hcut
    go_upto_block 2 with (fail)
    go_cut [6] (fun s6 wx => ∃ (v : Dc) (x : Int), s6 = .int .i64 x ∧ IsDc wx b (v.sg s.neg) ∧ Good v ∧ v.dp ≤ 19 ∧ -330 ≤ v.dp ∧ x ≤ 1280 ∧ -1360 ≤ x ∧ Hid ((v, x) = fl2 (R2 t) t e) ∧ Keep (At1 b) w wx)
    case first =>
      go_wp2_with (fail)
      go_loopg [6, 9] (R2 t) (fun kq s6 s9 wx => ∃ (v : Dc) (x : Int), s6 = .int .i64 x ∧ IsDc wx b (v.sg s.neg) ∧ Good v ∧ v.dp ≤ 19 ∧ -330 ≤ v.dp ∧ x ≤ 1280 ∧ -1360 + R2 v ≤ x ∧ R2 v ≤ kq ∧ Hid (fl2 kq v x = fl2 (R2 t) t e) ∧ Keep (At1 b) w wx)
      case atStart =>
        refine ⟨t, e, rfl, hI0, gt, by omega, hp2, by omega, ?_, Nat.le_refl _, Lib.hid rfl, hK0⟩
        unfold R2; split
        · omega
        · split
          · split <;> omega
          · split <;> omega
      case round =>
        clear hK0 hI0
        obtain ⟨v, x, rfl, hI, gv, hq1, hq2, hx1, hx2, hR, hE, hK⟩ := hrel
        have T' := T.keep hK hGb
        have cp : wr.cell? ⟨b, 801, none⟩ = some (.int .i64 v.dp) := hI.c_dp
        have tp := T'.pv
        have cd : wr.cell? ⟨b, 0, none⟩ = some (.int .u8 (v.d 0)) := hI.c_d (i := 0) (by omega)
        by_cases hlt : v.dp < 0 ∨ (v.dp = 0 ∧ v.d 0 < 53)
        · obtain ⟨m, hm⟩ : ∃ m : Nat, v.dp = -(m : Int) := ⟨(-v.dp).toNat, by omega⟩
          have hpw := pw_bd m
          have hst := R2_step gv hlt
          have hem : (-v.dp).toNat = m := by omega
          rw [hem] at hst
          have hlg := lsh_good gv (k := pw m) (by omega) (by omega)
          have hl19 := dl_le (s := v) (k := pw m) (by omega) (by omega)
          cases gk with
          | zero => omega
          | succ gk =>
          have hE' : Hid (fl2 gk (v.lsh (pw m)) (x - (pw m : Int)) = fl2 (R2 t) t e) := Lib.hid (by
            rw [← hE.out, fl2, if_pos hlt, hem])
          have hld := Lib.hid hlg.2
          have hlg' := hlg.1
          have HM := Lib.hid hm
          have hvm := Lib.hid hlt
          have hch := T'.c (pw m) (by omega) (by omega)
          rw [hm] at cp
          clear hlg hem
          by_cases hm0 : m = 0
          · have hd0 : v.d 0 < 53 := by have := HM.out; rcases hlt with h | h <;> omega
            have cm := T'.p 0 (by omega)
            rw [show pwT 0 = 1 by decide, Nat.add_zero] at cm
            rw [show -(m : Int) = 0 by omega] at cp
            rw [hm0, show pw 0 = 1 by decide] at hst hE' hld hlg' hl19 hch
            have hvd := HM.out
            clear hlt hm hm0
            go_wp2_with (fail)
            go_quiet (fail)
            go_wp2_with (fail)
            go_quiet (fail)
            go_wp2_with (fail)
            refine (shl_calls b (v.sg s.neg) 1 Bc oc cc _ (hI.drewN _) (gv.sg _) (by omega) (by omega) (by show -100000 ≤ v.dp; omega) (by show v.dp ≤ 100000; omega) (hch.drewN _)).mono ?_
            rintro e w' ⟨rfl, h2, h3⟩
            go_wp2_with (fail)
            go_roundg gk
            case measure => omega
            case rel => exact ⟨v.lsh 1, _, rfl, h2, hlg', by have := hld.out; omega, by have := hld.out; omega, by omega, by omega, by omega, hE', (hK.drewN _).trans h3⟩
          · have hneg : -(m : Int) < 0 := by omega
            by_cases h9 : 9 ≤ m
            · have h9' : (9 : Int) ≤ m := by omega
              have hpe : pw m = 27 := if_pos h9
              rw [hpe] at hst hE' hld hlg' hl19 hch
              have hvd := HM.out
              clear hlt hm hpe
              go_wp2_with (fail)
              go_quiet (fail)
              go_wp2_with (fail)
              refine (shl27 b (v.sg s.neg) _ (hI.drewN _) (gv.sg _) (by show -50000 ≤ v.dp; omega) (by show v.dp ≤ 100000; omega) (hch.drewN _)).mono ?_
              rintro e w' ⟨rfl, h2, h3⟩
              go_wp2_with (fail)
              go_roundg gk
              case measure => omega
              case rel => exact ⟨v.lsh 27, _, rfl, h2, hlg', by have := hld.out; omega, by have := hld.out; omega, by omega, by omega, by omega, hE', (hK.drewN _).trans h3⟩
            · have h9' : (m : Int) < 9 := by omega
              have hpe : pw m = pwT m := if_neg h9
              have cm := T'.p m (by omega)
              rw [← hpe] at cm
              have hvd := HM.out
              clear hlt hm hpe
              go_wp2_with (fail)
              go_quiet (fail)
              go_wp2_with (fail)
              go_quiet (fail)
              go_wp2_with (fail)
              refine (shl_calls b (v.sg s.neg) (pw m) Bc oc cc _ (hI.drewN _) (gv.sg _) (by omega) (by omega) (by show -100000 ≤ v.dp; omega) (by show v.dp ≤ 100000; omega) (hch.drewN _)).mono ?_
              rintro e w' ⟨rfl, h2, h3⟩
              go_wp2_with (fail)
              go_roundg gk
              case measure => omega
              case rel => exact ⟨v.lsh (pw m), _, rfl, h2, hlg', by have := hld.out; omega, by have := hld.out; omega, by omega, by omega, by omega, hE', (hK.drewN _).trans h3⟩
        · have hf : Hid ((v, x) = fl2 (R2 t) t e) := Lib.hid (by
            rw [← hE.out]
            cases gk with
            | zero => rfl
            | succ q => rw [fl2, if_neg hlt])
          have hge : 0 ≤ v.dp := by omega
          by_cases hz : v.dp = 0
          · have hd5 : 53 ≤ v.d 0 := by omega
            rw [hz] at cp
            clear hlt hz
            go_wp2_with (fail)
            go_meet
            exact ⟨v, x, rfl, hI, gv, hq1, hq2, hx1, by omega, hf, hK⟩
          · have hzb : (v.dp == 0) = false := by rw [beq_eq_false_iff_ne]; exact hz
            clear hlt hz
            go_wp2_with (fail)
            go_meet
            exact ⟨v, x, rfl, hI, gv, hq1, hq2, hx1, by omega, hf, hK⟩
    case rest =>
      obtain ⟨v, x, rfl, hI, gv, hq1, hq2, hx1, hx2, hE2, hK⟩ := hcut
      clear hI0 hK0
      have T' := T.keep hK hGb
      have t1 := T'.m
      have t2 := T'.e
      have t3 := T'.b
      have hres : Hid (fbRes s = if x - 1 < -1022 then fbEnd (Dc.rshN 9 (-1022 - (x - 1)).toNat v) (-1022) else fbEnd v (x - 1)) := Lib.hid (by
        unfold fbRes
        rw [if_neg (by omega), if_neg (by omega), if_neg (by omega)]
        dsimp only
        rw [← hE1.out, ← hE2.out])
      go_upto_if 111 with (fail)
      go_cut [6] (fun s6 wx => ∃ (u : Dc) (y : Int), s6 = .int .i64 y ∧ IsDc wx b (u.sg s.neg) ∧ Good u ∧ -1000 ≤ u.dp ∧ u.dp ≤ 19 ∧ -1022 ≤ y ∧ y ≤ 1280 ∧ Hid (fbRes s = fbEnd u y) ∧ Keep (At1 b) w wx)
      case first =>
        by_cases hlow : x - 1 < -1022
        · obtain ⟨n, hn⟩ : ∃ n : Nat, -1022 - (x - 1) = (n : Int) := ⟨(-1022 - (x - 1)).toNat, by omega⟩
          have hn1 : 1 ≤ n := by omega
          have hn2 : n ≤ 600 := by omega
          have hres' : Hid (fbRes s = fbEnd (Dc.rshN 9 n v) (-1022)) := Lib.hid (by rw [hres.out, if_pos hlow, hn]; rfl)
          have hsh := Lib.hid (shr_calls b (v.sg s.neg) n wc hI (gv.sg _) hn1 hn2 (by show -50000 ≤ v.dp; omega) (by show v.dp ≤ 100000; omega))
          have hgd := rshN_good 9 n v gv hn1 (by omega)
          have hdd := Lib.hid (rshN_dp 9 n v gv hn1 (by omega))
          have HN := Lib.hid hn
          have hxn : x - 1 + (n : Int) = -1022 := by omega
          have HXN := Lib.hid hxn
          clear hn hxn
          go_wp2_with (fail)
          rw [show -1022 - (x - 1) = (n : Int) from HN.out]
          refine hsh.out.mono ?_
          rintro e w' ⟨rfl, h2, h3⟩
          go_wp2_with (fail)
          go_meet
          exact ⟨_, _, by rw [HXN.out], by rw [rshN_sg] at h2; exact h2, hgd, by have := hdd.out; omega, by have := hdd.out; omega, by omega, by omega, hres', hK.trans h3⟩
        · have hres' : Hid (fbRes s = fbEnd v (x - 1)) := Lib.hid (by rw [hres.out, if_neg hlow])
          go_wp2_with (fail)
          go_meet
          exact ⟨v, x - 1, rfl, hI, gv, by omega, hq1, by omega, by omega, hres', hK⟩
      case rest =>
        clear hI hK T' t1 t2 t3
        obtain ⟨u, y, rfl, hI, gu, hu1, hu2, hy1, hy2, hres', hK⟩ := hcut
        have T' := T.keep hK hGb
        have t1 := T'.m
        have t2 := T'.e
        have t3 := T'.b
        have cn : wc.cell? ⟨b, 802, none⟩ = some (.bool s.neg) := hI.c_neg
        by_cases hov : 1024 ≤ y
        · have hr : Hid (fbRes s = (infB, true)) := Lib.hid (by rw [hres'.out]; unfold fbEnd; rw [if_pos hov])
          have hov' : (2047 : Int) ≤ y + 1023 := by omega
          go_wp2_with (fail)
          go_quiet (fail)
          go_wp2_with (fail)
          go_step3
          refine Or.inr ⟨rfl, ?_⟩
          go_wp2_with (fail)
          go_quiet (fail)
          go_wp2_with (fail)
          go_step3
          go_wp2_with (fail)
          go_quiet (fail)
          cases hneg : s.neg with
          | true =>
            rw [hneg] at cn
            go_wp2_with (fail)
            go_quiet (fail)
            go_wp2_with (fail)
            rw [Exit.noGoto_ret]
            go_ret2
            exact ⟨by rw [hr.out, hneg]; rfl, by repeat (first | exact hK | apply Keep.drewN)⟩
          | false =>
            rw [hneg] at cn
            go_wp2_with (fail)
            rw [Exit.noGoto_ret]
            go_ret2
            exact ⟨by rw [hr.out, hneg]; rfl, by repeat (first | exact hK | apply Keep.drewN)⟩
        · have hlt' : y + 1023 < 2047 := by omega
          have hsh := Lib.hid (fun m => shl53 b (u.sg s.neg) (wc.drewN m) (hI.drewN m) (gu.sg _) (by show -50000 ≤ u.dp; omega) (by show u.dp ≤ 100000; omega) ((T'.c 53 (by omega) (by omega)).drewN m))
          have hlg := lsh_good gu (k := 53) (by omega) (by omega)
          have hl19 := dl_le (s := u) (k := 53) (by omega) (by omega)
          have hld := hlg.2
          go_wp2_with (fail)
          go_quiet (fail)
          go_wp2_with (fail)
          refine (hsh.out _).mono ?_
          rintro e w' ⟨rfl, h2, h3⟩
          have T2 := (T'.drewN nq).keep h3 hGb
          have k1 := T2.m
          have k2 := T2.e
          have k3 := T2.b
          have kn : w'.cell? ⟨b, 802, none⟩ = some (.bool s.neg) := h2.c_neg
          go_wp2_with (fail)
          refine (rint_calls b ((u.lsh 53).sg s.neg) w' h2 (hlg.1.sg _) (by show -100000 ≤ (u.lsh 53).dp; omega) (by show (u.lsh 53).dp ≤ 100000; omega)).mono ?_
          rintro e wz ⟨rfl, mz, rfl⟩
          rw [rint_sg]
          have hMb := rint_bd (u.lsh 53)
          obtain ⟨M, hM⟩ : ∃ M, M = (u.lsh 53).rint := ⟨_, rfl⟩
          rw [← hM]
          rw [← hM] at hMb
          have HMM := Lib.hid hM
          clear hM hlg
          by_cases hMe : M = 9007199254740992
          · have l1 : Go.bits .and .u64 4503599627370496 4503599627370496 = 4503599627370496 := by decide
            have l2 : Go.bits .and .u64 4503599627370496 4503599627370495 = 0 := by decide
            by_cases hy : 1024 ≤ y + 1
            · have hr : Hid (fbRes s = (infB, true)) := Lib.hid (by rw [hres'.out]; unfold fbEnd; rw [if_neg (by omega), if_pos (by rw [← HMM.out]; exact hMe), if_pos hy])
              have hov' : (2047 : Int) ≤ y + 1 + 1023 := by omega
              subst hMe
              go_wp2_with (fail)
              go_quiet (fail)
              go_wp2_with (fail)
              go_step3
              refine Or.inr ⟨rfl, ?_⟩
              go_wp2_with (fail)
              go_quiet (fail)
              go_wp2_with (fail)
              go_step3
              go_wp2_with (fail)
              go_quiet (fail)
              cases hneg : s.neg with
              | true =>
                rw [hneg] at kn
                go_wp2_with (fail)
                go_quiet (fail)
                go_wp2_with (fail)
                rw [Exit.noGoto_ret]
                go_ret2
                exact ⟨by rw [hr.out, hneg]; rfl, by repeat (first | exact hK.trans (((Keep.refl _ _).drewN _).trans h3) | apply Keep.drewN)⟩
              | false =>
                rw [hneg] at kn
                go_wp2_with (fail)
                rw [Exit.noGoto_ret]
                go_ret2
                exact ⟨by rw [hr.out, hneg]; rfl, by repeat (first | exact hK.trans (((Keep.refl _ _).drewN _).trans h3) | apply Keep.drewN)⟩
            · have hr : Hid (fbRes s = (asmB 4503599627370496 (y + 1), false)) := Lib.hid (by rw [hres'.out]; unfold fbEnd; rw [if_neg (by omega), if_pos (by rw [← HMM.out]; exact hMe), if_neg hy])
              have hov' : y + 1 + 1023 < (2047 : Int) := by omega
              subst hMe
              go_wp2_with (fail)
              go_quiet (fail)
              go_wp2_with (fail)
              go_step3
              refine Or.inl ⟨rfl, ?_⟩
              go_wp2_with (fail)
              go_quiet (fail)
              cases hneg : s.neg with
              | true =>
                rw [hneg] at kn
                go_wp2_with (fail)
                go_quiet (fail)
                go_wp2_with (fail)
                rw [Exit.noGoto_ret]
                go_ret2
                refine ⟨fb_fin ?_ ?_, by repeat (first | exact hK.trans (((Keep.refl _ _).drewN _).trans h3) | apply Keep.drewN)⟩
                · rw [or52 (A := 0) (by omega) (by omega) (by omega) (by omega), or63 (by omega) (by omega), hr.out]
                  simp only [hneg, sgB, asmB, if_true]
                  omega
                · rw [hr.out]
              | false =>
                rw [hneg] at kn
                go_wp2_with (fail)
                rw [Exit.noGoto_ret]
                go_ret2
                refine ⟨fb_fin ?_ ?_, by repeat (first | exact hK.trans (((Keep.refl _ _).drewN _).trans h3) | apply Keep.drewN)⟩
                · rw [or52 (A := 0) (by omega) (by omega) (by omega) (by omega), hr.out]
                  simp only [hneg, sgB, asmB, Bool.false_eq_true, if_false]
                  omega
                · rw [hr.out]
          · have hMb' : (M == 9007199254740992) = false := by rw [beq_eq_false_iff_ne]; exact hMe
            obtain ⟨A, hA⟩ : ∃ A, A = M % 4503599627370496 := ⟨_, rfl⟩
            have hA1 : 0 ≤ A := by omega
            have hA2 : A < 4503599627370496 := by omega
            have hbA : Go.bits .and .u64 M 4503599627370495 = A := by rw [hA]; exact mask52 hMb
            have HA := Lib.hid hA
            by_cases h52 : Go.bits .and .u64 M 4503599627370496 = 0
            · have hr : Hid (fbRes s = (asmB M (-1023), false)) := Lib.hid (by rw [hres'.out]; unfold fbEnd; rw [if_neg (by omega), if_neg (by rw [← HMM.out]; exact hMe), if_pos (by rw [← HMM.out]; exact h52), ← HMM.out])
              have h52' : (Go.bits .and .u64 M 4503599627370496 == 0) = true := by rw [h52]; rfl
              have l3 : Go.bits .or .u64 A 0 = A := by
                have := or52 (A := A) (E := 0) hA1 hA2 (by omega) (by omega)
                rw [show IntKind.u64.wrap (IntKind.u64.wrap (Go.bits .and .i64 0 2047) * 4503599627370496) = 0 by decide] at this
                omega
              have l4 : Go.bits .and .i64 0 2047 = 0 := by decide
              clear hA hMe h52
              go_wp2_with (fail)
              go_step3
              refine Or.inl ⟨rfl, ?_⟩
              go_wp2_with (fail)
              go_quiet (fail)
              cases hneg : s.neg with
              | true =>
                rw [hneg] at kn
                go_wp2_with (fail)
                go_quiet (fail)
                go_wp2_with (fail)
                rw [Exit.noGoto_ret]
                go_ret2
                refine ⟨fb_fin ?_ ?_, by repeat (first | exact hK.trans (((Keep.refl _ _).drewN _).trans h3) | apply Keep.drewN)⟩
                · rw [or63 (by omega) (by omega), hr.out]
                  simp only [hneg, sgB, asmB, if_true]
                  have := HA.out; omega
                · rw [hr.out]
              | false =>
                rw [hneg] at kn
                go_wp2_with (fail)
                rw [Exit.noGoto_ret]
                go_ret2
                refine ⟨fb_fin ?_ ?_, by repeat (first | exact hK.trans (((Keep.refl _ _).drewN _).trans h3) | apply Keep.drewN)⟩
                · rw [hr.out]
                  simp only [hneg, sgB, asmB, Bool.false_eq_true, if_false]
                  have := HA.out; omega
                · rw [hr.out]
            · have hr : Hid (fbRes s = (asmB M y, false)) := Lib.hid (by rw [hres'.out]; unfold fbEnd; rw [if_neg (by omega), if_neg (by rw [← HMM.out]; exact hMe), if_neg (by rw [← HMM.out]; exact h52), ← HMM.out])
              have h52' : (Go.bits .and .u64 M 4503599627370496 == 0) = false := by rw [beq_eq_false_iff_ne]; exact h52
              clear hA hMe h52
              go_wp2_with (fail)
              go_step3
              refine Or.inl ⟨rfl, ?_⟩
              go_wp2_with (fail)
              go_quiet (fail)
              cases hneg : s.neg with
              | true =>
                rw [hneg] at kn
                go_wp2_with (fail)
                go_quiet (fail)
                go_wp2_with (fail)
                rw [Exit.noGoto_ret]
                go_ret2
                refine ⟨fb_fin ?_ ?_, by repeat (first | exact hK.trans (((Keep.refl _ _).drewN _).trans h3) | apply Keep.drewN)⟩
                · rw [or52 (by omega) (by omega) (by omega) (by omega), or63 (by omega) (by omega), hr.out]
                  simp only [hneg, sgB, asmB, if_true]
                  have := HA.out; omega
                · rw [hr.out]
              | false =>
                rw [hneg] at kn
                go_wp2_with (fail)
                rw [Exit.noGoto_ret]
                go_ret2
                refine ⟨fb_fin ?_ ?_, by repeat (first | exact hK.trans (((Keep.refl _ _).drewN _).trans h3) | apply Keep.drewN)⟩
                · rw [or52 (by omega) (by omega) (by omega) (by omega), hr.out]
                  simp only [hneg, sgB, asmB, Bool.false_eq_true, if_false]
                  have := HA.out; omega
                · rw [hr.out]
end Go.Proofs.YtlckfiflfkbofaaGreatDoor

/- floatBits of internal/strconv's decimal: every decimal. -/
namespace Go.Proofs.YtlckfiflfkbofaaGreatDoor
open Go.RowKit
set_option maxHeartbeats 1600000 in
set_option maxRecDepth 100000 in
theorem fb_zero (b : Nat) (s : Dc) (w : World) (h : IsDc w b s) (hz : s.nd = 0) {G Bp op cp Bc oc cc : Nat} (T : FbAt w G Bp op cp Bc oc cc) :
    Calls Tryz.prog 129 #[.pointer (some ⟨b, 0, none⟩), .pointer (some ⟨10, 0, none⟩)] w fun e w' => e = .returned (.tuple #[.int .u64 (sgB s.neg (fbRes s).1), .bool (fbRes s).2]) ∧ Keep (At1 b) w w' := by
  have c0 := h.c_nd
  have c2 := h.c_neg
  have t1 := T.m
  have t2 := T.e
  have t3 := T.b
  have hr : Hid (fbRes s = (0, false)) := Lib.hid (by unfold fbRes; rw [if_pos hz])
  rw [hz] at c0
  go_enter Tryz.func129, Tryz.ntmps129
  go_wp2_with (fail)
  refine wp_scope_two rfl rfl ?_
  go_wp2_with (fail)
  go_step3
  refine Or.inl ⟨rfl, ?_⟩
  go_wp2_with (fail)
  go_quiet (fail)
  cases hneg : s.neg with
  | true =>
    rw [hneg] at c2
    go_wp2_with (fail)
    go_quiet (fail)
    go_wp2_with (fail)
    rw [Exit.noGoto_ret]
    go_ret2
    exact ⟨by rw [hr.out, hneg]; rfl, by repeat (first | exact Keep.refl _ _ | apply Keep.drewN)⟩
  | false =>
    rw [hneg] at c2
    go_wp2_with (fail)
    rw [Exit.noGoto_ret]
    go_ret2
    exact ⟨by rw [hr.out, hneg]; rfl, by repeat (first | exact Keep.refl _ _ | apply Keep.drewN)⟩

set_option maxHeartbeats 1600000 in
set_option maxRecDepth 100000 in
theorem fb_low (b : Nat) (s : Dc) (w : World) (h : IsDc w b s) (g : Good s) (hd : s.dp < -330) {G Bp op cp Bc oc cc : Nat} (T : FbAt w G Bp op cp Bc oc cc) :
    Calls Tryz.prog 129 #[.pointer (some ⟨b, 0, none⟩), .pointer (some ⟨10, 0, none⟩)] w fun e w' => e = .returned (.tuple #[.int .u64 (sgB s.neg (fbRes s).1), .bool (fbRes s).2]) ∧ Keep (At1 b) w w' := by
  have c0 := h.c_nd
  have c1 := h.c_dp
  have c2 := h.c_neg
  have t1 := T.m
  have t2 := T.e
  have t3 := T.b
  have n1 := g.n1
  have hnz : ((s.nd : Int) == 0) = false := by rw [beq_eq_false_iff_ne]; omega
  have hr : Hid (fbRes s = (0, false)) := Lib.hid (by unfold fbRes; rw [if_neg (by omega), if_neg (by omega), if_pos hd])
  go_enter Tryz.func129, Tryz.ntmps129
  go_wp2_with (fail)
  refine wp_scope_two rfl rfl ?_
  go_wp2_with (fail)
  go_step3
  refine Or.inl ⟨rfl, ?_⟩
  go_wp2_with (fail)
  go_quiet (fail)
  cases hneg : s.neg with
  | true =>
    rw [hneg] at c2
    go_wp2_with (fail)
    go_quiet (fail)
    go_wp2_with (fail)
    rw [Exit.noGoto_ret]
    go_ret2
    exact ⟨by rw [hr.out, hneg]; rfl, by repeat (first | exact Keep.refl _ _ | apply Keep.drewN)⟩
  | false =>
    rw [hneg] at c2
    go_wp2_with (fail)
    rw [Exit.noGoto_ret]
    go_ret2
    exact ⟨by rw [hr.out, hneg]; rfl, by repeat (first | exact Keep.refl _ _ | apply Keep.drewN)⟩

set_option maxHeartbeats 1600000 in
set_option maxRecDepth 100000 in
theorem fb_high (b : Nat) (s : Dc) (w : World) (h : IsDc w b s) (g : Good s) (hd : 310 < s.dp) {G Bp op cp Bc oc cc : Nat} (T : FbAt w G Bp op cp Bc oc cc) :
    Calls Tryz.prog 129 #[.pointer (some ⟨b, 0, none⟩), .pointer (some ⟨10, 0, none⟩)] w fun e w' => e = .returned (.tuple #[.int .u64 (sgB s.neg (fbRes s).1), .bool (fbRes s).2]) ∧ Keep (At1 b) w w' := by
  have c0 := h.c_nd
  have c1 := h.c_dp
  have c2 := h.c_neg
  have t1 := T.m
  have t2 := T.e
  have t3 := T.b
  have n1 := g.n1
  have hnz : ((s.nd : Int) == 0) = false := by rw [beq_eq_false_iff_ne]; omega
  have hr : Hid (fbRes s = (infB, true)) := Lib.hid (by unfold fbRes; rw [if_neg (by omega), if_pos hd])
  go_enter Tryz.func129, Tryz.ntmps129
  go_wp2_with (fail)
  refine wp_scope_two rfl rfl ?_
  go_wp2_with (fail)
  go_step3
  refine Or.inr ⟨rfl, ?_⟩
  go_wp2_with (fail)
  go_quiet (fail)
  go_wp2_with (fail)
  go_step3
  go_wp2_with (fail)
  go_quiet (fail)
  cases hneg : s.neg with
  | true =>
    rw [hneg] at c2
    go_wp2_with (fail)
    go_quiet (fail)
    go_wp2_with (fail)
    rw [Exit.noGoto_ret]
    go_ret2
    exact ⟨by rw [hr.out, hneg]; rfl, by repeat (first | exact Keep.refl _ _ | apply Keep.drewN)⟩
  | false =>
    rw [hneg] at c2
    go_wp2_with (fail)
    rw [Exit.noGoto_ret]
    go_ret2
    exact ⟨by rw [hr.out, hneg]; rfl, by repeat (first | exact Keep.refl _ _ | apply Keep.drewN)⟩

/-- floatBits: every decimal, 0 or as the code keeps it. -/
theorem fb_calls (b : Nat) (s : Dc) (w : World) (h : IsDc w b s) (g : s.nd = 0 ∨ Good s) {G Bp op cp Bc oc cc : Nat} (T : FbAt w G Bp op cp Bc oc cc) (hGb : G ≤ b) :
    Calls Tryz.prog 129 #[.pointer (some ⟨b, 0, none⟩), .pointer (some ⟨10, 0, none⟩)] w fun e w' => e = .returned (.tuple #[.int .u64 (sgB s.neg (fbRes s).1), .bool (fbRes s).2]) ∧ Keep (At1 b) w w' := by
  rcases g with g | g
  · exact fb_zero b s w h g T
  · by_cases h1 : s.dp < -330
    · exact fb_low b s w h g h1 T
    · by_cases h2 : 310 < s.dp
      · exact fb_high b s w h g h2 T
      · exact fb_main b s w h g (by omega) (by omega) T hGb
#print axioms fb_calls
end Go.Proofs.YtlckfiflfkbofaaGreatDoor
