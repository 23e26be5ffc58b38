/- (*decimal).set of internal/strconv: the walk at a decimal. Part 9 of 51 of the proof that FnMultiPointBody returns true for every text and every type of coordinates, where the listed variables hold what the text of the program lays. -/
import Derived.BigRegion
import Derived.Test.YtlckfiflfkbofaaGreatDoorM08
set_option linter.all false

/- (*decimal).set of internal/strconv: the walk at a decimal. -/
namespace Go.Proofs.YtlckfiflfkbofaaGreatDoor
open Go.RowKit

theorem IsDc.set_neg {w : World} {b : Nat} {s : Dc} (h : IsDc w b s) (x : Bool) : IsDc (w.setCell ⟨b, 802, none⟩ (.bool x)) b { s with neg := x } :=
  Cells.set h 802 _ fun i hi => by
    by_cases e : i = 802
    · subst e; rfl
    · have : i < 800 ∨ i = 800 ∨ i = 801 ∨ i = 803 := by omega
      rcases this with h | h | h | h
      · simp only [Dc.at, h, if_true, e, if_false]
      · subst h; rfl
      · subst h; rfl
      · subst h; rfl

set_option maxHeartbeats 3200000 in
set_option maxRecDepth 100000 in
theorem set_calls (b : Nat) (n : Num) (neg : Bool) (s : ByteArray) (w : World) (ok : n.Ok) (hs : s.data.toList = n.str neg) (hsz : s.size ≤ 3000) (hI : IsDc w b (Dc.zero false)) :
    Calls Tryz.prog 128 #[.pointer (some ⟨b, 0, none⟩), .string s] w fun e w' => e = .returned (.bool true) ∧ IsDc w' b (n.dc neg) ∧ Keep (At1 b) w w' := by
  have f800 := hI.fz 800 (by omega)
  have f801 := hI.fz 801 (by omega)
  have f802 := hI.fz 802 (by omega)
  have f803 := hI.fz 803 (by omega)
  have c802 := hI.c_neg
  have c803 := hI.c_tr
  obtain ⟨c0, m', hm⟩ : ∃ c0 m', n.m = c0 :: m' := by
    cases h : n.m with
    | nil => have := ok.dg; rw [h] at this; simp [anyDg] at this
    | cons a r => exact ⟨a, r, rfl⟩
  have hd0 : s.data.toList.drop 0 = n.str neg := by rw [List.drop_zero]; exact hs
  obtain ⟨p, hp⟩ : ∃ p : Nat, p = if neg then 1 else 0 := ⟨_, rfl⟩
  have hdp : s.data.toList.drop p = n.l := by rw [hs, hp]; cases neg <;> rfl
  have hc0 := okM_cons (hm ▸ ok.m)
  have hd1 : s.data.toList.drop p = c0 :: (m' ++ n.xs) := by rw [hdp]; unfold Num.l; rw [hm]; rfl
  obtain ⟨hpl, hsp, hd2⟩ := at_of_drop hd1
  have hpos : 0 < s.size := by omega
  have hne : ¬ s = ByteArray.empty := by intro h; rw [h] at hpos; simp at hpos
  have hcb : c0.toNat = 46 ∨ (48 ≤ c0.toNat ∧ c0.toNat ≤ 57) := by
    rcases hc0 with h | h
    · exact .inl h.1
    · exact .inr (by simpa [isDg] using h.2.1)
  have HS := Lib.hid hs
  have HP := Lib.hid hp
  have HDP := Lib.hid hdp
  have HSP := Lib.hid hsp
  have hp1 : p ≤ 1 := by rw [hp]; cases neg <;> decide
  have HI := Lib.hid hI
  clear hs hm hp hdp hsp hd0 hd1 hd2 hc0 hI
  go_enter Tryz.func128, Tryz.ntmps128
  go_upto_block 0 with (fail)
  go_cut [5] (fun s5 wx => s5 = .int .i64 (p : Int) ∧ IsDc wx b (Dc.zero neg) ∧ Keep (At1 b) w wx)
  case first =>
    as_aux_lemma =>
    --<
    cases neg with
    | true =>
      have h0 : s[0].toNat = 45 := by
        have : s.data.toList.drop 0 = 45 :: n.l := by rw [List.drop_zero]; exact HS.out
        obtain ⟨_, h, _⟩ := at_of_drop this
        rw [h]; rfl
      have b1 := bne_of (a := s[0].toNat) (b := 43) (by omega)
      have b2 := beq_of (a := s[0].toNat) (b := 45) (by omega)
      clear h0
      go_wp2_with (fail)
      go_meet
      exact ⟨int_eq (by rw [HP.out]; rfl), by
        have := ((HI.out.set_neg false).set_tr false).set_neg true
        exact this, (((Keep.refl (At1 b) w).setCell (p := ⟨b, 802, none⟩) (.inr rfl) _).setCell (p := ⟨b, 803, none⟩) (.inr rfl) _).setCell (p := ⟨b, 802, none⟩) (.inr rfl) _⟩
    | false =>
      have hp0 : p = 0 := HP.out
      subst hp0
      have b1 := bne_of (a := s[0].toNat) (b := 43) (by rw [HSP.out]; omega)
      have b2 := bne_of (a := s[0].toNat) (b := 45) (by rw [HSP.out]; omega)
      go_wp2_with (fail)
      go_meet
      exact ⟨rfl, by
        have := (HI.out.set_neg false).set_tr false
        exact this, ((Keep.refl (At1 b) w).setCell (p := ⟨b, 802, none⟩) (.inr rfl) _).setCell (p := ⟨b, 803, none⟩) (.inr rfl) _⟩
    -->
  case rest =>
    as_aux_lemma =>
    obtain ⟨rfl, hI, hK⟩ := hcut
    clear HI f800 f801 f802 f803 c802 c803
    obtain ⟨D, hD⟩ : ∃ D : Ds, D = Ds.of neg n.m := ⟨_, rfl⟩
    have HD := Lib.hid hD
    have hms : p + n.m.length ≤ s.size := by
      have := size_of_drop HDP.out (by omega)
      unfold Num.l at this
      rw [List.length_append] at this; omega
    clear hD
    go_upto_block 1 with (fail)
    go_cut [5, 6, 7] from 34 to 116 (fun s5 s6 s7 wx => s5 = .int .i64 ((p + n.m.length : Nat) : Int) ∧ s6 = .bool D.dot ∧ s7 = .bool true ∧ D.Bd 3000 ∧ IsDc wx b D.s ∧ Keep (At1 b) w wx)
    case first =>
      as_aux_lemma =>
      --<
      go_wp2_with (fail)
      go_loopg [5, 6, 7] n.m.length (fun kq s5 s6 s7 wx => ∃ (i : Nat) (pr re : List UInt8) (r : Ds), Hid (n.m = pr ++ re) ∧ Hid (r = Ds.of neg pr) ∧ Hid (i = p + pr.length) ∧ Hid (kq = re.length) ∧
          i ≤ 3000 ∧ i ≤ s.size ∧ Hid (s.data.toList.drop i = re ++ n.xs) ∧ Hid (okM re r.dot = true) ∧ Hid ((r.dig || anyDg re) = true) ∧ r.Bd i ∧
          s5 = .int .i64 (i : Int) ∧ s6 = .bool r.dot ∧ s7 = .bool r.dig ∧ IsDc wx b r.s ∧ Keep (At1 b) w wx)
      case atStart =>
        exact ⟨p, [], n.m, { s := Dc.zero neg }, Lib.hid rfl, Lib.hid rfl, Lib.hid rfl, Lib.hid rfl, by omega, by omega, Lib.hid HDP.out, Lib.hid ok.m, Lib.hid (by rw [ok.dg]; simp),
          ⟨Nat.zero_le _, Nat.zero_le _, fun i hi => absurd hi (Nat.not_lt_zero _), fun h => absurd h (show ¬ 1 ≤ 0 by decide), by show -(p : Int) ≤ 0; omega, by show (0 : Int) ≤ p; omega⟩, rfl, rfl, rfl, hI, hK⟩
      case round =>
        obtain ⟨i, pr, re, r, hsp, hr, hi, hk, hi3, his, hdr, hok, hdg, hbd, rfl, rfl, rfl, hI, hK⟩ := hrel
        have n1 := hbd.nd
        have n8 := hbd.n8
        have n4 := hbd.lo
        have n5 := hbd.hi
        have c800 := hI.c_nd
        have c801 := hI.c_dp
        have c803 := hI.c_tr
        have f800 := hI.fz 800 (by omega)
        have f801 := hI.fz 801 (by omega)
        have f803 := hI.fz 803 (by omega)
        cases re with
        | nil =>
          have hrr : Hid (r = D) := Lib.hid (by rw [hr.out, HD.out, hsp.out, List.append_nil])
          have hpl2 : Hid (pr = n.m) := Lib.hid (by rw [hsp.out, List.append_nil])
          have hdig : Hid (r.dig = true) := Lib.hid (by have := hdg.out; simpa [anyDg] using this)
          cases hx : n.xs with
          | nil =>
            have hsz2 : ¬ (i : Int) < s.size := by
              have h := size_of_drop hdr.out his
              rw [hx] at h
              simp at h; omega
            go_wp2_with (fail)
            go_meet
            refine ⟨int_eq (by rw [hi.out, hpl2.out]), by rw [hrr.out], by rw [hdig.out], ?_, hrr.out ▸ hI, hK⟩
            rw [← hrr.out]; exact ⟨by omega, n8, hbd.dig, hbd.top, by omega, by omega⟩
          | cons e xr =>
            obtain ⟨hlt, hse, _⟩ := at_of_drop (hdr.out.trans (by rw [hx, List.nil_append]))
            have hee : e.toNat = 101 ∨ e.toNat = 69 := by
              unfold Num.xs at hx
              split at hx
              · cases hx
              · rename_i e' g d hx'
                cases hx
                rcases (ok.x e g d hx').1 with rfl | rfl
                · exact .inl rfl
                · exact .inr rfl
            have hlt' : (i : Int) < s.size := by omega
            have b1 := bne_of (a := s[i].toNat) (b := 95) (by rw [hse]; omega)
            have b2 := bne_of (a := s[i].toNat) (b := 46) (by rw [hse]; omega)
            have b3 : decide ((s[i].toNat : Int) ≤ 57) = false := decide_eq_false (by rw [hse]; omega)
            have b4 : ¬ ((s[i].toNat : Int) ≤ 57) := by rw [hse]; omega
            have b5 : (48 : Int) ≤ (s[i].toNat : Int) := by rw [hse]; omega
            clear hse hee hx
            go_wp2_with (fail)
            go_meet
            refine ⟨int_eq (by rw [hi.out, hpl2.out]), by rw [hrr.out], by rw [hdig.out], ?_, hrr.out ▸ hI, hK⟩
            rw [← hrr.out]; exact ⟨by omega, n8, hbd.dig, hbd.top, by omega, by omega⟩
        | cons c re =>
          obtain ⟨hlt, hse, hnx⟩ := at_of_drop (hdr.out.trans (List.cons_append ..))
          replace hnx := Lib.hid hnx
          have hlt' : (i : Int) < s.size := by omega
          have hc46 : c.toNat = 46 ∨ isDg c = true := by
            rcases okM_cons hok.out with h | h
            · exact .inl h.1
            · exact .inr h.2.1
          have hbd2 := hbd.step hc46
          have hok2 : Hid (okM re (r.step c).dot = true) := Lib.hid (by
            rw [Ds.step_dot]
            rcases okM_cons hok.out with h | h
            · rw [if_pos h.1]; exact h.2.2
            · rw [if_neg h.1]; exact h.2.2)
          have hdg2 : Hid (((r.step c).dig || anyDg re) = true) := Lib.hid (by
            rw [Ds.step_dig]
            have h0 := hdg.out
            rcases okM_cons hok.out with h | h
            · rw [if_pos h.1]
              have : isDg c = false := by unfold isDg; rw [h.1]; decide
              unfold anyDg at h0 ⊢
              rw [List.any_cons, this, Bool.false_or] at h0
              exact h0
            · rw [if_neg h.1]; simp)
          have hb46 : c.toNat = 46 → r.dot = false := by
            intro h
            rcases okM_cons hok.out with h' | h'
            · exact h'.2.1
            · exact absurd h h'.1
          have hrng : c.toNat = 46 ∨ (c.toNat ≠ 46 ∧ 48 ≤ c.toNat ∧ c.toNat ≤ 57) := by
            rcases hc46 with h | h
            · exact .inl h
            · have : 48 ≤ c.toNat ∧ c.toNat ≤ 57 := by simpa [isDg] using h
              exact .inr ⟨by omega, this⟩
          replace hse : s[i].toNat = c.toNat := by rw [hse]
          clear hc46
          have b1 := bne_of (a := s[i].toNat) (b := 95) (by omega)
          have b1' : ((95 : Int) == (s[i].toNat : Int)) = false := by rw [beq_eq_false_iff_ne]; omega
          obtain ⟨v, hv⟩ : ∃ v, v = s[i].toNat := ⟨_, rfl⟩
          rcases hrng with h46 | ⟨hn46, hlo, hhi⟩
          · as_aux_lemma =>
            have hst : Hid (r.step c = { r with dot := true, s := { r.s with dp := r.s.nd } }) := Lib.hid (by unfold Ds.step; rw [if_pos h46])
            have hdot : r.dot = false := hb46 h46
            have b2 := beq_of (a := s[i].toNat) (b := 46) (by omega)
            clear hse h46 hb46 hbd hv
            rw [hdot]
            go_wp2_with (fail)
            go_roundg re.length
            case measure => have := hk.out; rw [List.length_cons] at this; omega
            case rel =>
              refine ⟨i + 1, pr ++ [c], re, r.step c, Lib.hid (by rw [List.append_assoc]; exact hsp.out), Lib.hid (by rw [Ds.of_snoc, ← hr.out]), Lib.hid (by rw [List.length_append, hi.out]; rfl), Lib.hid rfl, by omega, by omega, hnx, hok2, hdg2, hbd2, int_eq (by omega), by rw [hst.out], by rw [hst.out], ?_, ?_⟩
              · rw [hst.out]
                exact hI.set_dp _
              · exact hK.setCell (p := ⟨b, 801, none⟩) (.inr rfl) _
          · have b2 := bne_of (a := s[i].toNat) (b := 46) (by omega)
            have b3 : ((s[i].toNat : Int) ≤ 57) := by omega
            have b5 : (48 : Int) ≤ (s[i].toNat : Int) := by omega
            by_cases hz : c.toNat = 48 ∧ r.s.nd = 0
            · as_aux_lemma =>
              have hst : Hid (r.step c = { r with dig := true, s := { r.s with dp := r.s.dp - 1 } }) := Lib.hid (by unfold Ds.step; rw [if_neg hn46, if_pos hz])
              have b6 := beq_of (a := s[i].toNat) (b := 48) (by omega)
              have b7 := beq_of (a := r.s.nd) (b := 0) (by omega)
              clear hse hb46 hbd hv hz
              go_wp2_with (fail)
              go_roundg re.length
              case measure => have := hk.out; rw [List.length_cons] at this; omega
              case rel =>
                refine ⟨i + 1, pr ++ [c], re, r.step c, Lib.hid (by rw [List.append_assoc]; exact hsp.out), Lib.hid (by rw [Ds.of_snoc, ← hr.out]), Lib.hid (by rw [List.length_append, hi.out]; rfl), Lib.hid rfl, by omega, by omega, hnx, hok2, hdg2, hbd2, int_eq (by omega), by rw [hst.out], by rw [hst.out], ?_, ?_⟩
                · rw [hst.out]
                  exact hI.set_dp _
                · exact hK.setCell (p := ⟨b, 801, none⟩) (.inr rfl) _
            · by_cases hm : r.s.nd < 800
              · as_aux_lemma =>
                have hst : Hid (r.step c = { r with dig := true, s := { r.s with d := fun i => if i = r.s.nd then (c.toNat : Int) else r.s.d i, nd := r.s.nd + 1 } }) := Lib.hid (by unfold Ds.step; rw [if_neg hn46, if_neg hz, if_pos hm])
                have hmi : (r.s.nd : Int) < 800 := by omega
                have cd := hI.c_d hm
                have fd := hI.fz r.s.nd (by omega)
                have HSE := Lib.hid hse
                by_cases h48 : c.toNat = 48
                · have b6 := beq_of (a := s[i].toNat) (b := 48) (by omega)
                  have b7 := bne_of (a := r.s.nd) (b := 0) (by have : ¬ r.s.nd = 0 := fun h => hz ⟨h48, h⟩; omega)
                  clear hse hb46 hbd hv hz
                  go_wp2_with (fail)
                  go_region
                  go_wp2_with (fail)
                  go_roundg re.length
                  case measure => have := hk.out; rw [List.length_cons] at this; omega
                  case rel =>
                    refine ⟨i + 1, pr ++ [c], re, r.step c, Lib.hid (by rw [List.append_assoc]; exact hsp.out), Lib.hid (by rw [Ds.of_snoc, ← hr.out]), Lib.hid (by rw [List.length_append, hi.out]; rfl), Lib.hid rfl, by omega, by omega, hnx, hok2, hdg2, hbd2, int_eq (by omega), by rw [hst.out], by rw [hst.out], ?_, ?_⟩
                    · rw [hst.out]
                      have := ((hI.set_d (k := r.s.nd) (by omega) (c.toNat : Int)).set_nd (r.s.nd + 1))
                      rw [HSE.out]
                      exact this.drew
                    · exact ((hK.setCell (p := ⟨b, r.s.nd, none⟩) (.inr rfl) _).setCell (p := ⟨b, 800, none⟩) (.inr rfl) _).drew
                · have b6 := bne_of (a := s[i].toNat) (b := 48) (by omega)
                  clear hse hb46 hbd hv hz
                  go_wp2_with (fail)
                  go_region
                  go_wp2_with (fail)
                  go_roundg re.length
                  case measure => have := hk.out; rw [List.length_cons] at this; omega
                  case rel =>
                    refine ⟨i + 1, pr ++ [c], re, r.step c, Lib.hid (by rw [List.append_assoc]; exact hsp.out), Lib.hid (by rw [Ds.of_snoc, ← hr.out]), Lib.hid (by rw [List.length_append, hi.out]; rfl), Lib.hid rfl, by omega, by omega, hnx, hok2, hdg2, hbd2, int_eq (by omega), by rw [hst.out], by rw [hst.out], ?_, ?_⟩
                    · rw [hst.out]
                      have := ((hI.set_d (k := r.s.nd) (by omega) (c.toNat : Int)).set_nd (r.s.nd + 1))
                      rw [HSE.out]
                      exact this.drew
                    · exact ((hK.setCell (p := ⟨b, r.s.nd, none⟩) (.inr rfl) _).setCell (p := ⟨b, 800, none⟩) (.inr rfl) _).drew
              · as_aux_lemma =>
                have hst : Hid (r.step c = { r with dig := true, s := { r.s with tr := r.s.tr || decide (c.toNat ≠ 48) } }) := Lib.hid (by unfold Ds.step; rw [if_neg hn46, if_neg hz, if_neg hm])
                have hmi : decide ((r.s.nd : Int) < 800) = false := decide_eq_false (by omega)
                by_cases h48 : c.toNat = 48
                · have b6 := beq_of (a := s[i].toNat) (b := 48) (by omega)
                  have b7 := bne_of (a := r.s.nd) (b := 0) (by have : ¬ r.s.nd = 0 := fun h => hz ⟨h48, h⟩; omega)
                  clear hse hb46 hbd hv hz
                  go_wp2_with (fail)
                  go_roundg re.length
                  case measure => have := hk.out; rw [List.length_cons] at this; omega
                  case rel =>
                    refine ⟨i + 1, pr ++ [c], re, r.step c, Lib.hid (by rw [List.append_assoc]; exact hsp.out), Lib.hid (by rw [Ds.of_snoc, ← hr.out]), Lib.hid (by rw [List.length_append, hi.out]; rfl), Lib.hid rfl, by omega, by omega, hnx, hok2, hdg2, hbd2, int_eq (by omega), by rw [hst.out], by rw [hst.out], ?_, ?_⟩
                    · rw [hst.out]
                      simpa [h48] using hI
                    · exact hK
                · have b6 := bne_of (a := s[i].toNat) (b := 48) (by omega)
                  clear hse hb46 hbd hv hz
                  go_wp2_with (fail)
                  go_roundg re.length
                  case measure => have := hk.out; rw [List.length_cons] at this; omega
                  case rel =>
                    refine ⟨i + 1, pr ++ [c], re, r.step c, Lib.hid (by rw [List.append_assoc]; exact hsp.out), Lib.hid (by rw [Ds.of_snoc, ← hr.out]), Lib.hid (by rw [List.length_append, hi.out]; rfl), Lib.hid rfl, by omega, by omega, hnx, hok2, hdg2, hbd2, int_eq (by omega), by rw [hst.out], by rw [hst.out], ?_, ?_⟩
                    · rw [hst.out]
                      rw [decide_eq_true h48, Bool.or_true]; exact hI.set_tr true
                    · exact hK.setCell (p := ⟨b, 803, none⟩) (.inr rfl) _
      -->
    case rest =>
      as_aux_lemma =>
      obtain ⟨rfl, rfl, rfl, hbd, hI, hK⟩ := hcut
      have n1 := hbd.nd
      have n4 := hbd.lo
      have n5 := hbd.hi
      obtain ⟨T, hT⟩ : ∃ T : Dc, T = { D.s with dp := if D.dot then D.s.dp else (D.s.nd : Int) } := ⟨_, rfl⟩
      have hTb : -3000 ≤ T.dp ∧ T.dp ≤ 3000 := by rw [hT]; dsimp only; split <;> omega
      have HT := Lib.hid hT
      have HI := Lib.hid hI
      have HK := Lib.hid hK
      have c800 := hI.c_nd
      have c801 := hI.c_dp
      have f801 := hI.fz 801 (by omega)
      clear hbd hT hI hK
      go_upto_if 120 with (fail)
      go_cut [6] (fun s6 wx => s6 = .bool D.dot ∧ IsDc wx b T ∧ Keep (At1 b) w wx)
      case first =>
        as_aux_lemma =>
        cases hdot : D.dot with
        | true =>
          go_wp2_with (fail)
          go_meet
          exact ⟨by rw [hdot], by rw [HT.out, hdot]; exact HI.out, HK.out⟩
        | false =>
          go_wp2_with (fail)
          go_meet
          exact ⟨by rw [hdot], by rw [HT.out, hdot]; exact HI.out.set_dp _, HK.out.setCell (p := ⟨b, 801, none⟩) (.inr rfl) _⟩
      case rest =>
        as_aux_lemma =>
        obtain ⟨rfl, hI, hK⟩ := hcut
        clear c800 c801 f801 HI HK
        have c801 := hI.c_dp
        have f801 := hI.fz 801 (by omega)
        obtain ⟨i, hi⟩ : ∃ i, i = p + n.m.length := ⟨_, rfl⟩
        rw [← hi] at hms ⊢
        have hdx : Hid (s.data.toList.drop i = n.xs) := Lib.hid (by
          rw [hi, ← List.drop_drop, HDP.out]
          unfold Num.l
          rw [List.drop_left])
        have HI := Lib.hid hi
        clear hi
        cases hx : n.x with
        | none =>
          as_aux_lemma =>
          have hsz2 : (i : Int) = s.size := by
            have h := size_of_drop hdx.out hms
            unfold Num.xs at h
            rw [hx] at h
            simp at h; omega
          have hdc : Hid (n.dc neg = T) := Lib.hid (by
            unfold Num.dc Num.ex
            rw [hx, HT.out, HD.out, Int.add_zero])
          rw [hsz2]
          have hz9 : decide ((s.size : Int) < s.size) = false := decide_eq_false (by omega)
          go_wp2_with (fail)
          go_ret
          exact ⟨rfl, hdc.out ▸ hI, hK⟩
        | some t =>
          as_aux_lemma =>
          obtain ⟨e, g, d⟩ := t
          obtain ⟨he, hg, hdne, hdd⟩ := ok.x e g d hx
          have hxs : n.xs = e :: (g ++ d) := by unfold Num.xs; rw [hx]
          obtain ⟨hlt, hse, hnx⟩ := at_of_drop (hdx.out.trans hxs)
          obtain ⟨d0, d', hd0⟩ : ∃ a b, d = a :: b := by
            cases d with
            | nil => exact absurd rfl hdne
            | cons a r => exact ⟨a, r, rfl⟩
          have hlen := size_of_drop hnx (by omega)
          rw [List.length_append, hd0, List.length_cons] at hlen
          have hgl : g.length ≤ 1 := by
            unfold isSg at hg
            simp only [Bool.or_eq_true, beq_iff_eq] at hg
            rcases hg with (rfl | rfl) | rfl <;> decide
          have hdd0 : isDg d0 = true := by rw [hd0] at hdd; exact (Bool.and_eq_true _ _ ▸ (List.all_cons ▸ hdd)).1
          have hd0r : 48 ≤ d0.toNat ∧ d0.toNat ≤ 57 := by simpa [isDg] using hdd0
          obtain ⟨j, hj⟩ : ∃ j, j = i + 1 + g.length := ⟨_, rfl⟩
          have hdj : s.data.toList.drop j = d0 :: d' := by
            rw [hj, ← List.drop_drop, hnx, List.drop_left, hd0]
          obtain ⟨hltj, hsj, _⟩ := at_of_drop hdj
          have HSE := Lib.hid hse
          have HNX := Lib.hid hnx
          have HJ := Lib.hid hj
          have HG := Lib.hid hg
          have HDJ := Lib.hid hdj
          have hL := low_e (c := s[i].toNat) (UInt8.toNat_lt _) (by
            rw [hse]
            rcases he with rfl | rfl
            · exact .inl rfl
            · exact .inr rfl)
          have hsjr : 48 ≤ s[j].toNat ∧ s[j].toNat ≤ 57 := by rw [hsj]; exact hd0r
          have hdc : Hid (n.dc neg = { T with dp := T.dp + expOf d * sgOf g }) := Lib.hid (by
            unfold Num.dc Num.ex
            rw [hx, HT.out, HD.out])
          have hlt' : (i : Int) < s.size := by omega
          have hi1 : ¬ ((i : Int) + 1 ≥ s.size) := by omega
          have hi1' : i + 1 < s.size := by omega
          have HD0 := Lib.hid hd0
          have HDDD := Lib.hid hdd
          clear hse hnx hj hg hdj hsj hd0r hdd0 hd0 hdne hxs he hdd hx
          go_upto_block 4 with (go_at_call 138; refine (lower_calls _ _).mono ?_; rintro e w' ⟨rfl, rfl⟩; rw [hL])
          go_cut [5, 8] (fun s5 s8 wx => s5 = .int .i64 (j : Int) ∧ s8 = .int .i64 (sgOf g) ∧ wc = wx)
          case first =>
            as_aux_lemma =>
            have hg := HG.out
            unfold isSg at hg
            simp only [Bool.or_eq_true, beq_iff_eq] at hg
            rcases hg with (hg | hg) | hg
            · have hj1 : j = i + 1 := by rw [HJ.out, hg]; rfl
              subst hj1
              have b1 := bne_of (a := s[i + 1].toNat) (b := 43) (by omega)
              have b2 := bne_of (a := s[i + 1].toNat) (b := 45) (by omega)
              have hsg : sgOf g = 1 := by rw [hg]; rfl
              have HSG := Lib.hid hsg
              clear hsg hg
              go_wp2_with (fail)
              go_meet
              exact ⟨int_eq (by omega), by rw [HSG.out], rfl⟩
            · have hj1 : j = i + 2 := by rw [HJ.out, hg]; rfl
              have hnx := HNX.out
              rw [hg, List.cons_append] at hnx
              obtain ⟨_, hs1, _⟩ := at_of_drop hnx
              have b1 := beq_of (a := s[i + 1].toNat) (b := 43) (by rw [hs1]; rfl)
              have hsg : sgOf g = 1 := by rw [hg]; rfl
              have HSG := Lib.hid hsg
              clear hsg hg hs1 hnx
              go_wp2_with (fail)
              go_meet
              exact ⟨int_eq (by omega), by rw [HSG.out], rfl⟩
            · have hj1 : j = i + 2 := by rw [HJ.out, hg]; rfl
              have hnx := HNX.out
              rw [hg, List.cons_append] at hnx
              obtain ⟨_, hs1, _⟩ := at_of_drop hnx
              have b1 := bne_of (a := s[i + 1].toNat) (b := 43) (by rw [hs1]; decide)
              have b2 := beq_of (a := s[i + 1].toNat) (b := 45) (by rw [hs1]; rfl)
              have hsg : sgOf g = -1 := by rw [hg]; rfl
              have HSG := Lib.hid hsg
              clear hsg hg hs1 hnx
              go_wp2_with (fail)
              go_meet
              exact ⟨int_eq (by omega), by rw [HSG.out], rfl⟩
          case rest =>
            as_aux_lemma =>
            obtain ⟨rfl, rfl, rfl⟩ := hcut
            have hltj' : (j : Int) < s.size := by omega
            have hj0 : ((j : Int) ≥ s.size) = False := eq_false (by omega)
            have hj48 : ((s[j].toNat : Int) < 48) = False := eq_false (by omega)
            have hj57 : ((s[j].toNat : Int) > 57) = False := eq_false (by omega)
            go_upto_block 5 with (fail)
            go_cut [5, 9] from 172 to 209 (fun s5 s9 wx => s5 = .int .i64 (s.size : Int) ∧ s9 = .int .i64 (expOf d) ∧ 0 ≤ expOf d ∧ expOf d ≤ 100000 ∧ wc = wx)
            case first =>
              as_aux_lemma =>
              --
              go_wp2_with (fail)
              go_loopg [5, 9] d.length (fun kq s5 s9 wx => ∃ (k : Nat) (pr re : List UInt8), Hid (d = pr ++ re) ∧ Hid (k = j + pr.length) ∧ Hid (kq = re.length) ∧ k ≤ 3000 ∧ k ≤ s.size ∧
                Hid (s.data.toList.drop k = re) ∧ Hid (re.all isDg = true) ∧ 0 ≤ expOf pr ∧ expOf pr ≤ 100000 ∧ s5 = .int .i64 (k : Int) ∧ s9 = .int .i64 (expOf pr) ∧ wc = wx)
              case atStart =>
                exact ⟨j, [], d, Lib.hid rfl, Lib.hid rfl, Lib.hid rfl, by omega, by omega, Lib.hid (by rw [HDJ.out, HD0.out]), HDDD, by decide, by decide, rfl, rfl, rfl⟩
              case round =>
                obtain ⟨k, pr, re, hsp2, hkk, hkq, hk3, hks, hdr, hal, he0, he1, rfl, rfl, rfl⟩ := hrel
                cases re with
                | nil =>
                  have hsz2 : (k : Int) = s.size := by
                    have h := size_of_drop hdr.out hks
                    simp at h; omega
                  have hpd : pr = d := by rw [hsp2.out, List.append_nil]
                  subst hpd
                  rw [hsz2]
                  have hz9 : decide ((s.size : Int) < s.size) = false := decide_eq_false (by omega)
                  go_wp2_with (fail)
                  go_meet
                  exact ⟨rfl, rfl, he0, he1, rfl⟩
                | cons c re =>
                  obtain ⟨hltk, hsk, hnk⟩ := at_of_drop hdr.out
                  replace hnk := Lib.hid hnk
                  have hdc : isDg c = true := (Bool.and_eq_true _ _ ▸ (List.all_cons ▸ hal.out)).1
                  have hal2 : re.all isDg = true := (Bool.and_eq_true _ _ ▸ (List.all_cons ▸ hal.out)).2
                  have hbd := expStep_bd ⟨he0, he1⟩ hdc
                  have hdr2 : 48 ≤ c.toNat ∧ c.toNat ≤ 57 := by simpa [isDg] using hdc
                  have hltk' : (k : Int) < s.size := by omega
                  have h48 : 48 ≤ s[k].toNat ∧ s[k].toNat ≤ 57 := by rw [hsk]; exact hdr2
                  have h48a : (48 : Int) ≤ (s[k].toNat : Int) := by omega
                  have h57a : (s[k].toNat : Int) ≤ 57 := by omega
                  have b1 := bne_of (a := s[k].toNat) (b := 95) (by omega)
                  have hsn : s[k].toNat = c.toNat := by rw [hsk]
                  have hes : expOf (pr ++ [c]) = expStep (expOf pr) c := expOf_snoc pr c
                  have HAL := Lib.hid hal2
                  have HES := Lib.hid hes
                  obtain ⟨E, hE⟩ : ∃ E, E = expOf pr := ⟨_, rfl⟩
                  rw [← hE] at he0 he1 hbd ⊢
                  have HEE := Lib.hid hE
                  have HSN := Lib.hid hsn
                  have HBD := Lib.hid hbd
                  clear hal2 hes hE hsn hbd hdc hsk hdr2
                  by_cases h4 : E < 10000
                  · have hst : Hid (expStep E c = E * 10 + (c.toNat : Int) - 48) := Lib.hid (by unfold expStep; rw [if_pos h4])
                    go_wp2_with (fail)
                    go_roundg re.length
                    case measure => have := hkq.out; rw [List.length_cons] at this; omega
                    case rel =>
                      refine ⟨k + 1, pr ++ [c], re, Lib.hid (by rw [List.append_assoc]; exact hsp2.out), Lib.hid (by rw [List.length_append, hkk.out]; rfl), Lib.hid rfl, by omega, by omega, hnk, HAL, ?_, ?_, int_eq (by omega), int_eq ?_, rfl⟩
                      · rw [HES.out, ← HEE.out]; exact HBD.out.1
                      · rw [HES.out, ← HEE.out]; exact HBD.out.2
                      · rw [HES.out, ← HEE.out, hst.out, HSN.out]
                  · have hst : Hid (expStep E c = E) := Lib.hid (by unfold expStep; rw [if_neg h4])
                    have h4' : decide (E < 10000) = false := decide_eq_false h4
                    go_wp2_with (fail)
                    go_roundg re.length
                    case measure => have := hkq.out; rw [List.length_cons] at this; omega
                    case rel =>
                      refine ⟨k + 1, pr ++ [c], re, Lib.hid (by rw [List.append_assoc]; exact hsp2.out), Lib.hid (by rw [List.length_append, hkk.out]; rfl), Lib.hid rfl, by omega, by omega, hnk, HAL, ?_, ?_, int_eq (by omega), int_eq ?_, rfl⟩
                      · rw [HES.out, ← HEE.out]; exact HBD.out.1
                      · rw [HES.out, ← HEE.out]; exact HBD.out.2
                      · rw [HES.out, ← HEE.out, hst.out]
              --
            case rest =>
              as_aux_lemma =>
              obtain ⟨rfl, rfl, he0, he1, rfl⟩ := hcut
              obtain ⟨E, hE⟩ : ∃ E, E = expOf d := ⟨_, rfl⟩
              rw [← hE] at he0 he1 hdc ⊢
              have hsgs : sgOf g = 1 ∨ sgOf g = -1 := by
                unfold sgOf; split
                · exact .inr rfl
                · exact .inl rfl
              obtain ⟨G, hG⟩ : ∃ G, G = E * sgOf g := ⟨_, rfl⟩
              have hGb : -100000 ≤ G ∧ G ≤ 100000 := by
                rw [hG]; rcases hsgs with h | h <;> rw [h] <;> omega
              clear hsgs hE
              go_wp2_with (fail)
              go_ret
              refine ⟨rfl, ?_, ?_⟩
              · rw [hdc.out]; exact hI.set_dp _
              · exact hK.setCell (p := ⟨b, 801, none⟩) (.inr rfl) _

end Go.Proofs.YtlckfiflfkbofaaGreatDoor
