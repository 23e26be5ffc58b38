/- readFloat of internal/strconv: the walk at a decimal. Part 8 of 51 of the proof that FnMultiPointBody returns true for every text and every type of coordinates, where the listed variables hold what the text of the program lays. -/
import Derived.Test.YtlckfiflfkbofaaGreatDoorM02
import Derived.Test.YtlckfiflfkbofaaGreatDoorM06
import Derived.Test.YtlckfiflfkbofaaGreatDoorM07
set_option linter.all false

/- readFloat of internal/strconv: the walk at a decimal. -/
namespace Go.Proofs.YtlckfiflfkbofaaGreatDoor
open Go.RowKit

theorem lower_calls (c : Int) (w : World) : Calls Tryz.prog 138 #[.int .u8 c] w fun e w' => e = .returned (.int .u8 (Go.bits .or .u8 c 32)) ∧ w = w' := by
  go_enter Tryz.func138, Tryz.ntmps138
  go_wp2_with (fail)
  go_ret
  exact ⟨rfl, rfl⟩

theorem low_tab : ((List.range 256).all fun c => (decide (Go.bits .or .u8 (c : Int) 32 = 120) == (c == 120 || c == 88)) && (decide (Go.bits .or .u8 (c : Int) 32 = 101) == (c == 101 || c == 69))) = true := by decide +kernel
theorem low_x {c : Nat} (h : c < 256) (h1 : c ≠ 120) (h2 : c ≠ 88) : (Go.bits .or .u8 (c : Int) 32 == 120) = false := by
  have := List.all_eq_true.1 low_tab c (List.mem_range.2 h)
  simp only [Bool.and_eq_true, beq_iff_eq] at this
  rw [beq_eq_false_iff_ne]
  intro hc
  rw [decide_eq_true hc] at this
  have := this.1
  simp [h1, h2] at this
theorem low_e {c : Nat} (h : c < 256) (h1 : c = 101 ∨ c = 69) : Go.bits .or .u8 (c : Int) 32 = 101 := by
  rcases h1 with rfl | rfl <;> decide

/-- The text of a decimal with its sign. -/
def Num.str (n : Num) (neg : Bool) : List UInt8 := (if neg then [45] else []) ++ n.l

theorem at_of_drop {s : ByteArray} {i : Nat} {c : UInt8} {r : List UInt8} (h : s.data.toList.drop i = c :: r) : ∃ hi : i < s.size, s[i] = c ∧ s.data.toList.drop (i + 1) = r := by
  have hi : i < s.size := by
    rcases Nat.lt_or_ge i s.size with h1 | h1
    · exact h1
    · rw [List.drop_of_length_le (by simpa using h1)] at h; cases h
  refine ⟨hi, ?_⟩
  rw [drop_at s i hi] at h
  cases h
  exact ⟨rfl, rfl⟩
theorem size_of_drop {s : ByteArray} {i : Nat} {r : List UInt8} (h : s.data.toList.drop i = r) (hi : i ≤ s.size) : s.size = i + r.length := by
  have := congrArg List.length h
  simp at this
  show s.data.size = _
  have e : s.size = s.data.size := rfl
  omega

theorem okM_chars : ∀ (m : List UInt8) (dot : Bool), okM m dot = true → ∀ c ∈ m, c.toNat = 46 ∨ isDg c = true
  | [], _, _, c, hc => by cases hc
  | a :: r, dot, h, c, hc => by
    rcases okM_cons h with ⟨h1, _, h3⟩ | ⟨_, h2, h3⟩
    · rcases List.mem_cons.1 hc with rfl | hc
      · exact .inl h1
      · exact okM_chars r _ h3 c hc
    · rcases List.mem_cons.1 hc with rfl | hc
      · exact .inr h2
      · exact okM_chars r _ h3 c hc

/-- No x among the bytes of a decimal. -/
theorem Num.Ok.chars {n : Num} (ok : n.Ok) : ∀ c ∈ n.l, c.toNat ≠ 120 ∧ c.toNat ≠ 88 ∧ c.toNat ≠ 95 := by
  intro c hc
  have dg : ∀ c : UInt8, isDg c = true → 48 ≤ c.toNat ∧ c.toNat ≤ 57 := fun c h => by simpa [isDg] using h
  rcases List.mem_append.1 hc with h | h
  · rcases okM_chars n.m false ok.m c h with h | h
    · omega
    · have := dg c h; omega
  · unfold Num.xs at h
    split at h
    · cases h
    · rename_i e g d hx
      obtain ⟨he, hg, _, hd⟩ := ok.x e g d hx
      rcases List.mem_cons.1 h with rfl | h
      · rcases he with rfl | rfl <;> decide
      · rcases List.mem_append.1 h with h | h
        · unfold isSg at hg
          simp only [Bool.or_eq_true, beq_iff_eq] at hg
          rcases hg with (rfl | rfl) | rfl
          · cases h
          · rw [List.mem_singleton.1 h]; decide
          · rw [List.mem_singleton.1 h]; decide
        · have := dg c (List.all_eq_true.1 hd c h); omega

theorem bne_of {a : Nat} {b : Int} (h : (a : Int) ≠ b) : ((a : Int) == b) = false := by rw [beq_eq_false_iff_ne]; exact h
theorem beq_of {a : Nat} {b : Int} (h : (a : Int) = b) : ((a : Int) == b) = true := by rw [h]; simp

theorem results_tmp7 {fn : Func} {t u v x y z q : Tmp} (h : fn.results = #[.tmp t, .tmp u, .tmp v, .tmp x, .tmp y, .tmp z, .tmp q]) (tmps : Array Value) (P : Program) (w : World) :
    (results fn tmps).run P w = .ok (.tuple #[tmps.getD t undef, tmps.getD u undef, tmps.getD v undef, tmps.getD x undef, tmps.getD y undef, tmps.getD z undef, tmps.getD q undef]) w := by
  simp [results, h]

set_option maxHeartbeats 3200000 in
set_option maxRecDepth 100000 in
theorem rf_calls (n : Num) (neg : Bool) (s : ByteArray) (w : World) (ok : n.Ok) (hs : s.data.toList = n.str neg) (hsz : s.size ≤ 3000) :
    Calls Tryz.prog 122 #[.string s] w fun e w' => e = .returned (.tuple #[.int .u64 n.rf.mant, .int .i64 n.exp, .bool neg, .bool n.rf.tr, .bool false, .int .i64 s.size, .bool true]) ∧ w = w' := by
  obtain ⟨c0, m', hm⟩ : ∃ c0 m', n.m = c0 :: m' := by
    cases h : n.m with
    | nil => have := ok.dg; rw [h] at this; simp [anyDg] at this
    | cons a r => exact ⟨a, r, rfl⟩
  have hd0 : s.data.toList.drop 0 = n.str neg := by rw [List.drop_zero]; exact hs
  obtain ⟨p, hp⟩ : ∃ p : Nat, p = if neg then 1 else 0 := ⟨_, rfl⟩
  have hdp : s.data.toList.drop p = n.l := by rw [hs, hp]; cases neg <;> rfl
  have hc0 := okM_cons (hm ▸ ok.m)
  have hd1 : s.data.toList.drop p = c0 :: (m' ++ n.xs) := by rw [hdp]; unfold Num.l; rw [hm]; rfl
  obtain ⟨hpl, hsp, hd2⟩ := at_of_drop hd1
  have hpos : 0 < s.size := by omega
  have hne : ¬ s = ByteArray.empty := by intro h; rw [h] at hpos; simp at hpos
  have hcb : c0.toNat = 46 ∨ (48 ≤ c0.toNat ∧ c0.toNat ≤ 57) := by
    rcases hc0 with h | h
    · exact .inl h.1
    · exact .inr (by simpa [isDg] using h.2.1)
  have HS := Lib.hid hs
  have HM := Lib.hid hm
  have HP := Lib.hid hp
  have HDP := Lib.hid hdp
  have HSP := Lib.hid hsp
  have HD2 := Lib.hid hd2
  have HC0 := Lib.hid hc0
  have hp1 : p ≤ 1 := by rw [hp]; cases neg <;> decide
  clear hs hm hp hdp hsp hd0 hd1 hd2 hc0
  go_enter Tryz.func122, Tryz.ntmps122
  go_wp2_with (fail)
  go_step3
  go_upto_block 0 with (fail)
  go_cut [4, 7] (fun s4 s7 wx => s4 = .bool neg ∧ s7 = .int .i64 (p : Int) ∧ w = wx)
  case first =>
    as_aux_lemma =>
    --<
    cases neg with
    | true =>
      have h0 : s[0].toNat = 45 := by
        have : s.data.toList.drop 0 = 45 :: n.l := by rw [List.drop_zero]; exact HS.out
        obtain ⟨_, h, _⟩ := at_of_drop this
        rw [h]; rfl
      have b1 := bne_of (a := s[0].toNat) (b := 43) (by omega)
      have b2 := beq_of (a := s[0].toNat) (b := 45) (by omega)
      clear h0
      go_wp2_with (fail)
      go_meet
      exact ⟨rfl, int_eq (by rw [HP.out]; rfl), rfl⟩
    | false =>
      have hp0 : p = 0 := HP.out
      subst hp0
      have b1 := bne_of (a := s[0].toNat) (b := 43) (by rw [HSP.out]; omega)
      have b2 := bne_of (a := s[0].toNat) (b := 45) (by rw [HSP.out]; omega)
      go_wp2_with (fail)
      go_meet
      exact ⟨rfl, rfl, rfl⟩
    -->
  case rest =>
    as_aux_lemma =>
    obtain ⟨rfl, rfl, rfl⟩ := hcut
    go_upto_region 12 with (fail)
    go_cut [54] (fun s54 wx => s54 = .bool false ∧ w = wx)
    case first =>
      as_aux_lemma =>
      --<
      by_cases h2 : p + 2 < s.size
      · have h2' : (p : Int) + 2 < s.size := by omega
        have hp1s : p + 1 < s.size := by omega
        have hx := ok.chars s[p + 1] (by
          have := drop_at s (p + 1) hp1s
          rw [HD2.out] at this
          unfold Num.l; rw [HM.out, List.cons_append]
          exact List.mem_cons_of_mem _ (by rw [this]; exact List.mem_cons_self))
        have bx := low_x (c := s[p + 1].toNat) (UInt8.toNat_lt _) hx.1 hx.2.1
        clear hx
        by_cases hz : s[p].toNat = 48
        · have bz := beq_of (a := s[p].toNat) (b := 48) (by omega)
          clear hz
          go_wp2_with (go_at_call 138; refine (lower_calls _ _).mono ?_; rintro e w' ⟨rfl, rfl⟩)
          go_meet
          exact ⟨rfl, rfl⟩
        · have bz := bne_of (a := s[p].toNat) (b := 48) (by omega)
          clear hz
          go_wp2_with (fail)
          go_meet
          exact ⟨rfl, rfl⟩
      · have h2' : decide ((p : Int) + 2 < s.size) = false := decide_eq_false (by omega)
        go_wp2_with (fail)
        go_meet
        exact ⟨rfl, rfl⟩
      -->
    case rest =>
      as_aux_lemma =>
      obtain ⟨rfl, rfl⟩ := hcut
      have hms : p + n.m.length ≤ s.size := by
        have := size_of_drop HDP.out (by omega)
        unfold Num.l at this
        rw [List.length_append] at this; omega
      go_wp2_with (fail)
      go_step3
      go_upto_block 1 with (fail)
      go_cut [2, 5, 7, 9, 13, 14, 15, 16, 17] (fun s2 s5 s7 s9 s13 s14 s15 s16 s17 wx => s2 = .int .u64 (n.rf.mant : Int) ∧ s5 = .bool n.rf.tr ∧ s7 = .int .i64 ((p + n.m.length : Nat) : Int) ∧ s9 = .bool false ∧ s13 = .bool n.rf.dot ∧ s14 = .bool true ∧
        s15 = .int .i64 (n.rf.nd : Int) ∧ s16 = .int .i64 (n.rf.ndm : Int) ∧ s17 = .int .i64 n.rf.dp ∧ n.rf.Bd 3000 ∧ w = wx)
      case first =>
        as_aux_lemma =>
        --<
        go_wp2_with (fail)
        go_loopg [2, 5, 7, 9, 13, 14, 15, 16, 17, 18] n.m.length (fun kq s2 s5 s7 s9 s13 s14 s15 s16 s17 s18 wx => ∃ (i : Nat) (pr re : List UInt8) (r : Rf), Hid (n.m = pr ++ re) ∧ Hid (r = Rf.of pr) ∧ Hid (i = p + pr.length) ∧ Hid (kq = re.length) ∧
          i ≤ 3000 ∧ i ≤ s.size ∧ Hid (s.data.toList.drop i = re ++ n.xs) ∧ Hid (okM re r.dot = true) ∧ Hid ((r.dig || anyDg re) = true) ∧ r.Bd i ∧
          s2 = .int .u64 (r.mant : Int) ∧ s5 = .bool r.tr ∧ s7 = .int .i64 (i : Int) ∧ s9 = .bool false ∧ s13 = .bool r.dot ∧ s14 = .bool r.dig ∧ s15 = .int .i64 (r.nd : Int) ∧ s16 = .int .i64 (r.ndm : Int) ∧ s17 = .int .i64 r.dp ∧ w = wx)
        case atStart =>
          exact ⟨p, [], n.m, {}, Lib.hid rfl, Lib.hid rfl, Lib.hid rfl, Lib.hid rfl, by omega, by omega, Lib.hid HDP.out, Lib.hid ok.m, Lib.hid (by rw [ok.dg]; simp), ⟨Nat.zero_le _, Nat.zero_le _, by decide, by show -(p : Int) ≤ 0; omega, by show (0 : Int) ≤ p; omega⟩, rfl, rfl, rfl, rfl, rfl, rfl, rfl, rfl, rfl, rfl⟩
        case round =>
          obtain ⟨i, pr, re, r, hsp, hr, hi, hk, hi3, his, hdr, hok, hdg, hbd, rfl, rfl, rfl, rfl, rfl, rfl, rfl, rfl, rfl, rfl⟩ := hrel
          have n1 := hbd.nd
          have n2 := hbd.ndm
          have n3 : r.mant < 10000000000000000000 := Nat.lt_of_lt_of_le hbd.mant (Nat.le_trans (Nat.pow_le_pow_right (by omega) n2) (by decide))
          have n4 := hbd.lo
          have n5 := hbd.hi
          cases re with
          | nil =>
            have hrr : Hid (r = n.rf) := Lib.hid (by rw [hr.out]; unfold Num.rf; rw [hsp.out, List.append_nil])
            have hpl2 : Hid (pr = n.m) := Lib.hid (by rw [hsp.out, List.append_nil])
            have hdig : Hid (r.dig = true) := Lib.hid (by have := hdg.out; simpa [anyDg] using this)
            cases hx : n.xs with
            | nil =>
              have hsz2 : ¬ (i : Int) < s.size := by
                have h := size_of_drop hdr.out his
                rw [hx] at h
                simp at h; omega
              go_wp2_with (fail)
              go_meet
              refine ⟨by rw [hrr.out], by rw [hrr.out], int_eq (by rw [hi.out, hpl2.out]), rfl, by rw [hrr.out], by rw [hdig.out], by rw [hrr.out], by rw [hrr.out], by rw [hrr.out], ?_, rfl⟩
              rw [← hrr.out]; exact ⟨by omega, n2, hbd.mant, by omega, by omega⟩
            | cons e xr =>
              obtain ⟨hlt, hse, _⟩ := at_of_drop (hdr.out.trans (by rw [hx, List.nil_append]))
              have hee : e.toNat = 101 ∨ e.toNat = 69 := by
                unfold Num.xs at hx
                split at hx
                · cases hx
                · rename_i e' g d hx'
                  cases hx
                  rcases (ok.x e g d hx').1 with rfl | rfl
                  · exact .inl rfl
                  · exact .inr rfl
              have hlt' : (i : Int) < s.size := by omega
              have b1 := bne_of (a := s[i].toNat) (b := 95) (by rw [hse]; omega)
              have b2 := bne_of (a := s[i].toNat) (b := 46) (by rw [hse]; omega)
              have b3 : decide ((s[i].toNat : Int) ≤ 57) = false := decide_eq_false (by rw [hse]; omega)
              have b4 : ¬ ((s[i].toNat : Int) ≤ 57) := by rw [hse]; omega
              have b5 : (48 : Int) ≤ (s[i].toNat : Int) := by rw [hse]; omega
              clear hse hee hx
              go_wp2_with (fail)
              go_meet
              refine ⟨by rw [hrr.out], by rw [hrr.out], int_eq (by rw [hi.out, hpl2.out]), rfl, by rw [hrr.out], by rw [hdig.out], by rw [hrr.out], by rw [hrr.out], by rw [hrr.out], ?_, rfl⟩
              rw [← hrr.out]; exact ⟨by omega, n2, hbd.mant, by omega, by omega⟩
          | cons c re =>
            obtain ⟨hlt, hse, hnx⟩ := at_of_drop (hdr.out.trans (List.cons_append ..))
            replace hnx := Lib.hid hnx
            have hlt' : (i : Int) < s.size := by omega
            have hc46 : c.toNat = 46 ∨ isDg c = true := by
              rcases okM_cons hok.out with h | h
              · exact .inl h.1
              · exact .inr h.2.1
            have hbd2 := hbd.step hc46
            have hok2 : Hid (okM re (r.step c).dot = true) := Lib.hid (by
              rw [Rf.step_dot]
              rcases okM_cons hok.out with h | h
              · rw [if_pos h.1]; exact h.2.2
              · rw [if_neg h.1]; exact h.2.2)
            have hdg2 : Hid (((r.step c).dig || anyDg re) = true) := Lib.hid (by
              rw [Rf.step_dig]
              have h0 := hdg.out
              rcases okM_cons hok.out with h | h
              · rw [if_pos h.1]
                have : isDg c = false := by unfold isDg; rw [h.1]; decide
                unfold anyDg at h0 ⊢
                rw [List.any_cons, this, Bool.false_or] at h0
                exact h0
              · rw [if_neg h.1]; simp)
            have hb46 : c.toNat = 46 → r.dot = false := by
              intro h
              rcases okM_cons hok.out with h' | h'
              · exact h'.2.1
              · exact absurd h h'.1
            have hrng : c.toNat = 46 ∨ (c.toNat ≠ 46 ∧ 48 ≤ c.toNat ∧ c.toNat ≤ 57) := by
              rcases hc46 with h | h
              · exact .inl h
              · have : 48 ≤ c.toNat ∧ c.toNat ≤ 57 := by simpa [isDg] using h
                exact .inr ⟨by omega, this⟩
            replace hse : s[i].toNat = c.toNat := by rw [hse]
            clear hc46
            have b1 := bne_of (a := s[i].toNat) (b := 95) (by omega)
            have b1' : ((95 : Int) == (s[i].toNat : Int)) = false := by rw [beq_eq_false_iff_ne]; omega
            obtain ⟨v, hv⟩ : ∃ v, v = s[i].toNat := ⟨_, rfl⟩
            rcases hrng with h46 | ⟨hn46, hlo, hhi⟩
            · as_aux_lemma =>
              have hst : Hid (r.step c = { r with dot := true, dp := r.nd }) := Lib.hid (by unfold Rf.step; rw [if_pos h46])
              have hdot : r.dot = false := hb46 h46
              have b2 := beq_of (a := s[i].toNat) (b := 46) (by omega)
              clear hse h46 hb46 hbd hv
              rw [hdot]
              go_wp2_with (fail)
              go_roundg re.length
              case measure => have := hk.out; rw [List.length_cons] at this; omega
              case rel =>
                refine ⟨i + 1, pr ++ [c], re, r.step c, Lib.hid (by rw [List.append_assoc]; exact hsp.out), Lib.hid (by rw [Rf.of_snoc, ← hr.out]), Lib.hid (by rw [List.length_append, hi.out]; rfl), Lib.hid rfl, by omega, by omega, hnx, hok2, hdg2, hbd2, ?_, ?_, int_eq (by omega), rfl, ?_, ?_, ?_, ?_, ?_, rfl⟩
                all_goals rw [hst.out]
            · have b2 := bne_of (a := s[i].toNat) (b := 46) (by omega)
              have b3 : ((s[i].toNat : Int) ≤ 57) := by omega
              have b5 : (48 : Int) ≤ (s[i].toNat : Int) := by omega
              by_cases hz : c.toNat = 48 ∧ r.nd = 0
              · have hst : Hid (r.step c = { r with dig := true, dp := r.dp - 1 }) := Lib.hid (by unfold Rf.step; rw [if_neg hn46, if_pos hz])
                have b6 := beq_of (a := s[i].toNat) (b := 48) (by omega)
                have b7 := beq_of (a := r.nd) (b := 0) (by omega)
                clear hse hb46 hbd hv hz
                go_wp2_with (fail)
                go_roundg re.length
                case measure => have := hk.out; rw [List.length_cons] at this; omega
                case rel =>
                  refine ⟨i + 1, pr ++ [c], re, r.step c, Lib.hid (by rw [List.append_assoc]; exact hsp.out), Lib.hid (by rw [Rf.of_snoc, ← hr.out]), Lib.hid (by rw [List.length_append, hi.out]; rfl), Lib.hid rfl, by omega, by omega, hnx, hok2, hdg2, hbd2, ?_, ?_, int_eq (by omega), rfl, ?_, ?_, ?_, ?_, ?_, rfl⟩
                  all_goals rw [hst.out]
              · by_cases hm : r.ndm < 19
                · as_aux_lemma =>
                  have hst : Hid (r.step c = { r with dig := true, nd := r.nd + 1, mant := r.mant * 10 + (c.toNat - 48), ndm := r.ndm + 1 }) := Lib.hid (by unfold Rf.step; rw [if_neg hn46, if_neg hz, if_pos hm])
                  have hm18 : r.mant < 1000000000000000000 := Nat.lt_of_lt_of_le hbd.mant (Nat.le_trans (Nat.pow_le_pow_right (n := 10) (by omega) (show r.ndm ≤ 18 by omega)) (by decide))
                  have hmi : (r.ndm : Int) < 19 := by omega
                  have hc9 : c.toNat - 48 < 10 := by omega
                  have hcs : ((s[i].toNat : Int) - 48) = ((c.toNat - 48 : Nat) : Int) := by omega
                  replace HSE := Lib.hid hse
                  by_cases h48 : c.toNat = 48
                  · have hnd : ¬ r.nd = 0 := fun h => hz ⟨h48, h⟩
                    have b6 := beq_of (a := s[i].toNat) (b := 48) (by omega)
                    have b7 := bne_of (a := r.nd) (b := 0) (by omega)
                    clear hse hb46 hbd hv hz
                    go_wp2_with (fail)
                    go_roundg re.length
                    case measure => have := hk.out; rw [List.length_cons] at this; omega
                    case rel =>
                      refine ⟨i + 1, pr ++ [c], re, r.step c, Lib.hid (by rw [List.append_assoc]; exact hsp.out), Lib.hid (by rw [Rf.of_snoc, ← hr.out]), Lib.hid (by rw [List.length_append, hi.out]; rfl), Lib.hid rfl, by omega, by omega, hnx, hok2, hdg2, hbd2, ?_, ?_, int_eq (by omega), rfl, ?_, ?_, ?_, ?_, ?_, rfl⟩
                      all_goals rw [hst.out]
                      all_goals first | rfl | exact int_eq (by dsimp only; omega)
                  · have b6 := bne_of (a := s[i].toNat) (b := 48) (by omega)
                    clear hse hb46 hbd hv hz
                    go_wp2_with (fail)
                    go_roundg re.length
                    case measure => have := hk.out; rw [List.length_cons] at this; omega
                    case rel =>
                      refine ⟨i + 1, pr ++ [c], re, r.step c, Lib.hid (by rw [List.append_assoc]; exact hsp.out), Lib.hid (by rw [Rf.of_snoc, ← hr.out]), Lib.hid (by rw [List.length_append, hi.out]; rfl), Lib.hid rfl, by omega, by omega, hnx, hok2, hdg2, hbd2, ?_, ?_, int_eq (by omega), rfl, ?_, ?_, ?_, ?_, ?_, rfl⟩
                      all_goals rw [hst.out]
                      all_goals first | rfl | exact int_eq (by dsimp only; omega)
                · as_aux_lemma =>
                  have hst : Hid (r.step c = { r with dig := true, nd := r.nd + 1, tr := r.tr || decide (c.toNat ≠ 48) }) := Lib.hid (by unfold Rf.step; rw [if_neg hn46, if_neg hz, if_neg hm])
                  have hmi : decide ((r.ndm : Int) < 19) = false := decide_eq_false (by omega)
                  replace HSE := Lib.hid hse
                  by_cases h48 : c.toNat = 48
                  · have hnd : ¬ r.nd = 0 := fun h => hz ⟨h48, h⟩
                    have b6 := beq_of (a := s[i].toNat) (b := 48) (by omega)
                    have b7 := bne_of (a := r.nd) (b := 0) (by omega)
                    clear hse hb46 hbd hv hz
                    go_wp2_with (fail)
                    go_roundg re.length
                    case measure => have := hk.out; rw [List.length_cons] at this; omega
                    case rel =>
                      refine ⟨i + 1, pr ++ [c], re, r.step c, Lib.hid (by rw [List.append_assoc]; exact hsp.out), Lib.hid (by rw [Rf.of_snoc, ← hr.out]), Lib.hid (by rw [List.length_append, hi.out]; rfl), Lib.hid rfl, by omega, by omega, hnx, hok2, hdg2, hbd2, ?_, ?_, int_eq (by omega), rfl, ?_, ?_, ?_, ?_, ?_, rfl⟩
                      all_goals rw [hst.out]
                      all_goals first | rfl | exact int_eq (by dsimp only; omega) | simp [h48]
                  · have b6 := bne_of (a := s[i].toNat) (b := 48) (by omega)
                    clear hse hb46 hbd hv hz
                    go_wp2_with (fail)
                    go_roundg re.length
                    case measure => have := hk.out; rw [List.length_cons] at this; omega
                    case rel =>
                      refine ⟨i + 1, pr ++ [c], re, r.step c, Lib.hid (by rw [List.append_assoc]; exact hsp.out), Lib.hid (by rw [Rf.of_snoc, ← hr.out]), Lib.hid (by rw [List.length_append, hi.out]; rfl), Lib.hid rfl, by omega, by omega, hnx, hok2, hdg2, hbd2, ?_, ?_, int_eq (by omega), rfl, ?_, ?_, ?_, ?_, ?_, rfl⟩
                      all_goals rw [hst.out]
                      all_goals first | rfl | exact int_eq (by dsimp only; omega) | simp [h48]
        -->
      case rest =>
        as_aux_lemma =>
        obtain ⟨rfl, rfl, rfl, rfl, rfl, rfl, rfl, rfl, rfl, hbd, rfl⟩ := hcut
        have n1 := hbd.nd
        have n2 := hbd.ndm
        have n4 := hbd.lo
        have n5 := hbd.hi
        obtain ⟨D, hD⟩ : ∃ D : Int, D = if n.rf.dot then n.rf.dp else (n.rf.nd : Int) := ⟨_, rfl⟩
        have hDb : -3000 ≤ D ∧ D ≤ 3000 := by rw [hD]; split <;> omega
        have HDD := Lib.hid hD
        clear hD hbd
        go_upto_if 142 with (fail)
        go_cut [13, 17] (fun s13 s17 wx => s13 = .bool n.rf.dot ∧ s17 = .int .i64 D ∧ w = wx)
        case first =>
          cases hdot : n.rf.dot with
          | true =>
            go_wp2_with (fail)
            go_meet
            exact ⟨by rw [hdot], int_eq (by rw [HDD.out, hdot]; rfl), rfl⟩
          | false =>
            go_wp2_with (fail)
            go_meet
            exact ⟨by rw [hdot], int_eq (by rw [HDD.out, hdot]; rfl), rfl⟩
        case rest =>
          obtain ⟨rfl, rfl, rfl⟩ := hcut
          obtain ⟨M, hM⟩ : ∃ M, M = n.rf.mant := ⟨_, rfl⟩
          obtain ⟨Q, hQ⟩ : ∃ Q, Q = n.rf.ndm := ⟨_, rfl⟩
          rw [← hM, ← hQ]
          have HMM := Lib.hid hM
          have HQQ := Lib.hid hQ
          rw [← hQ] at n2
          clear hM hQ n4 n5 n1
          obtain ⟨i, hi⟩ : ∃ i, i = p + n.m.length := ⟨_, rfl⟩
          rw [← hi] at hms ⊢
          have hdx : Hid (s.data.toList.drop i = n.xs) := Lib.hid (by
            rw [hi, ← List.drop_drop, HDP.out]
            unfold Num.l
            rw [List.drop_left])
          have HI := Lib.hid hi
          clear hi
          cases hx : n.x with
          | none =>
            as_aux_lemma =>
            --<
            have hsz2 : (i : Int) = s.size := by
              have h := size_of_drop hdx.out hms
              unfold Num.xs at h
              rw [hx] at h
              simp at h; omega
            have hexp : Hid (n.exp = if M = 0 then 0 else D - Q) := Lib.hid (by
              unfold Num.exp Num.dp Num.ex
              rw [hx, HMM.out, HQQ.out, HDD.out, Int.add_zero])
            rw [hsz2]
            have hz9 : decide ((s.size : Int) < s.size) = false := decide_eq_false (by omega)
            by_cases hm0 : M = 0
            · have bm := beq_of (a := M) (b := 0) (by omega)
              go_wp2_with (fail)
              rw [Exit.noGoto_ret]
              refine bodyPost_ret (results_tmp7 rfl _ _ _) rfl ?_
              refine ⟨?_, rfl⟩
              rw [hexp.out, if_pos hm0, HMM.out]
              rfl
            · have bm := bne_of (a := M) (b := 0) (by omega)
              go_wp2_with (fail)
              rw [Exit.noGoto_ret]
              refine bodyPost_ret (results_tmp7 rfl _ _ _) rfl ?_
              refine ⟨?_, rfl⟩
              rw [hexp.out, if_neg hm0, HMM.out]
              rfl
            -->
          | some t =>
            as_aux_lemma =>
            obtain ⟨e, g, d⟩ := t
            obtain ⟨he, hg, hdne, hdd⟩ := ok.x e g d hx
            have hxs : n.xs = e :: (g ++ d) := by unfold Num.xs; rw [hx]
            obtain ⟨hlt, hse, hnx⟩ := at_of_drop (hdx.out.trans hxs)
            obtain ⟨d0, d', hd0⟩ : ∃ a b, d = a :: b := by
              cases d with
              | nil => exact absurd rfl hdne
              | cons a r => exact ⟨a, r, rfl⟩
            have hlen := size_of_drop hnx (by omega)
            rw [List.length_append, hd0, List.length_cons] at hlen
            have hgl : g.length ≤ 1 := by
              unfold isSg at hg
              simp only [Bool.or_eq_true, beq_iff_eq] at hg
              rcases hg with (rfl | rfl) | rfl <;> decide
            have hdd0 : isDg d0 = true := by rw [hd0] at hdd; exact (Bool.and_eq_true _ _ ▸ (List.all_cons ▸ hdd)).1
            have hd0r : 48 ≤ d0.toNat ∧ d0.toNat ≤ 57 := by simpa [isDg] using hdd0
            obtain ⟨j, hj⟩ : ∃ j, j = i + 1 + g.length := ⟨_, rfl⟩
            have hdj : s.data.toList.drop j = d0 :: d' := by
              rw [hj, ← List.drop_drop, hnx, List.drop_left, hd0]
            obtain ⟨hltj, hsj, _⟩ := at_of_drop hdj
            have HSE := Lib.hid hse
            have HNX := Lib.hid hnx
            have HJ := Lib.hid hj
            have HG := Lib.hid hg
            have HDJ := Lib.hid hdj
            have hL := low_e (c := s[i].toNat) (UInt8.toNat_lt _) (by
              rw [hse]
              rcases he with rfl | rfl
              · exact .inl rfl
              · exact .inr rfl)
            have hsjr : 48 ≤ s[j].toNat ∧ s[j].toNat ≤ 57 := by rw [hsj]; exact hd0r
            have hexp : Hid (n.exp = if M = 0 then 0 else D + expOf d * sgOf g - Q) := Lib.hid (by
              unfold Num.exp Num.dp Num.ex
              rw [hx, HMM.out, HQQ.out, HDD.out])
            have hlt' : (i : Int) < s.size := by omega
            have hi1 : ¬ ((i : Int) + 1 ≥ s.size) := by omega
            have hi1' : i + 1 < s.size := by omega
            have HD0 := Lib.hid hd0
            have HDDD := Lib.hid hdd
            clear hse hnx hj hg hdj hsj hd0r hdd0 hd0 hdne hxs he hdd hx
            go_upto_block 4 with (go_at_call 138; refine (lower_calls _ _).mono ?_; rintro e w' ⟨rfl, rfl⟩; rw [hL])
            go_cut [7, 19] (fun s7 s19 wx => s7 = .int .i64 (j : Int) ∧ s19 = .int .i64 (sgOf g) ∧ w = wx)
            case first =>
              as_aux_lemma =>
              have hg := HG.out
              unfold isSg at hg
              simp only [Bool.or_eq_true, beq_iff_eq] at hg
              rcases hg with (hg | hg) | hg
              · have hj1 : j = i + 1 := by rw [HJ.out, hg]; rfl
                subst hj1
                have b1 := bne_of (a := s[i + 1].toNat) (b := 43) (by omega)
                have b2 := bne_of (a := s[i + 1].toNat) (b := 45) (by omega)
                have hsg : sgOf g = 1 := by rw [hg]; rfl
                have HSG := Lib.hid hsg
                clear hsg hg
                go_wp2_with (fail)
                go_meet
                exact ⟨int_eq (by omega), by rw [HSG.out], rfl⟩
              · have hj1 : j = i + 2 := by rw [HJ.out, hg]; rfl
                have hnx := HNX.out
                rw [hg, List.cons_append] at hnx
                obtain ⟨_, hs1, _⟩ := at_of_drop hnx
                have b1 := beq_of (a := s[i + 1].toNat) (b := 43) (by rw [hs1]; rfl)
                have hsg : sgOf g = 1 := by rw [hg]; rfl
                have HSG := Lib.hid hsg
                clear hsg hg hs1 hnx
                go_wp2_with (fail)
                go_meet
                exact ⟨int_eq (by omega), by rw [HSG.out], rfl⟩
              · have hj1 : j = i + 2 := by rw [HJ.out, hg]; rfl
                have hnx := HNX.out
                rw [hg, List.cons_append] at hnx
                obtain ⟨_, hs1, _⟩ := at_of_drop hnx
                have b1 := bne_of (a := s[i + 1].toNat) (b := 43) (by rw [hs1]; decide)
                have b2 := beq_of (a := s[i + 1].toNat) (b := 45) (by rw [hs1]; rfl)
                have hsg : sgOf g = -1 := by rw [hg]; rfl
                have HSG := Lib.hid hsg
                clear hsg hg hs1 hnx
                go_wp2_with (fail)
                go_meet
                exact ⟨int_eq (by omega), by rw [HSG.out], rfl⟩
            case rest =>
              as_aux_lemma =>
              obtain ⟨rfl, rfl, rfl⟩ := hcut
              have hltj' : (j : Int) < s.size := by omega
              have hj0 : ((j : Int) ≥ s.size) = False := eq_false (by omega)
              have hj48 : ((s[j].toNat : Int) < 48) = False := eq_false (by omega)
              have hj57 : ((s[j].toNat : Int) > 57) = False := eq_false (by omega)
              go_upto_block 5 with (fail)
              go_cut [7, 9, 20] (fun s7 s9 s20 wx => s7 = .int .i64 (s.size : Int) ∧ s9 = .bool false ∧ s20 = .int .i64 (expOf d) ∧ 0 ≤ expOf d ∧ expOf d ≤ 100000 ∧ w = wx)
              case first =>
                as_aux_lemma =>
                --<
                go_wp2_with (fail)
                go_loopg [7, 9, 20] d.length (fun kq s7 s9 s20 wx => ∃ (k : Nat) (pr re : List UInt8), Hid (d = pr ++ re) ∧ Hid (k = j + pr.length) ∧ Hid (kq = re.length) ∧ k ≤ 3000 ∧ k ≤ s.size ∧
                  Hid (s.data.toList.drop k = re) ∧ Hid (re.all isDg = true) ∧ 0 ≤ expOf pr ∧ expOf pr ≤ 100000 ∧ s7 = .int .i64 (k : Int) ∧ s9 = .bool false ∧ s20 = .int .i64 (expOf pr) ∧ w = wx)
                case atStart =>
                  exact ⟨j, [], d, Lib.hid rfl, Lib.hid rfl, Lib.hid rfl, by omega, by omega, Lib.hid (by rw [HDJ.out, HD0.out]), HDDD, by decide, by decide, rfl, rfl, rfl, rfl⟩
                case round =>
                  obtain ⟨k, pr, re, hsp2, hkk, hkq, hk3, hks, hdr, hal, he0, he1, rfl, rfl, rfl, rfl⟩ := hrel
                  cases re with
                  | nil =>
                    have hsz2 : (k : Int) = s.size := by
                      have h := size_of_drop hdr.out hks
                      simp at h; omega
                    have hpd : pr = d := by rw [hsp2.out, List.append_nil]
                    subst hpd
                    rw [hsz2]
                    have hz9 : decide ((s.size : Int) < s.size) = false := decide_eq_false (by omega)
                    go_wp2_with (fail)
                    go_meet
                    exact ⟨rfl, rfl, rfl, he0, he1, rfl⟩
                  | cons c re =>
                    obtain ⟨hltk, hsk, hnk⟩ := at_of_drop hdr.out
                    replace hnk := Lib.hid hnk
                    have hdc : isDg c = true := (Bool.and_eq_true _ _ ▸ (List.all_cons ▸ hal.out)).1
                    have hal2 : re.all isDg = true := (Bool.and_eq_true _ _ ▸ (List.all_cons ▸ hal.out)).2
                    have hbd := expStep_bd ⟨he0, he1⟩ hdc
                    have hdr2 : 48 ≤ c.toNat ∧ c.toNat ≤ 57 := by simpa [isDg] using hdc
                    have hltk' : (k : Int) < s.size := by omega
                    have h48 : 48 ≤ s[k].toNat ∧ s[k].toNat ≤ 57 := by rw [hsk]; exact hdr2
                    have h48a : (48 : Int) ≤ (s[k].toNat : Int) := by omega
                    have h57a : (s[k].toNat : Int) ≤ 57 := by omega
                    have b1 := bne_of (a := s[k].toNat) (b := 95) (by omega)
                    have hsn : s[k].toNat = c.toNat := by rw [hsk]
                    have hes : expOf (pr ++ [c]) = expStep (expOf pr) c := expOf_snoc pr c
                    have HAL := Lib.hid hal2
                    have HES := Lib.hid hes
                    obtain ⟨E, hE⟩ : ∃ E, E = expOf pr := ⟨_, rfl⟩
                    rw [← hE] at he0 he1 hbd ⊢
                    have HEE := Lib.hid hE
                    have HSN := Lib.hid hsn
                    have HBD := Lib.hid hbd
                    clear hal2 hes hE hsn hbd hdc hsk hdr2
                    by_cases h4 : E < 10000
                    · have hst : Hid (expStep E c = E * 10 + (c.toNat : Int) - 48) := Lib.hid (by unfold expStep; rw [if_pos h4])
                      go_wp2_with (fail)
                      go_roundg re.length
                      case measure => have := hkq.out; rw [List.length_cons] at this; omega
                      case rel =>
                        refine ⟨k + 1, pr ++ [c], re, Lib.hid (by rw [List.append_assoc]; exact hsp2.out), Lib.hid (by rw [List.length_append, hkk.out]; rfl), Lib.hid rfl, by omega, by omega, hnk, HAL, ?_, ?_, int_eq (by omega), rfl, int_eq ?_, rfl⟩
                        · rw [HES.out, ← HEE.out]; exact HBD.out.1
                        · rw [HES.out, ← HEE.out]; exact HBD.out.2
                        · rw [HES.out, ← HEE.out, hst.out, HSN.out]
                    · have hst : Hid (expStep E c = E) := Lib.hid (by unfold expStep; rw [if_neg h4])
                      have h4' : decide (E < 10000) = false := decide_eq_false h4
                      go_wp2_with (fail)
                      go_roundg re.length
                      case measure => have := hkq.out; rw [List.length_cons] at this; omega
                      case rel =>
                        refine ⟨k + 1, pr ++ [c], re, Lib.hid (by rw [List.append_assoc]; exact hsp2.out), Lib.hid (by rw [List.length_append, hkk.out]; rfl), Lib.hid rfl, by omega, by omega, hnk, HAL, ?_, ?_, int_eq (by omega), rfl, int_eq ?_, rfl⟩
                        · rw [HES.out, ← HEE.out]; exact HBD.out.1
                        · rw [HES.out, ← HEE.out]; exact HBD.out.2
                        · rw [HES.out, ← HEE.out, hst.out]
                -->
              case rest =>
                as_aux_lemma =>
                obtain ⟨rfl, rfl, rfl, he0, he1, rfl⟩ := hcut
                obtain ⟨E, hE⟩ : ∃ E, E = expOf d := ⟨_, rfl⟩
                rw [← hE] at he0 he1 hexp ⊢
                have hsgs : sgOf g = 1 ∨ sgOf g = -1 := by
                  unfold sgOf; split
                  · exact .inr rfl
                  · exact .inl rfl
                obtain ⟨G, hG⟩ : ∃ G, G = E * sgOf g := ⟨_, rfl⟩
                have hGb : -100000 ≤ G ∧ G ≤ 100000 := by
                  rw [hG]; rcases hsgs with h | h <;> rw [h] <;> omega
                clear hsgs hE
                by_cases hm0 : M = 0
                · have bm := beq_of (a := M) (b := 0) (by omega)
                  go_wp2_with (fail)
                  rw [Exit.noGoto_ret]
                  refine bodyPost_ret (results_tmp7 rfl _ _ _) rfl ?_
                  refine ⟨?_, rfl⟩
                  rw [hexp.out, if_pos hm0, HMM.out]
                  rfl
                · have bm := bne_of (a := M) (b := 0) (by omega)
                  go_wp2_with (fail)
                  rw [Exit.noGoto_ret]
                  refine bodyPost_ret (results_tmp7 rfl _ _ _) rfl ?_
                  refine ⟨?_, rfl⟩
                  rw [hexp.out, if_neg hm0, HMM.out]
                  rfl

end Go.Proofs.YtlckfiflfkbofaaGreatDoor
