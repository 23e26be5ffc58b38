/- readFloat of internal/strconv: the walk at a text that is no number. special of internal/strconv: infinities and NaN. Part 13 of 51 of the proof that FnMultiPointBody returns true for every text and every type of coordinates, where the listed variables hold what the text of the program lays. -/
import Derived.OwnWalk
import Derived.Test.YtlckfiflfkbofaaGreatDoorM08
set_option linter.all false

/- readFloat of internal/strconv: the walk at a text that is no number. -/
namespace Go.Proofs.YtlckfiflfkbofaaGreatDoor
open Go.RowKit

/-- A text that begins no number: nothing, a minus alone, or another byte than a sign, a point, an underscore, a digit. -/
def Junk (s : ByteArray) : Prop := s.size = 0 ∨ (∃ h : 0 < s.size, s[0].toNat = 45 ∧ s.size = 1) ∨
  ∃ h : 0 < s.size, s[0].toNat ≠ 43 ∧ s[0].toNat ≠ 45 ∧ s[0].toNat ≠ 46 ∧ s[0].toNat ≠ 95 ∧ ¬ (48 ≤ s[0].toNat ∧ s[0].toNat ≤ 57)

set_option maxHeartbeats 3200000 in
set_option maxRecDepth 100000 in
theorem rf_junk (s : ByteArray) (w : World) (hj : Junk s) (hsz : s.size ≤ 3000) :
    Calls Tryz.prog 122 #[.string s] w fun e w' => (∃ n : Int, ∃ b1 b2 : Bool, e = .returned (.tuple #[.int .u64 0, .int .i64 0, .bool b1, .bool false, .bool b2, .int .i64 n, .bool false])) ∧ w = w' := by
  rcases hj with h0 | ⟨hpos, h45, h1⟩ | ⟨hpos, n43, n45, n46, n95, ndg⟩
  · have h0' : decide ((0 : Int) ≥ s.size) = true := decide_eq_true (by omega)
    have h0e : s = ByteArray.empty := ByteArray.ext (Array.eq_empty_of_size_eq_zero h0)
    subst h0e
    go_enter Tryz.func122, Tryz.ntmps122
    go_wp2_with (fail)
    go_step3
    go_wp2_with (fail)
    rw [Exit.noGoto_ret]
    refine bodyPost_ret (results_tmp7 rfl _ _ _) rfl ?_
    exact ⟨⟨0, false, false, rfl⟩, rfl⟩
  · have b1 := bne_of (a := s[0].toNat) (b := 43) (by omega)
    have b2 := beq_of (a := s[0].toNat) (b := 45) (by omega)
    have hs1 : (s.size : Int) = 1 := by omega
    have hne : ¬ s = ByteArray.empty := by intro h; rw [h] at hpos; simp at hpos
    go_enter Tryz.func122, Tryz.ntmps122
    go_wp2_with (fail)
    go_step3
    go_wp2_with (fail)
    go_step3
    go_wp2_with (fail)
    go_loopg [2, 5, 7, 9, 13, 14, 15, 16, 17, 18] 0 (fun kq s2 s5 s7 s9 s13 s14 s15 s16 s17 s18 wx => s2 = .int .u64 0 ∧ s5 = .bool false ∧ s7 = .int .i64 1 ∧ s9 = .bool false ∧ s13 = .bool false ∧ s14 = .bool false ∧ s15 = .int .i64 0 ∧ s16 = .int .i64 0 ∧ s17 = .int .i64 0 ∧ w = wx)
    case atStart => exact ⟨rfl, rfl, rfl, rfl, rfl, rfl, rfl, rfl, rfl, rfl⟩
    case round =>
      obtain ⟨rfl, rfl, rfl, rfl, rfl, rfl, rfl, rfl, rfl, rfl⟩ := hrel
      have hd1 : decide ((1 : Int) < s.size) = false := decide_eq_false (by omega)
      go_wp2_with (fail)
      rw [Exit.noGoto_ret]
      refine bodyPost_ret (results_tmp7 rfl _ _ _) rfl ?_
      exact ⟨⟨1, true, false, rfl⟩, rfl⟩
  · have b1 := bne_of (a := s[0].toNat) (b := 43) (by omega)
    have b2 := bne_of (a := s[0].toNat) (b := 45) (by omega)
    have b3 := bne_of (a := s[0].toNat) (b := 46) (by omega)
    have b4 := bne_of (a := s[0].toNat) (b := 95) (by omega)
    have b5 := bne_of (a := s[0].toNat) (b := 48) (by omega)
    have hne : ¬ s = ByteArray.empty := by intro h; rw [h] at hpos; simp at hpos
    go_enter Tryz.func122, Tryz.ntmps122
    go_wp2_with (fail)
    go_step3
    go_upto_region 12 with (fail)
    go_cut [54] (fun s54 wx => s54 = .bool false ∧ w = wx)
    case first =>
      go_wp2_with (fail)
      all_goals (go_meet; exact ⟨rfl, rfl⟩)
    case rest =>
    obtain ⟨rfl, rfl⟩ := hcut
    go_wp2_with (fail)
    go_step3
    go_wp2_with (fail)
    go_loopg [2, 5, 7, 9, 13, 14, 15, 16, 17, 18] 0 (fun kq s2 s5 s7 s9 s13 s14 s15 s16 s17 s18 wx => s2 = .int .u64 0 ∧ s5 = .bool false ∧ s7 = .int .i64 0 ∧ s9 = .bool false ∧ s13 = .bool false ∧ s14 = .bool false ∧ s15 = .int .i64 0 ∧ s16 = .int .i64 0 ∧ s17 = .int .i64 0 ∧ w = wx)
    case atStart => exact ⟨rfl, rfl, rfl, rfl, rfl, rfl, rfl, rfl, rfl, rfl⟩
    case round =>
      obtain ⟨rfl, rfl, rfl, rfl, rfl, rfl, rfl, rfl, rfl, rfl⟩ := hrel
      have hd1 : (0 : Int) < s.size := by omega
      have b6 : ((48 : Int) ≤ (s[0].toNat : Int)) → ((s[0].toNat : Int) ≤ 57) = False := fun h => eq_false (by omega)
      go_wp2_with (fail)
      all_goals ((try rw [Exit.noGoto_ret]); refine bodyPost_ret (results_tmp7 rfl _ _ _) rfl ?_; exact ⟨⟨0, false, false, rfl⟩, rfl⟩)

end Go.Proofs.YtlckfiflfkbofaaGreatDoor

/- special of internal/strconv: infinities and NaN. -/
namespace Go.Proofs.YtlckfiflfkbofaaGreatDoor
open Go.RowKit

theorem frombits_run (n : Int) (w : World) : (callFunc 131 #[.int .u64 n]).run Tryz.prog w = .ok (.value (.float .f64 n.toNat)) w := by
  rw [run_callFunc_extern Tryz.func131 (by kernel_rfl) (by kernel_rfl) (by kernel_rfl) (e := Extern.MathFloatBits.float64frombits) (by kernel_rfl)]
  rfl

theorem inf_calls (sg : Int) (w : World) : Calls Tryz.prog 136 #[.int .i64 sg] w fun e w' => e = .returned (.float .f64 (if sg ≥ 0 then 9218868437227405312 else 18442240474082181120)) ∧ w = w' := by
  have h1 := frombits_run 9218868437227405312
  have h2 := frombits_run 18442240474082181120
  go_enter Tryz.func136, Tryz.ntmps136
  by_cases h : sg ≥ 0
  · go_wp2_with (fail)
    go_ret
    exact ⟨rfl, rfl⟩
  · have hd : decide (sg ≥ 0) = false := decide_eq_false h
    go_wp2_with (fail)
    go_ret
    exact ⟨rfl, rfl⟩

theorem nan_calls (w : World) : Calls Tryz.prog 137 #[] w fun e w' => e = .returned (.float .f64 9221120237041090561) ∧ w = w' := by
  have h1 := frombits_run 9221120237041090561
  go_enter Tryz.func137, Tryz.ntmps137
  go_wp2_with (fail)
  go_ret
  exact ⟨rfl, rfl⟩

set_option maxHeartbeats 800000 in
theorem prefix_calls (s p : ByteArray) (w : World) (hs : s.size ≤ 3000) (hp : p.size ≤ 10) :
    Calls Tryz.prog 135 #[.string s, .string p] w fun e w' => (∃ k : Nat, e = .returned (.int .i64 k) ∧ k ≤ s.size ∧ k ≤ p.size ∧ ((∃ (_ : 0 < s.size) (_ : 0 < p.size), s[0].toNat < 65 ∧ 65 ≤ p[0].toNat) → k = 0)) ∧ w = w' := by
  obtain ⟨S, hS⟩ : ∃ S : Prop, S = (∃ (_ : 0 < s.size) (_ : 0 < p.size), s[0].toNat < 65 ∧ 65 ≤ p[0].toNat) := ⟨_, rfl⟩
  rw [← hS]
  have HS := Lib.hid hS
  clear hS
  go_enter Tryz.func135, Tryz.ntmps135
  go_upto_region 1 with (fail)
  go_cut [5] (fun s5 wx => s5 = .int .i64 ((min s.size p.size : Nat) : Int) ∧ w = wx)
  case first =>
    go_wp2_with (fail)
    all_goals (go_meet; exact ⟨int_eq (by omega), rfl⟩)
  case rest =>
    obtain ⟨rfl, rfl⟩ := hcut
    obtain ⟨m, hm⟩ : ∃ m, m = min s.size p.size := ⟨_, rfl⟩
    rw [← hm]
    have hm1 : m ≤ s.size := by omega
    have hm2 : m ≤ p.size := by omega
    clear hm
    go_wp2_with (fail)
    go_loopg [6, 7] m (fun kq s6 s7 wx => ∃ i : Nat, Hid (kq + i = m) ∧ i ≤ m ∧ (S → i = 0) ∧ s6 = .int .i64 (i : Int) ∧ w = wx)
    case atStart => exact ⟨0, Lib.hid rfl, Nat.zero_le _, fun _ => rfl, rfl, rfl⟩
    case round =>
      obtain ⟨i, hk, him, hSi, rfl, rfl⟩ := hrel
      have HSi := Lib.hid hSi
      clear hSi
      by_cases hlt : i < m
      · have hlt' : (i : Int) < m := by omega
        have his : i < s.size := by omega
        have hip : i < p.size := by omega
        obtain ⟨c, hc⟩ : ∃ c : Nat, c = if 65 ≤ s[i].toNat ∧ s[i].toNat ≤ 90 then s[i].toNat + 32 else s[i].toNat := ⟨_, rfl⟩
        have hne : Hid (c = p[i].toNat → ¬ S) := Lib.hid (by
          intro hcp hS'
          have h0 := HSi.out hS'
          subst h0
          rw [HS.out] at hS'
          obtain ⟨_, _, h1, h2⟩ := hS'
          rw [hc, if_neg (by omega)] at hcp
          omega)
        have HC := Lib.hid hc
        clear hc
        go_upto_region 6 with (fail)
        go_cut [7, 26] (fun s7 s26 wx => s7 = .int .u8 (s[i].toNat : Int) ∧ s26 = .bool (decide (65 ≤ s[i].toNat ∧ s[i].toNat ≤ 90)) ∧ w = wx)
        case first =>
          by_cases h1 : (65 : Int) ≤ (s[i].toNat : Int)
          · by_cases h2 : (s[i].toNat : Int) ≤ 90
            · go_wp2_with (fail)
              go_meet
              exact ⟨rfl, by rw [decide_eq_true (by omega)], rfl⟩
            · have h2' : decide ((s[i].toNat : Int) ≤ 90) = false := decide_eq_false h2
              go_wp2_with (fail)
              go_meet
              exact ⟨rfl, by rw [decide_eq_false (by omega)], rfl⟩
          · have h1' : decide ((65 : Int) ≤ (s[i].toNat : Int)) = false := decide_eq_false h1
            go_wp2_with (fail)
            go_meet
            exact ⟨rfl, by rw [decide_eq_false (by omega)], rfl⟩
        case rest =>
          obtain ⟨rfl, rfl, rfl⟩ := hcut
          by_cases hf : 65 ≤ s[i].toNat ∧ s[i].toNat ≤ 90
          · have hcf : c = s[i].toNat + 32 := by rw [HC.out, if_pos hf]
            have hfd : decide (65 ≤ s[i].toNat ∧ s[i].toNat ≤ 90) = true := decide_eq_true hf
            have hc9 : (s[i].toNat : Int) ≤ 90 := by omega
            rw [hfd]
            by_cases hq : c = p[i].toNat
            · have hb : ((s[i].toNat : Int) + 32 == (p[i].toNat : Int)) = true := by rw [beq_iff_eq]; omega
              have HQ := Lib.hid hq
              clear hq hcf hfd hf
              go_wp2_with (fail)
              go_roundg (gk - 1)
              case measure => have := hk.out; omega
              case rel => exact ⟨i + 1, Lib.hid (by have := hk.out; omega), by omega, fun h => absurd h (hne.out HQ.out), int_eq (by omega), rfl⟩
            · have hb : ((s[i].toNat : Int) + 32 == (p[i].toNat : Int)) = false := by rw [beq_eq_false_iff_ne]; omega
              clear hq hcf hfd hf
              go_wp2_with (fail)
              go_ret
              exact ⟨⟨i, rfl, by omega, by omega, HSi.out⟩, rfl⟩
          · have hcf : c = s[i].toNat := by rw [HC.out, if_neg hf]
            have hfd : decide (65 ≤ s[i].toNat ∧ s[i].toNat ≤ 90) = false := decide_eq_false hf
            rw [hfd]
            by_cases hq : c = p[i].toNat
            · have hb : ((s[i].toNat : Int) == (p[i].toNat : Int)) = true := by rw [beq_iff_eq]; omega
              have HQ := Lib.hid hq
              clear hq hcf hfd hf
              go_wp2_with (fail)
              go_roundg (gk - 1)
              case measure => have := hk.out; omega
              case rel => exact ⟨i + 1, Lib.hid (by have := hk.out; omega), by omega, fun h => absurd h (hne.out HQ.out), int_eq (by omega), rfl⟩
            · have hb : ((s[i].toNat : Int) == (p[i].toNat : Int)) = false := by rw [beq_eq_false_iff_ne]; omega
              clear hq hcf hfd hf
              go_wp2_with (fail)
              go_ret
              exact ⟨⟨i, rfl, by omega, by omega, HSi.out⟩, rfl⟩
      · have hmi : i = m := by omega
        subst hmi
        have hd : decide ((i : Int) < i) = false := decide_eq_false (by omega)
        go_wp2_with (fail)
        go_ret
        exact ⟨⟨i, rfl, by omega, by omega, HSi.out⟩, rfl⟩

theorem ext_at (s : ByteArray) (h : 1 < s.size) : (s.extract 1 s.size).size = s.size - 1 ∧ ∀ h' : 0 < (s.extract 1 s.size).size, (s.extract 1 s.size)[0] = s[1] := by
  refine ⟨by rw [ByteArray.size_extract]; omega, fun h' => ?_⟩
  rw [ByteArray.getElem_extract]
theorem str_parts (n : Num) (neg : Bool) (s : ByteArray) (ok : n.Ok) (hs : s.data.toList = n.str neg) : ∃ p : Nat, p = (if neg then 1 else 0) ∧ ∃ h : p < s.size, (s[p].toNat = 46 ∨ (48 ≤ s[p].toNat ∧ s[p].toNat ≤ 57)) ∧ (neg = true → ∃ h0 : 0 < s.size, s[0].toNat = 45) := by
  obtain ⟨c0, m', hm⟩ : ∃ c0 m', n.m = c0 :: m' := by
    cases h : n.m with
    | nil => have := ok.dg; rw [h] at this; simp [anyDg] at this
    | cons a r => exact ⟨a, r, rfl⟩
  refine ⟨_, rfl, ?_⟩
  have hdp : s.data.toList.drop (if neg then 1 else 0) = c0 :: (m' ++ n.xs) := by
    rw [hs]; unfold Num.str Num.l; rw [hm]; cases neg <;> rfl
  obtain ⟨hpl, hsp, _⟩ := at_of_drop hdp
  refine ⟨hpl, ?_, ?_⟩
  · rw [hsp]
    rcases okM_cons (hm ▸ ok.m) with h | h
    · exact .inl h.1
    · exact .inr (by simpa [isDg] using h.2.1)
  · rintro rfl
    have : s.data.toList.drop 0 = 45 :: n.l := by rw [List.drop_zero]; exact hs
    obtain ⟨h0, h, _⟩ := at_of_drop this
    exact ⟨h0, by rw [h]; rfl⟩

set_option maxHeartbeats 800000 in
set_option maxRecDepth 100000 in
theorem sp_dec (n : Num) (neg : Bool) (s : ByteArray) (w : World) (ok : n.Ok) (hs : s.data.toList = n.str neg) (hsz : s.size ≤ 3000) :
    Calls Tryz.prog 121 #[.string s] w fun e w' => e = .returned (.tuple #[.float .f64 0, .int .i64 0, .bool false]) ∧ w = w' := by
  obtain ⟨p, hp, hpl, hd, h45⟩ := str_parts n neg s ok hs
  have hpos : 0 < s.size := by omega
  have hne : ¬ s = ByteArray.empty := by intro h; rw [h] at hpos; simp at hpos
  cases neg with
  | false =>
    have hp0 : p = 0 := hp
    subst hp0
    clear hp
    have b1 := bne_of (a := s[0].toNat) (b := 43) (by omega)
    have b2 := bne_of (a := s[0].toNat) (b := 45) (by omega)
    have b3 := bne_of (a := s[0].toNat) (b := 105) (by omega)
    have b4 := bne_of (a := s[0].toNat) (b := 73) (by omega)
    have b5 := bne_of (a := s[0].toNat) (b := 110) (by omega)
    have b6 := bne_of (a := s[0].toNat) (b := 78) (by omega)
    clear hs hd h45
    go_enter Tryz.func121, Tryz.ntmps121
    go_wp2_with (fail)
    go_ret3
    exact ⟨rfl, rfl⟩
  | true =>
    have hp0 : p = 1 := hp
    subst hp0
    clear hp
    obtain ⟨_, h0⟩ := h45 rfl
    have b1 := bne_of (a := s[0].toNat) (b := 43) (by omega)
    have b2 := beq_of (a := s[0].toNat) (b := 45) (by omega)
    clear hs h45
    have hx := ext_at s hpl
    have hs1 : (1 : Int) ≤ s.size := by omega
    go_enter Tryz.func121, Tryz.ntmps121
    go_upto_region 17 with (go_at_call 135; refine (prefix_calls _ _ _ (by rw [hx.1]; omega) (by decide)).mono ?_; rintro e w' ⟨⟨k, rfl, _, _, hk⟩, rfl⟩)
    have hk0 : k = 0 := hk ⟨by rw [hx.1]; omega, by decide, by rw [hx.2]; omega, by decide⟩
    subst hk0
    clear hk hd
    go_wp2_with (fail)
    go_ret3
    exact ⟨rfl, rfl⟩

/-- Bits of an infinity or of the NaN that is read. -/
def Odd (x : Nat) : Prop := x = 9218868437227405312 ∨ x = 18442240474082181120 ∨ x = 9221120237041090561

def SpJ (e : Ending) : Prop := ∃ (x : Nat) (k : Int) (b : Bool), e = .returned (.tuple #[.float .f64 x, .int .i64 k, .bool b]) ∧ (b = true → Odd x)

set_option maxHeartbeats 1600000 in
set_option maxRecDepth 100000 in
theorem sp_junk (s : ByteArray) (w : World) (hj : Junk s) (hsz : s.size ≤ 3000) :
    Calls Tryz.prog 121 #[.string s] w fun e w' => SpJ e ∧ w = w' := by
  rcases hj with h0 | ⟨hpos, h45, h1⟩ | ⟨hpos, n43, n45, n46, n95, ndg⟩
  · have h0e : s = ByteArray.empty := ByteArray.ext (Array.eq_empty_of_size_eq_zero h0)
    subst h0e
    go_enter Tryz.func121, Tryz.ntmps121
    go_wp2_with (fail)
    go_ret3
    exact ⟨⟨0, 0, false, rfl, fun h => by cases h⟩, rfl⟩
  · have b1 := bne_of (a := s[0].toNat) (b := 43) (by omega)
    have b2 := beq_of (a := s[0].toNat) (b := 45) (by omega)
    have hne : ¬ s = ByteArray.empty := by intro h; rw [h] at hpos; simp at hpos
    have hx : s.extract 1 s.size = ByteArray.empty := by
      apply ByteArray.ext; apply Array.eq_empty_of_size_eq_zero
      show (s.extract 1 s.size).size = 0
      rw [ByteArray.size_extract]; omega
    have hs1 : (1 : Int) ≤ s.size := by omega
    go_enter Tryz.func121, Tryz.ntmps121
    go_upto_region 17 with (go_at_call 135; refine (prefix_calls ByteArray.empty _ _ (by decide) (by decide)).mono ?_; rintro e w' ⟨⟨k, rfl, hk, _, _⟩, rfl⟩)
    have hk0 : k = 0 := Nat.le_zero.1 hk
    subst hk0
    clear hk
    go_wp2_with (fail)
    go_ret3
    exact ⟨⟨0, 0, false, rfl, fun h => by cases h⟩, rfl⟩
  · have b1 := bne_of (a := s[0].toNat) (b := 43) (by omega)
    have b2 := bne_of (a := s[0].toNat) (b := 45) (by omega)
    have hne : ¬ s = ByteArray.empty := by intro h; rw [h] at hpos; simp at hpos
    clear n43 n45 n46 n95 ndg
    by_cases hi : s[0].toNat = 105 ∨ s[0].toNat = 73
    · by_cases h105 : s[0].toNat = 105
      · have b3 := beq_of (a := s[0].toNat) (b := 105) (by omega)
        clear hi h105
        go_enter Tryz.func121, Tryz.ntmps121
        go_upto_region 17 with (go_at_call 135; refine (prefix_calls _ _ _ hsz (by decide)).mono ?_; rintro e w' ⟨⟨k, rfl, _, hk8, _⟩, rfl⟩)
        have hk8' : k ≤ 8 := hk8
        clear hk8
        go_upto_region 19 with (fail)
        all_goals (go_wp2_with (go_at_call 136; refine (inf_calls _ _).mono ?_; rintro e w' ⟨rfl, rfl⟩))
        all_goals (go_ret3; first | exact ⟨⟨_, _, true, rfl, fun _ => .inl rfl⟩, rfl⟩ | exact ⟨⟨0, 0, false, rfl, fun h => by cases h⟩, rfl⟩)
      · have b3 := bne_of (a := s[0].toNat) (b := 105) (by omega)
        have b4 := beq_of (a := s[0].toNat) (b := 73) (by omega)
        clear hi h105
        go_enter Tryz.func121, Tryz.ntmps121
        go_upto_region 17 with (go_at_call 135; refine (prefix_calls _ _ _ hsz (by decide)).mono ?_; rintro e w' ⟨⟨k, rfl, _, hk8, _⟩, rfl⟩)
        have hk8' : k ≤ 8 := hk8
        clear hk8
        go_upto_region 19 with (fail)
        all_goals (go_wp2_with (go_at_call 136; refine (inf_calls _ _).mono ?_; rintro e w' ⟨rfl, rfl⟩))
        all_goals (go_ret3; first | exact ⟨⟨_, _, true, rfl, fun _ => .inl rfl⟩, rfl⟩ | exact ⟨⟨0, 0, false, rfl, fun h => by cases h⟩, rfl⟩)
    · have b3 := bne_of (a := s[0].toNat) (b := 105) (by omega)
      have b4 := bne_of (a := s[0].toNat) (b := 73) (by omega)
      by_cases hn : s[0].toNat = 110 ∨ s[0].toNat = 78
      · by_cases h110 : s[0].toNat = 110
        · have b5 := beq_of (a := s[0].toNat) (b := 110) (by omega)
          clear hi hn h110
          go_enter Tryz.func121, Tryz.ntmps121
          go_wp2_with (first | (go_at_call 135; refine (prefix_calls _ _ _ hsz (by decide)).mono ?_; rintro e w' ⟨⟨k, rfl, _, hk8, _⟩, rfl⟩) | (go_at_call 137; refine (nan_calls _).mono ?_; rintro e w' ⟨rfl, rfl⟩))
          all_goals (go_ret3; first | exact ⟨⟨_, _, true, rfl, fun _ => .inr (.inr rfl)⟩, rfl⟩ | exact ⟨⟨0, 0, false, rfl, fun h => by cases h⟩, rfl⟩)
        · have b5 := bne_of (a := s[0].toNat) (b := 110) (by omega)
          have b6 := beq_of (a := s[0].toNat) (b := 78) (by omega)
          clear hi hn h110
          go_enter Tryz.func121, Tryz.ntmps121
          go_wp2_with (first | (go_at_call 135; refine (prefix_calls _ _ _ hsz (by decide)).mono ?_; rintro e w' ⟨⟨k, rfl, _, hk8, _⟩, rfl⟩) | (go_at_call 137; refine (nan_calls _).mono ?_; rintro e w' ⟨rfl, rfl⟩))
          all_goals (go_ret3; first | exact ⟨⟨_, _, true, rfl, fun _ => .inr (.inr rfl)⟩, rfl⟩ | exact ⟨⟨0, 0, false, rfl, fun h => by cases h⟩, rfl⟩)
      · have b5 := bne_of (a := s[0].toNat) (b := 110) (by omega)
        have b6 := bne_of (a := s[0].toNat) (b := 78) (by omega)
        clear hi hn
        go_enter Tryz.func121, Tryz.ntmps121
        go_wp2_with (fail)
        go_ret3
        exact ⟨⟨0, 0, false, rfl, fun h => by cases h⟩, rfl⟩

end Go.Proofs.YtlckfiflfkbofaaGreatDoor
