/- The reference's letters, digits, decimals: the walks. The reference's decimal: the walk. The reference's padded and upper. The reference's upper. Part 31 of 51 of the proof that FnMultiPointBody returns true for every text and every type of coordinates, where the listed variables hold what the text of the program lays. -/
import Derived.OwnWalk
import Derived.Laws.IdiomStrings
import Derived.Test.YtlckfiflfkbofaaGreatDoorM01
import Derived.Test.YtlckfiflfkbofaaGreatDoorM04
import Derived.Test.YtlckfiflfkbofaaGreatDoorM29
set_option linter.all false

/- The reference's letters, digits, decimals: the walks. -/
namespace Go.Proofs.YtlckfiflfkbofaaGreatDoor
open Go.RowKit

theorem drop_cons (s : ByteArray) {i : Nat} (h : i < s.size) : s.data.toList.drop i = s[i] :: s.data.toList.drop (i + 1) := by
  have hl : i < s.data.toList.length := by simpa using h
  rw [List.drop_eq_getElem_cons hl]
  simp
  rfl
theorem drop_end (s : ByteArray) {i : Nat} (h : ¬ i < s.size) : s.data.toList.drop i = [] := List.drop_of_length_le (by simpa using h)
theorem ext_list (s : ByteArray) (i : Nat) : (s.extract i s.size).data.toList = s.data.toList.drop i := by
  simp [ByteArray.data_extract, Array.toList_extract, List.extract_eq_take_drop]
  rw [List.take_of_length_le]
  simp

theorem isl_calls (c : UInt8) (w : World) : Calls Tryz.prog 30 #[.int .u8 (c.toNat : Int)] w fun e w' => e = .returned (.bool (isLt c)) ∧ w = w' := by
  obtain ⟨n, hn⟩ : ∃ n, n = c.toNat := ⟨_, rfl⟩
  have he : isLt c = ((decide (97 ≤ n) && decide (n ≤ 122)) || (decide (65 ≤ n) && decide (n ≤ 90))) := by
    unfold isLt; rw [← hn, Bool.or_comm]
  rw [he, ← hn]
  clear he hn
  go_enter Tryz.func30, Tryz.ntmps30
  by_cases h1 : 97 ≤ n
  · have h1' : (97 : Int) ≤ n := by omega
    by_cases h2 : n ≤ 122
    · have h2' : (n : Int) ≤ 122 := by omega
      go_wp2_with (fail)
      go_ret
      exact ⟨by simp [h1, h2], rfl⟩
    · have h2' : ¬ (n : Int) ≤ 122 := by omega
      have h3 : (65 : Int) ≤ n := by omega
      have h4 : ¬ (n : Int) ≤ 90 := by omega
      go_wp2_with (fail)
      go_ret
      exact ⟨by simp [h1, h2]; omega, rfl⟩
  · have h1' : ¬ (97 : Int) ≤ n := by omega
    by_cases h3 : 65 ≤ n
    · have h3' : (65 : Int) ≤ n := by omega
      by_cases h4 : n ≤ 90
      · have h4' : (n : Int) ≤ 90 := by omega
        go_wp2_with (fail)
        go_ret
        exact ⟨by simp [h1, h3, h4], rfl⟩
      · have h4' : ¬ (n : Int) ≤ 90 := by omega
        go_wp2_with (fail)
        go_ret
        exact ⟨by simp [h1, h3, h4], rfl⟩
    · have h3' : ¬ (65 : Int) ≤ n := by omega
      go_wp2_with (fail)
      go_ret
      exact ⟨by simp [h1, h3], rfl⟩

theorem dg_calls54 (s : ByteArray) (w : World) (hz : s.size ≤ 10000) : Calls Tryz.prog 54 #[.string s] w fun e w' => e = .returned (.int .i64 (dgs s.data.toList : Nat)) ∧ w = w' := by
  go_enter Tryz.func54, Tryz.ntmps54
  go_wp2_with (fail)
  go_loopw [3] (fun v3 wr => ∃ i : Nat, i ≤ s.size ∧ v3 = .int .i64 (i : Int) ∧ wr = w ∧ Hid (i + dgs (s.data.toList.drop i) = dgs s.data.toList)) (fun v3 _ => s.size - (match v3 with | .int _ i => i.toNat | _ => 0))
  case atStart => exact ⟨0, Nat.zero_le _, rfl, rfl, by simp [Hid]⟩
  case round =>
    obtain ⟨i, hi, rfl, rfl, hq⟩ := hrel
    by_cases hlt : i < s.size
    · have hlt' : (i : Int) < s.size := by omega
      have hd := drop_cons s hlt
      obtain ⟨c, hc⟩ : ∃ c, c = s[i] := ⟨_, rfl⟩
      obtain ⟨n, hn⟩ : ∃ n, n = c.toNat := ⟨_, rfl⟩
      have hcn : (s[i]).toNat = n := by rw [hn, hc]
      rw [← hc] at hd
      have hg : isDg c = (decide (48 ≤ n) && decide (n ≤ 57)) := by unfold isDg; rw [hn]
      have hq2 : Hid (isDg c = true → i + 1 + dgs (s.data.toList.drop (i + 1)) = dgs s.data.toList) := by
        intro h
        have := hq.out
        rw [hd] at this
        unfold dgs at this ⊢
        rw [List.takeWhile_cons, h] at this
        simp only [if_true, List.length_cons] at this
        omega
      have hq3 : Hid (isDg c = false → dgs s.data.toList = i) := by
        intro h
        have := hq.out
        rw [hd] at this
        unfold dgs at this ⊢
        rw [List.takeWhile_cons, h] at this
        simp only [Bool.false_eq_true, if_false, List.length_nil] at this
        omega
      clear hd hq hn hc
      by_cases h1 : 48 ≤ n
      · have h1' : (48 : Int) ≤ n := by omega
        by_cases h2 : n ≤ 57
        · have h2' : (n : Int) ≤ 57 := by omega
          have hq4 := hq2.out (by simp [hg, h1, h2])
          have hq5 := Lib.hid hq4
          clear hq4 hg
          go_wp2_with (fail)
          go_roundw
          case rel => exact ⟨i + 1, by omega, int_eq (by omega), trivial, hq5⟩
          case measure => simp only []; omega
        · have h2' : ¬ (n : Int) ≤ 57 := by omega
          have hq4 := hq3.out (by simp [hg, h2])
          have hq5 := Lib.hid hq4
          clear hq4 hg
          go_wp2_with (fail)
          go_ret
          exact ⟨by rw [hq5.out]; rfl, rfl⟩
      · have h1' : ¬ (48 : Int) ≤ n := by omega
        have hq4 := hq3.out (by simp [hg, h1])
        have hq5 := Lib.hid hq4
        clear hq4 hg
        go_wp2_with (fail)
        go_ret
        exact ⟨by rw [hq5.out]; rfl, rfl⟩
    · have hlt' : ¬ (i : Int) < s.size := by omega
      have hq4 : Hid (dgs s.data.toList = i) := by
        have := hq.out
        rw [drop_end s hlt] at this
        exact this.symm
      go_wp2_with (fail)
      go_ret
      exact ⟨by rw [hq4.out]; rfl, rfl⟩

end Go.Proofs.YtlckfiflfkbofaaGreatDoor

/- The reference's decimal: the walk. -/
namespace Go.Proofs.YtlckfiflfkbofaaGreatDoor
open Go.RowKit

theorem dg_at (s : ByteArray) (hz : s.size ≤ 10000) (i : Nat) (w : World) : Calls Tryz.prog 54 #[.string (s.extract i s.size)] w fun e w' => e = .returned (.int .i64 (dgs (s.data.toList.drop i) : Nat)) ∧ w = w' := by
  have h := dg_calls54 (s.extract i s.size) w (by simp [ByteArray.size_extract]; omega)
  rw [ext_list] at h
  exact h

/-- What the exponent's part of decimal reads. -/
inductive XA (s : ByteArray) (n m : Nat) : Prop
  | fin (h : ¬ (n : Int) < s.size) (hm : m = n)
  | no (h : n < s.size) (q : Nat) (hq : s[n].toNat = q) (h1 : ¬ (q : Int) = 101) (h2 : ¬ (q : Int) = 69) (hm : m = n)
  | ex (h : n < s.size) (q : Nat) (hq : s[n].toNat = q) (h1 : (q : Int) = 101 ∨ (¬ (q : Int) = 101 ∧ (q : Int) = 69)) (n1 n2 : Nat) (e1 : (n : Int) + 1 = n1) (e2 : (n1 : Int) + 1 = n2) (a k : Nat) (hk : dgs (s.data.toList.drop a) = k) (hal : a ≤ s.size)
      (h2 : (¬ (n1 : Int) < s.size ∧ a = n1) ∨ (∃ (g : n1 < s.size) (r : Nat), s[n1].toNat = r ∧ (((r : Int) = 43 ∧ a = n2) ∨ (¬ (r : Int) = 43 ∧ (r : Int) = 45 ∧ a = n2) ∨ (¬ (r : Int) = 43 ∧ ¬ (r : Int) = 45 ∧ a = n1)))) (hm : ((0 : Int) < k ∧ IntKind.i64.wrap ((a : Int) + k) = m) ∨ (¬ (0 : Int) < k ∧ m = n))

theorem u8v {c : UInt8} {n : Nat} (h : c.toNat = n) (m : Nat) (hm : m < 256) : c = UInt8.ofNat m ↔ n = m := by
  rw [← h]
  constructor
  · rintro rfl; simp; omega
  · intro e; apply UInt8.toNat_inj.1; simp; omega

theorem xa_is (s : ByteArray) (hz : s.size ≤ 10000) (n : Nat) (hn : n ≤ s.size) : XA s n (expN s.data.toList n) := by
  by_cases h : n < s.size
  · have hd := drop_cons s h
    by_cases he : s[n] = 101 ∨ s[n] = 69
    · have hv : (((s[n].toNat : Nat) : Int) = 101 ∨ (¬ ((s[n].toNat : Nat) : Int) = 101 ∧ ((s[n].toNat : Nat) : Int) = 69)) := by
        rcases he with he | he <;> rw [he] <;> decide
      have key : ∀ a, a ≤ s.size → (if (s.data.toList.drop (n + 1)).head? = some 43 ∨ (s.data.toList.drop (n + 1)).head? = some 45 then n + 2 else n + 1) = a →
          ((¬ ((n + 1 : Nat) : Int) < s.size ∧ a = n + 1) ∨ (∃ (g : n + 1 < s.size) (r : Nat), s[n + 1].toNat = r ∧ (((r : Int) = 43 ∧ a = n + 2) ∨ (¬ (r : Int) = 43 ∧ (r : Int) = 45 ∧ a = n + 2) ∨ (¬ (r : Int) = 43 ∧ ¬ (r : Int) = 45 ∧ a = n + 1)))) → XA s n (expN s.data.toList n) := by
        intro a hal ha h2
        refine .ex h _ rfl hv (n + 1) (n + 2) (by omega) (by omega) a _ rfl hal h2 ?_
        have hx : expN s.data.toList n = if 0 < dgs (s.data.toList.drop a) then a + dgs (s.data.toList.drop a) else n := by
          simp only [expN, hd, he, if_true, ha]
        rw [hx]
        by_cases hk : 0 < dgs (s.data.toList.drop a)
        · left; rw [if_pos hk]; have := dgs_le (s.data.toList.drop a); simp only [List.length_drop, Array.length_toList] at this; have hsz : s.data.size = s.size := rfl; exact ⟨by omega, by rw [IntWalk.i64_in _ (by omega)]; omega⟩
        · right; rw [if_neg hk]; exact ⟨by omega, rfl⟩
      by_cases h1 : n + 1 < s.size
      · have hd1 := drop_cons s h1
        by_cases e1 : s[n + 1] = 43
        · refine key (n + 2) (by omega) (by rw [hd1]; simp [e1]) (Or.inr ⟨h1, _, rfl, Or.inl ⟨by rw [e1]; rfl, rfl⟩⟩)
        · have e1' : ¬ ((s[n + 1].toNat : Nat) : Int) = 43 := by
            intro e; apply e1; apply UInt8.toNat_inj.1
            show s[n + 1].toNat = 43
            omega
          by_cases e2 : s[n + 1] = 45
          · refine key (n + 2) (by omega) (by rw [hd1]; simp [e2]) (Or.inr ⟨h1, _, rfl, Or.inr (Or.inl ⟨e1', by rw [e2]; rfl, rfl⟩)⟩)
          · refine key (n + 1) (by omega) (by rw [hd1]; simp [e1, e2]) (Or.inr ⟨h1, _, rfl, Or.inr (Or.inr ⟨e1', ?_, rfl⟩)⟩)
            intro e; apply e2; apply UInt8.toNat_inj.1
            show s[n + 1].toNat = 45
            omega
      · have hd1 := drop_end s h1
        exact key (n + 1) (by omega) (by rw [hd1]; simp) (Or.inl ⟨by omega, rfl⟩)
    · refine .no h _ rfl ?_ ?_ (by simp only [expN, hd, he, if_false])
      · intro e; apply he; left; apply UInt8.toNat_inj.1; show s[n].toNat = 101; omega
      · intro e; apply he; right; apply UInt8.toNat_inj.1; show s[n].toNat = 69; omega
  · refine .fin (by omega) ?_
    simp only [expN, drop_end s h]

/-- What the mantissa's part reads; n is 0 if nothing is there. -/
inductive MA (s : ByteArray) (n : Nat) : Prop
  | pt (a : Nat) (ha : dgs s.data.toList = a) (h : a < s.size) (q : Nat) (hq : s[a].toNat = q) (h1 : (q : Int) = 46) (d : Nat) (hd : dgs (s.data.toList.drop (a + 1)) = d) (hn : ((a : Int) + d = 0 ∧ n = 0) ∨ (¬ (a : Int) + d = 0 ∧ n = a + 1 + d))
  | no (a : Nat) (ha : dgs s.data.toList = a) (h : a < s.size) (q : Nat) (hq : s[a].toNat = q) (h1 : ¬ (q : Int) = 46) (hn : n = a)
  | fin (a : Nat) (ha : dgs s.data.toList = a) (h : ¬ (a : Int) < s.size) (hn : n = a)

theorem ma_is (s : ByteArray) : ∃ n, n ≤ s.size ∧ MA s n ∧ decN s.data.toList = if n = 0 then 0 else expN s.data.toList n := by
  have hle := dgs_le s.data.toList
  have hsz : s.data.toList.length = s.size := by simp
  by_cases h : dgs s.data.toList < s.size
  · have hd := drop_cons s h
    by_cases hc : s[dgs s.data.toList] = 46
    · have hle2 := dgs_le (s.data.toList.drop (dgs s.data.toList + 1))
      rw [List.length_drop, hsz] at hle2
      by_cases h0 : dgs s.data.toList + dgs (s.data.toList.drop (dgs s.data.toList + 1)) = 0
      · refine ⟨0, Nat.zero_le _, .pt _ rfl h _ rfl (by rw [hc]; rfl) _ rfl (Or.inl ⟨by omega, rfl⟩), ?_⟩
        simp only [decN, hd, hc, if_true, h0]
      · refine ⟨_, ?_, .pt _ rfl h _ rfl (by rw [hc]; rfl) _ rfl (Or.inr ⟨by omega, rfl⟩), ?_⟩
        · omega
        · simp only [decN, hd, hc, if_true, h0, if_false]
          rw [if_neg (by omega)]
    · refine ⟨_, by omega, .no _ rfl h _ rfl ?_ rfl, ?_⟩
      · intro e; apply hc; apply UInt8.toNat_inj.1
        show s[dgs s.data.toList].toNat = 46
        omega
      · simp only [decN, hd, hc, if_false]
  · refine ⟨_, by omega, .fin _ rfl (by omega) rfl, ?_⟩
    simp only [decN, drop_end s h]


set_option maxRecDepth 100000 in
set_option maxHeartbeats 8000000 in
theorem dec_zero (s : ByteArray) (w : World) (hz : s.size ≤ 10000) (hm : MA s 0) : Calls Tryz.prog 31 #[.string s] w fun e w' => e = .returned (.int .i64 0) ∧ w = w' := by
  have hD := fun w => dg_calls54 s w hz
  have hE := fun i w => dg_at s hz i w
  rcases hm with ⟨a, ha, h, q, hq, h1, d, hd, (⟨hn, _⟩ | ⟨hn, hn2⟩)⟩ | ⟨a, ha, h, q, hq, h1, hn⟩ | ⟨a, ha, h, hn⟩
  · have hG := hE (a + 1)
    have h' : (a : Int) < s.size := by omega
    have hs : (a : Int) + 1 ≤ s.size := by omega
    rw [hd] at hG
    rw [ha] at hD
    clear hE ha hd
    go_enter Tryz.func31, Tryz.ntmps31
    go_wp2_with (first | (go_at_call 54; refine (hD _).mono ?_; rintro e w2 ⟨rfl, rfl⟩; clear hD) | (go_at_call 54; refine (hG _).mono ?_; rintro e w2 ⟨rfl, rfl⟩))
    go_ret
    exact ⟨rfl, rfl⟩
  · omega
  · have h' : (a : Int) < s.size := by omega
    rw [ha] at hD
    subst hn
    clear hE ha
    go_enter Tryz.func31, Tryz.ntmps31
    go_wp2_with (go_at_call 54; refine (hD _).mono ?_; rintro e w2 ⟨rfl, rfl⟩; clear hD)
    go_ret
    exact ⟨rfl, rfl⟩
  · rw [ha] at hD
    subst hn
    clear hE ha
    go_enter Tryz.func31, Tryz.ntmps31
    go_wp2_with (go_at_call 54; refine (hD _).mono ?_; rintro e w2 ⟨rfl, rfl⟩; clear hD)
    go_ret
    exact ⟨rfl, rfl⟩

set_option maxRecDepth 100000 in
set_option maxHeartbeats 40000000 in
theorem dec_pos (s : ByteArray) (w : World) (hz : s.size ≤ 10000) (n m : Nat) (hnl : n ≤ s.size) (hn0 : ¬ n = 0) (hm : MA s n) (hx : XA s n m) : Calls Tryz.prog 31 #[.string s] w fun e w' => e = .returned (.int .i64 (m : Nat)) ∧ w = w' := by
  have hD := fun w => dg_calls54 s w hz
  have hE := fun i w => dg_at s hz i w
  have hn0' : ((n : Int) == 0) = false := by simp; omega
  rcases hm with ⟨a, ha, h, q, hq, h1, d, hd, (⟨hn, hn2⟩ | ⟨hn, hn2⟩)⟩ | ⟨a, ha, h, q, hq, h1, hn⟩ | ⟨a, ha, h, hn⟩
  · omega
  case' pt.inr =>
    have hG := hE (a + 1)
    have hs : (a : Int) + 1 ≤ s.size := by omega
    have hdl : d ≤ s.size := by have := dgs_le (s.data.toList.drop (a + 1)); simp only [List.length_drop, Array.length_toList] at this; have hsz : s.data.size = s.size := rfl; omega
    obtain ⟨d1, hd1⟩ : ∃ d1, d1 = 1 + d := ⟨_, rfl⟩
    have hsum1 : IntKind.i64.wrap (1 + (d : Int)) = (d1 : Int) := by rw [IntWalk.i64_in _ (by omega)]; omega
    have hsum : IntKind.i64.wrap ((a : Int) + (d1 : Int)) = (n : Int) := by rw [IntWalk.i64_in _ (by omega)]; omega
    obtain ⟨ad, had⟩ : ∃ ad, ad = a + d := ⟨_, rfl⟩
    have hsum2 : IntKind.i64.wrap ((a : Int) + (d : Int)) = (ad : Int) := by rw [IntWalk.i64_in _ (by omega)]; omega
    have had0 : ((ad : Int) == 0) = false := by simp; omega
    clear hn had hd1
    rw [hd] at hG
    clear hn2
  case' no => subst hn
  case' fin => subst hn
  case' pt.inr => have hlt : (a : Int) < s.size := by omega
  case' no => have hlt : (n : Int) < s.size := by omega
  all_goals (
    rw [ha] at hD
    clear ha
    rcases hx with ⟨x0, hm⟩ | ⟨x0, qx, hqx, x1, x2, hm⟩ | ⟨x0, qx, hqx, x1, n1, n2, e1, e2, b, k, hk, hbl, x2, hm⟩
    case' fin => subst hm
    case' no => subst hm
    case' no => have x0' : (m : Int) < s.size := by omega
    case' ex =>
      have x0' : (n : Int) < s.size := by omega
      have hb' : (b : Int) ≤ s.size := by omega
      have hK := hE b
      rw [hk] at hK
      clear hk)
  case' no.no | no.ex => obtain rfl : q = qx := hq.symm.trans hqx
  case' no.no =>
    have x3 : ((q : Int) == 101) = false := by simpa using x1
    have x4 : ((q : Int) == 69) = false := by simpa using x2
  case' pt.inr.no =>
    have x3 : ((qx : Int) == 101) = false := by simpa using x1
    have x4 : ((qx : Int) == 69) = false := by simpa using x2
  case' pt.inr.ex | no.ex | fin.ex =>
    clear hE
    rcases x1 with x1 | ⟨x1, x1'⟩
    all_goals (rcases x2 with ⟨y0, rfl⟩ | ⟨y0, r, hr, (⟨y1, rfl⟩ | ⟨y1, y2, rfl⟩ | ⟨y1, y2, rfl⟩)⟩)
    all_goals (rcases hm with ⟨z0, z1⟩ | ⟨z0, rfl⟩)
    all_goals (try (have y0' : (n1 : Int) < s.size := by omega))
    all_goals (try (have y3 : ((r : Int) == 43) = false := by simpa using y1))
    all_goals (try (have y4 : ((r : Int) == 45) = false := by simpa using y2))
    all_goals (try (have x3 : ((qx : Int) == 101) = false := by simpa using x1))
  all_goals (try (exfalso; omega))
  all_goals (
    go_enter Tryz.func31, Tryz.ntmps31
    go_wp2_with (first | (go_at_call 54; refine (hD _).mono ?_; rintro e w2 ⟨rfl, rfl⟩; clear hD) | (go_at_call 54; refine (hG _).mono ?_; rintro e w2 ⟨rfl, rfl⟩; clear hG) | (go_at_call 54; refine (hK _).mono ?_; rintro e w2 ⟨rfl, rfl⟩; clear hK))
    go_ret
    exact ⟨rfl, rfl⟩)

/-- The reference's decimal is decN. -/
theorem dec_calls (s : ByteArray) (w : World) (hz : s.size ≤ 10000) : Calls Tryz.prog 31 #[.string s] w fun e w' => e = .returned (.int .i64 (decN s.data.toList : Nat)) ∧ w = w' := by
  obtain ⟨n, hnl, hm, hd⟩ := ma_is s
  by_cases h0 : n = 0
  · subst h0
    rw [hd, if_pos rfl]
    exact dec_zero s w hz hm
  · rw [hd, if_neg h0]
    exact dec_pos s w hz n _ hnl h0 hm (xa_is s hz n hnl)

end Go.Proofs.YtlckfiflfkbofaaGreatDoor

/- The reference's padded and upper. -/
namespace Go.Proofs.YtlckfiflfkbofaaGreatDoor
open Go.RowKit

/-- What padded answers. -/
def PddP (s : ByteArray) (e : Ending) : Prop := ∃ b : Bool, e = .returned (.bool b) ∧ (b = false → pad0 s.data.toList = false)

theorem u8i {c : UInt8} {m : Nat} (hm : m < 256) (h : ¬ c = UInt8.ofNat m) : ((c.toNat : Int) == m) = false := by
  simp only [beq_eq_false_iff_ne, ne_eq]
  intro e
  apply h
  apply UInt8.toNat_inj.1
  simp only [UInt8.toNat_ofNat']
  omega

/-- A byte of the mantissa is no e. -/
theorem okM_ne {m : List UInt8} {b : Bool} (h : okM m b = true) : ∀ c ∈ m, ¬ c = 101 ∧ ¬ c = 69 := by
  have key : ∀ c : UInt8, isDg c = true → ¬ c = 101 ∧ ¬ c = 69 := by
    intro c hc
    constructor <;> (rintro rfl; exact absurd hc (by decide))
  rcases okM_split h with h | ⟨_, d1, d2, rfl, h1, h2⟩
  · intro c hc; exact key c (List.all_eq_true.1 h c hc)
  · intro c hc
    simp only [List.mem_append, List.mem_cons] at hc
    rcases hc with hc | rfl | hc
    · exact key c (List.all_eq_true.1 h1 c hc)
    · decide
    · exact key c (List.all_eq_true.1 h2 c hc)

theorem get_at (s : ByteArray) {i : Nat} (hi : i < s.size) {l : List UInt8} (hl : s.data.toList = l) {c : UInt8} (hc : l[i]? = some c) : s[i] = c := by
  subst hl
  have : i < s.data.toList.length := by simpa using hi
  rw [List.getElem?_eq_getElem this] at hc
  simp only [Array.getElem_toList, Option.some.injEq] at hc
  exact hc

/-- What stands at the exponent's letter and behind it. -/
inductive PX (s : ByteArray) (i : Nat) : Prop
  | fin (h : ¬ (i : Int) < s.size)
  | no (h : i < s.size) (q : Nat) (hq : s[i].toNat = q) (h1 : ((q : Int) == 101) = false) (h2 : ((q : Int) == 69) = false)
  | ex (h : i < s.size) (q : Nat) (hq : s[i].toNat = q) (h1 : q = 101 ∨ q = 69) (i1 i2 : Nat) (e1 : (i : Int) + 1 = i1) (e2 : (i1 : Int) + 1 = i2) (g1 : i1 < s.size) (r : Nat) (hr : s[i1].toNat = r)
      (h2 : ((r = 43 ∨ r = 45) ∧ ∃ (g2 : i2 < s.size) (d : Nat), s[i2].toNat = d ∧ (d = 48 ∨ ((d : Int) == 48) = false)) ∨ (((r : Int) == 43) = false ∧ ((r : Int) == 45) = false ∧ (r = 48 ∨ ((r : Int) == 48) = false)))

theorem px_is (s : ByteArray) (n : Num) (ok : n.Ok) (hs : s.data.toList = n.l) (i : Nat) (hi : i ≤ n.m.length) : PX s i ∧ (i = n.m.length → ¬ ∃ (h : i < s.size) (q : Nat), s[i].toNat = q ∧ ((q : Int) == 101) = false ∧ ((q : Int) == 69) = false) := by
  have hsz : s.size = n.l.length := by
    have : s.data.toList.length = s.size := by simp
    rw [← this, hs]
  have hl : n.l = n.m ++ xsOf n.x := rfl
  have hln : n.l.length = n.m.length + (xsOf n.x).length := by rw [hl, List.length_append]
  rcases Nat.lt_or_ge i n.m.length with hlt | hge
  · have h : i < s.size := by omega
    have hg : s[i] = n.m[i] := get_at s h (hs.trans hl) (by rw [List.getElem?_append_left hlt, List.getElem?_eq_getElem hlt])
    have hne := okM_ne ok.m (n.m[i]) (List.getElem_mem hlt)
    refine ⟨.no h _ rfl ?_ ?_, fun e => by omega⟩
    · rw [hg]; exact u8i (m := 101) (by omega) hne.1
    · rw [hg]; exact u8i (m := 69) (by omega) hne.2
  · have hi' : i = n.m.length := by omega
    subst hi'
    cases hx : n.x with
    | none =>
      rw [hx] at hln
      have : ¬ n.m.length < s.size := by rw [hsz, hln]; simp [xsOf]
      exact ⟨.fin (by omega), fun _ ⟨h, _⟩ => this h⟩
    | some y =>
      obtain ⟨e, g, d⟩ := y
      obtain ⟨he, hg, hd, ha⟩ := ok.x e g d hx
      have hxs : xsOf n.x = e :: (g ++ d) := by rw [hx]; rfl
      rw [hxs] at hl hln
      simp only [List.length_cons, List.length_append] at hln
      have hdp : 0 < d.length := List.length_pos_iff.2 hd
      have h0 : n.m.length < s.size := by omega
      have hq : s[n.m.length] = e := get_at s h0 (hs.trans hl) (by simp)
      have hqv : s[n.m.length].toNat = 101 ∨ s[n.m.length].toNat = 69 := by rw [hq]; rcases he with rfl | rfl <;> simp
      have hg1 : n.m.length + 1 < s.size := by omega
      have at1 : ∀ (k : Nat) (hk : n.m.length + 1 + k < s.size) (c : UInt8), (g ++ d)[k]? = some c → s[n.m.length + 1 + k] = c := by
        intro k hk c hc
        refine get_at s hk (hs.trans hl) ?_
        rw [List.getElem?_append_right (by omega), show n.m.length + 1 + k - n.m.length = k + 1 by omega, List.getElem?_cons_succ, hc]
      have dig : ∀ (c : UInt8), isDg c = true → ¬ c = 43 ∧ ¬ c = 45 := by
        intro c hc
        constructor <;> (rintro rfl; exact absurd hc (by decide))
      have d48 : ∀ c : UInt8, c.toNat = 48 ∨ ((c.toNat : Int) == 48) = false := by
        intro c
        by_cases h : c = 48
        · left; rw [h]; rfl
        · right; exact u8i (m := 48) (by omega) h
      refine ⟨.ex h0 _ rfl hqv (n.m.length + 1) (n.m.length + 2) (by omega) (by omega) hg1 _ rfl ?_, fun _ => ?_⟩
      · simp only [isSg, Bool.or_eq_true, beq_iff_eq] at hg
        cases hdd : d with
        | nil => exact absurd hdd hd
        | cons d0 dr =>
          rw [hdd] at ha
          simp only [List.all_cons, Bool.and_eq_true] at ha
          rcases hg with (rfl | rfl) | rfl
          · right
            have := at1 0 hg1 d0 (by rw [hdd]; rfl)
            have h1 : s[n.m.length + 1] = d0 := this
            rw [h1]
            exact ⟨u8i (m := 43) (by omega) (dig d0 ha.1).1, u8i (m := 45) (by omega) (dig d0 ha.1).2, d48 d0⟩
          · left
            have h1 : s[n.m.length + 1] = 43 := at1 0 hg1 43 rfl
            have hg2 : n.m.length + 1 + 1 < s.size := by simp only [List.length_cons, List.length_nil] at hln; omega
            have h2 : s[n.m.length + 1 + 1] = d0 := at1 1 hg2 d0 (by rw [hdd]; rfl)
            exact ⟨Or.inl (by rw [h1]; rfl), hg2, _, rfl, by have := d48 d0; rw [← h2] at this; exact this⟩
          · left
            have h1 : s[n.m.length + 1] = 45 := at1 0 hg1 45 rfl
            have hg2 : n.m.length + 1 + 1 < s.size := by simp only [List.length_cons, List.length_nil] at hln; omega
            have h2 : s[n.m.length + 1 + 1] = d0 := at1 1 hg2 d0 (by rw [hdd]; rfl)
            exact ⟨Or.inr (by rw [h1]; rfl), hg2, _, rfl, by have := d48 d0; rw [← h2] at this; exact this⟩
      · rintro ⟨h, q, hq1, hq2, hq3⟩
        subst hq1
        rcases hqv with h | h
        · rw [h] at hq2; cases hq2
        · rw [h] at hq3; cases hq3

/-- What the first test reads. -/
inductive P0 (s : ByteArray) : Prop
  | one (h : ¬ (s.size : Int) > 1) (hp : pad0 s.data.toList = false)
  | no (h : (s.size : Int) > 1) (h0 : 0 < s.size) (q : Nat) (hq : s[0].toNat = q) (h1 : ((q : Int) == 48) = false) (hp : pad0 s.data.toList = false)
  | dg (h : (s.size : Int) > 1) (h0 : 0 < s.size) (hq : s[0].toNat = 48) (k : Nat) (hk : dgs (s.data.toList.drop 1) = k) (h2 : (0 : Int) < k ∨ (¬ (0 : Int) < k ∧ pad0 s.data.toList = false))

theorem p0_is (s : ByteArray) : P0 s := by
  have hsz : s.data.toList.length = s.size := by simp
  cases hl : s.data.toList with
  | nil => rw [hl] at hsz; exact .one (by simp at hsz; omega) (by rw [hl]; rfl)
  | cons a l =>
    cases l with
    | nil => rw [hl] at hsz; exact .one (by simp at hsz; omega) (by rw [hl]; rfl)
    | cons b l =>
      rw [hl] at hsz
      simp only [List.length_cons] at hsz
      have h0 : 0 < s.size := by omega
      have h1 : s[0] = a := get_at s h0 hl rfl
      by_cases ha : a = 48
      · subst ha
        refine .dg (by omega) h0 (by rw [h1]; rfl) _ rfl ?_
        by_cases hb : isDg b = true
        · left; rw [hl]; simp [dgs, hb]
        · right
          have hb' : isDg b = false := by simpa using hb
          rw [hl]
          exact ⟨by simp [dgs, hb'], by simp [pad0, hb']⟩
      · exact .no (by omega) h0 _ rfl (by rw [h1]; exact u8i (m := 48) (by omega) ha) (by rw [hl]; simp [pad0, ha])

set_option maxRecDepth 100000 in
set_option maxHeartbeats 8000000 in
theorem pdd_loop (s : ByteArray) (w : World) (hz : s.size ≤ 10000) (n : Num) (ok : n.Ok) (hs : s.data.toList = n.l) (hp0 : P0 s) : Calls Tryz.prog 29 #[.string s] w fun e w' => PddP s e ∧ w = w' := by
  have hPX := fun i hi => px_is s n ok hs i hi
  have hml : n.m.length ≤ s.size := by
    have h1 : s.data.toList.length = s.size := by simp
    rw [← h1, hs]; unfold Num.l; simp
  obtain ⟨M, hM⟩ : ∃ M, M = n.m.length := ⟨_, rfl⟩
  rw [← hM] at hPX hml
  have HX := Lib.hid hPX
  clear hPX hs hM ok
  have hD := fun w => dg_at s hz 1 w
  have hw0 : (1 : Int) ≤ s.size ∨ ¬ (s.size : Int) > 1 := by omega
  rcases hp0 with ⟨h, hp⟩ | ⟨h, h0, q, hq, h1, hp⟩ | ⟨h, h0, hq, k, hk, (h2 | ⟨h2, hp⟩)⟩
  case' dg.inl =>
    rw [hk] at hD
    have hs1 : (1 : Int) ≤ s.size := by omega
    clear hk
    go_enter Tryz.func29, Tryz.ntmps29
    go_wp2_with (go_at_call 54; refine (hD _).mono ?_; rintro e w2 ⟨rfl, rfl⟩)
    go_ret
    exact ⟨⟨true, rfl, fun h => by cases h⟩, rfl⟩
  case' dg.inr =>
    rw [hk] at hD
    have hs1 : (1 : Int) ≤ s.size := by omega
    clear hk
  all_goals (
    have HP := Lib.hid hp
    clear hp
    go_enter Tryz.func29, Tryz.ntmps29
    go_wp2_with (go_at_call 54; refine (hD _).mono ?_; rintro e w2 ⟨rfl, rfl⟩)
    clear hD
    go_loopw [21] (fun v21 wr => ∃ i : Nat, i ≤ M ∧ v21 = .int .i64 (i : Int) ∧ wr = w) (fun v21 _ => M + 1 - (match v21 with | .int _ i => i.toNat | _ => 0))
    case atStart => exact ⟨0, Nat.zero_le _, rfl, rfl⟩
    case round =>
      obtain ⟨i, hi, rfl, rfl⟩ := hrel
      have hne := (HX.out i hi).2
      rcases (HX.out i hi).1 with x0 | ⟨x0, qx, hqx, x1, x2⟩ | ⟨x0, qx, hqx, x1, i1, i2, e1, e2, g1, r, hr, x2⟩
      · clear hne
        go_wp2_with (fail)
        go_ret
        exact ⟨⟨false, rfl, fun _ => HP.out⟩, rfl⟩
      · have hiM : i < M := by
          rcases Nat.lt_or_ge i M with h | h
          · exact h
          · exact absurd ⟨x0, qx, hqx, x1, x2⟩ (hne (by omega))
        clear hne
        have x0' : (i : Int) < s.size := by omega
        go_wp2_with (fail)
        go_roundw
        case rel => exact ⟨i + 1, by omega, int_eq (by omega), trivial⟩
        case measure => simp only []; omega
      · clear hne
        have x0' : (i : Int) < s.size := by omega
        have g1' : (i1 : Int) < s.size := by omega
        rcases x1 with rfl | rfl
        all_goals (
          rcases x2 with ⟨(rfl | rfl), g2, d, hd, (rfl | d1)⟩ | ⟨r1, r2, (rfl | r3)⟩
          all_goals (
            go_wp2_with (fail)
            all_goals (
              go_ret
              exact ⟨⟨_, rfl, fun _ => HP.out⟩, rfl⟩))))

theorem pdd_calls (s : ByteArray) (w : World) (hz : s.size ≤ 10000) (n : Num) (ok : n.Ok) (hs : s.data.toList = n.l) : Calls Tryz.prog 29 #[.string s] w fun e w' => PddP s e ∧ w = w' := pdd_loop s w hz n ok hs (p0_is s)

end Go.Proofs.YtlckfiflfkbofaaGreatDoor

/- The reference's upper. -/
namespace Go.Proofs.YtlckfiflfkbofaaGreatDoor
open Go.RowKit

def upC (c : UInt8) : UInt8 := if 97 ≤ c.toNat ∧ c.toNat ≤ 122 then c - 32 else c
def upS (s : ByteArray) : ByteArray := mkS (s.data.toList.map upC)

/-- The row of bytes, of which the first i are turned. -/
structure UpR (s : ByteArray) (w wr : World) (i : Nat) : Prop where
  c : ∀ j (h : j < s.size), wr.cell? ⟨w.heap.size, j, none⟩ = some (.int .u8 ((if j < i then upC s[j] else s[j]).toNat : Int))
  f : ∀ j, j < s.size → wr.frozen? ⟨w.heap.size, j, none⟩ = false
  k : Keep (fun _ => False) w wr

theorem upC_v (c : UInt8) (n : Nat) (h : c.toNat = n) (h1 : 97 ≤ n) (h2 : n ≤ 122) : (n : Int) - 97 + 65 = ((upC c).toNat : Int) := by
  have hu : (upC c).toNat = n - 32 := by
    unfold upC
    rw [if_pos ⟨by omega, by omega⟩]
    rw [UInt8.toNat_sub_of_le]
    · rw [h]; rfl
    · show 32 ≤ c.toNat; omega
  rw [hu]
  omega

theorem UpR.set {s : ByteArray} {w wr : World} {i : Nat} (h : UpR s w wr i) (hi : i < s.size) (v : Int) (hv : v = ((upC s[i]).toNat : Int)) : UpR s w (wr.setCell ⟨w.heap.size, i, none⟩ (.int .u8 v)) (i + 1) := by
  refine ⟨fun j hj => ?_, fun j hj => by rw [World.frozen?_setCell]; exact h.f j hj, h.k.setCell (Or.inl (Nat.le_refl _)) _⟩
  by_cases e : j = i
  · subst e
    rw [World.cell?_setCell_same wr _ _ (h.c j hj), hv, if_pos (by omega)]
  · rw [World.cell?_setCell_other _ _ _ _ (by intro e2; cases e2; exact e rfl), h.c j hj]
    by_cases hlt : j < i
    · rw [if_pos hlt, if_pos (by omega)]
    · rw [if_neg hlt, if_neg (by omega)]
theorem UpR.skip {s : ByteArray} {w wr : World} {i : Nat} (h : UpR s w wr i) (hi : i < s.size) (hv : upC s[i] = s[i]) : UpR s w wr (i + 1) := by
  refine ⟨fun j hj => ?_, h.f, h.k⟩
  rw [h.c j hj]
  by_cases e : j = i
  · subst e
    rw [if_neg (by omega), if_pos (by omega), hv]
  · by_cases hlt : j < i
    · rw [if_pos hlt, if_pos (by omega)]
    · rw [if_neg hlt, if_neg (by omega)]

set_option maxRecDepth 100000 in
set_option maxHeartbeats 8000000 in
theorem up_calls (s : ByteArray) (w : World) (hz : s.size ≤ 10000) : Calls Tryz.prog 28 #[.string s] w fun e w' => e = .returned (.string (upS s)) ∧ Keep (fun _ => False) w w' := by
  have hconv := run_bytes_of_string w 9 88 5 s Tryz.underlying9 Tryz.underlying88 Tryz.underlying5
  have hfr := fun (C : Array Value) j => World.frozen?_alloc_mark w.drew C 5 C.size (C.size + 1) j
  obtain ⟨cap, hcap⟩ : ∃ cap, grownCap w s.size 0 5 = cap := ⟨_, rfl⟩
  rw [hcap] at hconv
  obtain ⟨C, hC⟩ : ∃ C, bytesRow s cap = C := ⟨_, rfl⟩
  have hCz : s.size ≤ C.size := by
    rw [← hC]; unfold bytesRow; simp
  have hU0 : UpR s w (w.drew.alloc (.cells (bytesRow s cap) 5 ((bytesRow s cap).size, (bytesRow s cap).size + 1))) 0 := by
    refine ⟨fun j hj => ?_, fun j hj => ?_, ((Keep.refl _ w).drew).alloc _⟩
    · rw [if_neg (by omega)]
      have := World.cell?_alloc_mark w.drew (bytesRow s cap) 5 ((bytesRow s cap).size, (bytesRow s cap).size + 1) j
      exact this.trans (bytesRow_at s cap j hj)
    · have := World.frozen?_alloc_mark w.drew (bytesRow s cap) 5 (bytesRow s cap).size ((bytesRow s cap).size + 1) j
      rw [hC] at this ⊢
      refine this.trans ?_
      rw [decide_eq_false (by omega)]; rfl
  rw [hC] at hconv hU0
  have HU0 := Lib.hid hU0
  clear hU0 hfr hcap hC hCz
  generalize hW1 : w.drew.alloc (.cells C 5 (C.size, C.size + 1)) = w1 at hconv HU0
  clear hW1
  go_enter Tryz.func28, Tryz.ntmps28
  go_wp2_with (fail)
  go_loopw [10] (fun v10 wr => ∃ i : Nat, i ≤ s.size ∧ v10 = .int .i64 (i : Int) ∧ Hid (UpR s w wr i)) (fun v10 _ => s.size - (match v10 with | .int _ i => i.toNat | _ => 0))
  case atStart => exact ⟨0, Nat.zero_le _, rfl, HU0⟩
  case round =>
    obtain ⟨i, hi, rfl, hU⟩ := hrel
    by_cases hlt : i < s.size
    · have hlt' : (i : Int) < s.size := by omega
      have c0 := hU.out.c i hlt
      have f0 := hU.out.f i hlt
      rw [if_neg (by omega)] at c0
      obtain ⟨n, hn⟩ : ∃ n, s[i].toNat = n := ⟨_, rfl⟩
      rw [hn] at c0
      by_cases h1 : 97 ≤ n
      · have h1' : (97 : Int) ≤ n := by omega
        by_cases h2 : n ≤ 122
        · have h2' : (n : Int) ≤ 122 := by omega
          have hw := upC_v s[i] n hn h1 h2
          have HV := Lib.hid hw
          clear hw hn
          go_wp2_with (fail)
          go_roundw
          case rel => exact ⟨i + 1, by omega, int_eq (by omega), Lib.hid (hU.out.set hlt _ HV.out)⟩
          case measure => simp only []; omega
        · have h2' : ¬ (n : Int) ≤ 122 := by omega
          have hs : upC s[i] = s[i] := by unfold upC; rw [if_neg (by omega)]
          have HS := Lib.hid hs
          clear hs hn
          go_wp2_with (fail)
          go_roundw
          case rel => exact ⟨i + 1, by omega, int_eq (by omega), Lib.hid (hU.out.skip hlt HS.out)⟩
          case measure => simp only []; omega
      · have h1' : ¬ (97 : Int) ≤ n := by omega
        have hs : upC s[i] = s[i] := by unfold upC; rw [if_neg (by omega)]
        have HS := Lib.hid hs
        clear hs hn
        go_wp2_with (fail)
        go_roundw
        case rel => exact ⟨i + 1, by omega, int_eq (by omega), Lib.hid (hU.out.skip hlt HS.out)⟩
        case measure => simp only []; omega
    · have hlt' : ¬ (i : Int) < s.size := by omega
      have hback : (convert 88 9 (.slice (some ⟨w.heap.size, 0, none⟩) s.size cap)).run Tryz.prog wr = .ok (.string (upS s)) wr := by
        have hsz : (s.data.toList.map upC).length = s.size := by simp
        have := run_convert_bytes_back (P := Tryz.prog) wr 88 9 5 ⟨w.heap.size, 0, none⟩ cap (s.data.toList.map upC) Tryz.underlying88 Tryz.underlying5 Tryz.underlying9 (by
          intro j hj
          rw [hsz] at hj
          have hadd : (⟨w.heap.size, 0, none⟩ : Addr).add j = ⟨w.heap.size, j, none⟩ := by unfold Addr.add; split <;> simp_all
          rw [hadd, hU.out.c j hj, if_pos (by omega)]
          simp
          rfl)
        rw [hsz] at this
        exact this
      go_wp2_with (fail)
      go_ret
      exact ⟨rfl, hU.out.k⟩

end Go.Proofs.YtlckfiflfkbofaaGreatDoor
