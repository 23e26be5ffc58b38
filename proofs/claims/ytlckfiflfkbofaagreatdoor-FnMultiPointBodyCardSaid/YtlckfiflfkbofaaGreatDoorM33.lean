/- The reference's tokens: the walk. The reference's AskedWKT and Tokens. The reference's Tokens. Part 33 of 51 of the proof that FnMultiPointBody returns true for every text and every type of coordinates, where the listed variables hold what the text of the program lays. -/
import Derived.Test.YtlckfiflfkbofaaGreatDoorM29
import Derived.Test.YtlckfiflfkbofaaGreatDoorM31
import Derived.Test.YtlckfiflfkbofaaGreatDoorM32
set_option linter.all false

/- The reference's tokens: the walk. -/
namespace Go.Proofs.YtlckfiflfkbofaaGreatDoor
open Go.RowKit

def flat (l : List Tok) : List Value := l.flatMap fun k => [.int .u8 (k.k : Int), .string k.s]
theorem flat_snoc (l : List Tok) (k : Tok) : flat (l ++ [k]) = flat l ++ [.int .u8 (k.k : Int), .string k.s] := by simp [flat]

/-- What tokens answers. -/
def TknP (w : World) (o : Option (List Tok)) (e : Ending) (w' : World) : Prop :=
  match o with
  | some l => ∃ v, e = .returned (.tuple #[v, .bool true]) ∧ w'.ownsRow w.heap.size 74 2 v l.length (flat l)
  | none => e = .returned (.tuple #[.slice none 0 0, .bool false])

theorem ext_take (s : ByteArray) (i n : Nat) : s.extract i (i + n) = mkS ((s.data.toList.drop i).take n) := by
  apply ByteArray.ext
  simp [mkS, ByteArray.data_extract, Array.toList_extract, List.extract_eq_take_drop]
  apply Array.ext'
  simp [Array.toList_extract, List.extract_eq_take_drop]

theorem ap_tok {w : World} {base : Nat} {v : Value} {acc : List Tok} (k : Tok) (h : w.ownsRow base 74 2 v (acc.length + 1) (flat acc ++ [.int .u8 (k.k : Int), .string k.s])) : w.ownsRow base 74 2 v (acc ++ [k]).length (flat (acc ++ [k])) := by
  rw [flat_snoc, List.length_append]; exact h

theorem isl_at (s : ByteArray) {i : Nat} (h : i < s.size) {n : Nat} (hn : s[i].toNat = n) (w : World) : Calls Tryz.prog 30 #[.int .u8 (n : Int)] w fun e w' => e = .returned (.bool (isLt s[i])) ∧ w = w' := by
  subst hn; exact isl_calls _ w

set_option maxRecDepth 100000 in
set_option maxHeartbeats 8000000 in
theorem tkn_calls (s : ByteArray) (w : World) (hz : s.size ≤ 10000) : Calls Tryz.prog 17 #[.string s] w fun e w' => TknP w (tkA false s.data.toList) e w' ∧ Keep (fun _ => False) w w' := by
  obtain ⟨i0, hi, hz0, hz1, hz2⟩ := info_parts tokInfo
  obtain ⟨B, hB⟩ : ∃ B, B = w.heap.size := ⟨_, rfl⟩
  go_enter Tryz.func17, Tryz.ntmps17
  go_wp2_with (fail)
  go_loopw [2, 4, 5] (fun v2 v4 v5 wr => ∃ (i : Nat) (j : Bool) (acc : List Tok), i ≤ s.size ∧ v4 = .bool j ∧ v5 = .int .i64 (i : Int) ∧ acc.length ≤ i ∧ Hid (wr.ownsRow w.heap.size 74 2 v2 acc.length (flat acc)) ∧ Hid (Keep (fun _ => False) w wr) ∧ Hid (tkA false s.data.toList = (tkA j (s.data.toList.drop i)).map (acc ++ ·)))
    (fun _ _ v5 _ => s.size - (match v5 with | .int _ i => i.toNat | _ => 0))
  case atStart => exact ⟨0, false, [], Nat.zero_le _, rfl, rfl, Nat.zero_le _, Lib.hid (World.ownsRow_nil _ _ _ _), Lib.hid (Keep.refl _ _), Lib.hid (by simp)⟩
  case round =>
    obtain ⟨i, j, acc, hil, rfl, rfl, hal, hO, hK, hq⟩ := hrel
    by_cases hlt : i < s.size
    · have hlt' : (i : Int) < s.size := by omega
      have hd := drop_cons s hlt
      obtain ⟨c, hc⟩ : ∃ c, c = s[i] := ⟨_, rfl⟩
      obtain ⟨n, hn⟩ : ∃ n, n = c.toNat := ⟨_, rfl⟩
      have hcn : (s[i]).toNat = n := by rw [hn, hc]
      rw [← hc] at hd
      by_cases hbl : isBl c = true
      · have hn4 : n = 32 ∨ n = 9 ∨ n = 10 ∨ n = 13 := by
          simp only [isBl, Bool.or_eq_true, beq_iff_eq] at hbl
          rw [hn]
          rcases hbl with ((rfl | rfl) | rfl) | rfl <;> decide
        have hq1 : Hid (tkA false s.data.toList = (tkA false (s.data.toList.drop (i + 1))).map (acc ++ ·)) := by
          have := hq.out
          rw [hd, tkA_blank hbl] at this
          exact Lib.hid this
        clear hq hd hn hc hbl
        rcases hn4 with rfl | rfl | rfl | rfl
        all_goals (
          go_wp2_with (fail)
          go_roundw
          case rel => exact ⟨i + 1, false, acc, by omega, rfl, int_eq (by omega), by omega, hO, hK, hq1⟩
          case measure => simp only []; omega)
      · have hbl' : isBl c = false := by simpa using hbl
        have ne_of : ∀ m : Nat, m < 256 → ¬ c = UInt8.ofNat m → ¬ (n : Int) = m := by
          intro m hm h e
          apply h
          apply UInt8.toNat_inj.1
          simp only [UInt8.toNat_ofNat']
          omega
        have hb4 : ¬ (n : Int) = 32 ∧ ¬ (n : Int) = 9 ∧ ¬ (n : Int) = 10 ∧ ¬ (n : Int) = 13 := by
          simp only [isBl, Bool.or_eq_true, beq_iff_eq, not_or] at hbl
          exact ⟨ne_of 32 (by omega) hbl.1.1.1, ne_of 9 (by omega) hbl.1.1.2, ne_of 10 (by omega) hbl.1.2, ne_of 13 (by omega) hbl.2⟩
        obtain ⟨b1, b2, b3, b4⟩ := hb4
        have b5 : ((n : Int) == 32) = false := by simpa using b1
        have b6 : ((n : Int) == 9) = false := by simpa using b2
        have b7 : ((n : Int) == 10) = false := by simpa using b3
        have b8 : ((n : Int) == 13) = false := by simpa using b4
        clear b1 b2 b3 b4
        by_cases hs : isSgn c = true
        · have hex : s.extract i (i + 1) = mkS [c] := by rw [ext_take, hd]; rfl
          have hn4 : (n = 45 ∧ j = true) ∨ ((n = 40 ∨ n = 41 ∨ n = 44 ∨ (n = 45 ∧ j = false)) ∧ (c == 45 && j) = false) := by
            simp only [isSgn, Bool.or_eq_true, beq_iff_eq] at hs
            rw [hn]
            rcases hs with ((rfl | rfl) | rfl) | rfl
            · right; exact ⟨Or.inl rfl, rfl⟩
            · right; exact ⟨Or.inr (Or.inl rfl), rfl⟩
            · right; exact ⟨Or.inr (Or.inr (Or.inl rfl)), rfl⟩
            · cases j
              · right; exact ⟨Or.inr (Or.inr (Or.inr ⟨rfl, rfl⟩)), rfl⟩
              · left; exact ⟨rfl, rfl⟩
          rcases hn4 with ⟨hn45, rfl⟩ | ⟨hn4, hcj⟩
          · have hq1 : Hid (tkA false s.data.toList = none) := by
              have := hq.out
              rw [hd, tkA_minus hbl' hs (by apply UInt8.toNat_inj.1; rw [← hn, hn45]; rfl)] at this
              exact Lib.hid this
            clear hq hd hc hbl hbl' ne_of hn b5 b6 b7 b8
            subst hn45
            go_wp2_with (fail)
            go_ret2
            refine ⟨?_, hK.out⟩
            rw [hq1.out]
            rfl
          · have hq1 : Hid (tkA false s.data.toList = (tkA false (s.data.toList.drop (i + 1))).map ((acc ++ [⟨n, mkS [c]⟩]) ++ ·)) := by
              have := hq.out
              rw [hd, tkA_sign hbl' hs hcj, ← hn] at this
              refine Lib.hid (this.trans ?_)
              cases tkA false (s.data.toList.drop (i + 1)) <;> simp
            have hO' := hO.out
            clear hq hd hc hbl hbl' ne_of hcj hn b5 b6 b7 b8
            rcases hn4 with rfl | rfl | rfl | ⟨rfl, rfl⟩
            all_goals (
              go_wp2_with (at_builtin; refine wpList_append_one rfl _ _ 49 rfl w.heap.size 74 i0 _ 2 24 Tryz.underlying49 hi hz0 hz1 hz2 rfl (by omega) (by omega) _ _ _ _ _ (by rfl) (by exact hO.out) (by rfl) rfl (by intro u hu; simp at hu; rcases hu with rfl | rfl <;> rfl) (by omega) hK.out.size ?_; intro v6 w6 ho6 hg6)
              go_roundw
              case rel =>
                exact ⟨i + 1, false, _, by omega, rfl, int_eq (by omega), by simp only [List.length_append, List.length_cons, List.length_nil]; omega, Lib.hid (ap_tok ⟨_, mkS [c]⟩ ho6), Lib.hid (hK.out.grown hO.out hg6), hq1⟩
              case measure => simp only []; omega)
        · have hs' : isSgn c = false := by simpa using hs
          have hs4 : ¬ (n : Int) = 40 ∧ ¬ (n : Int) = 41 ∧ ¬ (n : Int) = 44 ∧ ¬ (n : Int) = 45 := by
            simp only [isSgn, Bool.or_eq_true, beq_iff_eq, not_or] at hs
            exact ⟨ne_of 40 (by omega) hs.1.1.1, ne_of 41 (by omega) hs.1.1.2, ne_of 44 (by omega) hs.1.2, ne_of 45 (by omega) hs.2⟩
          obtain ⟨g1, g2, g3, g4⟩ := hs4
          have g5 : ((n : Int) == 40) = false := by simpa using g1
          have g6 : ((n : Int) == 41) = false := by simpa using g2
          have g7 : ((n : Int) == 44) = false := by simpa using g3
          have g8 : ((n : Int) == 45) = false := by simpa using g4
          clear g1 g2 g3 g4
          have hO' := hO.out
          obtain ⟨r, hr⟩ : ∃ r, r = s.data.toList.drop (i + 1) := ⟨_, rfl⟩
          rw [← hr] at hd
          have HQ : ∀ m k, lenT c r = m → k = i + m → (j = true ∨ m = 0 → tkA false s.data.toList = none) ∧ (¬ m = 0 → j = false → tkA false s.data.toList = (tkA true (s.data.toList.drop k)).map ((acc ++ [⟨if isLt c then 97 else 49, mkS ((s.data.toList.drop i).take m)⟩]) ++ ·)) := by
            intro m k hm hk
            have hq' := hq.out
            refine ⟨fun h => ?_, fun h0 hj => ?_⟩
            · rw [hq', hd, tkA_bad hbl' hs' (by rw [hm]; exact h.symm)]; rfl
            · rw [hq', hd, tkA_tok hbl' hs' (by rw [hm, hj]; simp [h0]), hm, hk, ← List.drop_drop, hd]
              cases tkA true (List.drop m (c :: r)) <;> simp
          by_cases hL : isLt c = true
          · have hL0 : ∀ w, Calls Tryz.prog 30 #[.int .u8 (n : Int)] w fun e w' => e = .returned (.bool true) ∧ w = w' := by
              intro w
              have := isl_at s hlt hcn w
              rw [← hc, hL] at this
              exact this
            have hlen : lenT c r = lts (s.data.toList.drop i) := by unfold lenT; rw [if_pos hL, hd]
            have hl0 : ¬ lts (s.data.toList.drop i) = 0 := by
              rw [hd]; unfold lts; rw [List.takeWhile_cons, hL]; simp
            rw [if_pos hL] at HQ
            rw [hlen] at HQ
            have HQ' := Lib.hid HQ
            have hl0' := Lib.hid hl0
            clear HQ hlen hl0 hd hr hL hs hs' hbl hbl' ne_of hq hc hn
            go_wp2_with (go_at_call 30; refine (hL0 _).mono ?_; rintro e w2 ⟨rfl, rfl⟩)
            clear hL0
            go_loopw [7] (fun v7 wq => ∃ m : Nat, i + m ≤ s.size ∧ v7 = .int .i64 (m : Int) ∧ wq = wr ∧ Hid (m + lts (s.data.toList.drop (i + m)) = lts (s.data.toList.drop i))) (fun v7 _ => s.size - (match v7 with | .int _ i => i.toNat | _ => 0))
            case atStart => exact ⟨0, by omega, rfl, rfl, by simp [Hid]⟩
            case round =>
              obtain ⟨m, hml, rfl, rfl, hmq⟩ := hrel
              obtain ⟨k, hk0⟩ : ∃ k, k = i + m := ⟨_, rfl⟩
              have hk : IntKind.i64.wrap ((i : Int) + (m : Int)) = (k : Int) := by rw [IntWalk.i64_in _ (by omega)]; omega
              by_cases hkl : k < s.size
              · have hkl' : (k : Int) < s.size := by omega
                obtain ⟨q, hqv⟩ : ∃ q, s[k].toNat = q := ⟨_, rfl⟩
                have hLx := isl_at s hkl hqv
                have hdk := drop_cons s hkl
                by_cases hx : isLt s[k] = true
                · rw [hx] at hLx
                  have hmq2 : Hid (m + 1 + lts (s.data.toList.drop (i + (m + 1))) = lts (s.data.toList.drop i)) := by
                    have := hmq.out
                    rw [← hk0, hdk] at this
                    unfold lts at this ⊢
                    rw [List.takeWhile_cons, hx] at this
                    simp only [if_true, List.length_cons] at this
                    show m + 1 + (List.takeWhile isLt (List.drop (i + (m + 1)) s.data.toList)).length = _
                    rw [show i + (m + 1) = k + 1 by omega]
                    omega
                  have HK := Lib.hid hk0
                  clear hmq hdk hx hk0
                  go_wp2_with (go_at_call 30; refine (hLx _).mono ?_; rintro e w2 ⟨rfl, rfl⟩)
                  go_roundw
                  case rel => exact ⟨m + 1, by have := HK.out; omega, int_eq (by omega), trivial, hmq2⟩
                  case measure => have := HK.out; simp only []; omega
                · have hx2 : isLt s[k] = false := by simpa using hx
                  rw [hx2] at hLx
                  have hm : lts (s.data.toList.drop i) = m := by
                    have := hmq.out
                    rw [← hk0, hdk] at this
                    unfold lts at this ⊢
                    rw [List.takeWhile_cons, hx2] at this
                    simp only [Bool.false_eq_true, if_false, List.length_nil] at this
                    omega
                  have hm0 : ((m : Int) == 0) = false := by
                    have h1 := hl0'.out
                    rw [hm] at h1
                    simp; omega
                  have hex : s.extract i k = mkS ((s.data.toList.drop i).take m) := by rw [hk0, ext_take]
                  have HT := Lib.hid (fun h : j = true => (HQ'.out m k hm hk0).1 (Or.inl h))
                  have HF := Lib.hid ((HQ'.out m k hm hk0).2 (by have h1 := hl0'.out; rw [hm] at h1; exact h1))
                  have HK := Lib.hid hk0
                  have hik : (i : Int) ≤ k := by omega
                  have hks : (k : Int) ≤ s.size := by omega
                  have hm1 : 0 < m := by have := hl0'.out; rw [hm] at this; omega
                  clear hmq hdk hx hx2 HQ' hm hl0' hk0
                  cases j with
                  | true =>
                    have hq1 := Lib.hid (HT.out rfl)
                    clear HT HF
                    go_wp2_with (first | (go_at_call 30; refine (hLx _).mono ?_; rintro e w2 ⟨rfl, rfl⟩) | (at_builtin; refine wpList_append_one rfl _ _ 49 rfl w.heap.size 74 i0 _ 2 24 Tryz.underlying49 hi hz0 hz1 hz2 rfl (by omega) (by omega) _ _ _ _ _ (by rfl) (by exact hO.out) (by rfl) rfl (by intro u hu; simp at hu; rcases hu with rfl | rfl <;> rfl) (by omega) hK.out.size ?_; intro v6 w6 ho6 hg6))
                    go_ret2
                    refine ⟨?_, hK.out.grown hO.out hg6⟩
                    rw [hq1.out]
                    rfl
                  | false =>
                    have hq1 := Lib.hid (HF.out rfl)
                    clear HT HF
                    go_wp2_with (first | (go_at_call 30; refine (hLx _).mono ?_; rintro e w2 ⟨rfl, rfl⟩) | (at_builtin; refine wpList_append_one rfl _ _ 49 rfl w.heap.size 74 i0 _ 2 24 Tryz.underlying49 hi hz0 hz1 hz2 rfl (by omega) (by omega) _ _ _ _ _ (by rfl) (by exact hO.out) (by rfl) rfl (by intro u hu; simp at hu; rcases hu with rfl | rfl <;> rfl) (by omega) hK.out.size ?_; intro v6 w6 ho6 hg6))
                    go_roundw
                    case rel => exact ⟨k, true, _, by omega, rfl, rfl, by have := HK.out; simp only [List.length_append, List.length_cons, List.length_nil]; omega, Lib.hid (ap_tok ⟨97, mkS _⟩ ho6), Lib.hid (hK.out.grown hO.out hg6), hq1⟩
                    case measure => have := HK.out; simp only []; omega
              · have hkl' : ¬ (k : Int) < s.size := by omega
                have hm : lts (s.data.toList.drop i) = m := by
                  have := hmq.out
                  rw [← hk0, drop_end s hkl] at this
                  exact this.symm
                have hm0 : ((m : Int) == 0) = false := by
                    have h1 := hl0'.out
                    rw [hm] at h1
                    simp; omega
                have hex : s.extract i k = mkS ((s.data.toList.drop i).take m) := by rw [hk0, ext_take]
                have HT := Lib.hid (fun h : j = true => (HQ'.out m k hm hk0).1 (Or.inl h))
                have HF := Lib.hid ((HQ'.out m k hm hk0).2 (by have h1 := hl0'.out; rw [hm] at h1; exact h1))
                have HK := Lib.hid hk0
                have hik : (i : Int) ≤ k := by omega
                have hks : (k : Int) ≤ s.size := by omega
                have hm1 : 0 < m := by have := hl0'.out; rw [hm] at this; omega
                clear hmq HQ' hm hl0' hk0
                cases j with
                | true =>
                  have hq1 := Lib.hid (HT.out rfl)
                  clear HT HF
                  go_wp2_with (first | (at_builtin; refine wpList_append_one rfl _ _ 49 rfl w.heap.size 74 i0 _ 2 24 Tryz.underlying49 hi hz0 hz1 hz2 rfl (by omega) (by omega) _ _ _ _ _ (by rfl) (by exact hO.out) (by rfl) rfl (by intro u hu; simp at hu; rcases hu with rfl | rfl <;> rfl) (by omega) hK.out.size ?_; intro v6 w6 ho6 hg6))
                  go_ret2
                  refine ⟨?_, hK.out.grown hO.out hg6⟩
                  rw [hq1.out]
                  rfl
                | false =>
                  have hq1 := Lib.hid (HF.out rfl)
                  clear HT HF
                  go_wp2_with (first | (at_builtin; refine wpList_append_one rfl _ _ 49 rfl w.heap.size 74 i0 _ 2 24 Tryz.underlying49 hi hz0 hz1 hz2 rfl (by omega) (by omega) _ _ _ _ _ (by rfl) (by exact hO.out) (by rfl) rfl (by intro u hu; simp at hu; rcases hu with rfl | rfl <;> rfl) (by omega) hK.out.size ?_; intro v6 w6 ho6 hg6))
                  go_roundw
                  case rel => exact ⟨k, true, _, by omega, rfl, rfl, by have := HK.out; simp only [List.length_append, List.length_cons, List.length_nil]; omega, Lib.hid (ap_tok ⟨97, mkS _⟩ ho6), Lib.hid (hK.out.grown hO.out hg6), hq1⟩
                  case measure => have := HK.out; simp only []; omega
          · have hL2 : isLt c = false := by simpa using hL
            have hL0 : ∀ w, Calls Tryz.prog 30 #[.int .u8 (n : Int)] w fun e w' => e = .returned (.bool false) ∧ w = w' := by
              intro w
              have := isl_at s hlt hcn w
              rw [← hc, hL2] at this
              exact this
            have hlen : lenT c r = decN (s.data.toList.drop i) := by unfold lenT; rw [if_neg hL, hd]
            rw [if_neg hL, hlen] at HQ
            have hD := fun w => dec_calls (s.extract i s.size) w (by simp [ByteArray.size_extract]; omega)
            rw [ext_list] at hD
            have hdl : i + decN (s.data.toList.drop i) ≤ s.size := by
              by_cases h0 : decN (s.data.toList.drop i) = 0
              · omega
              · have := (decN_num _ h0).1
                simp only [List.length_drop, Array.length_toList] at this
                have hsz : s.data.size = s.size := rfl
                omega
            obtain ⟨m, hm⟩ : ∃ m, decN (s.data.toList.drop i) = m := ⟨_, rfl⟩
            rw [hm] at hD hdl HQ
            obtain ⟨k, hk0⟩ : ∃ k, k = i + m := ⟨_, rfl⟩
            have hk : IntKind.i64.wrap ((i : Int) + (m : Int)) = (k : Int) := by rw [IntWalk.i64_in _ (by omega)]; omega
            have hkl : (k : Int) ≤ s.size := by omega
            have hex : s.extract i k = mkS ((s.data.toList.drop i).take m) := by rw [hk0, ext_take]
            have HQ' := Lib.hid (HQ m k rfl hk0)
            clear HQ hlen hd hr hL hL2 hs hs' hbl hbl' ne_of hq hc hn hm
            by_cases hm0 : m = 0
            · have hm0' : (m : Int) = 0 := by omega
              have hq1 := Lib.hid (HQ'.out.1 (Or.inr hm0))
              have hki : k = i := by omega
              clear HQ' hk0 hdl
              subst hm0
              go_wp2_with (first | (go_at_call 30; refine (hL0 _).mono ?_; rintro e w2 ⟨rfl, rfl⟩) | (go_at_call 31; refine (hD _).mono ?_; rintro e w2 ⟨rfl, rfl⟩) | (at_builtin; refine wpList_append_one rfl _ _ 49 rfl w.heap.size 74 i0 _ 2 24 Tryz.underlying49 hi hz0 hz1 hz2 rfl (by omega) (by omega) _ _ _ _ _ (by rfl) (by exact hO.out) (by rfl) rfl (by intro u hu; simp at hu; rcases hu with rfl | rfl <;> rfl) (by omega) hK.out.size ?_; intro v6 w6 ho6 hg6))
              go_ret2
              refine ⟨?_, hK.out.grown hO.out hg6⟩
              rw [hq1.out]
              rfl
            · have hm0' : ((m : Int) == 0) = false := by simp; omega
              have HT := Lib.hid (fun h : j = true => HQ'.out.1 (Or.inl h))
              have HF := Lib.hid (HQ'.out.2 hm0)
              have HK := Lib.hid hk0
              have hik : (i : Int) ≤ k := by omega
              have hks : (k : Int) ≤ s.size := by omega
              have hm1 : 0 < m := by omega
              clear HQ' hk0
              cases j with
              | true =>
                have hq1 := Lib.hid (HT.out rfl)
                clear HT HF
                go_wp2_with (first | (go_at_call 30; refine (hL0 _).mono ?_; rintro e w2 ⟨rfl, rfl⟩) | (go_at_call 31; refine (hD _).mono ?_; rintro e w2 ⟨rfl, rfl⟩) | (at_builtin; refine wpList_append_one rfl _ _ 49 rfl w.heap.size 74 i0 _ 2 24 Tryz.underlying49 hi hz0 hz1 hz2 rfl (by omega) (by omega) _ _ _ _ _ (by rfl) (by exact hO.out) (by rfl) rfl (by intro u hu; simp at hu; rcases hu with rfl | rfl <;> rfl) (by omega) hK.out.size ?_; intro v6 w6 ho6 hg6))
                go_ret2
                refine ⟨?_, hK.out.grown hO.out hg6⟩
                rw [hq1.out]
                rfl
              | false =>
                have hq1 := Lib.hid (HF.out rfl)
                clear HT HF
                go_wp2_with (first | (go_at_call 30; refine (hL0 _).mono ?_; rintro e w2 ⟨rfl, rfl⟩) | (go_at_call 31; refine (hD _).mono ?_; rintro e w2 ⟨rfl, rfl⟩) | (at_builtin; refine wpList_append_one rfl _ _ 49 rfl w.heap.size 74 i0 _ 2 24 Tryz.underlying49 hi hz0 hz1 hz2 rfl (by omega) (by omega) _ _ _ _ _ (by rfl) (by exact hO.out) (by rfl) rfl (by intro u hu; simp at hu; rcases hu with rfl | rfl <;> rfl) (by omega) hK.out.size ?_; intro v6 w6 ho6 hg6))
                go_roundw
                case rel => exact ⟨k, true, _, by omega, rfl, rfl, by have := HK.out; simp only [List.length_append, List.length_cons, List.length_nil]; omega, Lib.hid (ap_tok ⟨49, mkS _⟩ ho6), Lib.hid (hK.out.grown hO.out hg6), hq1⟩
                case measure => have := HK.out; simp only []; omega
    · have hlt' : ¬ (i : Int) < s.size := by omega
      have hq1 : Hid (tkA false s.data.toList = some acc) := by
        have := hq.out
        rw [drop_end s hlt, tkA_nil] at this
        exact Lib.hid (this.trans (by simp))
      clear hq
      go_wp2_with (fail)
      go_ret2
      refine ⟨?_, hK.out⟩
      rw [hq1.out]
      exact ⟨_, rfl, hO.out⟩

end Go.Proofs.YtlckfiflfkbofaaGreatDoor

/- The reference's AskedWKT and Tokens. -/
namespace Go.Proofs.YtlckfiflfkbofaaGreatDoor
open Go.RowKit

/-- What a token of the cut text is. -/
theorem tks_tok : ∀ (f : Nat) (j : Bool) (L : List UInt8) (l : List Tok), tks f j L = some l → ∀ k ∈ l, k.s.size ≤ L.length ∧ (k.k = 49 → ∃ n : Num, n.Ok ∧ k.s.data.toList = n.l) := by
  intro f
  induction f with
  | zero => intro j L l h; cases h
  | succ f ih =>
    intro j L l h
    cases L with
    | nil => simp only [tks, Option.some.injEq] at h; subst h; intro k hk; cases hk
    | cons c r =>
      simp only [tks] at h
      split at h
      · intro k hk; have := ih _ _ _ h k hk; exact ⟨by simp; omega, this.2⟩
      · split at h
        · split at h
          · cases h
          · simp only [Option.map_eq_some_iff] at h
            obtain ⟨l', hl', rfl⟩ := h
            intro k hk
            simp only [List.mem_cons] at hk
            rcases hk with rfl | hk
            · refine ⟨by show 1 ≤ _; simp, fun h49 => ?_⟩
              rename_i hs _
              simp only [isSgn, Bool.or_eq_true, beq_iff_eq] at hs
              exfalso
              have h49' : c.toNat = 49 := h49
              rcases hs with ((rfl | rfl) | rfl) | rfl <;> simp at h49'
            · have := ih _ _ _ hl' k hk; exact ⟨by simp; omega, this.2⟩
        · split at h
          · cases h
          · rename_i hn
            simp only [Option.map_eq_some_iff] at h
            obtain ⟨l', hl', rfl⟩ := h
            intro k hk
            simp only [List.mem_cons] at hk
            rcases hk with rfl | hk
            · refine ⟨?_, fun h49 => ?_⟩
              · have : (mkS ((c :: r).take (lenT c r))).size = ((c :: r).take (lenT c r)).length := by simp [mkS, ByteArray.size]
                rw [this, List.length_take]; omega
              · by_cases hL : isLt c = true
                · rw [if_pos hL] at h49; cases h49
                · have hl : lenT c r = decN (c :: r) := by unfold lenT; rw [if_neg hL]
                  obtain ⟨_, n, ok, hnl⟩ := decN_num (c :: r) (by rw [← hl]; exact fun h => hn (Or.inl h))
                  rw [← hl] at hnl
                  exact ⟨n, ok, hnl⟩
            · have := ih _ _ _ hl' k hk
              rw [List.length_drop] at this
              exact ⟨by omega, this.2⟩

theorem tks_len : ∀ (f : Nat) (j : Bool) (L : List UInt8) (l : List Tok), tks f j L = some l → l.length ≤ L.length := by
  intro f
  induction f with
  | zero => intro j L l h; cases h
  | succ f ih =>
    intro j L l h
    cases L with
    | nil => simp only [tks, Option.some.injEq] at h; subst h; simp
    | cons c r =>
      simp only [tks] at h
      split at h
      · have := ih _ _ _ h; simp; omega
      · split at h
        · split at h
          · cases h
          · simp only [Option.map_eq_some_iff] at h
            obtain ⟨l', hl', rfl⟩ := h
            have := ih _ _ _ hl'
            simp; omega
        · split at h
          · cases h
          · rename_i hn
            simp only [Option.map_eq_some_iff] at h
            obtain ⟨l', hl', rfl⟩ := h
            have := ih _ _ _ hl'
            have h2 := lenT_pos hn
            simp only [List.length_cons]
            omega

theorem flat_get {l : List Tok} {i : Nat} {k : Tok} (h : l[i]? = some k) : (flat l)[i * 2]? = some (.int .u8 (k.k : Int)) ∧ (flat l)[i * 2 + 1]? = some (.string k.s) := by
  induction l generalizing i with
  | nil => cases h
  | cons a l ih =>
    have e : flat (a :: l) = .int .u8 (a.k : Int) :: .string a.s :: flat l := rfl
    cases i with
    | zero => cases h; rw [e]; exact ⟨rfl, rfl⟩
    | succ i =>
      have := ih (i := i) (by simpa using h)
      rw [e, show (i + 1) * 2 = i * 2 + 1 + 1 by omega]
      exact this

/-- The tokens' row. -/
theorem tok_row {w : World} {B : Nat} {v : Value} {l : List Tok} (h : w.ownsRow B 74 2 v l.length (flat l)) (hl : l ≠ []) : ∃ g cap, v = .slice (some ⟨g, 0, none⟩) l.length cap ∧ B ≤ g ∧ g < w.heap.size ∧ l.length ≤ cap ∧ cap ≤ 9223372036854775807 ∧
    ∀ i k, l[i]? = some k → w.cell? ⟨g, i * 2, none⟩ = some (.int .u8 (k.k : Int)) ∧ w.cell? ⟨g, i * 2 + 1, none⟩ = some (.string k.s) := by
  rcases h.2 with ⟨_, h0⟩ | ⟨g, cap, cur, rfl, hb, hg, hn, hc, _⟩
  · exact absurd (List.eq_nil_of_length_eq_zero h0) hl
  · refine ⟨g, cap, rfl, hb, (Array.getElem?_eq_some_iff.1 hg).1, hn, by unfold maxLen at hc; omega, fun i k hk => ?_⟩
    have hadd : ∀ j, (⟨g, 0, none⟩ : Addr).add j = ⟨g, j, none⟩ := by intro j; unfold Addr.add; split <;> simp_all
    have hc := h.cells (g := g) rfl
    have hf := flat_get hk
    have h1 := hc _ _ hf.1
    have h2 := hc _ _ hf.2
    rw [hadd] at h1 h2
    exact ⟨h1, h2⟩

theorem tok_form {w : World} {B : Nat} {v : Value} {l : List Tok} (h : w.ownsRow B 74 2 v l.length (flat l)) : ∃ a cap, v = .slice a l.length cap ∧
    ∀ i k, l[i]? = some k → ∃ g, a = some ⟨g, 0, none⟩ ∧ g < w.heap.size ∧ w.cell? ⟨g, i * 2, none⟩ = some (.int .u8 (k.k : Int)) ∧ w.cell? ⟨g, i * 2 + 1, none⟩ = some (.string k.s) := by
  cases hl : l with
  | nil =>
    subst hl
    rcases h.2 with ⟨rfl, _⟩ | ⟨g, cap, cur, rfl, _⟩
    · exact ⟨none, 0, rfl, fun i k hk => by cases hk⟩
    · exact ⟨_, _, rfl, fun i k hk => by cases hk⟩
  | cons a r =>
    rw [← hl]
    obtain ⟨g, cap, h1, _, h3, _, _, h6⟩ := tok_row h (by rw [hl]; simp)
    exact ⟨_, cap, h1, fun i k hk => ⟨g, rfl, h3, h6 i k hk⟩⟩

/-- What AskedWKT answers. -/
def AskP (s : ByteArray) (e : Ending) : Prop := ∃ b : Bool, e = .returned (.bool b) ∧ (b = true → ∃ l, tkA false s.data.toList = some l ∧ Unp l)

set_option maxRecDepth 100000 in
set_option maxHeartbeats 8000000 in
theorem ask_calls (s : ByteArray) (w : World) (hz : s.size ≤ 10000) : Calls Tryz.prog 15 #[.string s] w fun e w' => AskP s e ∧ Keep (fun _ => False) w w' := by
  have hT := tkn_calls s w hz
  cases hA : tkA false s.data.toList with
  | none =>
    rw [hA] at hT
    go_enter Tryz.func15, Tryz.ntmps15
    go_wp2_with (go_at_call 17; refine hT.mono ?_; rintro e w2 ⟨rfl, hK⟩)
    go_loopw [15] (fun v15 wr => v15 = .int .i64 0 ∧ wr = w2) (fun _ _ => 0)
    case atStart => exact ⟨rfl, rfl⟩
    case round =>
      obtain ⟨rfl, rfl⟩ := hrel
      go_wp2_with (fail)
      go_ret
      exact ⟨⟨false, rfl, fun h => by cases h⟩, hK⟩
  | some l =>
    rw [hA] at hT
    have htk := tks_tok _ _ _ l hA
    have hlen : s.data.toList.length = s.size := by simp
    rw [hlen] at htk
    have hll : l.length ≤ 10000 := by have := tks_len _ _ _ l hA; omega
    have HA := Lib.hid hA
    clear hA hlen
    have HT := Lib.hid htk
    clear htk
    go_enter Tryz.func15, Tryz.ntmps15
    go_wp2_with (go_at_call 17; refine hT.mono ?_; rintro e w2 ⟨⟨v, rfl, hO⟩, hK⟩; clear hT; obtain ⟨a, cap, rfl, hcells⟩ := tok_form hO)
    go_loopw [15] (fun v15 wr => ∃ i : Nat, i ≤ l.length ∧ v15 = .int .i64 (i : Int) ∧ Hid (Keep (fun _ => False) w2 wr) ∧ Hid (∀ k ∈ l.take i, k.k = 49 → pad0 k.s.data.toList = false)) (fun v15 _ => l.length - (match v15 with | .int _ i => i.toNat | _ => 0))
    case atStart => exact ⟨0, Nat.zero_le _, rfl, Lib.hid (Keep.refl _ _), Lib.hid (by simp)⟩
    case round =>
      obtain ⟨i, hi, rfl, hKr, hU⟩ := hrel
      by_cases hlt : i < l.length
      · have hlt' : (i : Int) < l.length := by omega
        obtain ⟨k, hk⟩ : ∃ k, l[i]? = some k := ⟨_, List.getElem?_eq_getElem hlt⟩
        have hkm : k ∈ l := List.mem_of_getElem? hk
        obtain ⟨g, rfl, hg, hcc⟩ := hcells i k hk
        have c0 := hKr.out.cell hcc.1 (fun h => h)
        have c1 := hKr.out.cell hcc.2 (fun h => h)
        have hksz : k.s.size ≤ 10000 := by have := (HT.out k hkm).1; omega
        have hup := fun W => up_calls k.s W hksz
        have hU2 : Hid ((k.k = 49 → pad0 k.s.data.toList = false) → ∀ x ∈ l.take (i + 1), x.k = 49 → pad0 x.s.data.toList = false) := by
          intro h x hx
          rw [List.take_add_one, hk] at hx
          simp only [Option.toList_some, List.mem_append, List.mem_singleton] at hx
          rcases hx with hx | rfl
          · exact hU.out x hx
          · exact h
        obtain ⟨u, hu⟩ : ∃ u, upS k.s = u := ⟨_, rfl⟩
        rw [hu] at hup
        have hnum := (HT.out k hkm).2
        have hfin : (k.k = 49 → pad0 k.s.data.toList = false) → ∀ w3, Hid (Keep (fun _ => False) w2 w3) → ∃ i' : Nat, i' ≤ l.length ∧ Value.int .i64 ((i : Int) + 1) = .int .i64 (i' : Int) ∧ Hid (Keep (fun _ => False) w2 w3) ∧ Hid (∀ k ∈ l.take i', k.k = 49 → pad0 k.s.data.toList = false) := by
          intro h w3 h3
          exact ⟨i + 1, by omega, int_eq (by omega), h3, Lib.hid (hU2.out h)⟩
        have HF := Lib.hid hfin
        clear hfin hU2 hu hcells hkm hU hk hcc
        cases b1 : (u.toList == k.s.toList)
        case' false =>
          cases b2 : (u.toList == [69, 77, 80, 84, 89])
          case' false =>
            cases b3 : (u.toList == [90])
            case' false =>
              cases b4 : (u.toList == [77])
              case' false =>
                cases b5 : (u.toList == [90, 77])
        all_goals (
          by_cases h49 : k.k = 49
          · have hb : ((k.k : Int) == 49) = true := by simp; omega
            obtain ⟨nn, ok, hnn⟩ := hnum h49
            have hpd := fun w => pdd_calls k.s w hksz nn ok hnn
            have HP := Lib.hid HF.out
            have hk9 : (k.k : Int) = 49 := by omega
            rw [hk9] at c0 hb
            clear hnum hnn HF hk9 h49 hb
            go_wp2_with (first | (go_at_call 28; refine (hup _).mono ?_; rintro e w3 ⟨rfl, hK3⟩; have d0 := hK3.cell (a := ⟨wr.heap.size, 0, none⟩) (v := .int .u8 49) (by rw [World.cell?_alloc_new]; rfl) (fun h => h); have d1 := hK3.cell (a := ⟨wr.heap.size, 1, none⟩) (v := .string k.s) (by rw [World.cell?_alloc_new]; rfl) (fun h => h); have hK4 := Lib.hid (hKr.out.trans (((Keep.refl _ wr).alloc _).trans hK3)); clear hK3 hup) | (go_at_call 29; refine (hpd _).mono ?_; rintro e w4 ⟨⟨b, rfl, hbp⟩, rfl⟩; have HB := Lib.hid hbp; clear hbp; cases b))
            all_goals first
              | (go_ret; exact ⟨⟨false, rfl, fun h => by cases h⟩, hK.trans hK4.out⟩)
              | (go_roundw
                 case rel => exact HP.out (fun _ => HB.out (by trivial)) _ hK4
                 case measure => simp only []; omega)
          · have hb : ((k.k : Int) == 49) = false := by simp; omega
            have HP := Lib.hid (HF.out (fun h => absurd h h49))
            clear hnum HF
            go_wp2_with (first | (go_at_call 28; refine (hup _).mono ?_; rintro e w3 ⟨rfl, hK3⟩; have d0 := hK3.cell (a := ⟨wr.heap.size, 0, none⟩) (v := .int .u8 (k.k : Int)) (by rw [World.cell?_alloc_new]; rfl) (fun h => h); have d1 := hK3.cell (a := ⟨wr.heap.size, 1, none⟩) (v := .string k.s) (by rw [World.cell?_alloc_new]; rfl) (fun h => h); have hK4 := Lib.hid (hKr.out.trans (((Keep.refl _ wr).alloc _).trans hK3)); clear hK3 hup))
            all_goals first
              | (go_ret; exact ⟨⟨false, rfl, fun h => by cases h⟩, hK.trans hK4.out⟩)
              | (go_roundw
                 case rel => exact HP.out _ hK4
                 case measure => simp only []; omega))
      · have hlt' : ¬ (i : Int) < l.length := by omega
        have hU2 : Hid (Unp l) := by
          have := hU.out
          rw [List.take_of_length_le (by omega)] at this
          exact this
        clear hcells hU
        go_wp2_with (fail)
        go_ret
        exact ⟨⟨true, rfl, fun _ => ⟨l, HA.out, hU2.out⟩⟩, hK.trans hKr.out⟩

end Go.Proofs.YtlckfiflfkbofaaGreatDoor

/- The reference's Tokens. -/
namespace Go.Proofs.YtlckfiflfkbofaaGreatDoor
open Go.RowKit

theorem own_mono {w : World} {b b' : Nat} {e : TypeId} {size n : Nat} {v : Value} {xs : List Value} (h : w.ownsRow b e size v n xs) (hb : b' ≤ b) : w.ownsRow b' e size v n xs :=
  ⟨h.1, h.2.imp id fun ⟨g, cap, cur, h1, h2, r⟩ => ⟨g, cap, cur, h1, Nat.le_trans hb h2, r⟩⟩

def strs (l : List Tok) : List Value := l.map fun k => .string k.s

/-- What Tokens answers. -/
def TkzP (w : World) (o : Option (List Tok)) (e : Ending) (w' : World) : Prop :=
  match o with
  | some l => ∃ v, e = .returned (.tuple #[v, .bool true]) ∧ w'.ownsRow w.heap.size 9 1 v l.length (strs l)
  | none => e = .returned (.tuple #[.slice none 0 0, .bool false])

set_option maxRecDepth 100000 in
set_option maxHeartbeats 8000000 in
theorem tkz_calls (s : ByteArray) (w : World) (hz : s.size ≤ 10000) : Calls Tryz.prog 16 #[.string s] w fun e w' => TkzP w (tkA false s.data.toList) e w' ∧ Keep (fun _ => False) w w' := by
  obtain ⟨i0, hi, hz0, hz1, hz2⟩ := info_parts strInfo
  have hT := tkn_calls s w hz
  cases hA : tkA false s.data.toList with
  | none =>
    rw [hA] at hT
    go_enter Tryz.func16, Tryz.ntmps16
    go_wp2_with (go_at_call 17; refine hT.mono ?_; rintro e w2 ⟨rfl, hK⟩)
    go_loopw [2, 14] (fun v2 v14 wr => v2 = .slice none 0 0 ∧ v14 = .int .i64 0 ∧ wr = w2) (fun _ _ _ => 0)
    case atStart => exact ⟨rfl, rfl, rfl⟩
    case round =>
      obtain ⟨rfl, rfl, rfl⟩ := hrel
      go_wp2_with (fail)
      go_ret2
      exact ⟨rfl, hK⟩
  | some l =>
    rw [hA] at hT
    have hll : l.length ≤ 10000 := by
      have h1 := tks_len _ _ _ l hA
      have hlen : s.data.toList.length = s.size := by simp
      omega
    clear hA
    go_enter Tryz.func16, Tryz.ntmps16
    go_wp2_with (go_at_call 17; refine hT.mono ?_; rintro e w2 ⟨⟨v, rfl, hO⟩, hK⟩; clear hT; obtain ⟨a, cap, rfl, hcells⟩ := tok_form hO)
    go_loopw [2, 14] (fun v2 v14 wr => ∃ i : Nat, i ≤ l.length ∧ v14 = .int .i64 (i : Int) ∧ Hid (Keep (fun _ => False) w2 wr) ∧ Hid (wr.ownsRow w2.heap.size 9 1 v2 i (strs (l.take i)))) (fun _ v14 _ => l.length - (match v14 with | .int _ i => i.toNat | _ => 0))
    case atStart => exact ⟨0, Nat.zero_le _, rfl, Lib.hid (Keep.refl _ _), Lib.hid (World.ownsRow_nil _ _ _ _)⟩
    case round =>
      obtain ⟨i, hi', rfl, hKr, hR⟩ := hrel
      by_cases hlt : i < l.length
      · have hlt' : (i : Int) < l.length := by omega
        obtain ⟨k, hk⟩ : ∃ k, l[i]? = some k := ⟨_, List.getElem?_eq_getElem hlt⟩
        obtain ⟨g, rfl, hg, hcc⟩ := hcells i k hk
        have c0 := hKr.out.cell hcc.1 (fun h => h)
        have c1 := hKr.out.cell hcc.2 (fun h => h)
        have hst : Hid (strs (l.take (i + 1)) = strs (l.take i) ++ [.string k.s]) := by
          show strs (l.take (i + 1)) = _
          rw [List.take_add_one, hk]
          simp [strs]
        have hR1 := hR.out.alloc (.cells #[.int .u8 (k.k : Int), .string k.s] 74)
        have hBs : w2.heap.size ≤ (wr.alloc (.cells #[.int .u8 (k.k : Int), .string k.s] 74)).heap.size := by
          have := hKr.out.size; simp; omega
        have hKa := Lib.hid (hKr.out.alloc (.cells #[.int .u8 (k.k : Int), .string k.s] 74))
        clear hcells hk hcc
        go_wp2_with (at_builtin; refine wpList_append_one rfl _ _ 25 rfl w2.heap.size 9 i0 _ 1 16 Tryz.underlying25 hi hz0 hz1 hz2 rfl (by omega) (by omega) _ _ _ _ _ (by rfl) (by exact hR1) (by first | rfl | (simp only [World.size_alloc]; rfl)) rfl (by intro u hu; simp at hu; subst hu; rfl) (by omega) hBs ?_; intro v6 w6 ho6 hg6)
        go_roundw
        case rel =>
          refine ⟨i + 1, by omega, int_eq (by omega), ?_, ?_⟩
          · exact Lib.hid (hKa.out.grown hR1 hg6)
          · rw [hst.out]; exact Lib.hid ho6
        case measure => simp only []; omega
      · have hlt' : ¬ (i : Int) < l.length := by omega
        have hR2 := hR.out
        have hil : i = l.length := by omega
        rw [List.take_of_length_le (by omega), hil] at hR2
        have HR := Lib.hid hR2
        clear hR hR2 hcells hil
        go_wp2_with (fail)
        go_ret2
        exact ⟨⟨_, rfl, own_mono HR.out hK.size⟩, hK.trans hKr.out⟩

end Go.Proofs.YtlckfiflfkbofaaGreatDoor
