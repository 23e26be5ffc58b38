/- Plain: the reference's tokens are the scanner's tokens; the text of joined tokens. Plain: the tokens of the text that the reference is asked with. Part 30 of 51 of the proof that FnMultiPointBody returns true for every text and every type of coordinates, where the listed variables hold what the text of the program lays. -/
import Derived.Test.YtlckfiflfkbofaaGreatDoorM28
import Derived.Test.YtlckfiflfkbofaaGreatDoorM29
set_option linter.all false

/- Plain: the reference's tokens are the scanner's tokens; the text of joined tokens. -/
namespace Go.Proofs.YtlckfiflfkbofaaGreatDoor

theorem lt_isL (c : UInt8) : isL (c.toNat : Int) = isLt c := by
  rw [Bool.eq_iff_iff]
  simp only [isL, isLt, Bool.or_eq_true, Bool.and_eq_true, decide_eq_true_eq]
  omega
/-- The first of a list, -1 at its end. -/
def hdI : List UInt8 → Int
  | [] => -1
  | c :: _ => (c.toNat : Int)

theorem chA_hd (t : ByteArray) (i : Nat) : chA t i = hdI (t.data.toList.drop i) := by
  unfold chA
  by_cases h : i < t.size
  · rw [dif_pos h]
    have hl : i < t.data.toList.length := by simpa using h
    rw [List.drop_eq_getElem_cons hl]
    simp [hdI]
    rfl
  · rw [dif_neg h, List.drop_of_length_le (by simpa using h)]
    rfl
theorem chA_at {t : ByteArray} {a : Nat} {L : List UInt8} (h : t.data.toList.drop a = L) (j : Nat) : chA t (a + j) = hdI (L.drop j) := by
  rw [chA_hd, ← h, List.drop_drop]

theorem all_at {p : UInt8 → Bool} {q : Int → Bool} (hpq : ∀ c, p c = true → q (c.toNat : Int) = true) {d : List UInt8} (hd : d.all p = true) (r : List UInt8) {j : Nat} (hj : j < d.length) : q (hdI ((d ++ r).drop j)) = true := by
  rw [List.drop_append_of_le_length (by omega), List.drop_eq_getElem_cons hj]
  simp only [List.cons_append, hdI]
  exact hpq _ (List.all_eq_true.1 hd _ (List.getElem_mem hj))
theorem isD_dg (c : UInt8) (h : isDg c = true) : isD (c.toNat : Int) = true := by
  simp only [isDg, Bool.and_eq_true, decide_eq_true_eq] at h
  simp only [isD, Bool.and_eq_true, decide_eq_true_eq]
  omega
theorem dg_isD (c : UInt8) : isD (c.toNat : Int) = isDg c := by
  cases hc : isDg c with
  | true => exact isD_dg c hc
  | false =>
    simp only [isDg, Bool.and_eq_false_iff, decide_eq_false_iff_not] at hc
    simp only [isD, Bool.and_eq_false_iff, decide_eq_false_iff_not]
    omega

/-- The facts of what stands behind a token. -/
structure Stop (x : Int) : Prop where
  d : isD x = false
  l : isL x = false
  u : (x == 95) = false
  p : (x == 46) = false
  w : (lowA x == 101) = false ∧ (lowA x == 112) = false ∧ (lowA x == 120) = false ∧ (lowA x == 111) = false ∧ (lowA x == 98) = false

theorem stp_stop {r : List UInt8} (h : stp r) : Stop (hdI r) := by
  have key : ∀ x : Int, (x = -1 ∨ x = 32 ∨ x = 9 ∨ x = 10 ∨ x = 13 ∨ x = 40 ∨ x = 41 ∨ x = 44) → Stop x := by
    rintro x (rfl | rfl | rfl | rfl | rfl | rfl | rfl | rfl) <;> exact ⟨by decide, by decide, by decide, by decide, by decide⟩
  apply key
  cases r with
  | nil => exact Or.inl rfl
  | cons c r =>
    right
    rcases h c rfl with h1 | rfl | rfl | rfl
    · simp only [isBl, Bool.or_eq_true, beq_iff_eq] at h1
      rcases h1 with ((rfl | rfl) | rfl) | rfl <;> simp [hdI]
    · simp [hdI]
    · simp [hdI]
    · simp [hdI]

theorem exp_tok {t : ByteArray} {a : Nat} (ha : a ≤ t.size) {m r : List UInt8} {x : Option (UInt8 × List UInt8 × List UInt8)} (hL : t.data.toList.drop a = m ++ (xsOf x ++ r)) (hx : ∀ e g d, x = some (e, g, d) → (e = 101 ∨ e = 69) ∧ isSg g = true ∧ d ≠ [] ∧ d.all isDg = true) (hr : stp r) :
    ExpT t (a + m.length) (a + m.length + (xsOf x).length) ∧ isD (chA t (a + m.length)) = false ∧ (chA t (a + m.length) == 95) = false ∧ (chA t (a + m.length) == 46) = false ∧ (lowA (chA t (a + m.length)) == 120) = false ∧ (lowA (chA t (a + m.length)) == 111) = false ∧ (lowA (chA t (a + m.length)) == 98) = false := by
  have hs := stp_stop hr
  have h1 : t.data.toList.drop (a + m.length) = xsOf x ++ r := by rw [← List.drop_drop, hL, List.drop_left]
  have hlen : a + m.length + (xsOf x).length ≤ t.size := by
    have h2 := congrArg List.length hL
    simp only [List.length_drop, List.length_append, Array.length_toList] at h2
    have hsz : t.data.size = t.size := rfl
    omega
  cases x with
  | none =>
    have h2 : chA t (a + m.length) = hdI r := by rw [chA_hd, h1]; rfl
    rw [h2]
    exact ⟨Or.inl ⟨rfl, by rw [h2]; exact hs.w.1, by rw [h2]; exact hs.w.2.1⟩, hs.d, hs.u, hs.p, hs.w.2.2⟩
  | some y =>
    obtain ⟨e, g, d⟩ := y
    obtain ⟨he, hg, hd, hall⟩ := hx e g d rfl
    have hpos : 0 < d.length := List.length_pos_iff.2 hd
    have hxs : xsOf (some (e, g, d)) = e :: (g ++ d) := rfl
    rw [hxs] at h1 hlen
    rw [hxs]
    simp only [List.length_cons, List.length_append] at hlen ⊢
    have h2 : chA t (a + m.length) = (e.toNat : Int) := by rw [chA_hd, h1]; rfl
    have hq : t.data.toList.drop (a + m.length + 1) = g ++ (d ++ r) := by rw [← List.drop_drop, h1]; simp
    have hqd : t.data.toList.drop (a + m.length + 1 + g.length) = d ++ r := by rw [← List.drop_drop, hq, List.drop_left]
    have hE : chA t (a + m.length + (g.length + d.length + 1)) = hdI r := by
      rw [chA_hd, show a + m.length + (g.length + d.length + 1) = a + m.length + 1 + g.length + d.length by omega, ← List.drop_drop, hqd, List.drop_left]
    have hcls : isD (e.toNat : Int) = false ∧ ((e.toNat : Int) == 95) = false ∧ ((e.toNat : Int) == 46) = false ∧ (lowA (e.toNat : Int) == 120) = false ∧ (lowA (e.toNat : Int) == 111) = false ∧ (lowA (e.toNat : Int) == 98) = false ∧ (lowA (e.toNat : Int) == 101) = true := by
      rcases he with rfl | rfl <;> decide
    rw [h2]
    refine ⟨Or.inr ⟨a + m.length + 1 + g.length, by rw [h2]; exact hcls.2.2.2.2.2.2, by omega, by omega, by omega, ?_, by rw [hE]; exact hs.d, by rw [hE]; exact hs.u, ?_⟩, hcls.1, hcls.2.1, hcls.2.2.1, hcls.2.2.2.1, hcls.2.2.2.2.1, hcls.2.2.2.2.2.1⟩
    · intro j hj
      rw [chA_at hqd]
      exact all_at isD_dg hall r (by omega)
    · have h3 : chA t (a + m.length + 1) = hdI (g ++ (d ++ r)) := by rw [chA_hd, hq]
      rw [h3]
      simp only [isSg, Bool.or_eq_true, beq_iff_eq] at hg
      rcases hg with (rfl | rfl) | rfl
      · left
        refine ⟨by simp, ?_⟩
        cases d with
        | nil => exact absurd rfl hd
        | cons c d =>
          simp only [List.all_cons, Bool.and_eq_true] at hall
          have := hall.1
          simp only [isDg, Bool.and_eq_true, decide_eq_true_eq] at this
          simp only [List.nil_append, List.cons_append, hdI]
          constructor
          · simp only [beq_eq_false_iff_ne, ne_eq]; omega
          · simp only [beq_eq_false_iff_ne, ne_eq]; omega
      · right; exact ⟨by simp, Or.inl (by simp [hdI])⟩
      · right; exact ⟨by simp, Or.inr ⟨by simp [hdI], by simp [hdI]⟩⟩

theorem num_tok {t : ByteArray} {a : Nat} {r : List UInt8} (n : Num) (ok : n.Ok) (hL : t.data.toList.drop a = n.l ++ r) (hr : stp r) (hp : pad0 n.l = false) : TokC t a (a + n.l.length) := by
  have hxs : n.l = n.m ++ xsOf n.x := rfl
  rw [hxs, List.append_assoc] at hL
  have hsz : a + n.m.length ≤ t.size ∧ n.m.length ≠ 0 := by
    have hne : n.m.length ≠ 0 := by
      intro h0
      have := ok.dg
      rw [List.length_eq_zero_iff.1 h0] at this
      cases this
    have h2 := congrArg List.length hL
    simp only [List.length_drop, List.length_append, Array.length_toList] at h2
    have hsz : t.data.size = t.size := rfl
    exact ⟨by omega, hne⟩
  obtain ⟨hE, e1, e2, e3, e4⟩ := exp_tok (by omega) hL ok.x hr
  have hlen : a + n.l.length = a + n.m.length + (xsOf n.x).length := by rw [hxs]; simp; omega
  rw [hlen]
  rcases okM_split ok.m with h | ⟨_, d1, d2, h, h1, h2⟩
  · have hdig : ∀ j, j < n.m.length → isD (chA t (a + j)) = true := fun j hj => by rw [chA_at hL]; exact all_at isD_dg h _ hj
    refine Or.inr (Or.inl ⟨by have := hdig 0 (by omega); simpa using this, by omega, a + n.m.length, by omega, e1, e2, hE, ?_⟩)
    by_cases h48 : chA t a = 48
    · right; right; left
      have h1l : n.m.length = 1 := by
        cases hm : n.m with
        | nil => rw [hm] at hsz; simp at hsz
        | cons c q =>
          cases q with
          | nil => rfl
          | cons c2 q =>
            rw [hm] at h hL
            simp only [List.all_cons, Bool.and_eq_true] at h
            have hc : c = 48 := by
              have : chA t a = (c.toNat : Int) := by rw [chA_hd, hL]; rfl
              rw [this] at h48
              apply UInt8.toNat_inj.1
              show c.toNat = 48
              omega
            rw [hxs, hm, hc] at hp
            simp [pad0, h.2.1] at hp
      refine ⟨by omega, by simp [h48], e3, e4⟩
    · left
      exact ⟨by omega, fun j hj => hdig j (by omega), by simp [h48], e3⟩
  · rw [h] at hL hsz hE e1 e2 e3
    simp only [List.length_append, List.length_cons] at hsz
    have hL' : t.data.toList.drop a = d1 ++ (46 :: (d2 ++ (xsOf n.x ++ r))) := by rw [hL]; simp
    have hdot : chA t (a + d1.length) = 46 := by rw [chA_at hL', List.drop_left]; rfl
    have hL2 : t.data.toList.drop (a + d1.length + 1) = d2 ++ (xsOf n.x ++ r) := by
      rw [← List.drop_drop, ← List.drop_drop, hL', List.drop_left]; rfl
    have hdig2 : ∀ j, j < d2.length → isD (chA t (a + d1.length + 1 + j)) = true := fun j hj => by rw [chA_at hL2]; exact all_at isD_dg h2 _ hj
    have hdig1 : ∀ j, j < d1.length → isD (chA t (a + j)) = true := fun j hj => by rw [chA_at hL']; exact all_at isD_dg h1 _ hj
    have hml : n.m.length = d1.length + (d2.length + 1) := by rw [h]; simp
    have hml' : (d1 ++ 46 :: d2).length = d1.length + (d2.length + 1) := by simp
    rw [hml'] at hE e1 e2 e3
    rw [hml]
    cases hd1 : d1 with
    | nil =>
      rw [hd1] at hdot hdig2 hE e1 e2 e3 hsz
      simp only [List.length_nil, Nat.add_zero, Nat.zero_add] at hdot hdig2 hE e1 e2 e3 hsz ⊢
      have hd2 : d2.length ≠ 0 := by
        intro h0
        have := ok.dg
        rw [h, hd1, List.length_eq_zero_iff.1 h0] at this
        cases this
      exact Or.inr (Or.inr (Or.inl ⟨hdot, a + (d2.length + 1), by omega, by omega, fun j hj => hdig2 j (by omega), e1, e2, hE⟩))
    | cons c q =>
      rw [← hd1]
      have hl1 : d1.length = q.length + 1 := by rw [hd1]; rfl
      refine Or.inr (Or.inl ⟨by have := hdig1 0 (by omega); simpa using this, by omega, a + (d1.length + (d2.length + 1)), by omega, e1, e2, hE, ?_⟩)
      by_cases h48 : chA t a = 48
      · right; right; right
        have hq : q = [] := by
          cases q with
          | nil => rfl
          | cons c2 q =>
            rw [hd1] at h1 hL'
            simp only [List.all_cons, Bool.and_eq_true] at h1
            have hc : c = 48 := by
              have : chA t a = (c.toNat : Int) := by rw [chA_hd, hL']; rfl
              rw [this] at h48
              apply UInt8.toNat_inj.1
              show c.toNat = 48
              omega
            rw [hxs, h, hd1, hc] at hp
            simp [pad0, h1.2.1] at hp
        have hl1' : d1.length = 1 := by rw [hl1, hq]; rfl
        rw [hl1'] at hdot hdig2 ⊢
        exact ⟨by omega, hdot, fun j hj => by have := hdig2 j (by omega); rwa [show a + 1 + 1 + j = a + 2 + j by omega] at this, by simp [h48]⟩
      · right; left
        refine ⟨a + d1.length, by omega, by omega, fun j hj => hdig1 j (by omega), hdot, fun j hj => hdig2 j (by omega), by simp [h48]⟩

theorem lts_take (l : List UInt8) : (l.take (lts l)).all isLt = true := by
  unfold lts
  rw [take_takeWhile]
  exact List.all_takeWhile

theorem word_tok {t : ByteArray} {a : Nat} {p r : List UInt8} (hL : t.data.toList.drop a = p ++ r) (hp : p.all isLt = true) (hne : p ≠ []) (hr : stp r) : TokC t a (a + p.length) := by
  have hs := stp_stop hr
  have hpos : 0 < p.length := List.length_pos_iff.2 hne
  have hE : chA t (a + p.length) = hdI r := by rw [chA_at hL, List.drop_left]
  have h2 := congrArg List.length hL
  simp only [List.length_drop, List.length_append, Array.length_toList] at h2
  have hsz : t.data.size = t.size := rfl
  refine Or.inl ⟨by omega, by omega, fun j hj => ?_, by rw [hE]; exact hs.l, by rw [hE]; exact hs.d, by rw [hE]; exact hs.u⟩
  rw [chA_at hL]
  exact all_at (q := isL) (fun c hc => (lt_isL c).trans hc) hp r (by omega)

theorem prB_lt (c : UInt8) (h : isLt c = true) : prB c = true := by
  simp only [isLt, Bool.or_eq_true, Bool.and_eq_true, decide_eq_true_eq] at h
  simp only [prB, Bool.and_eq_true, decide_eq_true_eq]
  refine ⟨⟨⟨by omega, by omega⟩, by omega⟩, ?_⟩
  omega
theorem prB_num (n : Num) (ok : n.Ok) : n.l.all prB = true := by
  have hdg : ∀ c, isDg c = true → prB c = true := by
    intro c h
    simp only [isDg, Bool.and_eq_true, decide_eq_true_eq] at h
    simp only [prB, Bool.and_eq_true, decide_eq_true_eq]
    refine ⟨⟨⟨by omega, by omega⟩, by omega⟩, ?_⟩
    omega
  have hall : ∀ d : List UInt8, d.all isDg = true → d.all prB = true := fun d h => List.all_eq_true.2 fun c hc => hdg c (List.all_eq_true.1 h c hc)
  have h1 : n.m.all prB = true := by
    rcases okM_split ok.m with h | ⟨_, d1, d2, h, h1, h2⟩
    · exact hall _ h
    · rw [h]; simp only [List.all_append, List.all_cons, Bool.and_eq_true]; exact ⟨hall _ h1, by decide, hall _ h2⟩
  have h2 : (xsOf n.x).all prB = true := by
    cases hx : n.x with
    | none => rfl
    | some y =>
      obtain ⟨e, g, d⟩ := y
      obtain ⟨he, hg, hd, ha⟩ := ok.x e g d hx
      simp only [xsOf, List.all_cons, List.all_append, Bool.and_eq_true]
      refine ⟨by rcases he with rfl | rfl <;> decide, ?_, hall _ ha⟩
      simp only [isSg, Bool.or_eq_true, beq_iff_eq] at hg
      rcases hg with (rfl | rfl) | rfl <;> decide
  show (n.m ++ xsOf n.x).all prB = true
  rw [List.all_append, h1, h2]; rfl

theorem pr_of {l : List UInt8} (h : l.all prB = true) : Pr (mkS l) := by
  intro i hi
  have hl : i < l.length := hi
  exact List.all_eq_true.1 h (l[i]) (List.getElem_mem hl)

theorem rem_blank {t : ByteArray} {i : Nat} {l : List Tok} (hi : i < t.size) (hb : isW (chA t i) = true) (h : Rem t (i + 1) l) : Rem t i l := by
  cases h with
  | nil h1 h2 =>
    refine .nil (by omega) fun j hj hj2 => ?_
    rcases Nat.eq_or_lt_of_le hj with rfl | hlt
    · exact hb
    · exact h2 j hlt hj2
  | cons hia hae hW hX hT hs hne h =>
    refine .cons (by omega) hae (fun j hj hj2 => ?_) hX hT hs hne h
    rcases Nat.eq_or_lt_of_le hj with rfl | hlt
    · exact hb
    · exact hW j hlt hj2

theorem mkS_toList (l : List UInt8) : (mkS l).data.toList = l := rfl
theorem len_pos {c : UInt8} {r : List UInt8} : lenT c r ≤ (c :: r).length := by
  unfold lenT
  split
  · exact (List.takeWhile_sublist _).length_le
  · by_cases h : decN (c :: r) = 0
    · omega
    · exact (decN_num _ h).1

/-- The tokens that are cut are the scanner's tokens. -/
theorem tks_rem (t : ByteArray) (hz : t.size ≤ 3000) : ∀ (f : Nat) (j : Bool) (i : Nat) (l : List Tok), i ≤ t.size → tks f j (t.data.toList.drop i) = some l → Unp l → Rem t i l ∧ (∀ k ∈ l, Tg k) ∧ ∀ n, i ≤ n → n < t.size → 0 < chA t n ∧ chA t n < 128 := by
  intro f
  induction f with
  | zero => intro j i l hi h; cases h
  | succ f ih =>
    intro j i l hi h hu
    have hsz : t.data.size = t.size := rfl
    cases hd : t.data.toList.drop i with
    | nil =>
      rw [hd] at h
      simp only [tks, Option.some.injEq] at h
      subst h
      have : t.size ≤ i := by
        have := congrArg List.length hd
        simp only [List.length_drop, Array.length_toList, List.length_nil] at this
        omega
      exact ⟨.nil hi (fun n h1 h2 => by omega), by simp, fun n h1 h2 => by omega⟩
    | cons c r =>
      rw [hd] at h
      have hlt : i < t.size := by
        have := congrArg List.length hd
        simp only [List.length_drop, Array.length_toList, List.length_cons] at this
        omega
      have hc : chA t i = (c.toNat : Int) := by rw [chA_hd, hd]; rfl
      have hd1 : t.data.toList.drop (i + 1) = r := by rw [← List.drop_drop, hd]; rfl
      have hbl : isW (chA t i) = isBl c := by
        rw [hc]
        have := u8_all (p := fun x => isW (x.toNat : Int) == isBl x) (by decide +kernel) c
        simpa using this
      simp only [tks] at h
      by_cases hb : isBl c = true
      · rw [if_pos hb, ← hd1] at h
        obtain ⟨h1, h2, h3⟩ := ih _ _ _ hlt h hu
        refine ⟨rem_blank hlt (by rw [hbl]; exact hb) h1, h2, fun n hn hn2 => ?_⟩
        rcases Nat.eq_or_lt_of_le hn with rfl | hlt'
        · rw [hc]
          simp only [isBl, Bool.or_eq_true, beq_iff_eq] at hb
          rcases hb with ((rfl | rfl) | rfl) | rfl <;> decide
        · exact h3 n hlt' hn2
      · rw [if_neg hb] at h
        have hX : isW (chA t i) = false := by rw [hbl]; simpa using hb
        by_cases hs : isSgn c = true
        · rw [if_pos hs] at h
          split at h
          · cases h
          · rename_i h45
            simp only [Option.map_eq_some_iff] at h
            obtain ⟨l', hl', rfl⟩ := h
            rw [← hd1] at hl'
            obtain ⟨h1, h2, h3⟩ := ih _ _ _ hlt hl' (fun k hk => hu k (by simp [hk]))
            have hcv : c = 40 ∨ c = 41 ∨ c = 44 ∨ c = 45 := by
              simp only [isSgn, Bool.or_eq_true, beq_iff_eq] at hs
              rcases hs with ((hs | hs) | hs) | hs
              · exact Or.inl hs
              · exact Or.inr (Or.inl hs)
              · exact Or.inr (Or.inr (Or.inl hs))
              · exact Or.inr (Or.inr (Or.inr hs))
            have htok : (mkS [c]) = tokS t i (i + 1) := by
              unfold tokS
              rw [hd, show i + 1 - i = 1 by omega]
              rfl
            have hTg : Tg ⟨c.toNat, mkS [c]⟩ := ⟨pr_of (by rcases hcv with rfl | rfl | rfl | rfl <;> decide), (by show 1 ≤ 3000; omega), Or.inr (Or.inr ⟨by rcases hcv with rfl | rfl | rfl | rfl <;> simp, by simp [mkS]⟩)⟩
            refine ⟨.cons (Nat.le_refl _) (by omega) (fun n h1 h2 => by omega) hX (Or.inr (Or.inr (Or.inr ⟨by rw [hc]; rcases hcv with rfl | rfl | rfl | rfl <;> simp, hlt, rfl⟩))) htok hTg.ne h1, ?_, ?_⟩
            · intro k hk
              simp only [List.mem_cons] at hk
              rcases hk with rfl | hk
              · exact hTg
              · exact h2 k hk
            · intro n hn hn2
              rcases Nat.eq_or_lt_of_le hn with rfl | hlt'
              · rw [hc]
                rcases hcv with rfl | rfl | rfl | rfl <;> decide
              · exact h3 n hlt' hn2
        · rw [if_neg hs] at h
          split at h
          · cases h
          · rename_i hn0
            have hle := len_pos (c := c) (r := r)
            have hn : lenT c r ≠ 0 := fun h => hn0 (Or.inl h)
            simp only [Option.map_eq_some_iff] at h
            obtain ⟨l', hl', rfl⟩ := h
            have hst := stp_of hl'
            have hsp : t.data.toList.drop i = (c :: r).take (lenT c r) ++ (c :: r).drop (lenT c r) := by rw [hd, List.take_append_drop]
            have hlenp : ((c :: r).take (lenT c r)).length = lenT c r := by simp only [List.length_take]; omega
            have hd2 : t.data.toList.drop (i + lenT c r) = (c :: r).drop (lenT c r) := by rw [← List.drop_drop, hd]
            have hll : (c :: r).length = t.size - i := by rw [← hd]; simp [hsz]
            rw [← hd2] at hl'
            obtain ⟨h1, h2, h3⟩ := ih _ _ _ (by omega) hl' (fun k hk => hu k (by simp [hk]))
            have htok : mkS ((c :: r).take (lenT c r)) = tokS t i (i + lenT c r) := by
              unfold tokS
              rw [hd, show i + lenT c r - i = lenT c r by omega]
              rfl
            have hT : TokC t i (i + lenT c r) ∧ Tg ⟨if isLt c then 97 else 49, mkS ((c :: r).take (lenT c r))⟩ ∧ ((c :: r).take (lenT c r)).all prB = true := by
              have hsz2 : (mkS ((c :: r).take (lenT c r))).size ≤ 3000 := by
                have : (mkS ((c :: r).take (lenT c r))).size = ((c :: r).take (lenT c r)).length := by simp [mkS, ByteArray.size]
                rw [this, hlenp]; omega
              by_cases hL : isLt c = true
              · have hw : ((c :: r).take (lenT c r)).all isLt = true := by
                  unfold lenT; rw [if_pos hL]; exact lts_take _
                have hpr : ((c :: r).take (lenT c r)).all prB = true := List.all_eq_true.2 fun x hx => prB_lt x (List.all_eq_true.1 hw x hx)
                have hne : (c :: r).take (lenT c r) ≠ [] := by intro h0; rw [h0] at hlenp; simp at hlenp; omega
                have := word_tok hsp hw hne hst
                rw [hlenp] at this
                refine ⟨this, ⟨pr_of hpr, hsz2, Or.inr (Or.inl ⟨by rw [if_pos hL], hne, fun x hx => ?_⟩)⟩, hpr⟩
                exact (lt_isL x).trans (List.all_eq_true.1 hw x hx)
              · have hl : lenT c r = decN (c :: r) := by unfold lenT; rw [if_neg hL]
                obtain ⟨_, n, ok, hnl⟩ := decN_num (c :: r) (by rw [← hl]; exact hn)
                rw [← hl] at hnl
                have hpr := prB_num n ok
                have hup := hu ⟨if isLt c then 97 else 49, mkS ((c :: r).take (lenT c r))⟩ (by simp) (by simp [hL])
                rw [hnl] at hsp hlenp hup hsz2
                have := num_tok n ok hsp hst hup
                rw [hlenp] at this
                rw [hnl]
                exact ⟨this, ⟨pr_of hpr, hsz2, Or.inl ⟨by rw [if_neg hL], n, ok, rfl⟩⟩, hpr⟩
            refine ⟨.cons (Nat.le_refl _) (by omega) (fun n h1 h2 => by omega) hX hT.1 htok hT.2.1.ne h1, ?_, ?_⟩
            · intro k hk
              simp only [List.mem_cons] at hk
              rcases hk with rfl | hk
              · exact hT.2.1
              · exact h2 k hk
            · intro n hn' hn2
              rcases Nat.lt_or_ge n (i + lenT c r) with hlt' | hge
              · have he : chA t n = hdI (((c :: r).take (lenT c r) ++ (c :: r).drop (lenT c r)).drop (n - i)) := by
                  have := chA_at hsp (n - i)
                  rwa [show i + (n - i) = n by omega] at this
                rw [he]
                have := all_at (p := prB) (q := fun x => decide (0 < x) && decide (x < 128)) (fun c hc => by
                  simp only [prB, Bool.and_eq_true, decide_eq_true_eq] at hc
                  simp only [Bool.and_eq_true, decide_eq_true_eq]; omega) hT.2.2 ((c :: r).drop (lenT c r)) (j := n - i) (by rw [hlenp]; omega)
                simpa using this
              · exact h3 n hge hn2

/-! ### The text of tokens, each with a blank behind it -/
def joinT (l : List Tok) : List UInt8 := l.flatMap fun k => k.s.data.toList ++ [32]

theorem lts_app {d r : List UInt8} (hd : d.all isLt = true) (hr : ∀ c, r.head? = some c → isLt c = false) : lts (d ++ r) = d.length := by
  unfold lts
  induction d with
  | nil =>
    cases r with
    | nil => rfl
    | cons c r => simp [hr c rfl]
  | cons c d ih =>
    simp only [List.all_cons, Bool.and_eq_true] at hd
    simp [hd.1, ih hd.2]

theorem lt_not (c : UInt8) (h : isLt c = true) : isBl c = false ∧ isSgn c = false := by
  have := u8_all (p := fun x => !isLt x || (!isBl x && !isSgn x)) (by decide +kernel) c
  simpa [h] using this
theorem nh_not (c : UInt8) (h : c.toNat = 46 ∨ (48 ≤ c.toNat ∧ c.toNat ≤ 57)) : isBl c = false ∧ isSgn c = false ∧ isLt c = false := by
  have := u8_all (p := fun x => !(x.toNat == 46 || (decide (48 ≤ x.toNat) && decide (x.toNat ≤ 57))) || (!isBl x && (!isSgn x && !isLt x))) (by decide +kernel) c
  have h2 : (c.toNat == 46 || (decide (48 ≤ c.toNat) && decide (c.toNat ≤ 57))) = true := by simpa using h
  simpa [h2] using this

/-- A token with a blank behind it is cut off. -/
theorem tks_one {k : Tok} (h : Tg k) (f : Nat) (q : List UInt8) : tks (f + 2) false (k.s.data.toList ++ 32 :: q) = (tks f false q).map (k :: ·) := by
  have hst : stp (32 :: q) := by intro c hc; simp at hc; subst hc; exact Or.inl rfl
  have hks : mkS k.s.data.toList = k.s := rfl
  have b32 : isBl 32 = true := rfl
  rcases h.cls with ⟨hk, n, ok, hn⟩ | ⟨hk, hne, hl⟩ | ⟨hk, hs⟩
  · have hlen := decN_app n ok (stp_hd hst)
    rw [hn]
    obtain ⟨c, r, hc, hh⟩ : ∃ c r, n.l = c :: r ∧ (c.toNat = 46 ∨ (48 ≤ c.toNat ∧ c.toNat ≤ 57)) := num_head ok
    obtain ⟨e1, e2, e3⟩ := nh_not c hh
    have hlT : lenT c (r ++ 32 :: q) = n.l.length := by unfold lenT; rw [e3]; simp only [Bool.false_eq_true, if_false]; rw [← List.cons_append, ← hc]; exact hlen
    rw [hc, List.cons_append, tks]
    rw [hlT, ← List.cons_append, ← hc, List.take_left, List.drop_left, tks]
    simp only [e1, e2, e3, b32, if_true, if_false, Bool.false_eq_true, or_false]
    rw [if_neg (by rw [hc]; simp), ← hn, hks]
    cases k; simp only at hk; subst hk; rfl
  · cases hc : k.s.data.toList with
    | nil => exact absurd hc hne
    | cons c r =>
      have hall : k.s.data.toList.all isLt = true := List.all_eq_true.2 fun x hx => (lt_isL x).symm.trans (hl x hx)
      have e3 : isLt c = true := by rw [hc] at hall; simp only [List.all_cons, Bool.and_eq_true] at hall; exact hall.1
      obtain ⟨e1, e2⟩ := lt_not c e3
      have hlT : lenT c (r ++ 32 :: q) = k.s.data.toList.length := by
        unfold lenT; rw [if_pos e3, ← List.cons_append, ← hc]; exact lts_app hall (fun c hc => by simp at hc; subst hc; rfl)
      rw [List.cons_append, tks]
      rw [hlT, ← List.cons_append, ← hc, List.take_left, List.drop_left, tks]
      simp only [e1, e2, e3, b32, if_true, if_false, Bool.false_eq_true, or_false]
      rw [if_neg (by rw [hc]; simp), hks]
      cases k; simp only at hk; subst hk; rfl
  · have e2 : isSgn (UInt8.ofNat k.k) = true ∧ isBl (UInt8.ofNat k.k) = false ∧ (UInt8.ofNat k.k).toNat = k.k := by
      rcases hk with h | h | h | h <;> rw [h] <;> decide
    rw [hs, List.cons_append, List.nil_append, tks, tks]
    simp only [e2.1, e2.2.1, b32, if_true, if_false, Bool.false_eq_true, Bool.and_false, e2.2.2]
    rw [← hs, hks]

/-- The tokens of the joined text. -/
theorem tks_join {l : List Tok} (h : ∀ k ∈ l, Tg k) (f : Nat) (hf : 2 * l.length < f) : tks f false (joinT l) = some l := by
  induction l generalizing f with
  | nil => cases f with
    | zero => omega
    | succ f => rfl
  | cons k l ih =>
    obtain ⟨f, rfl⟩ : ∃ g, f = g + 2 := ⟨f - 2, by simp only [List.length_cons] at hf; omega⟩
    simp only [joinT, List.flatMap_cons, List.append_assoc, List.singleton_append]
    rw [tks_one (h k (by simp))]
    simp only [List.length_cons] at hf
    have := ih (fun k hk => h k (by simp [hk])) f (by omega)
    unfold joinT at this
    rw [this]; rfl


end Go.Proofs.YtlckfiflfkbofaaGreatDoor

/- Plain: the tokens of the text that the reference is asked with. -/
namespace Go.Proofs.YtlckfiflfkbofaaGreatDoor

/-- The name's token. -/
def tM : Tok := ⟨97, ⟨#[77, 85, 76, 84, 73, 80, 79, 73, 78, 84]⟩⟩
def tZ : Tok := ⟨97, ⟨#[90]⟩⟩
def tMm : Tok := ⟨97, ⟨#[77]⟩⟩
def tZM : Tok := ⟨97, ⟨#[90, 77]⟩⟩
/-- The type's tokens. -/
def tagT (ct : Nat) : List Tok := if ct = 0 then [] else if ct = 1 then [tZ] else if ct = 2 then [tMm] else [tZM]
def tagB (ct : Nat) : List UInt8 := if ct = 0 then [] else if ct = 1 then [32, 90, 32] else if ct = 2 then [32, 77, 32] else [32, 90, 77, 32]

theorem tM_tg : Tg tM := ⟨by intro i hi; revert i; decide +kernel, by decide, Or.inr (Or.inl ⟨rfl, by decide, by decide +kernel⟩)⟩
theorem tZ_tg : Tg tZ := ⟨by intro i hi; revert i; decide +kernel, by decide, Or.inr (Or.inl ⟨rfl, by decide, by decide +kernel⟩)⟩
theorem tMm_tg : Tg tMm := ⟨by intro i hi; revert i; decide +kernel, by decide, Or.inr (Or.inl ⟨rfl, by decide, by decide +kernel⟩)⟩
theorem tZM_tg : Tg tZM := ⟨by intro i hi; revert i; decide +kernel, by decide, Or.inr (Or.inl ⟨rfl, by decide, by decide +kernel⟩)⟩

theorem tks_bl (f : Nat) (j : Bool) (q : List UInt8) : tks (f + 1) j (32 :: q) = tks f false q := by
  rw [tks, if_pos (by decide)]

theorem wkt_tok (ct : Nat) {c : List Tok} (h : ∀ k ∈ c, Tg k) : tkA false ((tM.s.data.toList ++ tagB ct) ++ 32 :: joinT c) = some (tM :: (tagT ct ++ c)) := by
  unfold tkA
  rw [tks_fuel _ ((((tM.s.data.toList ++ tagB ct) ++ 32 :: joinT c).length + 2 * c.length + 1) + 1 + 2 + 1 + 2) _ _ (by omega) (by omega)]
  generalize hF : ((tM.s.data.toList ++ tagB ct) ++ 32 :: joinT c).length + 2 * c.length + 1 = F
  have hj : ∀ n, tks (F + n) false (joinT c) = some c := fun n => tks_join h (F + n) (by omega)
  unfold tagB tagT
  split
  · rw [List.append_nil, tks_one tM_tg, hj (1 + 2 + 1)]; rfl
  · split
    · rw [List.append_assoc]
      show tks (F + 1 + 2 + 1 + 2) false (tM.s.data.toList ++ 32 :: (tZ.s.data.toList ++ 32 :: 32 :: joinT c)) = _
      rw [tks_one tM_tg, show F + 1 + 2 + 1 = (F + 1 + 1) + 2 by omega, tks_one tZ_tg, tks_bl, hj 1]; rfl
    · split
      · rw [List.append_assoc]
        show tks (F + 1 + 2 + 1 + 2) false (tM.s.data.toList ++ 32 :: (tMm.s.data.toList ++ 32 :: 32 :: joinT c)) = _
        rw [tks_one tM_tg, show F + 1 + 2 + 1 = (F + 1 + 1) + 2 by omega, tks_one tMm_tg, tks_bl, hj 1]; rfl
      · rw [List.append_assoc]
        show tks (F + 1 + 2 + 1 + 2) false (tM.s.data.toList ++ 32 :: (tZM.s.data.toList ++ 32 :: 32 :: joinT c)) = _
        rw [tks_one tM_tg, show F + 1 + 2 + 1 = (F + 1 + 1) + 2 by omega, tks_one tZM_tg, tks_bl, hj 1]; rfl

end Go.Proofs.YtlckfiflfkbofaaGreatDoor
