/- impl.ReadMultiPointBody. The reference's ReadWKT, at several points. pRead, beginning. pRead at the reader of several points. FnMultiPointBody returns true, in a world that holds the listed variables. Part 49 of 51 of the proof that FnMultiPointBody returns true for every text and every type of coordinates, where the listed variables hold what the text of the program lays. -/
import Derived.Test.YtlckfiflfkbofaaGreatDoorM34
import Derived.Test.YtlckfiflfkbofaaGreatDoorM35
import Derived.Test.YtlckfiflfkbofaaGreatDoorM38
import Derived.Test.YtlckfiflfkbofaaGreatDoorM39
import Derived.Test.YtlckfiflfkbofaaGreatDoorM45
import Derived.Test.YtlckfiflfkbofaaGreatDoorM46
import Derived.Test.YtlckfiflfkbofaaGreatDoorM48
set_option linter.all false

/- impl.ReadMultiPointBody. -/
namespace Go.Proofs.YtlckfiflfkbofaaGreatDoor
open Go.RowKit

def geo0 : Value := .agg #[.int .i64 0, .int .i64 0, .slice none 0 0, .slice none 0 0]
/-- What the reader answers. -/
def RmpP (ct : Nat) (o : Option (List (List Nat) × List Tok)) (e : Ending) (w' : World) : Prop :=
  match o with
  | some (xss, _) => ∃ kv, e = .returned (.tuple #[.agg #[.int .i64 4, .int .i64 (ct : Int), .slice none 0 0, kv], .bool true]) ∧ KidV w' kv ct xss
  | none => e = .returned (.tuple #[geo0, .bool false])

theorem do_any (ct : Nat) (h : ct < 4) (w : World) : Calls Tryz.prog 13 #[.int .i64 (ct : Int)] w fun e w' => e = .returned (.int .u8 (ct : Int)) ∧ w = w' := by
  have : ct = 0 ∨ ct = 1 ∨ ct = 2 ∨ ct = 3 := by omega
  rcases this with rfl | rfl | rfl | rfl
  · exact do_0 w
  · exact do_1 w
  · exact do_2 w
  · exact do_3 w
theorem Ev.up {P : GP} {w : World} {B B' : Nat} {t : ByteArray} (h : Ev P w B t) (hB : B ≤ B') : Ev P w B' t :=
  ⟨⟨h.en.fst, h.en.eof, h.en.asc, h.en.hz, Nat.le_trans h.en.hB hB⟩, h.eof, ⟨h.nu.T, Nat.le_trans h.nu.GB hB, Nat.lt_of_lt_of_le h.nu.q6B hB, Nat.lt_of_lt_of_le h.nu.q7B hB, h.nu.c6, h.nu.c7, h.nu.d6, h.nu.d7⟩⟩
theorem Ev.keepF {P : GP} {w w' : World} {B : Nat} {t : ByteArray} (h : Ev P w B t) (k : Keep (fun _ => False) w w') : Ev P w' B t := h.keep (k.mono fun _ _ h => h.elim)

theorem pNum_mem {val : Tok → Bool → Option Nat} {l q : List Tok} {x : Nat} (h : pNum val l = some (x, q)) : q.length ≤ l.length := by
  cases l with
  | nil => cases h
  | cons t r =>
    simp only [pNum] at h
    split at h
    · cases r with
      | nil => cases h
      | cons u r =>
        simp only [Option.map_eq_some_iff] at h
        obtain ⟨_, _, h⟩ := h
        cases h
        simp; omega
    · simp only [Option.map_eq_some_iff] at h
      obtain ⟨_, _, h⟩ := h
      cases h
      simp
theorem pNums_wd {val : Tok → Bool → Option Nat} : ∀ (n : Nat) (l q : List Tok) (xs : List Nat), pNums val n l = some (xs, q) → xs.length = n := by
  intro n
  induction n with
  | zero => intro l q xs h; simp only [pNums, Option.some.injEq, Prod.mk.injEq] at h; rw [← h.1]; rfl
  | succ n ih =>
    intro l q xs h
    simp only [pNums] at h
    cases e1 : pNum val l with
    | none => rw [e1] at h; cases h
    | some p =>
      obtain ⟨x, r⟩ := p
      rw [e1] at h
      simp only at h
      cases e2 : pNums val n r with
      | none => rw [e2] at h; cases h
      | some p2 =>
        obtain ⟨ys, r2⟩ := p2
        rw [e2] at h
        simp only [Option.some.injEq, Prod.mk.injEq] at h
        rw [← h.1]; simp [ih _ _ _ e2]
theorem pPoint_wd {val : Tok → Bool → Option Nat} {n : Nat} {l q : List Tok} {xs : List Nat} (h : pPoint val n l = some (xs, q)) : xs = [] ∨ xs.length = n := by
  cases l with
  | nil => cases h
  | cons t r =>
    simp only [pPoint] at h
    split at h
    · cases e1 : pNums val n r with
      | none => rw [e1] at h; cases h
      | some p =>
        obtain ⟨ys, z⟩ := p
        rw [e1] at h
        simp only [Option.map_eq_some_iff] at h
        obtain ⟨_, _, h⟩ := h
        cases h
        exact Or.inr (pNums_wd _ _ _ _ e1)
    · split at h
      · simp only [Option.some.injEq, Prod.mk.injEq] at h; exact Or.inl h.1.symm
      · exact Or.inr (pNums_wd _ _ _ _ h)
theorem pPoints_wd {val : Tok → Bool → Option Nat} {n : Nat} : ∀ (f : Nat) (l q : List Tok) (xss : List (List Nat)), pPoints val n f l = some (xss, q) → (∀ xs ∈ xss, xs = [] ∨ xs.length = n) ∧ xss.length ≤ f := by
  intro f
  induction f with
  | zero => intro l q xss h; cases h
  | succ f ih =>
    intro l q xss h
    simp only [pPoints] at h
    cases e1 : pPoint val n l with
    | none => rw [e1] at h; cases h
    | some p =>
      obtain ⟨x, r⟩ := p
      rw [e1] at h
      cases r with
      | nil => cases h
      | cons t r =>
        simp only at h
        split at h
        · simp only [Option.map_eq_some_iff] at h
          obtain ⟨y, hy, h⟩ := h
          cases h
          obtain ⟨h1, h2⟩ := ih _ _ _ hy
          refine ⟨?_, by simp; omega⟩
          intro xs hx
          rcases List.mem_cons.1 hx with rfl | hx
          · exact pPoint_wd e1
          · exact h1 xs hx
        · split at h
          · simp only [Option.some.injEq, Prod.mk.injEq] at h
            rw [← h.1]
            refine ⟨?_, by simp⟩
            intro xs hx
            simp only [List.mem_cons, List.not_mem_nil, or_false] at hx
            subst hx
            exact pPoint_wd e1
          · cases h
theorem pAll_wd {val : Tok → Bool → Option Nat} {n : Nat} {l q : List Tok} {xss : List (List Nat)} (h : pAll val n l = some (xss, q)) : (∀ xs ∈ xss, xs = [] ∨ xs.length = n) ∧ xss.length ≤ l.length := by
  cases l with
  | nil => cases h
  | cons t r =>
    simp only [pAll] at h
    split at h
    · simp only [Option.some.injEq, Prod.mk.injEq] at h
      rw [← h.1]
      exact ⟨fun _ h => (by cases h), by simp⟩
    · split at h
      · obtain ⟨h1, h2⟩ := pPoints_wd _ _ _ _ h
        exact ⟨h1, by simpa using h2⟩
      · cases h

set_option maxRecDepth 100000 in
set_option maxHeartbeats 3200000 in
theorem rmp_calls {P : GP} (w : World) (t : ByteArray) (ct : Nat) (hct : ct < 4) (hV : Ev P w w.heap.size t) {l : List Tok} (hR : Rem t 0 l) (hg : ∀ k ∈ l, Tg k) (hll : l.length ≤ 3000) :
    Calls Tryz.prog 5 #[.string t, .int .i64 (ct : Int)] w fun e w' => RmpP ct (pAll (val P) (wd ct) l) e w' ∧ Keep (fun _ => False) w w' := by
  have hK0 := (Keep.refl (fun _ => False) w).alloc (.cells #[.int .i64 0, .int .i64 0, .slice none 0 0, .slice none 0 0] 33)
  have b0 := heap_alloc_new w (.cells #[.int .i64 0, .int .i64 0, .slice none 0 0, .slice none 0 0] 33)
  have h12 := door_calls (w.alloc (.cells #[.int .i64 0, .int .i64 0, .slice none 0 0, .slice none 0 0] 33)) t ct hct ((hV.keepF hK0).up hK0.size) hR hg hll
  have HB0 := Lib.hid b0
  have HK0 := Lib.hid hK0
  clear b0 hK0 hV hR hg
  cases hp : pAll (val P) (wd ct) l with
  | none =>
    rw [hp] at h12
    go_enter Tryz.func5, Tryz.ntmps5
    go_wp2_with (first | (go_at_call 13; refine (do_any ct hct _).mono ?_; rintro e w9 ⟨rfl, rfl⟩) | (go_at_call 12; refine h12.mono ?_; rintro e w2 ⟨⟨v, rfl⟩, hK2⟩; have hb2 := (hK2.block _ (Array.getElem?_eq_some_iff.1 HB0.out).1 (fun h => h)).trans HB0.out; have HK2 := Lib.hid (HK0.out.trans hK2); obtain ⟨d0, d1, d2, d3, d4, d5, d6, d7⟩ := cells4 hb2; have hlt2 := (Array.getElem?_eq_some_iff.1 hb2).1; have HB2 := Lib.hid hb2; clear hK2 hb2))
    (try simp only [Exit.inBlock, Exit.then]); refine bodyPost_ret (results_two rfl _ _ _ _ _ _ _ rfl ((Below.heap_alloc _ _ _ (Array.getElem?_eq_some_iff.1 (blk4 HB2.out _ _ _ _)).1).trans (blk4 HB2.out _ _ _ _)) Tryz.underlying33 info33) rfl ?_
    exact ⟨rfl, (keep_set4F HK2.out (Nat.le_refl _) _ _ _ _).alloc _⟩
  | some q =>
    obtain ⟨xss, q⟩ := q
    rw [hp] at h12
    obtain ⟨hw1, hw2⟩ := pAll_wd hp
    have h14 : ∀ W v, MpV W v ct (xss.map (pgOf ct)) → Calls Tryz.prog 14 #[.agg #[v, .int .u8 (ct : Int)]] W fun e w' => ∃ kv, e = .returned (.agg #[.int .i64 4, .int .i64 (ct : Int), .slice none 0 0, kv]) ∧ KidV w' kv ct xss ∧ Keep (fun _ => False) W w' := fun W v hv => pm_calls W v ct hct xss hv (by omega) hw1
    have H14 := Lib.hid h14
    have HP := Lib.hid hp
    clear h14 hw1 hw2 hp
    go_enter Tryz.func5, Tryz.ntmps5
    go_wp2_with (first | (go_at_call 13; refine (do_any ct hct _).mono ?_; rintro e w9 ⟨rfl, rfl⟩) | (go_at_call 12; refine h12.mono ?_; rintro e w2 ⟨⟨v, rfl, hv⟩, hK2⟩; have hb2 := (hK2.block _ (Array.getElem?_eq_some_iff.1 HB0.out).1 (fun h => h)).trans HB0.out; have HK2 := Lib.hid (HK0.out.trans hK2); obtain ⟨d0, d1, d2, d3, d4, d5, d6, d7⟩ := cells4 hb2; have hlt2 := (Array.getElem?_eq_some_iff.1 hb2).1; have HB2 := Lib.hid hb2; have HV := Lib.hid hv; obtain ⟨av, cv, hv1, _⟩ := hv; rw [List.length_map] at hv1; subst hv1; have h14 := H14.out (w2.alloc (.cells #[.slice av xss.length cv, .int .u8 (ct : Int)] 41)) (.slice av xss.length cv) (HV.out.keep ((Keep.refl _ w2).alloc _)); clear hK2 hb2) | (go_at_call 14; refine h14.mono ?_; clear h14; rintro e w5 ⟨kv, rfl, hkv, hK5⟩; have hb5 := (hK5.block _ (by simp only [World.size_alloc]; omega) (fun h => h)).trans ((Below.heap_alloc w2 _ _ hlt2).trans HB2.out); have HK5 := Lib.hid ((HK2.out.alloc _).trans hK5); obtain ⟨d0, d1, d2, d3, d4, d5, d6, d7⟩ := cells4 hb5; have HB5 := Lib.hid hb5; have HV5 := Lib.hid hkv; obtain ⟨ak, ck, rfl, _⟩ := hkv; clear hK5 hb5))
    (try simp only [Exit.inBlock, Exit.then]); refine bodyPost_ret (results_two rfl _ _ _ _ _ _ _ rfl (blk4 HB5.out _ _ _ _) Tryz.underlying33 info33) rfl ?_
    exact ⟨⟨_, rfl, HV5.out.but HB5.out (by decide) (keep_set4 _ _ _ _ _ _)⟩, keep_set4F HK5.out (Nat.le_refl _) _ _ _ _⟩
end Go.Proofs.YtlckfiflfkbofaaGreatDoor

/- The reference's ReadWKT, at several points. -/
namespace Go.Proofs.YtlckfiflfkbofaaGreatDoor
open Go.RowKit

/-- What ReadWKT answers. -/
def RwkP (P : GP) (ct : Nat) (c : List Tok) (e : Ending) (w' : World) : Prop :=
  match pAll (val P) (wd ct) c with
  | some (xss, []) => ∃ kv, e = .returned (.tuple #[.agg #[.int .i64 4, .int .i64 (ct : Int), .slice none 0 0, kv], .bool true]) ∧ KidV w' kv ct xss
  | _ => e = .returned (.tuple #[geo0, .bool false])

theorem rdq_start {P : GP} {w w2 : World} {g n cap : Nat} {l : List Tok} (hV : Nu P w w.heap.size) (hK : Keep (fun _ => False) w w2) (hne : l ≠ []) (hn : n = l.length) (hg : g < w2.heap.size) (hcap : l.length ≤ cap) (hcap2 : cap ≤ 9223372036854775807) (hle : l.length ≤ 100000)
    (hc : ∀ i k, l[i]? = some k → w2.cell? ⟨g, i * 2, none⟩ = some (.int .u8 (k.k : Int)) ∧ w2.cell? ⟨g, i * 2 + 1, none⟩ = some (.string k.s)) (ht : ∀ k ∈ l, Tg k ∧ k.s.size < 3000) :
    RdQ P w.heap.size w2.heap.size g (w2.alloc (.cells #[.slice (some ⟨g, 0, none⟩) n cap, .bool false] 54)) l false := by
  have hKa := (Keep.refl (fun _ => False) w2).alloc (.cells #[.slice (some ⟨g, 0, none⟩) n cap, .bool false] 54)
  refine ⟨⟨⟨_, heap_alloc_new w2 _, ?_⟩, by omega, hle⟩, ht, hV.keepF (hK.trans hKa), hK.size, by simp, by simp only [World.size_alloc]; omega⟩
  cases l with
  | nil => exact absurd rfl hne
  | cons a l =>
    refine ⟨0, cap, by rw [hn], hcap, hcap2, fun i k hk => ?_⟩
    obtain ⟨c1, c2⟩ := hc i k hk
    rw [show 0 + 2 * i = i * 2 by omega]
    exact ⟨hKa.cell c1 (fun h => h), hKa.cell c2 (fun h => h)⟩
theorem TkS.form {w : World} {g : Nat} {v : Value} {l : List Tok} (h : TkS w g v l) : ∃ a cap, v = .slice a l.length cap := by
  cases l with
  | nil => obtain ⟨a, cap, h⟩ := h; exact ⟨a, cap, h⟩
  | cons a l => obtain ⟨o, cap, h, _⟩ := h; exact ⟨_, cap, h⟩

set_option maxRecDepth 100000 in
set_option maxHeartbeats 3200000 in
theorem rwk_calls {P : GP} (w : World) (s : ByteArray) (ct : Nat) (hct : ct < 4) (c : List Tok) (hs : s.size ≤ 10000) (hT : tkA false s.data.toList = some (tM :: (tagT ct ++ c))) (htg : ∀ k ∈ (tM :: (tagT ct ++ c)), Tg k ∧ k.s.size < 3000) (hc : Hd c) (hcl : c.length ≤ 50000) (hV : Nu P w w.heap.size) :
    Calls Tryz.prog 8 #[.string s] w fun e w' => RwkP P ct c e w' ∧ Keep (fun _ => False) w w' := by
  have hK0 := (Keep.refl (fun _ => False) w).alloc (.cells #[.int .i64 0, .int .i64 0, .slice none 0 0, .slice none 0 0] 33)
  have b0 := heap_alloc_new w (.cells #[.int .i64 0, .int .i64 0, .slice none 0 0, .slice none 0 0] 33)
  have h17 := tkn_calls s (w.alloc (.cells #[.int .i64 0, .int .i64 0, .slice none 0 0, .slice none 0 0] 33)) hs
  rw [hT] at h17
  have hlen : (tM :: (tagT ct ++ c)).length ≤ 60000 := by
    have : (tagT ct).length ≤ 1 := by unfold tagT; split; simp; split; simp; split <;> simp
    simp only [List.length_cons, List.length_append]
    omega
  obtain ⟨l, hl⟩ : ∃ l, l = tM :: (tagT ct ++ c) := ⟨_, rfl⟩
  obtain ⟨n, hn⟩ : ∃ n, n = l.length := ⟨_, rfl⟩
  have hne : l ≠ [] := by rw [hl]; simp
  rw [← hl] at h17 htg hlen
  have hrd : ∀ w2 v, Keep (fun _ => False) w w2 → w2.ownsRow w.heap.size 74 2 v l.length (flat l) → ∃ g cap, v = .slice (some ⟨g, 0, none⟩) n cap ∧ Calls Tryz.prog 19 #[.pointer (some ⟨w2.heap.size, 0, none⟩)] (w2.alloc (.cells #[.slice (some ⟨g, 0, none⟩) n cap, .bool false] 54)) fun e w' => BmP P w.heap.size w2.heap.size g (w2.alloc (.cells #[.slice (some ⟨g, 0, none⟩) n cap, .bool false] 54)) ct c e w' := by
    intro w2 v hK2 ho
    obtain ⟨g, cap, rfl, hBg, hg, hcap, hcap2, hcc⟩ := tok_row ho hne
    refine ⟨g, cap, by rw [hn], ?_⟩
    have hq := rdq_start hV hK2 hne hn hg hcap hcap2 (by omega) hcc htg
    rw [hl] at hq
    exact tag_calls ct hct hc hcl hq
  have HRD := Lib.hid hrd
  have HB0 := Lib.hid b0
  have HK0 := Lib.hid hK0
  clear hrd b0 hK0 hT htg hl hn hne hlen hc hcl hV
  go_enter Tryz.func8, Tryz.ntmps8
  go_wp2_with (first
    | (go_at_call 17; refine h17.mono ?_; clear h17; rintro e w2 ⟨⟨v, rfl, ho⟩, hK2⟩; obtain ⟨g, cap, rfl, h19⟩ := HRD.out w2 v (HK0.out.trans hK2) (own_mono ho HK0.out.size); have hb2 := (hK2.block _ (Array.getElem?_eq_some_iff.1 HB0.out).1 (fun h => h)).trans HB0.out; have HB2 := Lib.hid hb2; have HK2 := Lib.hid (HK0.out.trans hK2); have hlt2 := (Array.getElem?_eq_some_iff.1 hb2).1; clear hb2 hK2 ho HRD HB0 HK0)
    | (go_at_call 19; refine h19.mono ?_; clear h19; rintro e w4 ⟨kv, kn, l', bad', rfl, hkb, hkn, hkx, hq4, hk4, hp4⟩; have hb4 := (hk4.block _ (by simp only [World.size_alloc]; omega) (by show w.heap.size ≠ w2.heap.size; omega)).trans ((Below.heap_alloc w2 _ _ hlt2).trans HB2.out); have HB4 := Lib.hid hb4; have HK4 := Lib.hid ((HK2.out.alloc (.cells #[.slice (some ⟨g, 0, none⟩) n cap, .bool false] 54)).trans' hk4 (fun i hi e => by have : i = w2.heap.size := e; omega)); have h18 := nw_mp w4 kv ct hct (kn.map (·.2)) hkb.kidC (by simpa using hkn) (by intro xs hx; obtain ⟨q, hq, rfl⟩ := List.mem_map.1 hx; exact hkx q hq); have HQ4 := Lib.hid hq4; have HP4 := Lib.hid hp4; obtain ⟨a4, c4, hkv⟩ := own_form hkb.own; subst hkv; clear hb4 hk4 hkb hkx hq4 hp4 HB2 HK2)
    | (go_at_call 18; refine h18.mono ?_; clear h18; rintro e w5 ⟨v5, rfl, hv5, hK5⟩; have hb5 := (hK5.block _ (Array.getElem?_eq_some_iff.1 HB4.out).1 (fun h => h)).trans HB4.out; have hr5 := HQ4.out.rd.keep hK5 (fun h => h) (fun h => h); obtain ⟨vl, hvl, p0, p1, pf0, pf1⟩ := hr5.facts; obtain ⟨al, cl, hvl'⟩ := hvl.form; subst hvl'; have hne5 : w.heap.size ≠ w2.heap.size := (by omega); have hne6 : w2.heap.size ≠ w.heap.size := (by omega); obtain ⟨d0, d1, d2, d3, d4, d5, d6, d7⟩ := cells4 hb5; have HB5 := Lib.hid hb5; have HV5 := Lib.hid hv5; have HK5 := Lib.hid (HK4.out.trans hK5); obtain ⟨a5, c5, hv5', _⟩ := hv5; rw [List.length_map] at hv5'; subst hv5'; have hll : l'.length ≤ 100000 := hr5.le; clear hb5 hK5 hr5 hvl HB4 HK4; clear HQ4; cases bad'; cases l'; rotate_left; (have hz7 : ¬ ((List.length ‹List Tok› + 1 : Nat) : Int) ≤ 0 := by omega); rotate_left 2))
  all_goals (
    (try simp only [Exit.inBlock, Exit.then]); refine bodyPost_ret (results_two rfl _ _ _ _ _ _ _ rfl (blk4 (blk4 HB5.out _ _ _ _) _ _ _ _) Tryz.underlying33 info33) rfl ?_
    refine ⟨?_, keep_set4F (keep_set4F HK5.out (Nat.le_refl _) _ _ _ _) (Nat.le_refl _) _ _ _ _⟩
    unfold RwkP
    rw [HP4.out])
  · exact ⟨_, rfl, (HV5.out.but HB5.out (by decide) (keep_set4 _ _ _ _ _ _)).but (blk4 HB5.out _ _ _ _) (by decide) (keep_set4 _ _ _ _ _ _)⟩
  · exact rfl
  · exact rfl
end Go.Proofs.YtlckfiflfkbofaaGreatDoor

/- pRead, beginning. -/
namespace Go.Proofs.YtlckfiflfkbofaaGreatDoor
open Go.RowKit

theorem brk_pre : ∀ (l : List Tok) (d : Int) (c : List Tok), brk d l = some c → ∃ r, l = c ++ r := by
  intro l
  induction l with
  | nil => intro d c h; simp [brk] at h
  | cons t q ih =>
    intro d c h
    simp only [brk] at h
    split at h
    · simp only [Option.some.injEq] at h; exact ⟨q, by rw [← h]; simp⟩
    · simp only [Option.map_eq_some_iff] at h
      obtain ⟨c', hc', rfl⟩ := h
      obtain ⟨r, hr⟩ := ih _ _ hc'
      exact ⟨r, by rw [hr]; simp⟩
theorem okB_iff {c : List Tok} (hne : c ≠ []) : okB c = true ↔ (c.length > 1 ∨ ∃ t, c = [t] ∧ isE t = true) := by
  match c, hne with
  | [t], _ => simp [okB]
  | a :: b :: c, _ => simp [okB]
theorem brk_ne {l : List Tok} {d : Int} {c : List Tok} (h : brk d l = some c) : c ≠ [] := by
  cases l with
  | nil => simp [brk] at h
  | cons t q =>
    simp only [brk] at h
    split at h
    · simp only [Option.some.injEq] at h; rw [← h]; simp
    · simp only [Option.map_eq_some_iff] at h
      obtain ⟨c', _, rfl⟩ := h
      simp
theorem brk_hd {l c : List Tok} (h : brk 0 l = some c) (hok : okB c = true) : Hd c := by
  obtain ⟨r, hr⟩ := brk_pre l 0 c h
  cases c with
  | nil => exact absurd rfl (brk_ne h)
  | cons t c =>
    refine ⟨t, c, rfl, ?_⟩
    rcases (okB_iff (brk_ne h)).1 hok with hl | ⟨t', ht', hE⟩
    · left
      intro h97
      rw [hr] at h
      simp only [List.cons_append, brk] at h
      have h0 : tD t = 0 := by unfold tD; rw [if_neg (by omega), if_neg (by omega)]
      rw [h0] at h
      simp only [Int.add_zero, if_true, Option.some.injEq, List.cons.injEq] at h
      rw [← h.2] at hl
      simp at hl
    · cases ht'
      exact Or.inr hE

theorem tks_join_len : ∀ (f : Nat) (j : Bool) (L : List UInt8) (l : List Tok), tks f j L = some l → (joinT l).length ≤ 2 * L.length := by
  intro f
  induction f with
  | zero => intro j L l h; cases h
  | succ f ih =>
    intro j L l h
    cases L with
    | nil => simp only [tks, Option.some.injEq] at h; rw [← h]; simp [joinT]
    | cons c r =>
      simp only [tks] at h
      split at h
      · have := ih _ _ _ h
        simp only [List.length_cons]; omega
      · split at h
        · split at h
          · cases h
          · simp only [Option.map_eq_some_iff] at h
            obtain ⟨a, ha, rfl⟩ := h
            have := ih _ _ _ ha
            have e : joinT ({ k := c.toNat, s := mkS [c] } :: a) = ([c] ++ [32]) ++ joinT a := rfl
            rw [e]
            simp only [List.length_append, List.length_cons, List.length_nil]
            omega
        · split at h
          · cases h
          · rename_i hn
            simp only [Option.map_eq_some_iff] at h
            obtain ⟨a, ha, rfl⟩ := h
            have h1 := ih _ _ _ ha
            have h2 := len_pos (c := c) (r := r)
            have e : joinT ({ k := if isLt c = true then 97 else 49, s := mkS ((c :: r).take (lenT c r)) } :: a) = ((c :: r).take (lenT c r) ++ [32]) ++ joinT a := rfl
            rw [e]
            rw [List.length_drop] at h1
            simp only [List.length_append, List.length_take, List.length_cons, List.length_nil] at h1 h2 ⊢
            omega
theorem joinT_app (a b : List Tok) : joinT (a ++ b) = joinT a ++ joinT b := by simp [joinT]

def xtS (ct : Nat) : ByteArray := ⟨(tagB ct).toArray⟩
theorem xt_any (ct : Nat) (h : ct < 4) (w : World) : Calls Tryz.prog 10 #[.int .i64 (ct : Int)] w fun e w' => e = .returned (.string (xtS ct)) ∧ Keep (fun _ => False) w w' := by
  have : ct = 0 ∨ ct = 1 ∨ ct = 2 ∨ ct = 3 := by omega
  rcases this with rfl | rfl | rfl | rfl
  · exact (xt_0 w).mono fun e w' h => ⟨h.1, Keep.of_below h.2⟩
  · exact (xt_1 w).mono fun e w' h => ⟨h.1, Keep.of_below h.2⟩
  · exact (xt_2 w).mono fun e w' h => ⟨h.1, Keep.of_below h.2⟩
  · exact (xt_3 w).mono fun e w' h => ⟨h.1, Keep.of_below h.2⟩

/-- What the listed variables give, in whatever world. -/
structure Wd0 (P : GP) (w : World) : Prop where
  fst : Fst w
  eof : ∃ ke : Addr, w.cell? ⟨2, 0, none⟩ = some (.iface 209 (.pointer (some ke)))
  ev : EofV w
  nu : Nu P w w.heap.size
  hB : 19 ≤ w.heap.size
theorem Wd0.keep {P : GP} {w w' : World} (h : Wd0 P w) (k : Keep (fun _ => False) w w') : Wd0 P w' := by
  obtain ⟨ke, hk⟩ := h.eof
  obtain ⟨x, hx⟩ := h.ev
  have hn := h.nu.keepF k
  exact ⟨fun i hi => k.cell (h.fst i hi) (fun h => h), ⟨ke, k.cell hk (fun h => h)⟩, ⟨x, k.cell hx (fun h => h)⟩, ⟨hn.T, Nat.le_trans hn.GB k.size, Nat.lt_of_lt_of_le hn.q6B k.size, Nat.lt_of_lt_of_le hn.q7B k.size, hn.c6, hn.c7, hn.d6, hn.d7⟩, Nat.le_trans h.hB k.size⟩

end Go.Proofs.YtlckfiflfkbofaaGreatDoor

/- pRead at the reader of several points. -/
namespace Go.Proofs.YtlckfiflfkbofaaGreatDoor
open Go.RowKit

set_option maxRecDepth 100000 in
set_option maxHeartbeats 3200000 in
theorem prd_out (w : World) (s : ByteArray) (dim : Int) (h : dim < 0 ∨ 3 < dim) : Calls Tryz.prog 4 #[.int .i64 4, .string s, .int .i64 dim, .func (.func 5) #[] #[]] w fun e w' => e = .returned (.bool true) ∧ Keep (fun _ => False) w w' := by
  have h6 := ptk_calls s w
  rcases h with h | h
  · have hd : decide (dim < 0) = true := decide_eq_true h
    go_enter Tryz.func4, Tryz.ntmps4
    go_wp2_with (go_at_call 6; refine h6.mono ?_; clear h6; rintro e w2 ⟨(⟨l, v, _, _, _, rfl, _⟩ | ⟨v, rfl⟩), hK⟩)
    all_goals (go_ret; exact ⟨rfl, hK⟩)
  · have hd : decide (dim > 3) = true := decide_eq_true h
    have hd2 : decide (dim < 0) = false := decide_eq_false (by omega)
    have hd3 : ¬ dim < 0 := by omega
    go_enter Tryz.func4, Tryz.ntmps4
    go_wp2_with (go_at_call 6; refine h6.mono ?_; clear h6; rintro e w2 ⟨(⟨l, v, _, _, _, rfl, _⟩ | ⟨v, rfl⟩), hK⟩)
    all_goals (go_ret; exact ⟨rfl, hK⟩)

section
variable {w : World} {s : ByteArray} {ct : Nat}
/-- Where the text is none of the grammar's. -/
theorem prd_no (hct : ct < 4) (h6 : Calls Tryz.prog 6 #[.string s] w fun e w' => (∃ v, e = .returned (.tuple #[v, .bool false])) ∧ Keep (fun _ => False) w w') : Calls Tryz.prog 4 #[.int .i64 4, .string s, .int .i64 (ct : Int), .func (.func 5) #[] #[]] w fun e w' => e = .returned (.bool true) ∧ Keep (fun _ => False) w w' := by
  go_enter Tryz.func4, Tryz.ntmps4
  go_wp2_with (go_at_call 6; refine h6.mono ?_; clear h6; rintro e w2 ⟨⟨v, rfl⟩, hK⟩)
  go_ret
  exact ⟨rfl, hK⟩

set_option maxRecDepth 100000 in
set_option maxHeartbeats 3200000 in
/-- Where no body stands at the beginning. -/
theorem prd_none (hct : ct < 4) (l : List Tok)
    (h6 : Calls Tryz.prog 6 #[.string s] w fun e w' => ((∃ v, e = .returned (.tuple #[v, .bool true]) ∧ ∃ B, w'.ownsRow B 9 1 v l.length (strs l)) ∨ (∃ v, e = .returned (.tuple #[v, .bool false]))) ∧ Keep (fun _ => False) w w')
    (h7 : ∀ W v B, W.ownsRow B 9 1 v l.length (strs l) → Calls Tryz.prog 7 #[v] W fun e w' => (∃ x, e = .returned (.tuple #[.string x, .bool false])) ∧ W = w')
    (h5 : ∀ W, Keep (fun _ => False) w W → Calls Tryz.prog 5 #[.string s, .int .i64 (ct : Int)] W fun e w' => e = .returned (.tuple #[.agg #[.int .i64 0, .int .i64 0, .slice none 0 0, .slice none 0 0], .bool false]) ∧ Keep (fun _ => False) W w') :
    Calls Tryz.prog 4 #[.int .i64 4, .string s, .int .i64 (ct : Int), .func (.func 5) #[] #[]] w fun e w' => e = .returned (.bool true) ∧ Keep (fun _ => False) w w' := by
  have hd : decide ((ct : Int) < 0) = false := decide_eq_false (by omega)
  have hd2 : decide ((ct : Int) > 3) = false := decide_eq_false (by omega)
  have hd3 : ¬ (ct : Int) < 0 := by omega
  have hd4 : ¬ 3 < (ct : Int) := by omega
  have H7 := Lib.hid h7
  have H5 := Lib.hid h5
  clear h7 h5
  go_enter Tryz.func4, Tryz.ntmps4
  go_wp2_with (first
    | (go_at_call 6; refine h6.mono ?_; clear h6; rintro e w2 ⟨(⟨v, rfl, B, ho⟩ | ⟨v, rfl⟩), hK⟩; (have h7 := H7.out w2 v B ho; have HK := Lib.hid hK; clear ho hK); rotate_left; (have HK := Lib.hid hK; clear hK); rotate_left)
    | (go_at_call 7; refine h7.mono ?_; clear h7; rintro e w3 ⟨⟨x, rfl⟩, rfl⟩)
    | (go_at_call 5; refine (H5.out _ (HK.out.alloc _)).mono ?_; rintro e w5 ⟨rfl, hK5⟩; have HK5 := Lib.hid ((HK.out.alloc _).trans hK5)))
  · go_ret
    exact ⟨rfl, HK5.out.alloc _⟩
  · go_ret
    exact ⟨rfl, HK.out⟩

set_option maxRecDepth 100000 in
set_option maxHeartbeats 3200000 in
/-- Where a body stands at the beginning, but is refused. -/
theorem prd_bad (hct : ct < 4) (l c : List Tok) (hsz : (strB (joinT c)).size ≤ 5000)
    (h6 : Calls Tryz.prog 6 #[.string s] w fun e w' => ((∃ v, e = .returned (.tuple #[v, .bool true]) ∧ ∃ B, w'.ownsRow B 9 1 v l.length (strs l)) ∨ (∃ v, e = .returned (.tuple #[v, .bool false]))) ∧ Keep (fun _ => False) w w')
    (h7 : ∀ W v B, W.ownsRow B 9 1 v l.length (strs l) → Calls Tryz.prog 7 #[v] W fun e w' => e = .returned (.tuple #[.string (strB (joinT c)), .bool true]) ∧ W = w')
    (h8 : ∀ W, Keep (fun _ => False) w W → Calls Tryz.prog 8 #[.string (((⟨#[77, 85, 76, 84, 73, 80, 79, 73, 78, 84]⟩ : ByteArray) ++ xtS ct) ++ (⟨#[32]⟩ : ByteArray) ++ strB (joinT c))] W fun e w' => e = .returned (.tuple #[.agg #[.int .i64 0, .int .i64 0, .slice none 0 0, .slice none 0 0], .bool false]) ∧ Keep (fun _ => False) W w')
    (h5 : ∀ W, Keep (fun _ => False) w W → Calls Tryz.prog 5 #[.string s, .int .i64 (ct : Int)] W fun e w' => e = .returned (.tuple #[.agg #[.int .i64 0, .int .i64 0, .slice none 0 0, .slice none 0 0], .bool false]) ∧ Keep (fun _ => False) W w') :
    Calls Tryz.prog 4 #[.int .i64 4, .string s, .int .i64 (ct : Int), .func (.func 5) #[] #[]] w fun e w' => e = .returned (.bool true) ∧ Keep (fun _ => False) w w' := by
  have hd : decide ((ct : Int) < 0) = false := decide_eq_false (by omega)
  have hd2 : decide ((ct : Int) > 3) = false := decide_eq_false (by omega)
  have hd3 : ¬ (ct : Int) < 0 := by omega
  have hd4 : ¬ 3 < (ct : Int) := by omega
  have hx : (xtS ct).size ≤ 4 := by unfold xtS tagB; split; decide; split; decide; split <;> decide
  have h10 := fun W => xt_any ct hct W
  generalize strB (joinT c) = sb at *
  generalize xtS ct = sx at *
  have hs1 : ¬ 9223372036854775807 < (⟨#[77, 85, 76, 84, 73, 80, 79, 73, 78, 84]⟩ : ByteArray).size + sx.size := by have : (⟨#[77, 85, 76, 84, 73, 80, 79, 73, 78, 84]⟩ : ByteArray).size = 10 := rfl; omega
  have hs2 : ¬ 9223372036854775807 < ((⟨#[77, 85, 76, 84, 73, 80, 79, 73, 78, 84]⟩ : ByteArray) ++ sx).size + (⟨#[32]⟩ : ByteArray).size := by rw [ByteArray.size_append]; have : (⟨#[77, 85, 76, 84, 73, 80, 79, 73, 78, 84]⟩ : ByteArray).size = 10 := rfl; have : (⟨#[32]⟩ : ByteArray).size = 1 := rfl; omega
  have hs3 : ¬ 9223372036854775807 < (((⟨#[77, 85, 76, 84, 73, 80, 79, 73, 78, 84]⟩ : ByteArray) ++ sx) ++ (⟨#[32]⟩ : ByteArray)).size + sb.size := by rw [ByteArray.size_append, ByteArray.size_append]; have : (⟨#[77, 85, 76, 84, 73, 80, 79, 73, 78, 84]⟩ : ByteArray).size = 10 := rfl; have : (⟨#[32]⟩ : ByteArray).size = 1 := rfl; omega
  have H7 := Lib.hid h7
  have H8 := Lib.hid h8
  have H5 := Lib.hid h5
  clear h7 h5 h8
  go_enter Tryz.func4, Tryz.ntmps4
  go_wp2_with (first
    | (go_at_call 6; refine h6.mono ?_; clear h6; rintro e w2 ⟨(⟨v, rfl, B, ho⟩ | ⟨v, rfl⟩), hK⟩; (have h7 := H7.out w2 v B ho; have HK := Lib.hid hK; clear ho hK); rotate_left; (have HK := Lib.hid hK; clear hK); rotate_left)
    | (go_at_call 7; refine h7.mono ?_; clear h7; rintro e w3 ⟨rfl, rfl⟩; have b0 := heap_alloc_new w2 (.cells #[.int .i64 0, .int .i64 0, .slice none 0 0, .slice none 0 0] 33); have hlt2 : w2.heap.size < (w2.alloc (.cells #[.int .i64 0, .int .i64 0, .slice none 0 0, .slice none 0 0] 33)).heap.size := (by simp); have HB0 := Lib.hid b0; have HLT := Lib.hid hlt2; clear b0 hlt2)
    | (go_at_call 9; refine (pk_4 _).mono ?_; rintro e w9 ⟨rfl, rfl⟩)
    | (go_at_call 10; refine (h10 _).mono ?_; rintro e w4 ⟨rfl, hK4⟩; have h8 := H8.out w4 ((HK.out.alloc _).trans hK4); have hb4 := (hK4.block _ HLT.out (fun h => h)).trans HB0.out; have HB4 := Lib.hid hb4; have HK4 := Lib.hid ((HK.out.alloc _).trans hK4); clear hb4 hK4 HB0 HLT)
    | (go_at_call 8; refine h8.mono ?_; clear h8; rintro e w5 ⟨rfl, hK5⟩; have hb5 := (hK5.block _ (Array.getElem?_eq_some_iff.1 HB4.out).1 (fun h => h)).trans HB4.out; obtain ⟨d0, d1, d2, d3, d4, d5, d6, d7⟩ := cells4 hb5; have hlt5 := (Array.getElem?_eq_some_iff.1 hb5).1; have HB5 := Lib.hid hb5; have HK5 := Lib.hid (HK4.out.trans hK5); have h5 := H5.out _ (keep_set4F (c := w2.heap.size) (HK4.out.trans hK5) HK.out.size (.int .i64 0) (.int .i64 0) (.slice none 0 0) (.slice none 0 0)); clear hb5 hK5)
    | (go_at_call 5; refine h5.mono ?_; clear h5; rintro e w6 ⟨rfl, hK6⟩; have HK6 := Lib.hid ((keep_set4F (c := w2.heap.size) HK5.out HK.out.size (.int .i64 0) (.int .i64 0) (.slice none 0 0) (.slice none 0 0)).trans hK6); clear hK6))
  · go_ret
    exact ⟨rfl, HK6.out.alloc _⟩
  · go_ret
    exact ⟨rfl, HK.out⟩
set_option maxRecDepth 100000 in
set_option maxHeartbeats 3200000 in
/-- Where a body stands at the beginning and is read. -/
theorem prd_good (hct : ct < 4) (l c : List Tok) (xss : List (List Nat)) (hxl : xss.length ≤ 100000) (hxx : ∀ xs ∈ xss, xs.length ≤ 100000) (hsz : (strB (joinT c)).size ≤ 5000)
    (h6 : Calls Tryz.prog 6 #[.string s] w fun e w' => ((∃ v, e = .returned (.tuple #[v, .bool true]) ∧ ∃ B, w'.ownsRow B 9 1 v l.length (strs l)) ∨ (∃ v, e = .returned (.tuple #[v, .bool false]))) ∧ Keep (fun _ => False) w w')
    (h7 : ∀ W v B, W.ownsRow B 9 1 v l.length (strs l) → Calls Tryz.prog 7 #[v] W fun e w' => e = .returned (.tuple #[.string (strB (joinT c)), .bool true]) ∧ W = w')
    (h8 : ∀ W, Keep (fun _ => False) w W → Calls Tryz.prog 8 #[.string (((⟨#[77, 85, 76, 84, 73, 80, 79, 73, 78, 84]⟩ : ByteArray) ++ xtS ct) ++ (⟨#[32]⟩ : ByteArray) ++ strB (joinT c))] W fun e w' => (∃ kv, e = .returned (.tuple #[.agg #[.int .i64 4, .int .i64 (ct : Int), .slice none 0 0, kv], .bool true]) ∧ KidV w' kv ct xss) ∧ Keep (fun _ => False) W w')
    (h5 : ∀ W, Keep (fun _ => False) w W → Calls Tryz.prog 5 #[.string s, .int .i64 (ct : Int)] W fun e w' => (∃ kv, e = .returned (.tuple #[.agg #[.int .i64 4, .int .i64 (ct : Int), .slice none 0 0, kv], .bool true]) ∧ KidV w' kv ct xss) ∧ Keep (fun _ => False) W w') :
    Calls Tryz.prog 4 #[.int .i64 4, .string s, .int .i64 (ct : Int), .func (.func 5) #[] #[]] w fun e w' => e = .returned (.bool true) ∧ Keep (fun _ => False) w w' := by
  have hd : decide ((ct : Int) < 0) = false := decide_eq_false (by omega)
  have hd2 : decide ((ct : Int) > 3) = false := decide_eq_false (by omega)
  have hd3 : ¬ (ct : Int) < 0 := by omega
  have hd4 : ¬ 3 < (ct : Int) := by omega
  have hx : (xtS ct).size ≤ 4 := by unfold xtS tagB; split; decide; split; decide; split <;> decide
  have h10 := fun W => xt_any ct hct W
  generalize strB (joinT c) = sb at *
  generalize xtS ct = sx at *
  have hs1 : ¬ 9223372036854775807 < (⟨#[77, 85, 76, 84, 73, 80, 79, 73, 78, 84]⟩ : ByteArray).size + sx.size := by have : (⟨#[77, 85, 76, 84, 73, 80, 79, 73, 78, 84]⟩ : ByteArray).size = 10 := rfl; omega
  have hs2 : ¬ 9223372036854775807 < ((⟨#[77, 85, 76, 84, 73, 80, 79, 73, 78, 84]⟩ : ByteArray) ++ sx).size + (⟨#[32]⟩ : ByteArray).size := by rw [ByteArray.size_append]; have : (⟨#[77, 85, 76, 84, 73, 80, 79, 73, 78, 84]⟩ : ByteArray).size = 10 := rfl; have : (⟨#[32]⟩ : ByteArray).size = 1 := rfl; omega
  have hs3 : ¬ 9223372036854775807 < (((⟨#[77, 85, 76, 84, 73, 80, 79, 73, 78, 84]⟩ : ByteArray) ++ sx) ++ (⟨#[32]⟩ : ByteArray)).size + sb.size := by rw [ByteArray.size_append, ByteArray.size_append]; have : (⟨#[77, 85, 76, 84, 73, 80, 79, 73, 78, 84]⟩ : ByteArray).size = 10 := rfl; have : (⟨#[32]⟩ : ByteArray).size = 1 := rfl; omega
  have HXX := Lib.hid hxx
  clear hxx
  have H7 := Lib.hid h7
  have H8 := Lib.hid h8
  have H5 := Lib.hid h5
  clear h7 h5 h8
  go_enter Tryz.func4, Tryz.ntmps4
  go_wp2_with (first
    | (go_at_call 6; refine h6.mono ?_; clear h6; rintro e w2 ⟨(⟨v, rfl, B, ho⟩ | ⟨v, rfl⟩), hK⟩; (have h7 := H7.out w2 v B ho; have HK := Lib.hid hK; clear ho hK); rotate_left; (have HK := Lib.hid hK; clear hK); rotate_left)
    | (go_at_call 7; refine h7.mono ?_; clear h7; rintro e w3 ⟨rfl, rfl⟩; have b0 := heap_alloc_new w2 (.cells #[.int .i64 0, .int .i64 0, .slice none 0 0, .slice none 0 0] 33); have hlt2 : w2.heap.size < (w2.alloc (.cells #[.int .i64 0, .int .i64 0, .slice none 0 0, .slice none 0 0] 33)).heap.size := (by simp); have HB0 := Lib.hid b0; have HLT := Lib.hid hlt2; clear b0 hlt2)
    | (go_at_call 9; refine (pk_4 _).mono ?_; rintro e w9 ⟨rfl, rfl⟩)
    | (go_at_call 10; refine (h10 _).mono ?_; rintro e w4 ⟨rfl, hK4⟩; have h8 := H8.out w4 ((HK.out.alloc _).trans hK4); have hb4 := (hK4.block _ HLT.out (fun h => h)).trans HB0.out; have HB4 := Lib.hid hb4; have HK4 := Lib.hid ((HK.out.alloc _).trans hK4); clear hb4 hK4 HB0 HLT)
    | (go_at_call 8; refine h8.mono ?_; clear h8; rintro e w5 ⟨⟨kv, rfl, hkv⟩, hK5⟩; have hb5 := (hK5.block _ (Array.getElem?_eq_some_iff.1 HB4.out).1 (fun h => h)).trans HB4.out; obtain ⟨d0, d1, d2, d3, d4, d5, d6, d7⟩ := cells4 hb5; have hlt5 := (Array.getElem?_eq_some_iff.1 hb5).1; have HB5 := Lib.hid (blk4 hb5 (.int .i64 4) (.int .i64 (ct : Int)) (.slice none 0 0) kv); have HV5 := Lib.hid (hkv.but hb5 (by decide) (keep_set4 _ _ (.int .i64 4) (.int .i64 (ct : Int)) (.slice none 0 0) kv)); have hk5 := keep_set4F (c := w2.heap.size) (HK4.out.trans hK5) HK.out.size (.int .i64 4) (.int .i64 (ct : Int)) (.slice none 0 0) kv; have HK5 := Lib.hid hk5; have h5 := H5.out _ hk5; obtain ⟨ak, ck, rfl, _⟩ := hkv; clear hb5 hK5 hk5)
    | (go_at_call 5; refine h5.mono ?_; clear h5; rintro e w6 ⟨⟨kv6, rfl, hkv6⟩, hK6⟩; have hb6 := (hK6.block _ (Array.getElem?_eq_some_iff.1 HB5.out).1 (fun h => h)).trans HB5.out; obtain ⟨d0, d1, d2, d3, d4, d5, d6, d7⟩ := cells4 hb6; have hlt6 := (Array.getElem?_eq_some_iff.1 hb6).1; have hkg := (Keep.refl (fun _ => False) w6).alloc (.cells #[.int .i64 4, .int .i64 (ct : Int), .slice none 0 0, kv6] 33); have h11 := sg_mp (w6.alloc (.cells #[.int .i64 4, .int .i64 (ct : Int), .slice none 0 0, kv6] 33)) _ _ ct xss ⟨kv6, rfl, hkv6.keep hkg⟩ ⟨_, rfl, (HV5.out.keep hK6).keep hkg⟩ hxl HXX.out; have HK6 := Lib.hid ((HK5.out.trans hK6).trans hkg); obtain ⟨a6, c6, rfl, _⟩ := hkv6; clear hK6 hb6 hkg)
    | (go_at_call 11; refine h11.mono ?_; clear h11; rintro e w7 ⟨rfl, hK7⟩))
  · go_ret
    exact ⟨rfl, HK6.out.trans hK7⟩
  · go_ret
    exact ⟨rfl, HK.out⟩
end
end Go.Proofs.YtlckfiflfkbofaaGreatDoor

/- FnMultiPointBody returns true, in a world that holds the listed variables. -/
namespace Go.Proofs.YtlckfiflfkbofaaGreatDoor
open Go.RowKit

theorem Wd0.evs {P : GP} {w : World} {s : ByteArray} (h : Wd0 P w) (ha : Asc s) (hz : s.size ≤ 3000) : Ev P w w.heap.size s := ⟨⟨h.fst, h.eof, ha, hz, h.hB⟩, h.ev, h.nu⟩

theorem prd_calls {P : GP} (w : World) (s : ByteArray) (dim : Int) (hW : Wd0 P w) : Calls Tryz.prog 4 #[.int .i64 4, .string s, .int .i64 dim, .func (.func 5) #[] #[]] w fun e w' => e = .returned (.bool true) ∧ Keep (fun _ => False) w w' := by
  by_cases hout : dim < 0 ∨ 3 < dim
  · exact prd_out w s dim hout
  · obtain ⟨ct, rfl⟩ : ∃ ct : Nat, dim = ct := ⟨dim.toNat, by omega⟩
    have hct : ct < 4 := by omega
    clear hout
    have h6 := ptk_calls s w
    have hL : s.data.toList.length = s.size := by simp
    cases hA : tkA false s.data.toList with
    | none =>
      refine prd_no hct (h6.mono ?_)
      rintro e w' ⟨⟨l, v, h1, _⟩ | h, hK⟩
      · rw [hA] at h1; cases h1
      · exact ⟨h, hK⟩
    | some l =>
      by_cases hu : Unp l ∧ s.size ≤ 2000
      · obtain ⟨hu, hsz⟩ := hu
        have h6' : Calls Tryz.prog 6 #[.string s] w fun e w' => ((∃ v, e = .returned (.tuple #[v, .bool true]) ∧ ∃ B, w'.ownsRow B 9 1 v l.length (strs l)) ∨ (∃ v, e = .returned (.tuple #[v, .bool false]))) ∧ Keep (fun _ => False) w w' := by
          refine h6.mono ?_
          rintro e w' ⟨⟨l', v, h1, _, _, h2, h3⟩ | h, hK⟩
          · rw [hA] at h1
            cases h1
            exact ⟨Or.inl ⟨v, h2, _, h3⟩, hK⟩
          · exact ⟨Or.inr h, hK⟩
        have hA' : tks (s.data.toList.length + 1) false s.data.toList = some l := hA
        obtain ⟨hR, hg, hasc⟩ := tks_rem s (by omega) _ false 0 l (Nat.zero_le _) (by rw [List.drop_zero]; exact hA') hu
        have hll : l.length ≤ 2000 := by have := tks_len _ _ _ l hA'; omega
        have htk := tks_tok _ _ _ l hA'
        have hjl := tks_join_len _ _ _ l hA'
        have h5 : ∀ W, Keep (fun _ => False) w W → Calls Tryz.prog 5 #[.string s, .int .i64 (ct : Int)] W fun e w' => RmpP ct (pAll (val P) (wd ct) l) e w' ∧ Keep (fun _ => False) W w' :=
          fun W k => rmp_calls W s ct hct ((hW.keep k).evs (asc_of hasc) (by omega)) hR hg (by omega)
        have h7 : ∀ W v B, W.ownsRow B 9 1 v l.length (strs l) → Calls Tryz.prog 7 #[v] W fun e w' => PboP l e ∧ W = w' := fun W v B ho => pbo_calls W v B l ho hg (by omega)
        have hiff := fun x => pAll_iff (val_kind P) (wd_pos ct) l x
        have noneOf : (∀ c, brk 0 l = some c → okB c = false) → pAll (val P) (wd ct) l = none := by
          intro hno
          cases hp : pAll (val P) (wd ct) l with
          | none => rfl
          | some q =>
            obtain ⟨x, r⟩ := q
            obtain ⟨c, hb, hs, _⟩ := (hiff x).1 ⟨r, hp⟩
            have := hno c hb
            rw [(okB_iff (brk_ne hb)).2 hs] at this
            cases this
        have bad : pAll (val P) (wd ct) l = none → (∀ W v B, W.ownsRow B 9 1 v l.length (strs l) → Calls Tryz.prog 7 #[v] W fun e w' => (∃ x, e = .returned (.tuple #[.string x, .bool false])) ∧ W = w') → Calls Tryz.prog 4 #[.int .i64 4, .string s, .int .i64 (ct : Int), .func (.func 5) #[] #[]] w fun e w' => e = .returned (.bool true) ∧ Keep (fun _ => False) w w' := by
          intro hp h7'
          refine prd_none hct l h6' h7' (fun W k => ?_)
          have := h5 W k
          rw [hp] at this
          exact this
        cases hb : brk 0 l with
        | none =>
          refine bad (noneOf fun c hc => by rw [hb] at hc; cases hc) (fun W v B ho => (h7 W v B ho).mono ?_)
          rintro e w' ⟨h1, h2⟩
          unfold PboP at h1
          rw [hb] at h1
          exact ⟨⟨_, h1⟩, h2⟩
        | some c =>
          have h7c : ∀ W v B, W.ownsRow B 9 1 v l.length (strs l) → Calls Tryz.prog 7 #[v] W fun e w' => e = .returned (.tuple #[.string (strB (joinT c)), .bool (okB c)]) ∧ W = w' := by
            intro W v B ho
            refine (h7 W v B ho).mono ?_
            rintro e w' ⟨h1, h2⟩
            unfold PboP at h1
            rw [hb] at h1
            exact ⟨h1, h2⟩
          cases hok : okB c with
          | false =>
            rw [hok] at h7c
            refine bad (noneOf fun c' hc => by rw [hb] at hc; cases hc; exact hok) (fun W v B ho => (h7c W v B ho).mono ?_)
            rintro e w' ⟨h1, h2⟩
            exact ⟨⟨_, h1⟩, h2⟩
          | true =>
            rw [hok] at h7c
            obtain ⟨r0, hlr⟩ := brk_pre l 0 c hb
            have hcl : c.length ≤ 2000 := by have := congrArg List.length hlr; simp only [List.length_append] at this; omega
            have hcj : (joinT c).length ≤ 4000 := by
              have : (joinT l).length = (joinT c).length + (joinT r0).length := by rw [hlr, joinT_app, List.length_append]
              omega
            have hcg : ∀ k ∈ c, Tg k := fun k hk => hg k (by rw [hlr]; exact List.mem_append_left _ hk)
            have hcs : ∀ k ∈ c, k.s.size < 3000 := fun k hk => by have := (htk k (by rw [hlr]; exact List.mem_append_left _ hk)).1; omega
            have hsb : (strB (joinT c)).size = (joinT c).length := by rw [← data_size, strB_list]
            have hx : (xtS ct).size ≤ 4 := by unfold xtS tagB; split; decide; split; decide; split <;> decide
            have htg : ∀ k ∈ (tM :: (tagT ct ++ c)), Tg k ∧ k.s.size < 3000 := by
              intro k hk
              rcases List.mem_cons.1 hk with rfl | hk
              · exact ⟨tM_tg, by decide⟩
              · rcases List.mem_append.1 hk with hk | hk
                · unfold tagT at hk
                  split at hk
                  · cases hk
                  · split at hk
                    · simp only [List.mem_cons, List.not_mem_nil, or_false] at hk; subst hk; exact ⟨tZ_tg, by decide⟩
                    · split at hk
                      · simp only [List.mem_cons, List.not_mem_nil, or_false] at hk; subst hk; exact ⟨tMm_tg, by decide⟩
                      · simp only [List.mem_cons, List.not_mem_nil, or_false] at hk; subst hk; exact ⟨tZM_tg, by decide⟩
                · exact ⟨hcg k hk, hcs k hk⟩
            have h8 : ∀ W, Keep (fun _ => False) w W → Calls Tryz.prog 8 #[.string (((⟨#[77, 85, 76, 84, 73, 80, 79, 73, 78, 84]⟩ : ByteArray) ++ xtS ct) ++ (⟨#[32]⟩ : ByteArray) ++ strB (joinT c))] W fun e w' => RwkP P ct c e w' ∧ Keep (fun _ => False) W w' := by
              intro W k
              refine rwk_calls W _ ct hct c ?_ ?_ htg (brk_hd hb hok) (by omega) (hW.keep k).nu
              · rw [ByteArray.size_append, ByteArray.size_append, ByteArray.size_append, hsb]
                have h1 : (⟨#[77, 85, 76, 84, 73, 80, 79, 73, 78, 84]⟩ : ByteArray).size = 10 := rfl
                have h2 : (⟨#[32]⟩ : ByteArray).size = 1 := rfl
                omega
              · have e : ((((⟨#[77, 85, 76, 84, 73, 80, 79, 73, 78, 84]⟩ : ByteArray) ++ xtS ct) ++ (⟨#[32]⟩ : ByteArray) ++ strB (joinT c))).data.toList = (tM.s.data.toList ++ tagB ct) ++ 32 :: joinT c := by
                  simp only [ByteArray.data_append, Array.toList_append, strB_list]
                  have : (xtS ct).data.toList = tagB ct := rfl
                  rw [this]
                  simp [tM]
                rw [e]
                exact wkt_tok ct hcg
            cases hp : pAll (val P) (wd ct) l with
            | none =>
              refine prd_bad hct l c (by omega) h6' h7c (fun W k => (h8 W k).mono ?_) (fun W k => ?_)
              · rintro e w' ⟨h1, h2⟩
                refine ⟨?_, h2⟩
                unfold RwkP at h1
                cases hpc : pAll (val P) (wd ct) c with
                | none => rw [hpc] at h1; exact h1
                | some q =>
                  obtain ⟨x, r⟩ := q
                  rw [hpc] at h1
                  cases r with
                  | nil =>
                    obtain ⟨r', hr'⟩ := (hiff x).2 ⟨c, hb, (okB_iff (brk_ne hb)).1 hok, hpc⟩
                    rw [hp] at hr'
                    cases hr'
                  | cons k r => exact h1
              · have := h5 W k
                rw [hp] at this
                exact this
            | some q =>
              obtain ⟨x, r⟩ := q
              obtain ⟨c', hb', _, hpc⟩ := (hiff x).1 ⟨r, hp⟩
              rw [hb] at hb'
              cases hb'
              obtain ⟨hw1, hw2⟩ := pAll_wd hp
              refine prd_good hct l c x (by omega) (fun xs hxs => ?_) (by omega) h6' h7c (fun W k => (h8 W k).mono ?_) (fun W k => ?_)
              · rcases hw1 xs hxs with rfl | h
                · simp
                · rw [h]; unfold wd; omega
              · rintro e w' ⟨h1, h2⟩
                unfold RwkP at h1
                rw [hpc] at h1
                exact ⟨h1, h2⟩
              · have := h5 W k
                rw [hp] at this
                exact this
      · refine prd_no hct (h6.mono ?_)
        rintro e w' ⟨⟨l', v, h1, h2, h3, _⟩ | h, hK⟩
        · rw [hA] at h1
          cases h1
          exact absurd ⟨h2, h3⟩ hu
        · exact ⟨h, hK⟩

set_option maxRecDepth 100000 in
set_option maxHeartbeats 1600000 in
theorem fn_calls {P : GP} (w : World) (s : ByteArray) (dim : Int) (hW : Wd0 P w) : Calls Tryz.prog 3 #[.string s, .int .i64 dim] w fun e w' => e = .returned (.bool true) ∧ Keep (fun _ => False) w w' := by
  have h4 := prd_calls w s dim hW
  clear hW
  go_enter Tryz.func3, Tryz.ntmps3
  go_wp2_with (go_at_call 4; refine h4.mono ?_; clear h4; rintro e w2 ⟨rfl, hK⟩)
  · go_ret
    exact ⟨rfl, Keep.refl _ _⟩
  · go_ret
    exact ⟨rfl, hK⟩
end Go.Proofs.YtlckfiflfkbofaaGreatDoor
