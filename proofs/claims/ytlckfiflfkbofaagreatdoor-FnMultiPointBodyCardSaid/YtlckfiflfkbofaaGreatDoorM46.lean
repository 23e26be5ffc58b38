/- ForceCoordinatesType of several points, at their own type. The reference's New, of several points. plainMultiPoint. Part 46 of 51 of the proof that FnMultiPointBody returns true for every text and every type of coordinates, where the listed variables hold what the text of the program lays. -/
import Derived.Deep.RegionLaw
import Derived.Test.YtlckfiflfkbofaaGreatDoorM38
import Derived.Test.YtlckfiflfkbofaaGreatDoorM39
import Derived.Test.YtlckfiflfkbofaaGreatDoorM41
import Derived.Test.YtlckfiflfkbofaaGreatDoorM42
import Derived.Test.YtlckfiflfkbofaaGreatDoorM44
set_option linter.all false

/- ForceCoordinatesType of several points, at their own type. -/
namespace Go.Proofs.YtlckfiflfkbofaaGreatDoor
open Go.RowKit

/-- The gathering of points in block c under way: i parts of ks. -/
structure AcL (w0 w : World) (c ct : Nat) (kv : Value) (kn : List (Value × List Nat)) (ks : List (List Nat)) (i : Nat) : Prop where
  acc : Acc w c ct kv kn
  k : Keep (fun _ => False) w0 w
  res : w.heap[w0.heap.size + 1]? = some (.cells #[.int .i64 0, .int .i64 0, .slice none 0 0, .slice none 0 0] 33 (0, 0))
  c0 : w0.heap.size + 1 < c
  pre : kn.map (·.2) = ks.take i
  len : kn.length = i
theorem AcL.keep {w0 w w' : World} {c ct i : Nat} {kv : Value} {kn : List (Value × List Nat)} {ks : List (List Nat)} (h : AcL w0 w c ct kv kn ks i) (k : Keep (fun _ => False) w w') : AcL w0 w' c ct kv kn ks i :=
  ⟨h.acc.keep k (fun _ h => h.elim), h.k.trans k, (k.block _ (Array.getElem?_eq_some_iff.1 h.res).1 (fun h => h)).trans h.res, h.c0, h.pre, h.len⟩
theorem AcL.app {w0 w w' : World} {c ct i : Nat} {kv : Value} {kn : List (Value × List Nat)} {ks : List (List Nat)} {xs : List Nat} {nv v' : Value} (h : AcL w0 w c ct kv kn ks i) (hx : ks[i]? = some xs) (hA : Acc (w'.setCell ⟨c, 3, none⟩ v') c ct v' (kn ++ [(nv, xs)])) (q : w.grownBy w' kv.ownBlock) : AcL w0 (w'.setCell ⟨c, 3, none⟩ v') c ct v' (kn ++ [(nv, xs)]) ks (i + 1) := by
  have hc := h.c0
  have hK : Keep (fun _ => False) w0 w' := h.k.grown (own_mono h.acc.own (by omega)) q
  refine ⟨hA, hK.setCell (Or.inl (by show w0.heap.size ≤ c; omega)) _, ?_, hc, ?_, by simp [h.len]⟩
  · rw [Below.heap_setCell _ _ _ _ (show w0.heap.size + 1 ≠ c by omega), q.block _ (Array.getElem?_eq_some_iff.1 h.res).1 ?_]
    · exact h.res
    · intro e; have := (h.acc.own.lt _ e.symm).1; omega
  · rw [List.map_append, h.pre, List.take_add_one, hx]; rfl

theorem AcL.fin {w0 w : World} {c ct i : Nat} {kv : Value} {kn : List (Value × List Nat)} {ks : List (List Nat)} (h : AcL w0 w c ct kv kn ks i) (v0 v1 v2 v3 : Value) : KidV ((((w.setCell ⟨w0.heap.size + 1, 0, none⟩ v0).setCell ⟨w0.heap.size + 1, 1, none⟩ v1).setCell ⟨w0.heap.size + 1, 2, none⟩ v2).setCell ⟨w0.heap.size + 1, 3, none⟩ v3) kv ct (ks.take i) ∧
    Keep (fun _ => False) w0 ((((w.setCell ⟨w0.heap.size + 1, 0, none⟩ v0).setCell ⟨w0.heap.size + 1, 1, none⟩ v1).setCell ⟨w0.heap.size + 1, 2, none⟩ v2).setCell ⟨w0.heap.size + 1, 3, none⟩ v3) := by
  have hK : ∀ (S : Nat → Prop) (W : World), (∀ i, i = w0.heap.size + 1 → S i) → Keep S W ((((W.setCell ⟨w0.heap.size + 1, 0, none⟩ v0).setCell ⟨w0.heap.size + 1, 1, none⟩ v1).setCell ⟨w0.heap.size + 1, 2, none⟩ v2).setCell ⟨w0.heap.size + 1, 3, none⟩ v3) := fun S W hS =>
    ((((Keep.refl S W).setCell (Or.inr (hS _ rfl)) v0).setCell (Or.inr (hS _ rfl)) v1).setCell (Or.inr (hS _ rfl)) v2).setCell (Or.inr (hS _ rfl)) v3
  have hk1 := hK (fun k => k = w0.heap.size + 1) w fun _ h => h
  refine ⟨?_, h.k.trans' hk1 (fun i hi hs => by omega)⟩
  rw [← h.pre]
  exact (h.acc.keep hk1 (fun i hs => by have := h.c0; omega)).kids

set_option maxRecDepth 100000 in
set_option maxHeartbeats 3200000 in
theorem fct_mp (w : World) (v : Value) (ct : Nat) (hct : ct < 4) (ks : List (List Nat)) (hv : KidV w v ct ks) (hl : ks.length ≤ 100000) (hx : ∀ xs ∈ ks, xs = [] ∨ xs.length = wd ct) :
    Calls Tryz.prog 35 #[.agg #[.int .i64 4, .int .i64 (ct : Int), .slice none 0 0, v], .int .i64 (ct : Int)] w fun e w' => ∃ v', e = .returned (.agg #[.int .i64 4, .int .i64 (ct : Int), .slice none 0 0, v']) ∧ KidV w' v' ct ks ∧ Keep (fun _ => False) w w' := by
  have hK0 := (((Keep.refl (fun _ => False) w).alloc (.cells #[.int .i64 4, .int .i64 (ct : Int), .slice none 0 0, v] 33)).alloc (.cells #[.int .i64 0, .int .i64 0, .slice none 0 0, .slice none 0 0] 33)).alloc (.cells #[.int .i64 4, .int .i64 (ct : Int), .slice none 0 0, .slice none 0 0] 33)
  have h56 := pl_any (v := .slice none 0 0) (xs := []) hct ⟨none, 0, rfl, fun i x hx => by cases hx⟩ (Or.inl rfl) (w := ((w.alloc (.cells #[.int .i64 4, .int .i64 (ct : Int), .slice none 0 0, v] 33)).alloc (.cells #[.int .i64 0, .int .i64 0, .slice none 0 0, .slice none 0 0] 33)).alloc (.cells #[.int .i64 4, .int .i64 (ct : Int), .slice none 0 0, .slice none 0 0] 33))
  have b0 := heap_alloc3_0 w (.cells #[.int .i64 4, .int .i64 (ct : Int), .slice none 0 0, v] 33) (.cells #[.int .i64 0, .int .i64 0, .slice none 0 0, .slice none 0 0] 33) (.cells #[.int .i64 4, .int .i64 (ct : Int), .slice none 0 0, .slice none 0 0] 33)
  have b1 := heap_alloc3_1 w (.cells #[.int .i64 4, .int .i64 (ct : Int), .slice none 0 0, v] 33) (.cells #[.int .i64 0, .int .i64 0, .slice none 0 0, .slice none 0 0] 33) (.cells #[.int .i64 4, .int .i64 (ct : Int), .slice none 0 0, .slice none 0 0] 33)
  have b2 := heap_alloc3_2 w (.cells #[.int .i64 4, .int .i64 (ct : Int), .slice none 0 0, v] 33) (.cells #[.int .i64 0, .int .i64 0, .slice none 0 0, .slice none 0 0] 33) (.cells #[.int .i64 4, .int .i64 (ct : Int), .slice none 0 0, .slice none 0 0] 33)
  have HB0 := Lib.hid b0
  have HB1 := Lib.hid b1
  have HB2 := Lib.hid b2
  have HK0 := Lib.hid hK0
  have H56 := Lib.hid h56
  obtain ⟨n, hn⟩ : ∃ n, n = ks.length := ⟨_, rfl⟩
  have HV := Lib.hid hv
  obtain ⟨a, cap, rfl, hca⟩ := hv
  rw [← hn] at hl HV HB0 HB1 HB2 HK0 H56 ⊢
  have HN := Lib.hid hn
  have HX := Lib.hid hx
  have HCA := Lib.hid hca
  clear b0 b1 b2 hK0 h56 hn hx hca
  go_enter Tryz.func35, Tryz.ntmps35
  go_wp2_with (fail)
  refine H56.out.mono ?_
  rintro e w2 ⟨pv, rfl, hp, hK2⟩
  clear H56
  have b0 := (hK2.block _ (by simp only [World.size_alloc]; omega) (fun h => h)).trans HB0.out
  have b1 := (hK2.block _ (by simp only [World.size_alloc]; omega) (fun h => h)).trans HB1.out
  have b2 := (hK2.block _ (by simp only [World.size_alloc]; omega) (fun h => h)).trans HB2.out
  have hK2 := HK0.out.trans hK2
  clear HB0 HB1 HB2 HK0
  rcases hp with ⟨_, rfl⟩ | ⟨hp, _⟩
  rotate_left
  · exfalso; have : wd ct = 0 := hp.symm; unfold wd at this; omega
  go_wp2_with (fail)
  refine (nu_nil _ _ _ _).mono ?_
  rintro e w3 ⟨rfl, hK3⟩
  have b0 := (hK3.block _ (Array.getElem?_eq_some_iff.1 b0).1 (fun h => h)).trans b0
  have b1 := (hK3.block _ (Array.getElem?_eq_some_iff.1 b1).1 (fun h => h)).trans b1
  have b2 := (hK3.block _ (Array.getElem?_eq_some_iff.1 b2).1 (fun h => h)).trans b2
  have hK3 := hK2.trans hK3
  clear hK2
  obtain ⟨c0, c1, c2, c3, c4, c5, c6, c7⟩ := cells4 b0
  obtain ⟨e0, e1, e2, e3, e4, e5, e6, e7⟩ := cells4 b2
  have b1 := (Below.heap_setCell w3 ⟨w.heap.size + 2, 2, none⟩ (.slice none 0 0) _ (by show w.heap.size + 1 ≠ w.heap.size + 2; omega)).trans b1
  have b2 := Lib.heap_setCell_same (i := 2) b2 (.slice none 0 0)
  have hL : AcL w (w3.setCell ⟨w.heap.size + 1 + 1, 2, none⟩ (.slice none 0 0)) (w.heap.size + 1 + 1) ct (.slice none 0 0) [] ks 0 := ⟨Acc.start b2, hK3.setCell (Or.inl (by show w.heap.size ≤ w.heap.size + 1 + 1; omega)) _, b1, by omega, rfl, rfl⟩
  have HL := Lib.hid hL
  clear hL b0 b1 b2 hK3
  go_wp2_with (fail)
  go_loopw [23] (fun v23 wr => ∃ (i : Nat) (kv : Value) (kn : List (Value × List Nat)), i ≤ n ∧ v23 = .int .i64 (i : Int) ∧ Hid (AcL w wr (w.heap.size + 1 + 1) ct kv kn ks i)) (fun v23 _ => n - (match v23 with | .int _ i => i.toNat | _ => 0))
  case atStart => exact ⟨0, _, _, Nat.zero_le _, rfl, HL⟩
  case round =>
    obtain ⟨i, kv, kn, hin, rfl, hL⟩ := hrel
    have hL' := hL.out
    obtain ⟨ak, ck, hkv⟩ := hL'.acc.form
    subst hkv
    obtain ⟨e0, e1, e2, e3, e4, e5, e6, e7⟩ := cells4 hL'.acc.blk
    have hb := (Array.getElem?_eq_some_iff.1 hL'.acc.blk).1
    have HB := Lib.hid hL'.acc.blk
    by_cases hlt : i < n
    · have hlt' : (i : Int) < n := by omega
      have hltp : i < ks.length := by have := HN.out; omega
      obtain ⟨xs, hxs⟩ : ∃ x, ks[i]? = some x := ⟨_, List.getElem?_eq_getElem hltp⟩
      obtain ⟨g, nv, rfl, hg, hnv, c0, c1, c2, c3⟩ := HCA.out i xs hxs
      have hxl := HX.out xs (List.mem_of_getElem? hxs)
      have hk := hL'.k
      have hg := Nat.lt_of_lt_of_le hg hk.size
      have c0 := hk.cell c0 (fun h => h)
      have c1 := hk.cell c1 (fun h => h)
      have c2 := hk.cell c2 (fun h => h)
      have c3 := hk.cell c3 (fun h => h)
      have H35 := Lib.hid (fun W (k : Keep (fun _ => False) wr W) => fct_pt W nv ct hct xs (hnv.keep (hk.trans k)) hxl)
      have HXS := Lib.hid hxs
      obtain ⟨an, cn, hnv'⟩ : ∃ an cn, nv = .slice an xs.length cn := by obtain ⟨a, c, h, _⟩ := hnv; exact ⟨a, c, h⟩
      subst hnv'
      have hkl : kn.length ≤ 100000 := by rw [hL'.len]; omega
      have hi0 : (0 : Int) ≤ (i : Int) := by omega
      clear hnv hxl hxs hltp hL' hk
      go_wp2_with (fail)
      go_region_law (first
        | (refine step_append_kid (by rfl) (.tmp 28) (.tmp 32) (by rfl) w4 (w.heap.size + 1 + 1) ct _ kn _ xs hL4.acc hnw4 (by rfl) (by rfl) hkl ?_; intro g5 cap5 w5 hb5 hA5 hg5; obtain ⟨e0, e1, e2, e3, e4, e5, e6, e7⟩ := cells4 hb5; have hL5 := hL4.app HXS.out hA5 hg5; clear hL4 hb5 hA5 hg5)
        | (go_simp; go_at_call 35; refine (H35.out _ (by repeat (first | exact Keep.refl _ _ | refine Keep.drew ?_ | refine Keep.alloc ?_ _))).mono ?_; rintro e w4 ⟨nw, rfl, hnw, hK4⟩; have hL4 := hL.out.keep (Keep.trans (by repeat (first | exact Keep.refl _ _ | refine Keep.drew ?_ | refine Keep.alloc ?_ _)) hK4); have hnw4 := own_mono (b' := w.heap.size + 1 + 1 + 1) hnw (by simp; omega); obtain ⟨aw, cw, hnw'⟩ := own_form hnw; subst hnw'; obtain ⟨e0, e1, e2, e3, e4, e5, e6, e7⟩ := cells4 hL4.acc.blk; have hlt4 := (Array.getElem?_eq_some_iff.1 hL4.acc.blk).1; clear hnw hK4))
      all_goals (
        go_wp2_with (fail)
        go_roundw
        case rel => exact ⟨i + 1, _, _, by omega, int_eq (by omega), Lib.hid hL5⟩
        case measure => simp only []; omega)
    · have hlt' : ¬ (i : Int) < n := by omega
      obtain ⟨d0, d1, d2, d3, d4, d5, d6, d7⟩ := cells4 hL'.res
      go_wp2_with (fail)
      (try simp only [Exit.inBlock, Exit.then]); refine bodyPost_ret (results_one rfl _ _ _ _ _ _ _ rfl (blk4 hL'.res _ _ _ _) Tryz.underlying33 info33) rfl ?_
      have hi2 : i = ks.length := by have := HN.out; omega
      have hf := hL'.fin (.int .i64 4) (.int .i64 (ct : Int)) (.slice none 0 0) (.slice ak kn.length ck)
      rw [hi2, List.take_length] at hf
      exact ⟨_, rfl, hf.1, hf.2⟩

end Go.Proofs.YtlckfiflfkbofaaGreatDoor

/- The reference's New, of several points. -/
namespace Go.Proofs.YtlckfiflfkbofaaGreatDoor
open Go.RowKit

/-- The append of a point to the parts, in a plain region. -/
theorem wpList_append_kid {ops : Array Oper} {rest : List Oper} {o : Oper} {a : Act} {Q : Exit → Act → World → Prop} (hgd : o.guard = none) (s x : Operand)
    (ho : o.op = .call { callee := .builtin .append, args := #[s, x], argTypes := #[31, 31] })
    (w : World) (c ct : Nat) (kv : Value) (kn : List (Value × List Nat)) (nv : Value) (xs : List Nat) (hA : Acc w c ct kv kn) (hn : w.ownsRow (c + 1) 65 1 nv xs.length (fl xs))
    (hs : a.eval s = kv) (hx : a.eval x = .slice (some ⟨w.heap.size, 0, none⟩) 1 1) (hl : kn.length ≤ 100000)
    (h : ∀ g cap w', w'.heap[c]? = some (.cells #[.int .i64 4, .int .i64 (ct : Int), .slice none 0 0, kv] 33 (0, 0)) → Acc (w'.setCell ⟨c, 3, none⟩ (.slice (some ⟨g, 0, none⟩) (kn.length + 1) cap)) c ct (.slice (some ⟨g, 0, none⟩) (kn.length + 1) cap) (kn ++ [(nv, xs)]) → w.grownBy w' kv.ownBlock → wpList Tryz.prog ops Q rest (a.put o.dst (.slice (some ⟨g, 0, none⟩) (kn.length + 1) cap)) w') :
    wpList Tryz.prog ops Q (o :: rest) a (w.alloc (.cells #[.int .i64 1, .int .i64 (ct : Int), nv, .slice none 0 0] 33)) := by
  obtain ⟨i0, hi, hz0, hz1, hz2⟩ := info_parts geoInfo
  have hcl := (Array.getElem?_eq_some_iff.1 hA.blk).1
  refine wpList_append_lies _ hgd s x 31 ho (c + 1) 33 i0 _ 4 64 Tryz.underlying31 hi hz0 hz1 hz2 rfl (by omega) kv kn.length (rowK ct kn) hs (hA.own.alloc _) ⟨w.heap.size, 0, none⟩ 1 1 [.int .i64 1, .int .i64 (ct : Int), nv, .slice none 0 0] hx (by simp) (World.news_of_block (heap_alloc_new w _)) ?_ (by omega) (by unfold maxLen; omega) (by omega) (by simp only [World.size_alloc]; omega) _ rfl ?_
  · intro u hu
    simp only [List.mem_cons, List.not_mem_nil, or_false] at hu
    rcases hu with rfl | rfl | rfl | rfl
    · rfl
    · rfl
    · rcases hn.2 with ⟨rfl, _⟩ | ⟨g, cap, cur, rfl, _⟩ <;> rfl
    · rfl
  · intro g cap w' h1 h2 _ _
    have h4 := World.grownBy_alloc w (.cells #[.int .i64 1, .int .i64 (ct : Int), nv, .slice none 0 0] 33) kv.ownBlock
    have h5 : w.grownBy w' kv.ownBlock := ⟨h2.os.trans h4.os, h2.tape.trans h4.tape, h2.output.trans h4.output, Nat.le_trans h4.size h2.size, fun k hk hne => (h2.block k (Nat.lt_of_lt_of_le hk h4.size) hne).trans (h4.block k hk hne)⟩
    exact h g cap w' (hA.far h5) (hA.app hn h5 h1) h5

set_option maxRecDepth 100000 in
set_option maxHeartbeats 6400000 in
theorem nw_mp (w : World) (v : Value) (ct : Nat) (hct : ct < 4) (ks : List (List Nat)) (hv : KidC w v ct ks) (hl : ks.length ≤ 100000) (hx : ∀ xs ∈ ks, xs = [] ∨ xs.length = wd ct) :
    Calls Tryz.prog 18 #[.agg #[.int .i64 4, .int .i64 (ct : Int), .slice none 0 0, v]] w fun e w' => ∃ v', e = .returned (.agg #[.int .i64 4, .int .i64 (ct : Int), .slice none 0 0, v']) ∧ KidV w' v' ct ks ∧ Keep (fun _ => False) w w' := by
  have ha3 : Go.bits .and .i64 (ct : Int) 3 = (ct : Int) := by
    have : ct = 0 ∨ ct = 1 ∨ ct = 2 ∨ ct = 3 := by omega
    rcases this with rfl | rfl | rfl | rfl <;> decide +kernel
  have hand : ∀ d : Int, d = 3 ∨ d = (ct : Int) → Go.bits .and .i64 d (ct : Int) = (ct : Int) := by
    intro d hd
    have : ct = 0 ∨ ct = 1 ∨ ct = 2 ∨ ct = 3 := by omega
    rcases this with rfl | rfl | rfl | rfl <;> rcases hd with rfl | rfl <;> decide +kernel
  have HAND := Lib.hid hand
  have hK0 := (((Keep.refl (fun _ => False) w).alloc (.cells #[.int .i64 4, .int .i64 (ct : Int), .slice none 0 0, v] 33)).alloc (.cells #[.int .i64 0, .int .i64 0, .slice none 0 0, .slice none 0 0] 33)).alloc (.cells #[.int .i64 4, .int .i64 (ct : Int), .slice none 0 0, .slice none 0 0] 33)
  have b0 := heap_alloc3_0 w (.cells #[.int .i64 4, .int .i64 (ct : Int), .slice none 0 0, v] 33) (.cells #[.int .i64 0, .int .i64 0, .slice none 0 0, .slice none 0 0] 33) (.cells #[.int .i64 4, .int .i64 (ct : Int), .slice none 0 0, .slice none 0 0] 33)
  have b1 := heap_alloc3_1 w (.cells #[.int .i64 4, .int .i64 (ct : Int), .slice none 0 0, v] 33) (.cells #[.int .i64 0, .int .i64 0, .slice none 0 0, .slice none 0 0] 33) (.cells #[.int .i64 4, .int .i64 (ct : Int), .slice none 0 0, .slice none 0 0] 33)
  have b2 := heap_alloc3_2 w (.cells #[.int .i64 4, .int .i64 (ct : Int), .slice none 0 0, v] 33) (.cells #[.int .i64 0, .int .i64 0, .slice none 0 0, .slice none 0 0] 33) (.cells #[.int .i64 4, .int .i64 (ct : Int), .slice none 0 0, .slice none 0 0] 33)
  have hL : AcL w ((((w.alloc (.cells #[.int .i64 4, .int .i64 (ct : Int), .slice none 0 0, v] 33)).alloc (.cells #[.int .i64 0, .int .i64 0, .slice none 0 0, .slice none 0 0] 33)).alloc (.cells #[.int .i64 4, .int .i64 (ct : Int), .slice none 0 0, .slice none 0 0] 33))) (w.heap.size + 2) ct (.slice none 0 0) [] ks 0 := ⟨Acc.start b2, hK0, b1, by omega, rfl, rfl⟩
  have HL := Lib.hid hL
  obtain ⟨n, hn⟩ : ∃ n, n = ks.length := ⟨_, rfl⟩
  obtain ⟨a, cap, rfl, hca⟩ := hv
  rw [← hn] at hl HL b0 ⊢
  have HN := Lib.hid hn
  have HX := Lib.hid hx
  have HCA := Lib.hid hca
  clear hand b0 b1 b2 hK0 hn hx hca hL
  go_enter Tryz.func18, Tryz.ntmps18
  go_wp2_with (go_at_call 32; refine (lf_4 _).mono ?_; rintro e w9 ⟨rfl, rfl⟩)
  go_loopw [5, 55] (fun v5 v55 wr => ∃ (i : Nat) (kv : Value) (kn : List (Value × List Nat)), i ≤ n ∧ v55 = .int .i64 (i : Int) ∧ Hid (v5 = .int .i64 (if i = 0 then 3 else (ct : Int))) ∧ Hid (AcL w wr (w.heap.size + 2) ct kv kn ks i)) (fun _ v55 _ => n - (match v55 with | .int _ i => i.toNat | _ => 0))
  case atStart => exact ⟨0, _, _, Nat.zero_le _, rfl, Lib.hid rfl, HL⟩
  case round =>
    obtain ⟨i, kv, kn, hin, rfl, h5, hL⟩ := hrel
    obtain ⟨dd, hdd⟩ : ∃ dd : Int, dd = (if i = 0 then 3 else (ct : Int)) := ⟨_, rfl⟩
    have hd3 : dd = 3 ∨ dd = (ct : Int) := by rw [hdd]; split <;> simp
    have h5' := h5.out
    rw [← hdd] at h5'
    subst h5'
    have hL' := hL.out
    obtain ⟨ak, ck, hkv⟩ := hL'.acc.form
    subst hkv
    obtain ⟨e0, e1, e2, e3, e4, e5, e6, e7⟩ := cells4 hL'.acc.blk
    have hlt0 : w.heap.size + 1 + 1 < wr.heap.size := (Array.getElem?_eq_some_iff.1 hL'.acc.blk).1
    by_cases hlt : i < n
    · have hlt' : (i : Int) < n := by omega
      have hltp : i < ks.length := by have := HN.out; omega
      obtain ⟨xs, hxs⟩ : ∃ x, ks[i]? = some x := ⟨_, List.getElem?_eq_getElem hltp⟩
      obtain ⟨g, nv, rfl, hg, hnv, c0, c1, c2, c3⟩ := HCA.out i xs hxs
      have hxl := HX.out xs (List.mem_of_getElem? hxs)
      have hk := hL'.k
      have hg := Nat.lt_of_lt_of_le hg hk.size
      have c0 := hk.cell c0 (fun h => h)
      have c1 := hk.cell c1 (fun h => h)
      have c2 := hk.cell c2 (fun h => h)
      have c3 := hk.cell c3 (fun h => h)
      have H18 := Lib.hid (fun W (k : Keep (fun _ => False) wr W) => nw_pt hct (hnv.keep (hk.trans k)) hxl)
      have HXS := Lib.hid hxs
      obtain ⟨an, cn, hnv'⟩ : ∃ an cn, nv = .slice an xs.length cn := by obtain ⟨⟨a, c, h, _⟩, _⟩ := hnv; exact ⟨a, c, h⟩
      subst hnv'
      have hkl : kn.length ≤ 100000 := by rw [hL'.len]; omega
      have hi0 : (0 : Int) ≤ (i : Int) := by omega
      have hand := HAND.out dd hd3
      clear hnv hxl hxs hltp hL' hk h5 hdd
      go_wp2_with (go_at_call 18; refine (H18.out _ (by repeat (first | exact Keep.refl _ _ | refine Keep.drewN ?_ _ | refine Keep.drew ?_ | refine Keep.alloc ?_ _))).mono ?_; rintro e w4 ⟨nw, rfl, hnw, hK4⟩; have hL4 := hL.out.keep (Keep.trans (by repeat (first | exact Keep.refl _ _ | refine Keep.drewN ?_ _ | refine Keep.drew ?_ | refine Keep.alloc ?_ _)) hK4); have hnw4 := own_mono (b' := w.heap.size + 2 + 1) hnw (by simp only [World.size_alloc]; omega); obtain ⟨aw, cw, hnw'⟩ := own_form hnw; subst hnw'; obtain ⟨e0, e1, e2, e3, e4, e5, e6, e7⟩ := cells4 hL4.acc.blk; have hlt4 : w.heap.size + 1 + 1 < w4.heap.size := (Array.getElem?_eq_some_iff.1 hL4.acc.blk).1; have HL4 := Lib.hid hL4; have HN4 := Lib.hid hnw4; clear hnw hK4 hL4 hnw4)
      go_quiet (exact (ko_4 _).mono fun e w9 h => ⟨h.1, _, h.2.symm⟩)
      have hL5 := HL4.out.keep (w' := (w4.alloc (.cells #[.int .i64 1, .int .i64 (ct : Int), .slice aw xs.length cw, .slice none 0 0] 33)).drewN nq) (by repeat (first | exact Keep.refl _ _ | refine Keep.drewN ?_ _ | refine Keep.drew ?_ | refine Keep.alloc ?_ _))
      have hn5 := own_keep HN4.out (S := fun _ => False) (w' := (w4.alloc (.cells #[.int .i64 1, .int .i64 (ct : Int), .slice aw xs.length cw, .slice none 0 0] 33)).drewN nq) (by repeat (first | exact Keep.refl _ _ | refine Keep.drewN ?_ _ | refine Keep.drew ?_ | refine Keep.alloc ?_ _)) (fun _ _ h => h)
      have hm5 : ((w4.alloc (.cells #[.int .i64 1, .int .i64 (ct : Int), .slice aw xs.length cw, .slice none 0 0] 33)).drewN nq).heap[w4.heap.size]? = some (.cells #[.int .i64 1, .int .i64 (ct : Int), .slice aw xs.length cw, .slice none 0 0] 33 (0, 0)) := heap_alloc_new w4 _
      have hlt5 : w4.heap.size < ((w4.alloc (.cells #[.int .i64 1, .int .i64 (ct : Int), .slice aw xs.length cw, .slice none 0 0] 33)).drewN nq).heap.size := (Array.getElem?_eq_some_iff.1 hm5).1
      have HL5 := Lib.hid hL5
      have HN5 := Lib.hid hn5
      have HM5 := Lib.hid hm5
      have HLT := Lib.hid hlt5
      clear hL5 hn5 hm5 hlt5
      go_wp2_with (at_builtin; refine wpList_append_kid rfl (.tmp 74) (.tmp 76) rfl _ (w.heap.size + 2) ct _ kn _ xs HL5.out.acc HN5.out (by rfl) (by first | rfl | (show _ = Value.slice (some ⟨(w4.alloc (.cells #[.int .i64 1, .int .i64 (ct : Int), .slice aw xs.length cw, .slice none 0 0] 33)).heap.size, 0, none⟩) 1 1; simp only [World.size_alloc]; rfl)) hkl ?_; intro g6 cap6 w6 hb6 hA6 hg6; have hm6 := (hg6.block _ HLT.out (by intro e; have := (HL4.out.acc.own.lt _ e.symm).2; omega)).trans HM5.out; obtain ⟨m0, m1, m2, m3, _⟩ := cells4 hm6; have hne : w.heap.size + 1 + 1 ≠ w4.heap.size := (by omega); have hne2 : w4.heap.size ≠ w.heap.size + 1 + 1 := (by omega); obtain ⟨e0, e1, e2, e3, e4, e5, e6, e7⟩ := cells4 hb6; have HL6 := Lib.hid (HL5.out.app HXS.out hA6 hg6); clear hb6 hA6 hg6 hm6)
      go_roundw
      case rel => exact ⟨i + 1, _, _, by omega, int_eq (by omega), Lib.hid (by rw [if_neg (by omega)]), HL6⟩
      case measure => simp only []; omega
    · have hlt' : ¬ (i : Int) < n := by omega
      have hin2 : i = n := by omega
      have hln : kn.length = n := by rw [hL'.len, hin2]
      obtain ⟨d0, d1, d2, d3, d4, d5, d6, d7⟩ := cells4 hL'.res
      have hlt1 : w.heap.size + 1 < wr.heap.size := by omega
      by_cases hn0 : n = 0
      · have hz : ((n : Nat) : Int) = 0 := by omega
        have hz' : (((n : Nat) : Int) == 0) = true := by simp; omega
        rw [hln] at e3
        clear h5 hdd
        go_wp2_with (fail)
        (try simp only [Exit.inBlock, Exit.then]); refine bodyPost_ret (results_one rfl _ _ _ _ _ _ _ rfl (blk4 hL.out.res _ _ _ _) Tryz.underlying33 info33) rfl ?_
        have hf := hL.out.fin (.int .i64 4) (.int .i64 (ct : Int)) (.slice none 0 0) (.slice ak kn.length ck)
        rw [show ks.take i = ks from by rw [hin2, HN.out, List.take_length]] at hf
        rw [hln, hn0] at hf
        exact ⟨_, rfl, hf.1, hf.2⟩
      · have hz : ¬ ((n : Nat) : Int) = 0 := by omega
        have hz' : (((n : Nat) : Int) == 0) = false := by simp; omega
        rw [if_neg (by omega)] at hdd
        subst hdd
        have hkv : KidV wr (.slice ak n ck) ct ks := by
          have := hL'.acc.kids
          rw [hL'.pre, hin2, HN.out, List.take_length] at this
          rw [hln] at this
          rw [HN.out]
          rw [HN.out] at this
          exact this
        have h35 := fct_mp wr (.slice ak n ck) ct hct ks hkv (by rw [← HN.out]; exact hl) HX.out
        rw [hln] at e3
        have HR := Lib.hid hL'.res
        have HK := Lib.hid hL'.k
        clear h5 hkv hL' hL
        go_wp2_with (go_at_call 35; refine h35.mono ?_; clear h35; rintro e w5 ⟨v5, rfl, hv5, hK5⟩; have hb5 := (hK5.block _ (Array.getElem?_eq_some_iff.1 HR.out).1 (fun h => h)).trans HR.out; obtain ⟨d0, d1, d2, d3, d4, d5, d6, d7⟩ := cells4 hb5; have HB5 := Lib.hid hb5; have HV5 := Lib.hid hv5; have HK5 := Lib.hid (HK.out.trans hK5); obtain ⟨a5, c5, rfl, _⟩ := hv5; clear hb5 hK5)
        (try simp only [Exit.inBlock, Exit.then]); refine bodyPost_ret (results_one rfl _ _ _ _ _ _ _ rfl (blk4 HB5.out _ _ _ _) Tryz.underlying33 info33) rfl ?_
        exact ⟨_, rfl, HV5.out.but HB5.out (by decide) (keep_set4 _ _ _ _ _ _), keep_set4F HK5.out (Nat.le_succ _) _ _ _ _⟩
end Go.Proofs.YtlckfiflfkbofaaGreatDoor

/- plainMultiPoint. -/
namespace Go.Proofs.YtlckfiflfkbofaaGreatDoor
open Go.RowKit

theorem pp_any (w : World) (ct : Nat) (hct : ct < 4) (xs : List Nat) (hx : xs = [] ∨ xs.length = wd ct) : Calls Tryz.prog 26 #[.agg #[.float .f64 (pgOf ct xs).x, .float .f64 (pgOf ct xs).y, .float .f64 (pgOf ct xs).z, .float .f64 (pgOf ct xs).m, .int .u8 (ct : Int), .bool (pgOf ct xs).f]] w fun e w' => PptP w ct xs e w' := by
  rcases hx with rfl | hx
  · exact pp_emp w _ _ _ _ ct hct
  · have h4 : ct = 0 ∨ ct = 1 ∨ ct = 2 ∨ ct = 3 := by omega
    rcases h4 with rfl | rfl | rfl | rfl
    · obtain ⟨x, y, rfl⟩ := xs2 hx
      exact pp_0 w x y _ _
    · obtain ⟨x, y, z, rfl⟩ := xs3 hx
      exact pp_1 w x y z _
    · obtain ⟨x, y, z, rfl⟩ := xs3 hx
      exact pp_2 w x y _ z
    · obtain ⟨x, y, z, m, rfl⟩ := xs4 hx
      exact pp_3 w x y z m

set_option maxRecDepth 100000 in
set_option maxHeartbeats 3200000 in
theorem pm_calls (w : World) (v : Value) (ct : Nat) (hct : ct < 4) (ks : List (List Nat)) (hv : MpV w v ct (ks.map (pgOf ct))) (hl : ks.length ≤ 100000) (hx : ∀ xs ∈ ks, xs = [] ∨ xs.length = wd ct) :
    Calls Tryz.prog 14 #[.agg #[v, .int .u8 (ct : Int)]] w fun e w' => ∃ kv, e = .returned (.agg #[.int .i64 4, .int .i64 (ct : Int), .slice none 0 0, kv]) ∧ KidV w' kv ct ks ∧ Keep (fun _ => False) w w' := by
  have hcv : IntKind.i64.wrap (ct : Int) = (ct : Int) := IntWalk.i64_in _ (by omega)
  have hK0 := ((Keep.refl (fun _ => False) w).alloc (.cells #[v, .int .u8 (ct : Int)] 41)).alloc (.cells #[.int .i64 0, .int .i64 0, .slice none 0 0, .slice none 0 0] 33)
  have b0 := heap_alloc2_old w (.cells #[v, .int .u8 (ct : Int)] 41) (.cells #[.int .i64 0, .int .i64 0, .slice none 0 0, .slice none 0 0] 33)
  have b1 := heap_alloc2_new w (.cells #[v, .int .u8 (ct : Int)] 41) (.cells #[.int .i64 0, .int .i64 0, .slice none 0 0, .slice none 0 0] 33)
  obtain ⟨n, hn⟩ : ∃ n, n = ks.length := ⟨_, rfl⟩
  obtain ⟨a, cap, hv1, hcap, hcap2, hcells⟩ := hv
  rw [List.length_map, ← hn] at hv1 hcap
  rw [← hn] at hl
  subst hv1
  have HB0 := Lib.hid b0
  have HB1 := Lib.hid b1
  have HK0 := Lib.hid hK0
  have HN := Lib.hid hn
  have HX := Lib.hid hx
  have HC := Lib.hid hcells
  clear b0 b1 hK0 hn hx hcells
  go_enter Tryz.func14, Tryz.ntmps14
  go_wp2_with (go_at_call 24; refine (np24 _ _ _).mono ?_; rintro e w2 ⟨rfl, hB2⟩; have hK2 := Keep.of_below (S := fun _ => False) hB2; clear hB2)
  have b0 := (hK2.block _ (by simp only [World.size_alloc]; omega) (fun h => h)).trans HB0.out
  have b1 := (hK2.block _ (by simp only [World.size_alloc]; omega) (fun h => h)).trans HB1.out
  have hc0 : w.heap.size + 1 < w2.heap.size := (Array.getElem?_eq_some_iff.1 b1).1
  have hb0 := (Below.heap_alloc w2 (.cells #[.int .i64 4, .int .i64 (ct : Int), .slice none 0 0, .slice none 0 0] 33) _ (Array.getElem?_eq_some_iff.1 b0).1).trans b0
  have hb1 := (Below.heap_alloc w2 (.cells #[.int .i64 4, .int .i64 (ct : Int), .slice none 0 0, .slice none 0 0] 33) _ (Array.getElem?_eq_some_iff.1 b1).1).trans b1
  have hL : AcL w (w2.alloc (.cells #[.int .i64 4, .int .i64 (ct : Int), .slice none 0 0, .slice none 0 0] 33)) w2.heap.size ct (.slice none 0 0) [] ks 0 := ⟨Acc.start (heap_alloc_new w2 _), (HK0.out.trans hK2).alloc _, hb1, hc0, rfl, rfl⟩
  have HL := Lib.hid hL
  have HBX := Lib.hid hb0
  clear hL hb0 hb1 b0 b1 hK2 HB0 HB1 HK0
  go_wp2_with (fail)
  go_loopw [4] (fun v4 wr => ∃ (i : Nat) (kv : Value) (kn : List (Value × List Nat)), i ≤ n ∧ v4 = .int .i64 (i : Int) ∧ Hid (AcL w wr w2.heap.size ct kv kn ks i) ∧ Hid (wr.heap[w.heap.size]? = some (.cells #[.slice a n cap, .int .u8 (ct : Int)] 41 (0, 0)))) (fun v4 _ => n - (match v4 with | .int _ i => i.toNat | _ => 0))
  case atStart => exact ⟨0, _, _, Nat.zero_le _, rfl, HL, HBX⟩
  case round =>
    obtain ⟨i, kv, kn, hin, rfl, hL, hBX⟩ := hrel
    have hL' := hL.out
    obtain ⟨ak, ck, hkv⟩ := hL'.acc.form
    subst hkv
    obtain ⟨e0, e1, e2, e3, e4, e5, e6, e7⟩ := cells4 hL'.acc.blk
    have x0 : wr.cell? ⟨w.heap.size, 0, none⟩ = some (.slice a n cap) := by simp [World.cell?, hBX.out]
    have x1 : wr.cell? ⟨w.heap.size, 1, none⟩ = some (.int .u8 (ct : Int)) := by simp [World.cell?, hBX.out]
    by_cases hlt : i < n
    · have hlt' : (i : Int) < n := by omega
      have hltp : i < ks.length := by have := HN.out; omega
      obtain ⟨xs, hxs⟩ : ∃ x, ks[i]? = some x := ⟨_, List.getElem?_eq_getElem hltp⟩
      obtain ⟨g, ha, hg, hat⟩ := HC.out i (pgOf ct xs) (by rw [List.getElem?_map, hxs]; rfl)
      have hxl := HX.out xs (List.mem_of_getElem? hxs)
      have hk := hL'.k
      have H27 := Lib.hid (fun W (k : Keep (fun _ => False) wr W) => np27 W a n cap ct i (pgOf ct xs) g ha (Nat.lt_of_lt_of_le hg (hk.trans k).size) (hat.keep (hk.trans k) (fun h => h)) hlt hcap (by omega))
      have H26 := Lib.hid (fun W => pp_any W ct hct xs hxl)
      have HXS := Lib.hid hxs
      have hkl : kn.length ≤ 100000 := by rw [hL'.len]; omega
      generalize pgOf ct xs = pg at *
      clear hxl hxs hltp hL' hk hat ha hg
      go_wp2_with (go_at_call 25; refine (np25 _ _ _ _ _).mono ?_; rintro e w3 ⟨rfl, hB3⟩; have hK3 := Keep.of_below (S := fun _ => False) hB3; have hL3 := hL.out.keep hK3; have hBX3 := (hK3.block _ (Array.getElem?_eq_some_iff.1 hBX.out).1 (fun h => h)).trans hBX.out; have x0 : w3.cell? ⟨w.heap.size, 0, none⟩ = some (.slice a n cap) := (by simp [World.cell?, hBX3]); have x1 : w3.cell? ⟨w.heap.size, 1, none⟩ = some (.int .u8 (ct : Int)) := (by simp [World.cell?, hBX3]); obtain ⟨e0, e1, e2, e3, e4, e5, e6, e7⟩ := cells4 hL3.acc.blk; have HL3 := Lib.hid hL3; have HBX3 := Lib.hid hBX3; have HK3 := Lib.hid hK3; clear hB3 hL3 hBX3 hK3)
      go_region_law (first
        | (refine step_append_kid (by rfl) (.tmp 16) (.tmp 21) (by rfl) w5 w2.heap.size ct _ kn _ xs hL5.acc hnw5 (by rfl) (by rfl) hkl ?_; intro g6 cap6 w6 hb6 hA6 hg6; obtain ⟨e0, e1, e2, e3, e4, e5, e6, e7⟩ := cells4 hb6; have HBX6 := Lib.hid ((hg6.block _ (Array.getElem?_eq_some_iff.1 HBX5.out).1 (by intro e; have := (hL5.acc.own.lt _ e.symm).1; omega)).trans HBX5.out); have hL6 := hL5.app HXS.out hA6 hg6; clear hL5 hb6 hA6)
        | (go_simp; go_at_call 27; refine (H27.out _ (HK3.out.trans (by repeat (first | exact Keep.refl _ _ | refine Keep.drew ?_ | refine Keep.alloc ?_ _)))).mono ?_; rintro e w4 ⟨rfl, hB4⟩; have hL4 := HL3.out.keep (Keep.trans (by repeat (first | exact Keep.refl _ _ | refine Keep.drew ?_ | refine Keep.alloc ?_ _)) (Keep.of_below hB4)); have hBX4 := (hB4.block _ (Array.getElem?_eq_some_iff.1 HBX3.out).1).trans HBX3.out; have x0 : w4.cell? ⟨w.heap.size, 0, none⟩ = some (.slice a n cap) := (by simp [World.cell?, hBX4]); have x1 : w4.cell? ⟨w.heap.size, 1, none⟩ = some (.int .u8 (ct : Int)) := (by simp [World.cell?, hBX4]); obtain ⟨e0, e1, e2, e3, e4, e5, e6, e7⟩ := cells4 hL4.acc.blk; have HL4 := Lib.hid hL4; clear hL4 hB4; have HBX4 := Lib.hid hBX4; clear hBX4)
        | (go_simp; go_at_call 26; refine (H26.out _).mono ?_; rintro e w5 ⟨nw, rfl, hnw, hK5⟩; have hL5 := HL4.out.keep hK5; have hBX5 := (hK5.block _ (Array.getElem?_eq_some_iff.1 HBX4.out).1 (fun h => h)).trans HBX4.out; have HBX5 := Lib.hid hBX5; clear hBX5; have hnw5 := own_mono (b' := w2.heap.size + 1) hnw (by have := (Array.getElem?_eq_some_iff.1 HL4.out.acc.blk).1; omega); obtain ⟨aw, cw, hnw'⟩ := own_form hnw; subst hnw'; obtain ⟨e0, e1, e2, e3, e4, e5, e6, e7⟩ := cells4 hL5.acc.blk; have hlt5 := (Array.getElem?_eq_some_iff.1 hL5.acc.blk).1; clear hnw hK5))
      all_goals (
        go_wp2_with (fail)
        go_roundw
        case rel => exact ⟨i + 1, _, _, by omega, int_eq (by omega), Lib.hid hL6, Lib.hid ((Below.heap_setCell _ _ _ _ (show w.heap.size ≠ w2.heap.size by omega)).trans HBX6.out)⟩
        case measure => simp only []; omega)
    · have hlt' : ¬ (i : Int) < n := by omega
      obtain ⟨d0, d1, d2, d3, d4, d5, d6, d7⟩ := cells4 hL'.res
      go_wp2_with (go_at_call 25; refine (np25 _ _ _ _ _).mono ?_; rintro e w3 ⟨rfl, hB3⟩; have hK3 := Keep.of_below (S := fun _ => False) hB3; have hL3 := hL.out.keep hK3; obtain ⟨e0, e1, e2, e3, e4, e5, e6, e7⟩ := cells4 hL3.acc.blk; obtain ⟨d0, d1, d2, d3, d4, d5, d6, d7⟩ := cells4 hL3.res; have HL3 := Lib.hid hL3; clear hL3 hB3 hK3)
      (try simp only [Exit.inBlock, Exit.then]); refine bodyPost_ret (results_one rfl _ _ _ _ _ _ _ rfl (blk4 HL3.out.res _ _ _ _) Tryz.underlying33 info33) rfl ?_
      have hi2 : i = ks.length := by have := HN.out; omega
      have hf := HL3.out.fin (.int .i64 4) (.int .i64 (ct : Int)) (.slice none 0 0) (.slice ak kn.length ck)
      rw [hi2, List.take_length] at hf
      exact ⟨_, rfl, hf.1, hf.2⟩
end Go.Proofs.YtlckfiflfkbofaaGreatDoor
