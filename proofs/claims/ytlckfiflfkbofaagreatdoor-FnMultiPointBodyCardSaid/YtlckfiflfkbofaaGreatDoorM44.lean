/- ForceCoordinatesType of a point, at its own type. The reference's New, of a point. Part 44 of 51 of the proof that FnMultiPointBody returns true for every text and every type of coordinates, where the listed variables hold what the text of the program lays. -/
import Derived.StillTailTactics
import Derived.Test.YtlckfiflfkbofaaGreatDoorM33
import Derived.Test.YtlckfiflfkbofaaGreatDoorM43
set_option linter.all false

/- ForceCoordinatesType of a point, at its own type. -/
namespace Go.Proofs.YtlckfiflfkbofaaGreatDoor
open Go.RowKit

/-- The place of a point's numbers. -/
def pl4 (ct : Nat) (xs : List Nat) : List Nat := [xs.getD 0 0, xs.getD 1 0, if ct % 2 = 1 then xs.getD 2 0 else 0, if ct / 2 = 1 then xs.getD (2 + ct % 2) 0 else 0]
def PlV (w : World) (B ct : Nat) (pv : Value) (xs : List Nat) : Prop := (xs = [] ∧ pv = .slice none 0 0) ∨ (xs.length = wd ct ∧ w.ownsRow B 131 4 pv 1 (fl (pl4 ct xs)))

theorem xs2 {xs : List Nat} (h : xs.length = 2) : ∃ x y, xs = [x, y] := by
  match xs, h with
  | [x, y], _ => exact ⟨x, y, rfl⟩
theorem xs3 {xs : List Nat} (h : xs.length = 3) : ∃ x y z, xs = [x, y, z] := by
  match xs, h with
  | [x, y, z], _ => exact ⟨x, y, z, rfl⟩
theorem xs4 {xs : List Nat} (h : xs.length = 4) : ∃ x y z m, xs = [x, y, z, m] := by
  match xs, h with
  | [x, y, z, m], _ => exact ⟨x, y, z, m, rfl⟩

theorem pl_any {w : World} {v : Value} {xs : List Nat} {ct : Nat} (hct : ct < 4) (hv : NumV w v xs) (hx : xs = [] ∨ xs.length = wd ct) : Calls Tryz.prog 56 #[v, .int .i64 (ct : Int)] w fun e w' => ∃ pv, e = .returned pv ∧ PlV w' w.heap.size ct pv xs ∧ Keep (fun _ => False) w w' := by
  rcases hx with rfl | hx
  · obtain ⟨a, cap, rfl, _⟩ := hv
    refine (pl_nil w a cap ct hct).mono ?_
    rintro e w' ⟨rfl, k⟩
    exact ⟨_, rfl, Or.inl ⟨rfl, rfl⟩, k⟩
  · have h4 : ct = 0 ∨ ct = 1 ∨ ct = 2 ∨ ct = 3 := by omega
    rcases h4 with rfl | rfl | rfl | rfl
    · obtain ⟨x, y, rfl⟩ := xs2 hx
      refine (pl_0 w v x y hv).mono ?_
      rintro e w' ⟨pv, rfl, h, k⟩
      exact ⟨pv, rfl, Or.inr ⟨rfl, h⟩, k⟩
    · obtain ⟨x, y, z, rfl⟩ := xs3 hx
      refine (pl_1 w v x y z hv).mono ?_
      rintro e w' ⟨pv, rfl, h, k⟩
      exact ⟨pv, rfl, Or.inr ⟨rfl, h⟩, k⟩
    · obtain ⟨x, y, z, rfl⟩ := xs3 hx
      refine (pl_2 w v x y z hv).mono ?_
      rintro e w' ⟨pv, rfl, h, k⟩
      exact ⟨pv, rfl, Or.inr ⟨rfl, h⟩, k⟩
    · obtain ⟨x, y, z, m, rfl⟩ := xs4 hx
      refine (pl_3 w v x y z m hv).mono ?_
      rintro e w' ⟨pv, rfl, h, k⟩
      exact ⟨pv, rfl, Or.inr ⟨rfl, h⟩, k⟩

theorem nu_any {w : World} {B : Nat} {v : Value} {xs : List Nat} {ct : Nat} (hct : ct < 4) (hv : PlV w B ct v xs) : Calls Tryz.prog 55 #[v, .int .i64 (ct : Int)] w fun e w' => ∃ nv, e = .returned nv ∧ w'.ownsRow w.heap.size 65 1 nv xs.length (fl xs) ∧ Keep (fun _ => False) w w' := by
  rcases hv with ⟨rfl, rfl⟩ | ⟨hx, hv⟩
  · refine (nu_nil w none 0 ct).mono ?_
    rintro e w' ⟨rfl, k⟩
    exact ⟨_, rfl, World.ownsRow_nil _ _ _ _, k⟩
  · have h4 : ct = 0 ∨ ct = 1 ∨ ct = 2 ∨ ct = 3 := by omega
    rcases h4 with rfl | rfl | rfl | rfl
    · obtain ⟨x, y, rfl⟩ := xs2 hx
      exact nu_0 w B v x y 0 0 hv
    · obtain ⟨x, y, z, rfl⟩ := xs3 hx
      exact nu_1 w B v x y z 0 hv
    · obtain ⟨x, y, z, rfl⟩ := xs3 hx
      exact nu_2 w B v x y 0 z hv
    · obtain ⟨x, y, z, m, rfl⟩ := xs4 hx
      exact nu_3 w B v x y z m hv

theorem own_form {bs n size : Nat} {e : TypeId} {v : Value} {us : List Value} {w : World} (h : w.ownsRow bs e size v n us) : ∃ a cap, v = .slice a n cap := by
  rcases h.2 with ⟨rfl, rfl⟩ | ⟨g, cap, cur, rfl, _⟩
  · exact ⟨_, _, rfl⟩
  · exact ⟨_, _, rfl⟩

/-- What a maker of a point answers. -/
def KidP (S : Nat → Prop) (w : World) (ct : Nat) (xs : List Nat) (e : Ending) (w' : World) : Prop :=
  ∃ nv, e = .returned (.agg #[.int .i64 1, .int .i64 (ct : Int), nv, .slice none 0 0]) ∧ w'.ownsRow w.heap.size 65 1 nv xs.length (fl xs) ∧ Keep S w w'

theorem heap_alloc3_0 (w : World) (a b c : Obj) : (((w.alloc a).alloc b).alloc c).heap[w.heap.size]? = some a := by
  rw [Below.heap_alloc _ _ _ (by simp only [World.size_alloc]; omega)]; exact heap_alloc2_old w a b
theorem heap_alloc3_1 (w : World) (a b c : Obj) : (((w.alloc a).alloc b).alloc c).heap[w.heap.size + 1]? = some b := by
  rw [Below.heap_alloc _ _ _ (by simp only [World.size_alloc]; omega)]; exact heap_alloc2_new w a b
theorem heap_alloc3_2 (w : World) (a b c : Obj) : (((w.alloc a).alloc b).alloc c).heap[w.heap.size + 2]? = some c := by
  have := heap_alloc2_new (w.alloc a) b c
  simpa only [World.size_alloc] using this

set_option maxRecDepth 100000 in
set_option maxHeartbeats 3200000 in
theorem fct_pt (w : World) (v : Value) (ct : Nat) (hct : ct < 4) (xs : List Nat) (hv : NumV w v xs) (hx : xs = [] ∨ xs.length = wd ct) :
    Calls Tryz.prog 35 #[.agg #[.int .i64 1, .int .i64 (ct : Int), v, .slice none 0 0], .int .i64 (ct : Int)] w fun e w' => KidP (fun _ => False) w ct xs e w' := by
  have hK0 := (((Keep.refl (fun _ => False) w).alloc (.cells #[.int .i64 1, .int .i64 (ct : Int), v, .slice none 0 0] 33)).alloc (.cells #[.int .i64 0, .int .i64 0, .slice none 0 0, .slice none 0 0] 33)).alloc (.cells #[.int .i64 1, .int .i64 (ct : Int), .slice none 0 0, .slice none 0 0] 33)
  have h56 := pl_any hct (hv.keep hK0) hx
  have b0 := heap_alloc3_0 w (.cells #[.int .i64 1, .int .i64 (ct : Int), v, .slice none 0 0] 33) (.cells #[.int .i64 0, .int .i64 0, .slice none 0 0, .slice none 0 0] 33) (.cells #[.int .i64 1, .int .i64 (ct : Int), .slice none 0 0, .slice none 0 0] 33)
  have b1 := heap_alloc3_1 w (.cells #[.int .i64 1, .int .i64 (ct : Int), v, .slice none 0 0] 33) (.cells #[.int .i64 0, .int .i64 0, .slice none 0 0, .slice none 0 0] 33) (.cells #[.int .i64 1, .int .i64 (ct : Int), .slice none 0 0, .slice none 0 0] 33)
  have b2 := heap_alloc3_2 w (.cells #[.int .i64 1, .int .i64 (ct : Int), v, .slice none 0 0] 33) (.cells #[.int .i64 0, .int .i64 0, .slice none 0 0, .slice none 0 0] 33) (.cells #[.int .i64 1, .int .i64 (ct : Int), .slice none 0 0, .slice none 0 0] 33)
  have HB0 := Lib.hid b0
  have HB1 := Lib.hid b1
  have HB2 := Lib.hid b2
  have HK0 := Lib.hid hK0
  have H56 := Lib.hid h56
  obtain ⟨a, cap, rfl, _⟩ := hv
  clear b0 b1 b2 hK0 h56
  go_enter Tryz.func35, Tryz.ntmps35
  go_wp2_with (fail)
  refine H56.out.mono ?_
  rintro e w2 ⟨pv, rfl, hp, hK2⟩
  clear H56
  have b0 := (hK2.block _ (by simp only [World.size_alloc]; omega) (fun h => h)).trans HB0.out
  have b1 := (hK2.block _ (by simp only [World.size_alloc]; omega) (fun h => h)).trans HB1.out
  have b2 := (hK2.block _ (by simp only [World.size_alloc]; omega) (fun h => h)).trans HB2.out
  have hs2 : w.heap.size + 3 ≤ w2.heap.size := by have := hK2.size; simp only [World.size_alloc] at this; omega
  have hK2 := HK0.out.trans hK2
  clear HB0 HB1 HB2 HK0
  go_wp2_with (fail)
  refine (nu_any hct hp).mono ?_
  rintro e w3 ⟨nv, rfl, hn, hK3⟩
  have b0 := (hK3.block _ (Array.getElem?_eq_some_iff.1 b0).1 (fun h => h)).trans b0
  have b1 := (hK3.block _ (Array.getElem?_eq_some_iff.1 b1).1 (fun h => h)).trans b1
  have b2 := (hK3.block _ (Array.getElem?_eq_some_iff.1 b2).1 (fun h => h)).trans b2
  have hn := own_mono hn (show w.heap.size + 3 ≤ w2.heap.size from hs2)
  have hK3 := hK2.trans hK3
  clear hK2 hp hs2
  obtain ⟨c0, c1, c2, c3, c4, c5, c6, c7⟩ := cells4 b0
  obtain ⟨d0, d1, d2, d3, d4, d5, d6, d7⟩ := cells4 b1
  obtain ⟨e0, e1, e2, e3, e4, e5, e6, e7⟩ := cells4 b2
  obtain ⟨an, cn, hnv⟩ := own_form hn
  subst hnv
  have HN := Lib.hid hn
  have HK3 := Lib.hid hK3
  have HB1 := Lib.hid b1
  have HB2 := Lib.hid b2
  clear hn hK3 b0 b1 b2
  go_wp2_with (fail)
  go_loopw [23] (fun v23 wr => v23 = .int .i64 0 ∧ wr = w3.setCell ⟨w.heap.size + 1 + 1, 2, none⟩ (.slice an xs.length cn)) (fun _ _ => 0)
  case atStart => exact ⟨rfl, rfl⟩
  case round =>
    obtain ⟨rfl, rfl⟩ := hrel
    have b1 := HB1.out
    have b2 := Lib.heap_setCell_same (i := 2) HB2.out (.slice an xs.length cn)
    have b1 := (Below.heap_setCell w3 ⟨w.heap.size + 2, 2, none⟩ (.slice an xs.length cn) _ (by show w.heap.size + 1 ≠ w.heap.size + 2; omega)).trans b1
    obtain ⟨d0, d1, d2, d3, d4, d5, d6, d7⟩ := cells4 b1
    obtain ⟨e0, e1, e2, e3, e4, e5, e6, e7⟩ := cells4 b2
    go_wp2_with (fail)
    (try simp only [Exit.inBlock, Exit.then]); refine bodyPost_ret (results_one rfl _ _ _ _ _ _ _ rfl (blk4 b1 _ _ _ _) Tryz.underlying33 info33) rfl ?_
    have hS : ∀ (S : Nat → Prop) (W : World), (∀ i, i = w.heap.size + 1 ∨ i = w.heap.size + 2 → S i) → Keep S W (((((W.setCell ⟨w.heap.size + 1 + 1, 2, none⟩ (Value.slice an xs.length cn)).setCell ⟨w.heap.size + 1, 0, none⟩ (.int .i64 1)).setCell ⟨w.heap.size + 1, 1, none⟩ (.int .i64 (ct : Int))).setCell ⟨w.heap.size + 1, 2, none⟩ (.slice an xs.length cn)).setCell ⟨w.heap.size + 1, 3, none⟩ (.slice none 0 0)) := fun S W hS =>
      (((((Keep.refl S W).setCell (Or.inr (hS _ (Or.inr rfl))) _).setCell (Or.inr (hS _ (Or.inl rfl))) _).setCell (Or.inr (hS _ (Or.inl rfl))) _).setCell (Or.inr (hS _ (Or.inl rfl))) _).setCell (Or.inr (hS _ (Or.inl rfl))) _
    refine ⟨_, rfl, own_mono (own_keep HN.out (hS (fun i => i = w.heap.size + 1 ∨ i = w.heap.size + 2) w3 fun _ h => h) ?_) (by omega), HK3.out.trans' (hS (fun i => i = w.heap.size + 1 ∨ i = w.heap.size + 2) w3 fun _ h => h) ?_⟩
    · intro g hg hs
      have := (HN.out.lt g hg).1
      omega
    · intro i hi hs
      omega

end Go.Proofs.YtlckfiflfkbofaaGreatDoor

/- The reference's New, of a point. -/
namespace Go.Proofs.YtlckfiflfkbofaaGreatDoor
open Go.RowKit

/-- The slice v shows the numbers xs, and has room for them. -/
def NmC (w : World) (v : Value) (xs : List Nat) : Prop := NumV w v xs ∧ (∃ a cap, v = .slice a xs.length cap ∧ xs.length ≤ cap) ∧ (v = .slice none 0 0 ∨ ∃ g cap, v = .slice (some ⟨g, 0, none⟩) xs.length cap)
theorem own_nmC {w : World} {B : Nat} {v : Value} {xs : List Nat} (h : w.ownsRow B 65 1 v xs.length (fl xs)) : NmC w v xs := by
  refine ⟨own_num h, ?_⟩
  rcases h.2 with ⟨rfl, h0⟩ | ⟨g, cap, cur, rfl, hb, hg, hn, _⟩
  · exact ⟨⟨none, 0, by rw [h0], by omega⟩, Or.inl rfl⟩
  · exact ⟨⟨_, cap, rfl, hn⟩, Or.inr ⟨g, cap, rfl⟩⟩
theorem NmC.keep {w w' : World} {v : Value} {xs : List Nat} (h : NmC w v xs) (k : Keep (fun _ => False) w w') : NmC w' v xs := ⟨h.1.keep k, h.2⟩
/-- Points as plain data, with room. -/
def KidC (w : World) (v : Value) (ct : Nat) (ks : List (List Nat)) : Prop := ∃ a cap, v = .slice a ks.length cap ∧ ∀ i xs, ks[i]? = some xs → ∃ g nv, a = some ⟨g, 0, none⟩ ∧ g < w.heap.size ∧ NmC w nv xs ∧
  w.cell? ⟨g, i * 4, none⟩ = some (.int .i64 1) ∧ w.cell? ⟨g, i * 4 + 1, none⟩ = some (.int .i64 (ct : Int)) ∧ w.cell? ⟨g, i * 4 + 2, none⟩ = some nv ∧ w.cell? ⟨g, i * 4 + 3, none⟩ = some (.slice none 0 0)
theorem KidC.kidV {w : World} {v : Value} {ct : Nat} {ks : List (List Nat)} (h : KidC w v ct ks) : KidV w v ct ks := by
  obtain ⟨a, cap, h1, h2⟩ := h
  refine ⟨a, cap, h1, fun i xs hx => ?_⟩
  obtain ⟨g, nv, e, hg, hn, h⟩ := h2 i xs hx
  exact ⟨g, nv, e, hg, hn.1, h⟩
theorem KidC.keep {w w' : World} {v : Value} {ct : Nat} {ks : List (List Nat)} (h : KidC w v ct ks) (k : Keep (fun _ => False) w w') : KidC w' v ct ks := by
  obtain ⟨a, cap, h1, h2⟩ := h
  refine ⟨a, cap, h1, fun i xs hx => ?_⟩
  obtain ⟨g, nv, e, hg, hn, c0, c1, c2, c3⟩ := h2 i xs hx
  exact ⟨g, nv, e, Nat.lt_of_lt_of_le hg k.size, hn.keep k, k.cell c0 (fun h => h), k.cell c1 (fun h => h), k.cell c2 (fun h => h), k.cell c3 (fun h => h)⟩
theorem Acc.kidC {w : World} {c ct : Nat} {kv : Value} {kn : List (Value × List Nat)} (h : Acc w c ct kv kn) : KidC w kv ct (kn.map (·.2)) := by
  rcases h.own.2 with ⟨hv, h0⟩ | ⟨g, cap, cur, hv, hb, hg, hn, hc, _⟩
  · have : kn = [] := List.eq_nil_of_length_eq_zero h0
    subst this
    exact ⟨none, 0, hv, fun i p hp => by cases hp⟩
  · have hcc := h.own.cells (g := g) (by rw [hv]; rfl)
    refine ⟨_, cap, by rw [hv, List.length_map], fun i xs hx => ?_⟩
    rw [List.getElem?_map, Option.map_eq_some_iff] at hx
    obtain ⟨q, hq, rfl⟩ := hx
    have hadd : ∀ j, (⟨g, 0, none⟩ : Addr).add j = ⟨g, j, none⟩ := by intro j; unfold Addr.add; split <;> simp_all
    obtain ⟨r0, r1, r2, r3⟩ := rowK_get (ct := ct) hq
    have c0 := hcc _ _ r0
    have c1 := hcc _ _ r1
    have c2 := hcc _ _ r2
    have c3 := hcc _ _ r3
    rw [hadd] at c0 c1 c2 c3
    exact ⟨g, q.1, rfl, (Array.getElem?_eq_some_iff.1 hg).1, own_nmC (h.nums q (List.mem_of_getElem? hq)), c0, c1, c2, c3⟩

/-- The numbers' store into a point, and the result's. -/
theorem kid_fin {w w3 : World} {ct : Nat} {xs : List Nat} {nv : Value} (hK : Keep (fun _ => False) w w3) (hn : w3.ownsRow (w.heap.size + 3) 65 1 nv xs.length (fl xs)) (v0 v1 v2 v3 v4 : Value) :
    KidP (fun _ => False) w ct xs (.returned (.agg #[.int .i64 1, .int .i64 (ct : Int), nv, .slice none 0 0])) (((((w3.setCell ⟨w.heap.size + 1 + 1, 2, none⟩ v0).setCell ⟨w.heap.size + 1, 0, none⟩ v1).setCell ⟨w.heap.size + 1, 1, none⟩ v2).setCell ⟨w.heap.size + 1, 2, none⟩ v3).setCell ⟨w.heap.size + 1, 3, none⟩ v4) := by
  have hS : ∀ (S : Nat → Prop) (W : World), (∀ i, i = w.heap.size + 1 ∨ i = w.heap.size + 2 → S i) → Keep S W (((((W.setCell ⟨w.heap.size + 1 + 1, 2, none⟩ v0).setCell ⟨w.heap.size + 1, 0, none⟩ v1).setCell ⟨w.heap.size + 1, 1, none⟩ v2).setCell ⟨w.heap.size + 1, 2, none⟩ v3).setCell ⟨w.heap.size + 1, 3, none⟩ v4) := fun S W hS =>
    (((((Keep.refl S W).setCell (Or.inr (hS _ (Or.inr rfl))) _).setCell (Or.inr (hS _ (Or.inl rfl))) _).setCell (Or.inr (hS _ (Or.inl rfl))) _).setCell (Or.inr (hS _ (Or.inl rfl))) _).setCell (Or.inr (hS _ (Or.inl rfl))) _
  refine ⟨_, rfl, own_mono (own_keep hn (hS (fun i => i = w.heap.size + 1 ∨ i = w.heap.size + 2) w3 fun _ h => h) ?_) (by omega), hK.trans' (hS (fun i => i = w.heap.size + 1 ∨ i = w.heap.size + 2) w3 fun _ h => h) ?_⟩
  · intro g hg hs
    have := (hn.lt g hg).1
    omega
  · intro i hi hs
    omega

set_option maxRecDepth 100000 in
set_option maxHeartbeats 3200000 in
theorem nw_z0 (w : World) : Calls Tryz.prog 18 #[.agg #[.int .i64 1, .int .i64 0, .slice none 0 0, .slice none 0 0]] w fun e w' => KidP (fun _ => False) w 0 [] e w' := by
  obtain ⟨i0, hi, hz0, hz1, hz2⟩ := info_parts fltInfo
  have hwr : IntKind.i64.wrap 0 = 0 := by decide +kernel
  have ha : Go.bits .and .i64 0 3 = 0 := by decide +kernel
  have hmn : min (0 : Int) 1 = 0 := by decide
  have hK0 := (((Keep.refl (fun _ => False) w).alloc (.cells #[.int .i64 1, .int .i64 0, .slice none 0 0, .slice none 0 0] 33)).alloc (.cells #[.int .i64 0, .int .i64 0, .slice none 0 0, .slice none 0 0] 33)).alloc (.cells #[.int .i64 1, .int .i64 0, .slice none 0 0, .slice none 0 0] 33)
  have b0 := heap_alloc3_0 w (.cells #[.int .i64 1, .int .i64 0, .slice none 0 0, .slice none 0 0] 33) (.cells #[.int .i64 0, .int .i64 0, .slice none 0 0, .slice none 0 0] 33) (.cells #[.int .i64 1, .int .i64 0, .slice none 0 0, .slice none 0 0] 33)
  have b1 := heap_alloc3_1 w (.cells #[.int .i64 1, .int .i64 0, .slice none 0 0, .slice none 0 0] 33) (.cells #[.int .i64 0, .int .i64 0, .slice none 0 0, .slice none 0 0] 33) (.cells #[.int .i64 1, .int .i64 0, .slice none 0 0, .slice none 0 0] 33)
  have b2 := heap_alloc3_2 w (.cells #[.int .i64 1, .int .i64 0, .slice none 0 0, .slice none 0 0] 33) (.cells #[.int .i64 0, .int .i64 0, .slice none 0 0, .slice none 0 0] 33) (.cells #[.int .i64 1, .int .i64 0, .slice none 0 0, .slice none 0 0] 33)
  have HB0 := Lib.hid b0
  have HB1 := Lib.hid b1
  have HB2 := Lib.hid b2
  have HK0 := Lib.hid hK0
  clear b0 b1 b2 hK0
  go_enter Tryz.func18, Tryz.ntmps18
  go_wp2_with (go_at_call 32; refine (lf_1 _).mono ?_; rintro e w9 ⟨rfl, rfl⟩)
  go_quiet (exact (wd33_0 _).mono fun e w9 h => ⟨h.1, _, h.2.symm⟩)
  go_wp2_with (fail)
  generalize hw1 : World.drewN (((w.alloc (.cells #[.int .i64 1, .int .i64 0, .slice none 0 0, .slice none 0 0] 33)).alloc (.cells #[.int .i64 0, .int .i64 0, .slice none 0 0, .slice none 0 0] 33)).alloc (.cells #[.int .i64 1, .int .i64 0, .slice none 0 0, .slice none 0 0] 33)) _ = w1
  have b0 : w1.heap[w.heap.size]? = some (.cells #[.int .i64 1, .int .i64 0, .slice none 0 0, .slice none 0 0] 33) := by rw [← hw1]; exact HB0.out
  have b1 : w1.heap[w.heap.size + 1]? = some (.cells #[.int .i64 0, .int .i64 0, .slice none 0 0, .slice none 0 0] 33) := by rw [← hw1]; exact HB1.out
  have b2 : w1.heap[w.heap.size + 1 + 1]? = some (.cells #[.int .i64 1, .int .i64 0, .slice none 0 0, .slice none 0 0] 33) := by rw [← hw1]; exact HB2.out
  have hK1 : Keep (fun _ => False) w w1 := by rw [← hw1]; exact HK0.out.drewN _
  have hs1 : w1.heap.size = w.heap.size + 3 := by rw [← hw1]; exact (by simp only [World.size_alloc] : (((w.alloc (.cells #[.int .i64 1, .int .i64 0, .slice none 0 0, .slice none 0 0] 33)).alloc (.cells #[.int .i64 0, .int .i64 0, .slice none 0 0, .slice none 0 0] 33)).alloc (.cells #[.int .i64 1, .int .i64 0, .slice none 0 0, .slice none 0 0] 33)).heap.size = w.heap.size + 3)
  have HK1 := Lib.hid hK1
  have HB1 := Lib.hid b1
  have HB2 := Lib.hid b2
  clear HB0 HK0 hw1 hK1
  obtain ⟨c0, c1, c2, c3, c4, c5, c6, c7⟩ := cells4 b0
  obtain ⟨d0, d1, d2, d3, d4, d5, d6, d7⟩ := cells4 b1
  obtain ⟨e0, e1, e2, e3, e4, e5, e6, e7⟩ := cells4 b2
  clear b0 b1 b2
  refine wp_region_still_tail 10 (by kernel_rfl) (by kernel_rfl) ?_
  simp only [List.take_succ_cons, List.take_zero, List.drop_succ_cons, List.drop_zero]
  repeat still_step
  still_call ((wd33_0 _).mono fun e w h => ⟨h.1, h.2.symm⟩)
  repeat still_step
  try refine wpStill_nil ?_
  change wpList _ _ _ _ _ w1.drew
  have hK2 : Keep (fun _ => False) w w1.drew := HK1.out.drew
  have b1 : w1.drew.heap[w.heap.size + 1]? = some (.cells #[.int .i64 0, .int .i64 0, .slice none 0 0, .slice none 0 0] 33) := HB1.out
  have b2 : w1.drew.heap[w.heap.size + 1 + 1]? = some (.cells #[.int .i64 1, .int .i64 0, .slice none 0 0, .slice none 0 0] 33) := HB2.out
  have hs2 : w1.drew.heap.size = w.heap.size + 3 := hs1
  clear c0 c1 c2 c3 c4 c5 c6 c7 d0 d1 d2 d3 d4 d5 d6 d7 e0 e1 e2 e3 e4 e5 e6 e7 HK1 HB1 HB2 hs1
  generalize w1.drew = w2 at *
  obtain ⟨d0, d1, d2, d3, d4, d5, d6, d7⟩ := cells4 b1
  obtain ⟨e0, e1, e2, e3, e4, e5, e6, e7⟩ := cells4 b2
  have HK6 := Lib.hid hK2
  clear hK2
  go_wp2_with (fail)
  (try simp only [Exit.inBlock, Exit.then]); refine bodyPost_ret (results_one rfl _ _ _ _ _ _ _ rfl (blk4 ((Below.heap_setCell _ _ _ _ (show w.heap.size + 1 ≠ w.heap.size + 1 + 1 by omega)).trans b1) _ _ _ _) Tryz.underlying33 info33) rfl ?_
  exact kid_fin HK6.out (World.ownsRow_nil _ _ _ _) _ _ _ _ _
set_option maxRecDepth 100000 in
set_option maxHeartbeats 3200000 in
theorem nw_e0 (w : World) (g cap : Nat) : Calls Tryz.prog 18 #[.agg #[.int .i64 1, .int .i64 0, .slice (some ⟨g, 0, none⟩) 0 cap, .slice none 0 0]] w fun e w' => KidP (fun _ => False) w 0 [] e w' := by
  obtain ⟨i0, hi, hz0, hz1, hz2⟩ := info_parts fltInfo
  have hwr : IntKind.i64.wrap 0 = 0 := by decide +kernel
  have ha : Go.bits .and .i64 0 3 = 0 := by decide +kernel
  have hmn : min (0 : Int) 1 = 0 := by decide
  have hci : (0 : Int) ≤ (cap : Int) := by omega
  have hK0 := (((Keep.refl (fun _ => False) w).alloc (.cells #[.int .i64 1, .int .i64 0, .slice (some ⟨g, 0, none⟩) 0 cap, .slice none 0 0] 33)).alloc (.cells #[.int .i64 0, .int .i64 0, .slice none 0 0, .slice none 0 0] 33)).alloc (.cells #[.int .i64 1, .int .i64 0, .slice none 0 0, .slice none 0 0] 33)
  have b0 := heap_alloc3_0 w (.cells #[.int .i64 1, .int .i64 0, .slice (some ⟨g, 0, none⟩) 0 cap, .slice none 0 0] 33) (.cells #[.int .i64 0, .int .i64 0, .slice none 0 0, .slice none 0 0] 33) (.cells #[.int .i64 1, .int .i64 0, .slice none 0 0, .slice none 0 0] 33)
  have b1 := heap_alloc3_1 w (.cells #[.int .i64 1, .int .i64 0, .slice (some ⟨g, 0, none⟩) 0 cap, .slice none 0 0] 33) (.cells #[.int .i64 0, .int .i64 0, .slice none 0 0, .slice none 0 0] 33) (.cells #[.int .i64 1, .int .i64 0, .slice none 0 0, .slice none 0 0] 33)
  have b2 := heap_alloc3_2 w (.cells #[.int .i64 1, .int .i64 0, .slice (some ⟨g, 0, none⟩) 0 cap, .slice none 0 0] 33) (.cells #[.int .i64 0, .int .i64 0, .slice none 0 0, .slice none 0 0] 33) (.cells #[.int .i64 1, .int .i64 0, .slice none 0 0, .slice none 0 0] 33)
  have HB0 := Lib.hid b0
  have HB1 := Lib.hid b1
  have HB2 := Lib.hid b2
  have HK0 := Lib.hid hK0
  clear b0 b1 b2 hK0
  go_enter Tryz.func18, Tryz.ntmps18
  go_wp2_with (go_at_call 32; refine (lf_1 _).mono ?_; rintro e w9 ⟨rfl, rfl⟩)
  go_quiet (exact (wd33_0 _).mono fun e w9 h => ⟨h.1, _, h.2.symm⟩)
  go_wp2_with (fail)
  generalize hw1 : World.drewN (((w.alloc (.cells #[.int .i64 1, .int .i64 0, .slice (some ⟨g, 0, none⟩) 0 cap, .slice none 0 0] 33)).alloc (.cells #[.int .i64 0, .int .i64 0, .slice none 0 0, .slice none 0 0] 33)).alloc (.cells #[.int .i64 1, .int .i64 0, .slice none 0 0, .slice none 0 0] 33)) _ = w1
  have b0 : w1.heap[w.heap.size]? = some (.cells #[.int .i64 1, .int .i64 0, .slice (some ⟨g, 0, none⟩) 0 cap, .slice none 0 0] 33) := by rw [← hw1]; exact HB0.out
  have b1 : w1.heap[w.heap.size + 1]? = some (.cells #[.int .i64 0, .int .i64 0, .slice none 0 0, .slice none 0 0] 33) := by rw [← hw1]; exact HB1.out
  have b2 : w1.heap[w.heap.size + 1 + 1]? = some (.cells #[.int .i64 1, .int .i64 0, .slice none 0 0, .slice none 0 0] 33) := by rw [← hw1]; exact HB2.out
  have hK1 : Keep (fun _ => False) w w1 := by rw [← hw1]; exact HK0.out.drewN _
  have hs1 : w1.heap.size = w.heap.size + 3 := by rw [← hw1]; exact (by simp only [World.size_alloc] : (((w.alloc (.cells #[.int .i64 1, .int .i64 0, .slice (some ⟨g, 0, none⟩) 0 cap, .slice none 0 0] 33)).alloc (.cells #[.int .i64 0, .int .i64 0, .slice none 0 0, .slice none 0 0] 33)).alloc (.cells #[.int .i64 1, .int .i64 0, .slice none 0 0, .slice none 0 0] 33)).heap.size = w.heap.size + 3)
  have HK1 := Lib.hid hK1
  have HB1 := Lib.hid b1
  have HB2 := Lib.hid b2
  clear HB0 HK0 hw1 hK1
  obtain ⟨c0, c1, c2, c3, c4, c5, c6, c7⟩ := cells4 b0
  obtain ⟨d0, d1, d2, d3, d4, d5, d6, d7⟩ := cells4 b1
  obtain ⟨e0, e1, e2, e3, e4, e5, e6, e7⟩ := cells4 b2
  clear b0 b1 b2
  refine wp_region_still_tail 10 (by kernel_rfl) (by kernel_rfl) ?_
  simp only [List.take_succ_cons, List.take_zero, List.drop_succ_cons, List.drop_zero]
  repeat still_step
  still_call ((wd33_0 _).mono fun e w h => ⟨h.1, h.2.symm⟩)
  repeat still_step
  try refine wpStill_nil ?_
  change wpList _ _ _ _ _ w1.drew
  have hK2 : Keep (fun _ => False) w w1.drew := HK1.out.drew
  have b1 : w1.drew.heap[w.heap.size + 1]? = some (.cells #[.int .i64 0, .int .i64 0, .slice none 0 0, .slice none 0 0] 33) := HB1.out
  have b2 : w1.drew.heap[w.heap.size + 1 + 1]? = some (.cells #[.int .i64 1, .int .i64 0, .slice none 0 0, .slice none 0 0] 33) := HB2.out
  have hs2 : w1.drew.heap.size = w.heap.size + 3 := hs1
  clear c0 c1 c2 c3 c4 c5 c6 c7 d0 d1 d2 d3 d4 d5 d6 d7 e0 e1 e2 e3 e4 e5 e6 e7 HK1 HB1 HB2 hs1
  generalize w1.drew = w2 at *
  obtain ⟨d0, d1, d2, d3, d4, d5, d6, d7⟩ := cells4 b1
  obtain ⟨e0, e1, e2, e3, e4, e5, e6, e7⟩ := cells4 b2
  have HK6 := Lib.hid hK2
  clear hK2
  go_wp2_with (fail)
  (try simp only [Exit.inBlock, Exit.then]); refine bodyPost_ret (results_one rfl _ _ _ _ _ _ _ rfl (blk4 ((Below.heap_setCell _ _ _ _ (show w.heap.size + 1 ≠ w.heap.size + 1 + 1 by omega)).trans b1) _ _ _ _) Tryz.underlying33 info33) rfl ?_
  exact kid_fin HK6.out (World.ownsRow_nil _ _ _ _) _ _ _ _ _
set_option maxRecDepth 100000 in
set_option maxHeartbeats 3200000 in
theorem nw_f0 (w : World) (v : Value) (x y : Nat) (hv : NmC w v [x, y]) : Calls Tryz.prog 18 #[.agg #[.int .i64 1, .int .i64 0, v, .slice none 0 0]] w fun e w' => KidP (fun _ => False) w 0 [x, y] e w' := by
  obtain ⟨i0, hi, hz0, hz1, hz2⟩ := info_parts fltInfo
  have hwr : IntKind.i64.wrap 2 = 2 := by decide +kernel
  have ha : Go.bits .and .i64 0 3 = 0 := by decide +kernel
  obtain ⟨⟨a, cap, rfl, hc⟩, ⟨a2, cap2, he2, hcap⟩, _⟩ := hv
  cases he2
  have hcap : 2 ≤ cap := hcap
  have hci : (2 : Int) ≤ (cap : Int) := by omega
  obtain ⟨g, rfl, hg, _⟩ := hc 0 x rfl
  have hcell : ∀ i u, [x, y][i]? = some u → w.cell? ⟨g, i, none⟩ = some (.float .f64 u) := by
    intro i u hx
    obtain ⟨g', e, _, hh⟩ := hc i u hx
    cases e
    exact hh
  have HC := Lib.hid hcell
  clear hcell hc
  have hK0 := (((Keep.refl (fun _ => False) w).alloc (.cells #[.int .i64 1, .int .i64 0, .slice (some ⟨g, 0, none⟩) 2 cap, .slice none 0 0] 33)).alloc (.cells #[.int .i64 0, .int .i64 0, .slice none 0 0, .slice none 0 0] 33)).alloc (.cells #[.int .i64 1, .int .i64 0, .slice none 0 0, .slice none 0 0] 33)
  have b0 := heap_alloc3_0 w (.cells #[.int .i64 1, .int .i64 0, .slice (some ⟨g, 0, none⟩) 2 cap, .slice none 0 0] 33) (.cells #[.int .i64 0, .int .i64 0, .slice none 0 0, .slice none 0 0] 33) (.cells #[.int .i64 1, .int .i64 0, .slice none 0 0, .slice none 0 0] 33)
  have b1 := heap_alloc3_1 w (.cells #[.int .i64 1, .int .i64 0, .slice (some ⟨g, 0, none⟩) 2 cap, .slice none 0 0] 33) (.cells #[.int .i64 0, .int .i64 0, .slice none 0 0, .slice none 0 0] 33) (.cells #[.int .i64 1, .int .i64 0, .slice none 0 0, .slice none 0 0] 33)
  have b2 := heap_alloc3_2 w (.cells #[.int .i64 1, .int .i64 0, .slice (some ⟨g, 0, none⟩) 2 cap, .slice none 0 0] 33) (.cells #[.int .i64 0, .int .i64 0, .slice none 0 0, .slice none 0 0] 33) (.cells #[.int .i64 1, .int .i64 0, .slice none 0 0, .slice none 0 0] 33)
  have HB0 := Lib.hid b0
  have HB1 := Lib.hid b1
  have HB2 := Lib.hid b2
  have HK0 := Lib.hid hK0
  clear b0 b1 b2 hK0
  go_enter Tryz.func18, Tryz.ntmps18
  go_wp2_with (go_at_call 32; refine (lf_1 _).mono ?_; rintro e w9 ⟨rfl, rfl⟩)
  go_quiet (exact (wd33_0 _).mono fun e w9 h => ⟨h.1, _, h.2.symm⟩)
  go_wp2_with (fail)
  generalize hw1 : World.drewN (((w.alloc (.cells #[.int .i64 1, .int .i64 0, .slice (some ⟨g, 0, none⟩) 2 cap, .slice none 0 0] 33)).alloc (.cells #[.int .i64 0, .int .i64 0, .slice none 0 0, .slice none 0 0] 33)).alloc (.cells #[.int .i64 1, .int .i64 0, .slice none 0 0, .slice none 0 0] 33)) _ = w1
  have b0 : w1.heap[w.heap.size]? = some (.cells #[.int .i64 1, .int .i64 0, .slice (some ⟨g, 0, none⟩) 2 cap, .slice none 0 0] 33) := by rw [← hw1]; exact HB0.out
  have b1 : w1.heap[w.heap.size + 1]? = some (.cells #[.int .i64 0, .int .i64 0, .slice none 0 0, .slice none 0 0] 33) := by rw [← hw1]; exact HB1.out
  have b2 : w1.heap[w.heap.size + 1 + 1]? = some (.cells #[.int .i64 1, .int .i64 0, .slice none 0 0, .slice none 0 0] 33) := by rw [← hw1]; exact HB2.out
  have hK1 : Keep (fun _ => False) w w1 := by rw [← hw1]; exact HK0.out.drewN _
  have hs1 : w1.heap.size = w.heap.size + 3 := by rw [← hw1]; exact (by simp only [World.size_alloc] : (((w.alloc (.cells #[.int .i64 1, .int .i64 0, .slice (some ⟨g, 0, none⟩) 2 cap, .slice none 0 0] 33)).alloc (.cells #[.int .i64 0, .int .i64 0, .slice none 0 0, .slice none 0 0] 33)).alloc (.cells #[.int .i64 1, .int .i64 0, .slice none 0 0, .slice none 0 0] 33)).heap.size = w.heap.size + 3)
  have HK1 := Lib.hid hK1
  have HB1 := Lib.hid b1
  have HB2 := Lib.hid b2
  clear HB0 HK0 hw1 hK1
  obtain ⟨c0, c1, c2, c3, c4, c5, c6, c7⟩ := cells4 b0
  obtain ⟨d0, d1, d2, d3, d4, d5, d6, d7⟩ := cells4 b1
  obtain ⟨e0, e1, e2, e3, e4, e5, e6, e7⟩ := cells4 b2
  clear b0 b1 b2
  refine wp_region_still_tail 10 (by kernel_rfl) (by kernel_rfl) ?_
  simp only [List.take_succ_cons, List.take_zero, List.drop_succ_cons, List.drop_zero]
  repeat still_step
  still_call ((wd33_0 _).mono fun e w h => ⟨h.1, h.2.symm⟩)
  repeat still_step
  try refine wpStill_nil ?_
  change wpList _ _ _ _ _ w1.drew
  have hK2 : Keep (fun _ => False) w w1.drew := HK1.out.drew
  have b1 : w1.drew.heap[w.heap.size + 1]? = some (.cells #[.int .i64 0, .int .i64 0, .slice none 0 0, .slice none 0 0] 33) := HB1.out
  have b2 : w1.drew.heap[w.heap.size + 1 + 1]? = some (.cells #[.int .i64 1, .int .i64 0, .slice none 0 0, .slice none 0 0] 33) := HB2.out
  have hs2 : w1.drew.heap.size = w.heap.size + 3 := hs1
  clear c0 c1 c2 c3 c4 c5 c6 c7 d0 d1 d2 d3 d4 d5 d6 d7 e0 e1 e2 e3 e4 e5 e6 e7 HK1 HB1 HB2 hs1
  generalize w1.drew = w2 at *
  refine wpList_append_own (P := Tryz.prog) (w := w2) rfl (.tmp 40) (.tmp 48) 30 rfl (w.heap.size + 3) 65 i0 _ 1 8 Tryz.underlying30 hi hz0 hz1 hz2 rfl (by omega) (.slice none 0 0) 0 [] (by rfl) (World.ownsRow_nil _ _ _ _) ⟨g, 0, none⟩ 2 cap (fl [x, y]) (by rfl) (by rfl) ?_ (by intro u hu; simp [fl] at hu; rcases hu with rfl | rfl <;> rfl) (by unfold maxLen; omega) (by omega) (by omega) ?_
  · intro j u hu
    have hadd : (⟨g, 0, none⟩ : Addr).add j = ⟨g, j, none⟩ := by unfold Addr.add; split <;> simp_all
    rw [hadd]
    simp only [fl, List.getElem?_map, Option.map_eq_some_iff] at hu
    obtain ⟨q, hq, rfl⟩ := hu
    exact hK2.cell (HC.out j q hq) (fun h => h)
  intro v6 w6 ho6 hg6 _
  have hK6 := hK2.grown (World.ownsRow_nil _ _ 65 1) hg6
  have b1 := (hg6.block _ (Array.getElem?_eq_some_iff.1 b1).1 (by intro e; cases e)).trans b1
  have b2 := (hg6.block _ (Array.getElem?_eq_some_iff.1 b2).1 (by intro e; cases e)).trans b2
  have hn : w6.ownsRow (w.heap.size + 3) 65 1 v6 ([x, y]).length (fl [x, y]) := by simpa using ho6
  clear ho6 hg6 hK2
  obtain ⟨a6, c6, hv6⟩ := own_form hn
  subst hv6
  obtain ⟨d0, d1, d2, d3, d4, d5, d6, d7⟩ := cells4 b1
  obtain ⟨e0, e1, e2, e3, e4, e5, e6, e7⟩ := cells4 b2
  have HN := Lib.hid hn
  have HK6 := Lib.hid hK6
  clear hn hK6
  go_wp2_with (fail)
  (try simp only [Exit.inBlock, Exit.then]); refine bodyPost_ret (results_one rfl _ _ _ _ _ _ _ rfl (blk4 ((Below.heap_setCell _ _ _ _ (show w.heap.size + 1 ≠ w.heap.size + 1 + 1 by omega)).trans b1) _ _ _ _) Tryz.underlying33 info33) rfl ?_
  exact kid_fin HK6.out HN.out _ _ _ _ _
set_option maxRecDepth 100000 in
set_option maxHeartbeats 3200000 in
theorem nw_z1 (w : World) : Calls Tryz.prog 18 #[.agg #[.int .i64 1, .int .i64 1, .slice none 0 0, .slice none 0 0]] w fun e w' => KidP (fun _ => False) w 1 [] e w' := by
  obtain ⟨i0, hi, hz0, hz1, hz2⟩ := info_parts fltInfo
  have hwr : IntKind.i64.wrap 0 = 0 := by decide +kernel
  have ha : Go.bits .and .i64 1 3 = 1 := by decide +kernel
  have hmn : min (0 : Int) 1 = 0 := by decide
  have hK0 := (((Keep.refl (fun _ => False) w).alloc (.cells #[.int .i64 1, .int .i64 1, .slice none 0 0, .slice none 0 0] 33)).alloc (.cells #[.int .i64 0, .int .i64 0, .slice none 0 0, .slice none 0 0] 33)).alloc (.cells #[.int .i64 1, .int .i64 1, .slice none 0 0, .slice none 0 0] 33)
  have b0 := heap_alloc3_0 w (.cells #[.int .i64 1, .int .i64 1, .slice none 0 0, .slice none 0 0] 33) (.cells #[.int .i64 0, .int .i64 0, .slice none 0 0, .slice none 0 0] 33) (.cells #[.int .i64 1, .int .i64 1, .slice none 0 0, .slice none 0 0] 33)
  have b1 := heap_alloc3_1 w (.cells #[.int .i64 1, .int .i64 1, .slice none 0 0, .slice none 0 0] 33) (.cells #[.int .i64 0, .int .i64 0, .slice none 0 0, .slice none 0 0] 33) (.cells #[.int .i64 1, .int .i64 1, .slice none 0 0, .slice none 0 0] 33)
  have b2 := heap_alloc3_2 w (.cells #[.int .i64 1, .int .i64 1, .slice none 0 0, .slice none 0 0] 33) (.cells #[.int .i64 0, .int .i64 0, .slice none 0 0, .slice none 0 0] 33) (.cells #[.int .i64 1, .int .i64 1, .slice none 0 0, .slice none 0 0] 33)
  have HB0 := Lib.hid b0
  have HB1 := Lib.hid b1
  have HB2 := Lib.hid b2
  have HK0 := Lib.hid hK0
  clear b0 b1 b2 hK0
  go_enter Tryz.func18, Tryz.ntmps18
  go_wp2_with (go_at_call 32; refine (lf_1 _).mono ?_; rintro e w9 ⟨rfl, rfl⟩)
  go_quiet (exact (wd33_1 _).mono fun e w9 h => ⟨h.1, _, h.2.symm⟩)
  go_wp2_with (fail)
  generalize hw1 : World.drewN (((w.alloc (.cells #[.int .i64 1, .int .i64 1, .slice none 0 0, .slice none 0 0] 33)).alloc (.cells #[.int .i64 0, .int .i64 0, .slice none 0 0, .slice none 0 0] 33)).alloc (.cells #[.int .i64 1, .int .i64 1, .slice none 0 0, .slice none 0 0] 33)) _ = w1
  have b0 : w1.heap[w.heap.size]? = some (.cells #[.int .i64 1, .int .i64 1, .slice none 0 0, .slice none 0 0] 33) := by rw [← hw1]; exact HB0.out
  have b1 : w1.heap[w.heap.size + 1]? = some (.cells #[.int .i64 0, .int .i64 0, .slice none 0 0, .slice none 0 0] 33) := by rw [← hw1]; exact HB1.out
  have b2 : w1.heap[w.heap.size + 1 + 1]? = some (.cells #[.int .i64 1, .int .i64 1, .slice none 0 0, .slice none 0 0] 33) := by rw [← hw1]; exact HB2.out
  have hK1 : Keep (fun _ => False) w w1 := by rw [← hw1]; exact HK0.out.drewN _
  have hs1 : w1.heap.size = w.heap.size + 3 := by rw [← hw1]; exact (by simp only [World.size_alloc] : (((w.alloc (.cells #[.int .i64 1, .int .i64 1, .slice none 0 0, .slice none 0 0] 33)).alloc (.cells #[.int .i64 0, .int .i64 0, .slice none 0 0, .slice none 0 0] 33)).alloc (.cells #[.int .i64 1, .int .i64 1, .slice none 0 0, .slice none 0 0] 33)).heap.size = w.heap.size + 3)
  have HK1 := Lib.hid hK1
  have HB1 := Lib.hid b1
  have HB2 := Lib.hid b2
  clear HB0 HK0 hw1 hK1
  obtain ⟨c0, c1, c2, c3, c4, c5, c6, c7⟩ := cells4 b0
  obtain ⟨d0, d1, d2, d3, d4, d5, d6, d7⟩ := cells4 b1
  obtain ⟨e0, e1, e2, e3, e4, e5, e6, e7⟩ := cells4 b2
  clear b0 b1 b2
  refine wp_region_still_tail 10 (by kernel_rfl) (by kernel_rfl) ?_
  simp only [List.take_succ_cons, List.take_zero, List.drop_succ_cons, List.drop_zero]
  repeat still_step
  still_call ((wd33_1 _).mono fun e w h => ⟨h.1, h.2.symm⟩)
  repeat still_step
  try refine wpStill_nil ?_
  change wpList _ _ _ _ _ w1.drew
  have hK2 : Keep (fun _ => False) w w1.drew := HK1.out.drew
  have b1 : w1.drew.heap[w.heap.size + 1]? = some (.cells #[.int .i64 0, .int .i64 0, .slice none 0 0, .slice none 0 0] 33) := HB1.out
  have b2 : w1.drew.heap[w.heap.size + 1 + 1]? = some (.cells #[.int .i64 1, .int .i64 1, .slice none 0 0, .slice none 0 0] 33) := HB2.out
  have hs2 : w1.drew.heap.size = w.heap.size + 3 := hs1
  clear c0 c1 c2 c3 c4 c5 c6 c7 d0 d1 d2 d3 d4 d5 d6 d7 e0 e1 e2 e3 e4 e5 e6 e7 HK1 HB1 HB2 hs1
  generalize w1.drew = w2 at *
  obtain ⟨d0, d1, d2, d3, d4, d5, d6, d7⟩ := cells4 b1
  obtain ⟨e0, e1, e2, e3, e4, e5, e6, e7⟩ := cells4 b2
  have HK6 := Lib.hid hK2
  clear hK2
  go_wp2_with (fail)
  (try simp only [Exit.inBlock, Exit.then]); refine bodyPost_ret (results_one rfl _ _ _ _ _ _ _ rfl (blk4 ((Below.heap_setCell _ _ _ _ (show w.heap.size + 1 ≠ w.heap.size + 1 + 1 by omega)).trans b1) _ _ _ _) Tryz.underlying33 info33) rfl ?_
  exact kid_fin HK6.out (World.ownsRow_nil _ _ _ _) _ _ _ _ _
set_option maxRecDepth 100000 in
set_option maxHeartbeats 3200000 in
theorem nw_e1 (w : World) (g cap : Nat) : Calls Tryz.prog 18 #[.agg #[.int .i64 1, .int .i64 1, .slice (some ⟨g, 0, none⟩) 0 cap, .slice none 0 0]] w fun e w' => KidP (fun _ => False) w 1 [] e w' := by
  obtain ⟨i0, hi, hz0, hz1, hz2⟩ := info_parts fltInfo
  have hwr : IntKind.i64.wrap 0 = 0 := by decide +kernel
  have ha : Go.bits .and .i64 1 3 = 1 := by decide +kernel
  have hmn : min (0 : Int) 1 = 0 := by decide
  have hci : (0 : Int) ≤ (cap : Int) := by omega
  have hK0 := (((Keep.refl (fun _ => False) w).alloc (.cells #[.int .i64 1, .int .i64 1, .slice (some ⟨g, 0, none⟩) 0 cap, .slice none 0 0] 33)).alloc (.cells #[.int .i64 0, .int .i64 0, .slice none 0 0, .slice none 0 0] 33)).alloc (.cells #[.int .i64 1, .int .i64 1, .slice none 0 0, .slice none 0 0] 33)
  have b0 := heap_alloc3_0 w (.cells #[.int .i64 1, .int .i64 1, .slice (some ⟨g, 0, none⟩) 0 cap, .slice none 0 0] 33) (.cells #[.int .i64 0, .int .i64 0, .slice none 0 0, .slice none 0 0] 33) (.cells #[.int .i64 1, .int .i64 1, .slice none 0 0, .slice none 0 0] 33)
  have b1 := heap_alloc3_1 w (.cells #[.int .i64 1, .int .i64 1, .slice (some ⟨g, 0, none⟩) 0 cap, .slice none 0 0] 33) (.cells #[.int .i64 0, .int .i64 0, .slice none 0 0, .slice none 0 0] 33) (.cells #[.int .i64 1, .int .i64 1, .slice none 0 0, .slice none 0 0] 33)
  have b2 := heap_alloc3_2 w (.cells #[.int .i64 1, .int .i64 1, .slice (some ⟨g, 0, none⟩) 0 cap, .slice none 0 0] 33) (.cells #[.int .i64 0, .int .i64 0, .slice none 0 0, .slice none 0 0] 33) (.cells #[.int .i64 1, .int .i64 1, .slice none 0 0, .slice none 0 0] 33)
  have HB0 := Lib.hid b0
  have HB1 := Lib.hid b1
  have HB2 := Lib.hid b2
  have HK0 := Lib.hid hK0
  clear b0 b1 b2 hK0
  go_enter Tryz.func18, Tryz.ntmps18
  go_wp2_with (go_at_call 32; refine (lf_1 _).mono ?_; rintro e w9 ⟨rfl, rfl⟩)
  go_quiet (exact (wd33_1 _).mono fun e w9 h => ⟨h.1, _, h.2.symm⟩)
  go_wp2_with (fail)
  generalize hw1 : World.drewN (((w.alloc (.cells #[.int .i64 1, .int .i64 1, .slice (some ⟨g, 0, none⟩) 0 cap, .slice none 0 0] 33)).alloc (.cells #[.int .i64 0, .int .i64 0, .slice none 0 0, .slice none 0 0] 33)).alloc (.cells #[.int .i64 1, .int .i64 1, .slice none 0 0, .slice none 0 0] 33)) _ = w1
  have b0 : w1.heap[w.heap.size]? = some (.cells #[.int .i64 1, .int .i64 1, .slice (some ⟨g, 0, none⟩) 0 cap, .slice none 0 0] 33) := by rw [← hw1]; exact HB0.out
  have b1 : w1.heap[w.heap.size + 1]? = some (.cells #[.int .i64 0, .int .i64 0, .slice none 0 0, .slice none 0 0] 33) := by rw [← hw1]; exact HB1.out
  have b2 : w1.heap[w.heap.size + 1 + 1]? = some (.cells #[.int .i64 1, .int .i64 1, .slice none 0 0, .slice none 0 0] 33) := by rw [← hw1]; exact HB2.out
  have hK1 : Keep (fun _ => False) w w1 := by rw [← hw1]; exact HK0.out.drewN _
  have hs1 : w1.heap.size = w.heap.size + 3 := by rw [← hw1]; exact (by simp only [World.size_alloc] : (((w.alloc (.cells #[.int .i64 1, .int .i64 1, .slice (some ⟨g, 0, none⟩) 0 cap, .slice none 0 0] 33)).alloc (.cells #[.int .i64 0, .int .i64 0, .slice none 0 0, .slice none 0 0] 33)).alloc (.cells #[.int .i64 1, .int .i64 1, .slice none 0 0, .slice none 0 0] 33)).heap.size = w.heap.size + 3)
  have HK1 := Lib.hid hK1
  have HB1 := Lib.hid b1
  have HB2 := Lib.hid b2
  clear HB0 HK0 hw1 hK1
  obtain ⟨c0, c1, c2, c3, c4, c5, c6, c7⟩ := cells4 b0
  obtain ⟨d0, d1, d2, d3, d4, d5, d6, d7⟩ := cells4 b1
  obtain ⟨e0, e1, e2, e3, e4, e5, e6, e7⟩ := cells4 b2
  clear b0 b1 b2
  refine wp_region_still_tail 10 (by kernel_rfl) (by kernel_rfl) ?_
  simp only [List.take_succ_cons, List.take_zero, List.drop_succ_cons, List.drop_zero]
  repeat still_step
  still_call ((wd33_1 _).mono fun e w h => ⟨h.1, h.2.symm⟩)
  repeat still_step
  try refine wpStill_nil ?_
  change wpList _ _ _ _ _ w1.drew
  have hK2 : Keep (fun _ => False) w w1.drew := HK1.out.drew
  have b1 : w1.drew.heap[w.heap.size + 1]? = some (.cells #[.int .i64 0, .int .i64 0, .slice none 0 0, .slice none 0 0] 33) := HB1.out
  have b2 : w1.drew.heap[w.heap.size + 1 + 1]? = some (.cells #[.int .i64 1, .int .i64 1, .slice none 0 0, .slice none 0 0] 33) := HB2.out
  have hs2 : w1.drew.heap.size = w.heap.size + 3 := hs1
  clear c0 c1 c2 c3 c4 c5 c6 c7 d0 d1 d2 d3 d4 d5 d6 d7 e0 e1 e2 e3 e4 e5 e6 e7 HK1 HB1 HB2 hs1
  generalize w1.drew = w2 at *
  obtain ⟨d0, d1, d2, d3, d4, d5, d6, d7⟩ := cells4 b1
  obtain ⟨e0, e1, e2, e3, e4, e5, e6, e7⟩ := cells4 b2
  have HK6 := Lib.hid hK2
  clear hK2
  go_wp2_with (fail)
  (try simp only [Exit.inBlock, Exit.then]); refine bodyPost_ret (results_one rfl _ _ _ _ _ _ _ rfl (blk4 ((Below.heap_setCell _ _ _ _ (show w.heap.size + 1 ≠ w.heap.size + 1 + 1 by omega)).trans b1) _ _ _ _) Tryz.underlying33 info33) rfl ?_
  exact kid_fin HK6.out (World.ownsRow_nil _ _ _ _) _ _ _ _ _
set_option maxRecDepth 100000 in
set_option maxHeartbeats 3200000 in
theorem nw_f1 (w : World) (v : Value) (x y z : Nat) (hv : NmC w v [x, y, z]) : Calls Tryz.prog 18 #[.agg #[.int .i64 1, .int .i64 1, v, .slice none 0 0]] w fun e w' => KidP (fun _ => False) w 1 [x, y, z] e w' := by
  obtain ⟨i0, hi, hz0, hz1, hz2⟩ := info_parts fltInfo
  have hwr : IntKind.i64.wrap 3 = 3 := by decide +kernel
  have ha : Go.bits .and .i64 1 3 = 1 := by decide +kernel
  obtain ⟨⟨a, cap, rfl, hc⟩, ⟨a2, cap2, he2, hcap⟩, _⟩ := hv
  cases he2
  have hcap : 3 ≤ cap := hcap
  have hci : (3 : Int) ≤ (cap : Int) := by omega
  obtain ⟨g, rfl, hg, _⟩ := hc 0 x rfl
  have hcell : ∀ i u, [x, y, z][i]? = some u → w.cell? ⟨g, i, none⟩ = some (.float .f64 u) := by
    intro i u hx
    obtain ⟨g', e, _, hh⟩ := hc i u hx
    cases e
    exact hh
  have HC := Lib.hid hcell
  clear hcell hc
  have hK0 := (((Keep.refl (fun _ => False) w).alloc (.cells #[.int .i64 1, .int .i64 1, .slice (some ⟨g, 0, none⟩) 3 cap, .slice none 0 0] 33)).alloc (.cells #[.int .i64 0, .int .i64 0, .slice none 0 0, .slice none 0 0] 33)).alloc (.cells #[.int .i64 1, .int .i64 1, .slice none 0 0, .slice none 0 0] 33)
  have b0 := heap_alloc3_0 w (.cells #[.int .i64 1, .int .i64 1, .slice (some ⟨g, 0, none⟩) 3 cap, .slice none 0 0] 33) (.cells #[.int .i64 0, .int .i64 0, .slice none 0 0, .slice none 0 0] 33) (.cells #[.int .i64 1, .int .i64 1, .slice none 0 0, .slice none 0 0] 33)
  have b1 := heap_alloc3_1 w (.cells #[.int .i64 1, .int .i64 1, .slice (some ⟨g, 0, none⟩) 3 cap, .slice none 0 0] 33) (.cells #[.int .i64 0, .int .i64 0, .slice none 0 0, .slice none 0 0] 33) (.cells #[.int .i64 1, .int .i64 1, .slice none 0 0, .slice none 0 0] 33)
  have b2 := heap_alloc3_2 w (.cells #[.int .i64 1, .int .i64 1, .slice (some ⟨g, 0, none⟩) 3 cap, .slice none 0 0] 33) (.cells #[.int .i64 0, .int .i64 0, .slice none 0 0, .slice none 0 0] 33) (.cells #[.int .i64 1, .int .i64 1, .slice none 0 0, .slice none 0 0] 33)
  have HB0 := Lib.hid b0
  have HB1 := Lib.hid b1
  have HB2 := Lib.hid b2
  have HK0 := Lib.hid hK0
  clear b0 b1 b2 hK0
  go_enter Tryz.func18, Tryz.ntmps18
  go_wp2_with (go_at_call 32; refine (lf_1 _).mono ?_; rintro e w9 ⟨rfl, rfl⟩)
  go_quiet (exact (wd33_1 _).mono fun e w9 h => ⟨h.1, _, h.2.symm⟩)
  go_wp2_with (fail)
  generalize hw1 : World.drewN (((w.alloc (.cells #[.int .i64 1, .int .i64 1, .slice (some ⟨g, 0, none⟩) 3 cap, .slice none 0 0] 33)).alloc (.cells #[.int .i64 0, .int .i64 0, .slice none 0 0, .slice none 0 0] 33)).alloc (.cells #[.int .i64 1, .int .i64 1, .slice none 0 0, .slice none 0 0] 33)) _ = w1
  have b0 : w1.heap[w.heap.size]? = some (.cells #[.int .i64 1, .int .i64 1, .slice (some ⟨g, 0, none⟩) 3 cap, .slice none 0 0] 33) := by rw [← hw1]; exact HB0.out
  have b1 : w1.heap[w.heap.size + 1]? = some (.cells #[.int .i64 0, .int .i64 0, .slice none 0 0, .slice none 0 0] 33) := by rw [← hw1]; exact HB1.out
  have b2 : w1.heap[w.heap.size + 1 + 1]? = some (.cells #[.int .i64 1, .int .i64 1, .slice none 0 0, .slice none 0 0] 33) := by rw [← hw1]; exact HB2.out
  have hK1 : Keep (fun _ => False) w w1 := by rw [← hw1]; exact HK0.out.drewN _
  have hs1 : w1.heap.size = w.heap.size + 3 := by rw [← hw1]; exact (by simp only [World.size_alloc] : (((w.alloc (.cells #[.int .i64 1, .int .i64 1, .slice (some ⟨g, 0, none⟩) 3 cap, .slice none 0 0] 33)).alloc (.cells #[.int .i64 0, .int .i64 0, .slice none 0 0, .slice none 0 0] 33)).alloc (.cells #[.int .i64 1, .int .i64 1, .slice none 0 0, .slice none 0 0] 33)).heap.size = w.heap.size + 3)
  have HK1 := Lib.hid hK1
  have HB1 := Lib.hid b1
  have HB2 := Lib.hid b2
  clear HB0 HK0 hw1 hK1
  obtain ⟨c0, c1, c2, c3, c4, c5, c6, c7⟩ := cells4 b0
  obtain ⟨d0, d1, d2, d3, d4, d5, d6, d7⟩ := cells4 b1
  obtain ⟨e0, e1, e2, e3, e4, e5, e6, e7⟩ := cells4 b2
  clear b0 b1 b2
  refine wp_region_still_tail 10 (by kernel_rfl) (by kernel_rfl) ?_
  simp only [List.take_succ_cons, List.take_zero, List.drop_succ_cons, List.drop_zero]
  repeat still_step
  still_call ((wd33_1 _).mono fun e w h => ⟨h.1, h.2.symm⟩)
  repeat still_step
  try refine wpStill_nil ?_
  change wpList _ _ _ _ _ w1.drew
  have hK2 : Keep (fun _ => False) w w1.drew := HK1.out.drew
  have b1 : w1.drew.heap[w.heap.size + 1]? = some (.cells #[.int .i64 0, .int .i64 0, .slice none 0 0, .slice none 0 0] 33) := HB1.out
  have b2 : w1.drew.heap[w.heap.size + 1 + 1]? = some (.cells #[.int .i64 1, .int .i64 1, .slice none 0 0, .slice none 0 0] 33) := HB2.out
  have hs2 : w1.drew.heap.size = w.heap.size + 3 := hs1
  clear c0 c1 c2 c3 c4 c5 c6 c7 d0 d1 d2 d3 d4 d5 d6 d7 e0 e1 e2 e3 e4 e5 e6 e7 HK1 HB1 HB2 hs1
  generalize w1.drew = w2 at *
  refine wpList_append_own (P := Tryz.prog) (w := w2) rfl (.tmp 40) (.tmp 48) 30 rfl (w.heap.size + 3) 65 i0 _ 1 8 Tryz.underlying30 hi hz0 hz1 hz2 rfl (by omega) (.slice none 0 0) 0 [] (by rfl) (World.ownsRow_nil _ _ _ _) ⟨g, 0, none⟩ 3 cap (fl [x, y, z]) (by rfl) (by rfl) ?_ (by intro u hu; simp [fl] at hu; rcases hu with rfl | rfl | rfl <;> rfl) (by unfold maxLen; omega) (by omega) (by omega) ?_
  · intro j u hu
    have hadd : (⟨g, 0, none⟩ : Addr).add j = ⟨g, j, none⟩ := by unfold Addr.add; split <;> simp_all
    rw [hadd]
    simp only [fl, List.getElem?_map, Option.map_eq_some_iff] at hu
    obtain ⟨q, hq, rfl⟩ := hu
    exact hK2.cell (HC.out j q hq) (fun h => h)
  intro v6 w6 ho6 hg6 _
  have hK6 := hK2.grown (World.ownsRow_nil _ _ 65 1) hg6
  have b1 := (hg6.block _ (Array.getElem?_eq_some_iff.1 b1).1 (by intro e; cases e)).trans b1
  have b2 := (hg6.block _ (Array.getElem?_eq_some_iff.1 b2).1 (by intro e; cases e)).trans b2
  have hn : w6.ownsRow (w.heap.size + 3) 65 1 v6 ([x, y, z]).length (fl [x, y, z]) := by simpa using ho6
  clear ho6 hg6 hK2
  obtain ⟨a6, c6, hv6⟩ := own_form hn
  subst hv6
  obtain ⟨d0, d1, d2, d3, d4, d5, d6, d7⟩ := cells4 b1
  obtain ⟨e0, e1, e2, e3, e4, e5, e6, e7⟩ := cells4 b2
  have HN := Lib.hid hn
  have HK6 := Lib.hid hK6
  clear hn hK6
  go_wp2_with (fail)
  (try simp only [Exit.inBlock, Exit.then]); refine bodyPost_ret (results_one rfl _ _ _ _ _ _ _ rfl (blk4 ((Below.heap_setCell _ _ _ _ (show w.heap.size + 1 ≠ w.heap.size + 1 + 1 by omega)).trans b1) _ _ _ _) Tryz.underlying33 info33) rfl ?_
  exact kid_fin HK6.out HN.out _ _ _ _ _
set_option maxRecDepth 100000 in
set_option maxHeartbeats 3200000 in
theorem nw_z2 (w : World) : Calls Tryz.prog 18 #[.agg #[.int .i64 1, .int .i64 2, .slice none 0 0, .slice none 0 0]] w fun e w' => KidP (fun _ => False) w 2 [] e w' := by
  obtain ⟨i0, hi, hz0, hz1, hz2⟩ := info_parts fltInfo
  have hwr : IntKind.i64.wrap 0 = 0 := by decide +kernel
  have ha : Go.bits .and .i64 2 3 = 2 := by decide +kernel
  have hmn : min (0 : Int) 1 = 0 := by decide
  have hK0 := (((Keep.refl (fun _ => False) w).alloc (.cells #[.int .i64 1, .int .i64 2, .slice none 0 0, .slice none 0 0] 33)).alloc (.cells #[.int .i64 0, .int .i64 0, .slice none 0 0, .slice none 0 0] 33)).alloc (.cells #[.int .i64 1, .int .i64 2, .slice none 0 0, .slice none 0 0] 33)
  have b0 := heap_alloc3_0 w (.cells #[.int .i64 1, .int .i64 2, .slice none 0 0, .slice none 0 0] 33) (.cells #[.int .i64 0, .int .i64 0, .slice none 0 0, .slice none 0 0] 33) (.cells #[.int .i64 1, .int .i64 2, .slice none 0 0, .slice none 0 0] 33)
  have b1 := heap_alloc3_1 w (.cells #[.int .i64 1, .int .i64 2, .slice none 0 0, .slice none 0 0] 33) (.cells #[.int .i64 0, .int .i64 0, .slice none 0 0, .slice none 0 0] 33) (.cells #[.int .i64 1, .int .i64 2, .slice none 0 0, .slice none 0 0] 33)
  have b2 := heap_alloc3_2 w (.cells #[.int .i64 1, .int .i64 2, .slice none 0 0, .slice none 0 0] 33) (.cells #[.int .i64 0, .int .i64 0, .slice none 0 0, .slice none 0 0] 33) (.cells #[.int .i64 1, .int .i64 2, .slice none 0 0, .slice none 0 0] 33)
  have HB0 := Lib.hid b0
  have HB1 := Lib.hid b1
  have HB2 := Lib.hid b2
  have HK0 := Lib.hid hK0
  clear b0 b1 b2 hK0
  go_enter Tryz.func18, Tryz.ntmps18
  go_wp2_with (go_at_call 32; refine (lf_1 _).mono ?_; rintro e w9 ⟨rfl, rfl⟩)
  go_quiet (exact (wd33_2 _).mono fun e w9 h => ⟨h.1, _, h.2.symm⟩)
  go_wp2_with (fail)
  generalize hw1 : World.drewN (((w.alloc (.cells #[.int .i64 1, .int .i64 2, .slice none 0 0, .slice none 0 0] 33)).alloc (.cells #[.int .i64 0, .int .i64 0, .slice none 0 0, .slice none 0 0] 33)).alloc (.cells #[.int .i64 1, .int .i64 2, .slice none 0 0, .slice none 0 0] 33)) _ = w1
  have b0 : w1.heap[w.heap.size]? = some (.cells #[.int .i64 1, .int .i64 2, .slice none 0 0, .slice none 0 0] 33) := by rw [← hw1]; exact HB0.out
  have b1 : w1.heap[w.heap.size + 1]? = some (.cells #[.int .i64 0, .int .i64 0, .slice none 0 0, .slice none 0 0] 33) := by rw [← hw1]; exact HB1.out
  have b2 : w1.heap[w.heap.size + 1 + 1]? = some (.cells #[.int .i64 1, .int .i64 2, .slice none 0 0, .slice none 0 0] 33) := by rw [← hw1]; exact HB2.out
  have hK1 : Keep (fun _ => False) w w1 := by rw [← hw1]; exact HK0.out.drewN _
  have hs1 : w1.heap.size = w.heap.size + 3 := by rw [← hw1]; exact (by simp only [World.size_alloc] : (((w.alloc (.cells #[.int .i64 1, .int .i64 2, .slice none 0 0, .slice none 0 0] 33)).alloc (.cells #[.int .i64 0, .int .i64 0, .slice none 0 0, .slice none 0 0] 33)).alloc (.cells #[.int .i64 1, .int .i64 2, .slice none 0 0, .slice none 0 0] 33)).heap.size = w.heap.size + 3)
  have HK1 := Lib.hid hK1
  have HB1 := Lib.hid b1
  have HB2 := Lib.hid b2
  clear HB0 HK0 hw1 hK1
  obtain ⟨c0, c1, c2, c3, c4, c5, c6, c7⟩ := cells4 b0
  obtain ⟨d0, d1, d2, d3, d4, d5, d6, d7⟩ := cells4 b1
  obtain ⟨e0, e1, e2, e3, e4, e5, e6, e7⟩ := cells4 b2
  clear b0 b1 b2
  refine wp_region_still_tail 10 (by kernel_rfl) (by kernel_rfl) ?_
  simp only [List.take_succ_cons, List.take_zero, List.drop_succ_cons, List.drop_zero]
  repeat still_step
  still_call ((wd33_2 _).mono fun e w h => ⟨h.1, h.2.symm⟩)
  repeat still_step
  try refine wpStill_nil ?_
  change wpList _ _ _ _ _ w1.drew
  have hK2 : Keep (fun _ => False) w w1.drew := HK1.out.drew
  have b1 : w1.drew.heap[w.heap.size + 1]? = some (.cells #[.int .i64 0, .int .i64 0, .slice none 0 0, .slice none 0 0] 33) := HB1.out
  have b2 : w1.drew.heap[w.heap.size + 1 + 1]? = some (.cells #[.int .i64 1, .int .i64 2, .slice none 0 0, .slice none 0 0] 33) := HB2.out
  have hs2 : w1.drew.heap.size = w.heap.size + 3 := hs1
  clear c0 c1 c2 c3 c4 c5 c6 c7 d0 d1 d2 d3 d4 d5 d6 d7 e0 e1 e2 e3 e4 e5 e6 e7 HK1 HB1 HB2 hs1
  generalize w1.drew = w2 at *
  obtain ⟨d0, d1, d2, d3, d4, d5, d6, d7⟩ := cells4 b1
  obtain ⟨e0, e1, e2, e3, e4, e5, e6, e7⟩ := cells4 b2
  have HK6 := Lib.hid hK2
  clear hK2
  go_wp2_with (fail)
  (try simp only [Exit.inBlock, Exit.then]); refine bodyPost_ret (results_one rfl _ _ _ _ _ _ _ rfl (blk4 ((Below.heap_setCell _ _ _ _ (show w.heap.size + 1 ≠ w.heap.size + 1 + 1 by omega)).trans b1) _ _ _ _) Tryz.underlying33 info33) rfl ?_
  exact kid_fin HK6.out (World.ownsRow_nil _ _ _ _) _ _ _ _ _
set_option maxRecDepth 100000 in
set_option maxHeartbeats 3200000 in
theorem nw_e2 (w : World) (g cap : Nat) : Calls Tryz.prog 18 #[.agg #[.int .i64 1, .int .i64 2, .slice (some ⟨g, 0, none⟩) 0 cap, .slice none 0 0]] w fun e w' => KidP (fun _ => False) w 2 [] e w' := by
  obtain ⟨i0, hi, hz0, hz1, hz2⟩ := info_parts fltInfo
  have hwr : IntKind.i64.wrap 0 = 0 := by decide +kernel
  have ha : Go.bits .and .i64 2 3 = 2 := by decide +kernel
  have hmn : min (0 : Int) 1 = 0 := by decide
  have hci : (0 : Int) ≤ (cap : Int) := by omega
  have hK0 := (((Keep.refl (fun _ => False) w).alloc (.cells #[.int .i64 1, .int .i64 2, .slice (some ⟨g, 0, none⟩) 0 cap, .slice none 0 0] 33)).alloc (.cells #[.int .i64 0, .int .i64 0, .slice none 0 0, .slice none 0 0] 33)).alloc (.cells #[.int .i64 1, .int .i64 2, .slice none 0 0, .slice none 0 0] 33)
  have b0 := heap_alloc3_0 w (.cells #[.int .i64 1, .int .i64 2, .slice (some ⟨g, 0, none⟩) 0 cap, .slice none 0 0] 33) (.cells #[.int .i64 0, .int .i64 0, .slice none 0 0, .slice none 0 0] 33) (.cells #[.int .i64 1, .int .i64 2, .slice none 0 0, .slice none 0 0] 33)
  have b1 := heap_alloc3_1 w (.cells #[.int .i64 1, .int .i64 2, .slice (some ⟨g, 0, none⟩) 0 cap, .slice none 0 0] 33) (.cells #[.int .i64 0, .int .i64 0, .slice none 0 0, .slice none 0 0] 33) (.cells #[.int .i64 1, .int .i64 2, .slice none 0 0, .slice none 0 0] 33)
  have b2 := heap_alloc3_2 w (.cells #[.int .i64 1, .int .i64 2, .slice (some ⟨g, 0, none⟩) 0 cap, .slice none 0 0] 33) (.cells #[.int .i64 0, .int .i64 0, .slice none 0 0, .slice none 0 0] 33) (.cells #[.int .i64 1, .int .i64 2, .slice none 0 0, .slice none 0 0] 33)
  have HB0 := Lib.hid b0
  have HB1 := Lib.hid b1
  have HB2 := Lib.hid b2
  have HK0 := Lib.hid hK0
  clear b0 b1 b2 hK0
  go_enter Tryz.func18, Tryz.ntmps18
  go_wp2_with (go_at_call 32; refine (lf_1 _).mono ?_; rintro e w9 ⟨rfl, rfl⟩)
  go_quiet (exact (wd33_2 _).mono fun e w9 h => ⟨h.1, _, h.2.symm⟩)
  go_wp2_with (fail)
  generalize hw1 : World.drewN (((w.alloc (.cells #[.int .i64 1, .int .i64 2, .slice (some ⟨g, 0, none⟩) 0 cap, .slice none 0 0] 33)).alloc (.cells #[.int .i64 0, .int .i64 0, .slice none 0 0, .slice none 0 0] 33)).alloc (.cells #[.int .i64 1, .int .i64 2, .slice none 0 0, .slice none 0 0] 33)) _ = w1
  have b0 : w1.heap[w.heap.size]? = some (.cells #[.int .i64 1, .int .i64 2, .slice (some ⟨g, 0, none⟩) 0 cap, .slice none 0 0] 33) := by rw [← hw1]; exact HB0.out
  have b1 : w1.heap[w.heap.size + 1]? = some (.cells #[.int .i64 0, .int .i64 0, .slice none 0 0, .slice none 0 0] 33) := by rw [← hw1]; exact HB1.out
  have b2 : w1.heap[w.heap.size + 1 + 1]? = some (.cells #[.int .i64 1, .int .i64 2, .slice none 0 0, .slice none 0 0] 33) := by rw [← hw1]; exact HB2.out
  have hK1 : Keep (fun _ => False) w w1 := by rw [← hw1]; exact HK0.out.drewN _
  have hs1 : w1.heap.size = w.heap.size + 3 := by rw [← hw1]; exact (by simp only [World.size_alloc] : (((w.alloc (.cells #[.int .i64 1, .int .i64 2, .slice (some ⟨g, 0, none⟩) 0 cap, .slice none 0 0] 33)).alloc (.cells #[.int .i64 0, .int .i64 0, .slice none 0 0, .slice none 0 0] 33)).alloc (.cells #[.int .i64 1, .int .i64 2, .slice none 0 0, .slice none 0 0] 33)).heap.size = w.heap.size + 3)
  have HK1 := Lib.hid hK1
  have HB1 := Lib.hid b1
  have HB2 := Lib.hid b2
  clear HB0 HK0 hw1 hK1
  obtain ⟨c0, c1, c2, c3, c4, c5, c6, c7⟩ := cells4 b0
  obtain ⟨d0, d1, d2, d3, d4, d5, d6, d7⟩ := cells4 b1
  obtain ⟨e0, e1, e2, e3, e4, e5, e6, e7⟩ := cells4 b2
  clear b0 b1 b2
  refine wp_region_still_tail 10 (by kernel_rfl) (by kernel_rfl) ?_
  simp only [List.take_succ_cons, List.take_zero, List.drop_succ_cons, List.drop_zero]
  repeat still_step
  still_call ((wd33_2 _).mono fun e w h => ⟨h.1, h.2.symm⟩)
  repeat still_step
  try refine wpStill_nil ?_
  change wpList _ _ _ _ _ w1.drew
  have hK2 : Keep (fun _ => False) w w1.drew := HK1.out.drew
  have b1 : w1.drew.heap[w.heap.size + 1]? = some (.cells #[.int .i64 0, .int .i64 0, .slice none 0 0, .slice none 0 0] 33) := HB1.out
  have b2 : w1.drew.heap[w.heap.size + 1 + 1]? = some (.cells #[.int .i64 1, .int .i64 2, .slice none 0 0, .slice none 0 0] 33) := HB2.out
  have hs2 : w1.drew.heap.size = w.heap.size + 3 := hs1
  clear c0 c1 c2 c3 c4 c5 c6 c7 d0 d1 d2 d3 d4 d5 d6 d7 e0 e1 e2 e3 e4 e5 e6 e7 HK1 HB1 HB2 hs1
  generalize w1.drew = w2 at *
  obtain ⟨d0, d1, d2, d3, d4, d5, d6, d7⟩ := cells4 b1
  obtain ⟨e0, e1, e2, e3, e4, e5, e6, e7⟩ := cells4 b2
  have HK6 := Lib.hid hK2
  clear hK2
  go_wp2_with (fail)
  (try simp only [Exit.inBlock, Exit.then]); refine bodyPost_ret (results_one rfl _ _ _ _ _ _ _ rfl (blk4 ((Below.heap_setCell _ _ _ _ (show w.heap.size + 1 ≠ w.heap.size + 1 + 1 by omega)).trans b1) _ _ _ _) Tryz.underlying33 info33) rfl ?_
  exact kid_fin HK6.out (World.ownsRow_nil _ _ _ _) _ _ _ _ _
set_option maxRecDepth 100000 in
set_option maxHeartbeats 3200000 in
theorem nw_f2 (w : World) (v : Value) (x y m : Nat) (hv : NmC w v [x, y, m]) : Calls Tryz.prog 18 #[.agg #[.int .i64 1, .int .i64 2, v, .slice none 0 0]] w fun e w' => KidP (fun _ => False) w 2 [x, y, m] e w' := by
  obtain ⟨i0, hi, hz0, hz1, hz2⟩ := info_parts fltInfo
  have hwr : IntKind.i64.wrap 3 = 3 := by decide +kernel
  have ha : Go.bits .and .i64 2 3 = 2 := by decide +kernel
  obtain ⟨⟨a, cap, rfl, hc⟩, ⟨a2, cap2, he2, hcap⟩, _⟩ := hv
  cases he2
  have hcap : 3 ≤ cap := hcap
  have hci : (3 : Int) ≤ (cap : Int) := by omega
  obtain ⟨g, rfl, hg, _⟩ := hc 0 x rfl
  have hcell : ∀ i u, [x, y, m][i]? = some u → w.cell? ⟨g, i, none⟩ = some (.float .f64 u) := by
    intro i u hx
    obtain ⟨g', e, _, hh⟩ := hc i u hx
    cases e
    exact hh
  have HC := Lib.hid hcell
  clear hcell hc
  have hK0 := (((Keep.refl (fun _ => False) w).alloc (.cells #[.int .i64 1, .int .i64 2, .slice (some ⟨g, 0, none⟩) 3 cap, .slice none 0 0] 33)).alloc (.cells #[.int .i64 0, .int .i64 0, .slice none 0 0, .slice none 0 0] 33)).alloc (.cells #[.int .i64 1, .int .i64 2, .slice none 0 0, .slice none 0 0] 33)
  have b0 := heap_alloc3_0 w (.cells #[.int .i64 1, .int .i64 2, .slice (some ⟨g, 0, none⟩) 3 cap, .slice none 0 0] 33) (.cells #[.int .i64 0, .int .i64 0, .slice none 0 0, .slice none 0 0] 33) (.cells #[.int .i64 1, .int .i64 2, .slice none 0 0, .slice none 0 0] 33)
  have b1 := heap_alloc3_1 w (.cells #[.int .i64 1, .int .i64 2, .slice (some ⟨g, 0, none⟩) 3 cap, .slice none 0 0] 33) (.cells #[.int .i64 0, .int .i64 0, .slice none 0 0, .slice none 0 0] 33) (.cells #[.int .i64 1, .int .i64 2, .slice none 0 0, .slice none 0 0] 33)
  have b2 := heap_alloc3_2 w (.cells #[.int .i64 1, .int .i64 2, .slice (some ⟨g, 0, none⟩) 3 cap, .slice none 0 0] 33) (.cells #[.int .i64 0, .int .i64 0, .slice none 0 0, .slice none 0 0] 33) (.cells #[.int .i64 1, .int .i64 2, .slice none 0 0, .slice none 0 0] 33)
  have HB0 := Lib.hid b0
  have HB1 := Lib.hid b1
  have HB2 := Lib.hid b2
  have HK0 := Lib.hid hK0
  clear b0 b1 b2 hK0
  go_enter Tryz.func18, Tryz.ntmps18
  go_wp2_with (go_at_call 32; refine (lf_1 _).mono ?_; rintro e w9 ⟨rfl, rfl⟩)
  go_quiet (exact (wd33_2 _).mono fun e w9 h => ⟨h.1, _, h.2.symm⟩)
  go_wp2_with (fail)
  generalize hw1 : World.drewN (((w.alloc (.cells #[.int .i64 1, .int .i64 2, .slice (some ⟨g, 0, none⟩) 3 cap, .slice none 0 0] 33)).alloc (.cells #[.int .i64 0, .int .i64 0, .slice none 0 0, .slice none 0 0] 33)).alloc (.cells #[.int .i64 1, .int .i64 2, .slice none 0 0, .slice none 0 0] 33)) _ = w1
  have b0 : w1.heap[w.heap.size]? = some (.cells #[.int .i64 1, .int .i64 2, .slice (some ⟨g, 0, none⟩) 3 cap, .slice none 0 0] 33) := by rw [← hw1]; exact HB0.out
  have b1 : w1.heap[w.heap.size + 1]? = some (.cells #[.int .i64 0, .int .i64 0, .slice none 0 0, .slice none 0 0] 33) := by rw [← hw1]; exact HB1.out
  have b2 : w1.heap[w.heap.size + 1 + 1]? = some (.cells #[.int .i64 1, .int .i64 2, .slice none 0 0, .slice none 0 0] 33) := by rw [← hw1]; exact HB2.out
  have hK1 : Keep (fun _ => False) w w1 := by rw [← hw1]; exact HK0.out.drewN _
  have hs1 : w1.heap.size = w.heap.size + 3 := by rw [← hw1]; exact (by simp only [World.size_alloc] : (((w.alloc (.cells #[.int .i64 1, .int .i64 2, .slice (some ⟨g, 0, none⟩) 3 cap, .slice none 0 0] 33)).alloc (.cells #[.int .i64 0, .int .i64 0, .slice none 0 0, .slice none 0 0] 33)).alloc (.cells #[.int .i64 1, .int .i64 2, .slice none 0 0, .slice none 0 0] 33)).heap.size = w.heap.size + 3)
  have HK1 := Lib.hid hK1
  have HB1 := Lib.hid b1
  have HB2 := Lib.hid b2
  clear HB0 HK0 hw1 hK1
  obtain ⟨c0, c1, c2, c3, c4, c5, c6, c7⟩ := cells4 b0
  obtain ⟨d0, d1, d2, d3, d4, d5, d6, d7⟩ := cells4 b1
  obtain ⟨e0, e1, e2, e3, e4, e5, e6, e7⟩ := cells4 b2
  clear b0 b1 b2
  refine wp_region_still_tail 10 (by kernel_rfl) (by kernel_rfl) ?_
  simp only [List.take_succ_cons, List.take_zero, List.drop_succ_cons, List.drop_zero]
  repeat still_step
  still_call ((wd33_2 _).mono fun e w h => ⟨h.1, h.2.symm⟩)
  repeat still_step
  try refine wpStill_nil ?_
  change wpList _ _ _ _ _ w1.drew
  have hK2 : Keep (fun _ => False) w w1.drew := HK1.out.drew
  have b1 : w1.drew.heap[w.heap.size + 1]? = some (.cells #[.int .i64 0, .int .i64 0, .slice none 0 0, .slice none 0 0] 33) := HB1.out
  have b2 : w1.drew.heap[w.heap.size + 1 + 1]? = some (.cells #[.int .i64 1, .int .i64 2, .slice none 0 0, .slice none 0 0] 33) := HB2.out
  have hs2 : w1.drew.heap.size = w.heap.size + 3 := hs1
  clear c0 c1 c2 c3 c4 c5 c6 c7 d0 d1 d2 d3 d4 d5 d6 d7 e0 e1 e2 e3 e4 e5 e6 e7 HK1 HB1 HB2 hs1
  generalize w1.drew = w2 at *
  refine wpList_append_own (P := Tryz.prog) (w := w2) rfl (.tmp 40) (.tmp 48) 30 rfl (w.heap.size + 3) 65 i0 _ 1 8 Tryz.underlying30 hi hz0 hz1 hz2 rfl (by omega) (.slice none 0 0) 0 [] (by rfl) (World.ownsRow_nil _ _ _ _) ⟨g, 0, none⟩ 3 cap (fl [x, y, m]) (by rfl) (by rfl) ?_ (by intro u hu; simp [fl] at hu; rcases hu with rfl | rfl | rfl <;> rfl) (by unfold maxLen; omega) (by omega) (by omega) ?_
  · intro j u hu
    have hadd : (⟨g, 0, none⟩ : Addr).add j = ⟨g, j, none⟩ := by unfold Addr.add; split <;> simp_all
    rw [hadd]
    simp only [fl, List.getElem?_map, Option.map_eq_some_iff] at hu
    obtain ⟨q, hq, rfl⟩ := hu
    exact hK2.cell (HC.out j q hq) (fun h => h)
  intro v6 w6 ho6 hg6 _
  have hK6 := hK2.grown (World.ownsRow_nil _ _ 65 1) hg6
  have b1 := (hg6.block _ (Array.getElem?_eq_some_iff.1 b1).1 (by intro e; cases e)).trans b1
  have b2 := (hg6.block _ (Array.getElem?_eq_some_iff.1 b2).1 (by intro e; cases e)).trans b2
  have hn : w6.ownsRow (w.heap.size + 3) 65 1 v6 ([x, y, m]).length (fl [x, y, m]) := by simpa using ho6
  clear ho6 hg6 hK2
  obtain ⟨a6, c6, hv6⟩ := own_form hn
  subst hv6
  obtain ⟨d0, d1, d2, d3, d4, d5, d6, d7⟩ := cells4 b1
  obtain ⟨e0, e1, e2, e3, e4, e5, e6, e7⟩ := cells4 b2
  have HN := Lib.hid hn
  have HK6 := Lib.hid hK6
  clear hn hK6
  go_wp2_with (fail)
  (try simp only [Exit.inBlock, Exit.then]); refine bodyPost_ret (results_one rfl _ _ _ _ _ _ _ rfl (blk4 ((Below.heap_setCell _ _ _ _ (show w.heap.size + 1 ≠ w.heap.size + 1 + 1 by omega)).trans b1) _ _ _ _) Tryz.underlying33 info33) rfl ?_
  exact kid_fin HK6.out HN.out _ _ _ _ _
set_option maxRecDepth 100000 in
set_option maxHeartbeats 3200000 in
theorem nw_z3 (w : World) : Calls Tryz.prog 18 #[.agg #[.int .i64 1, .int .i64 3, .slice none 0 0, .slice none 0 0]] w fun e w' => KidP (fun _ => False) w 3 [] e w' := by
  obtain ⟨i0, hi, hz0, hz1, hz2⟩ := info_parts fltInfo
  have hwr : IntKind.i64.wrap 0 = 0 := by decide +kernel
  have ha : Go.bits .and .i64 3 3 = 3 := by decide +kernel
  have hmn : min (0 : Int) 1 = 0 := by decide
  have hK0 := (((Keep.refl (fun _ => False) w).alloc (.cells #[.int .i64 1, .int .i64 3, .slice none 0 0, .slice none 0 0] 33)).alloc (.cells #[.int .i64 0, .int .i64 0, .slice none 0 0, .slice none 0 0] 33)).alloc (.cells #[.int .i64 1, .int .i64 3, .slice none 0 0, .slice none 0 0] 33)
  have b0 := heap_alloc3_0 w (.cells #[.int .i64 1, .int .i64 3, .slice none 0 0, .slice none 0 0] 33) (.cells #[.int .i64 0, .int .i64 0, .slice none 0 0, .slice none 0 0] 33) (.cells #[.int .i64 1, .int .i64 3, .slice none 0 0, .slice none 0 0] 33)
  have b1 := heap_alloc3_1 w (.cells #[.int .i64 1, .int .i64 3, .slice none 0 0, .slice none 0 0] 33) (.cells #[.int .i64 0, .int .i64 0, .slice none 0 0, .slice none 0 0] 33) (.cells #[.int .i64 1, .int .i64 3, .slice none 0 0, .slice none 0 0] 33)
  have b2 := heap_alloc3_2 w (.cells #[.int .i64 1, .int .i64 3, .slice none 0 0, .slice none 0 0] 33) (.cells #[.int .i64 0, .int .i64 0, .slice none 0 0, .slice none 0 0] 33) (.cells #[.int .i64 1, .int .i64 3, .slice none 0 0, .slice none 0 0] 33)
  have HB0 := Lib.hid b0
  have HB1 := Lib.hid b1
  have HB2 := Lib.hid b2
  have HK0 := Lib.hid hK0
  clear b0 b1 b2 hK0
  go_enter Tryz.func18, Tryz.ntmps18
  go_wp2_with (go_at_call 32; refine (lf_1 _).mono ?_; rintro e w9 ⟨rfl, rfl⟩)
  go_quiet (exact (wd33_3 _).mono fun e w9 h => ⟨h.1, _, h.2.symm⟩)
  go_wp2_with (fail)
  generalize hw1 : World.drewN (((w.alloc (.cells #[.int .i64 1, .int .i64 3, .slice none 0 0, .slice none 0 0] 33)).alloc (.cells #[.int .i64 0, .int .i64 0, .slice none 0 0, .slice none 0 0] 33)).alloc (.cells #[.int .i64 1, .int .i64 3, .slice none 0 0, .slice none 0 0] 33)) _ = w1
  have b0 : w1.heap[w.heap.size]? = some (.cells #[.int .i64 1, .int .i64 3, .slice none 0 0, .slice none 0 0] 33) := by rw [← hw1]; exact HB0.out
  have b1 : w1.heap[w.heap.size + 1]? = some (.cells #[.int .i64 0, .int .i64 0, .slice none 0 0, .slice none 0 0] 33) := by rw [← hw1]; exact HB1.out
  have b2 : w1.heap[w.heap.size + 1 + 1]? = some (.cells #[.int .i64 1, .int .i64 3, .slice none 0 0, .slice none 0 0] 33) := by rw [← hw1]; exact HB2.out
  have hK1 : Keep (fun _ => False) w w1 := by rw [← hw1]; exact HK0.out.drewN _
  have hs1 : w1.heap.size = w.heap.size + 3 := by rw [← hw1]; exact (by simp only [World.size_alloc] : (((w.alloc (.cells #[.int .i64 1, .int .i64 3, .slice none 0 0, .slice none 0 0] 33)).alloc (.cells #[.int .i64 0, .int .i64 0, .slice none 0 0, .slice none 0 0] 33)).alloc (.cells #[.int .i64 1, .int .i64 3, .slice none 0 0, .slice none 0 0] 33)).heap.size = w.heap.size + 3)
  have HK1 := Lib.hid hK1
  have HB1 := Lib.hid b1
  have HB2 := Lib.hid b2
  clear HB0 HK0 hw1 hK1
  obtain ⟨c0, c1, c2, c3, c4, c5, c6, c7⟩ := cells4 b0
  obtain ⟨d0, d1, d2, d3, d4, d5, d6, d7⟩ := cells4 b1
  obtain ⟨e0, e1, e2, e3, e4, e5, e6, e7⟩ := cells4 b2
  clear b0 b1 b2
  refine wp_region_still_tail 10 (by kernel_rfl) (by kernel_rfl) ?_
  simp only [List.take_succ_cons, List.take_zero, List.drop_succ_cons, List.drop_zero]
  repeat still_step
  still_call ((wd33_3 _).mono fun e w h => ⟨h.1, h.2.symm⟩)
  repeat still_step
  try refine wpStill_nil ?_
  change wpList _ _ _ _ _ w1.drew
  have hK2 : Keep (fun _ => False) w w1.drew := HK1.out.drew
  have b1 : w1.drew.heap[w.heap.size + 1]? = some (.cells #[.int .i64 0, .int .i64 0, .slice none 0 0, .slice none 0 0] 33) := HB1.out
  have b2 : w1.drew.heap[w.heap.size + 1 + 1]? = some (.cells #[.int .i64 1, .int .i64 3, .slice none 0 0, .slice none 0 0] 33) := HB2.out
  have hs2 : w1.drew.heap.size = w.heap.size + 3 := hs1
  clear c0 c1 c2 c3 c4 c5 c6 c7 d0 d1 d2 d3 d4 d5 d6 d7 e0 e1 e2 e3 e4 e5 e6 e7 HK1 HB1 HB2 hs1
  generalize w1.drew = w2 at *
  obtain ⟨d0, d1, d2, d3, d4, d5, d6, d7⟩ := cells4 b1
  obtain ⟨e0, e1, e2, e3, e4, e5, e6, e7⟩ := cells4 b2
  have HK6 := Lib.hid hK2
  clear hK2
  go_wp2_with (fail)
  (try simp only [Exit.inBlock, Exit.then]); refine bodyPost_ret (results_one rfl _ _ _ _ _ _ _ rfl (blk4 ((Below.heap_setCell _ _ _ _ (show w.heap.size + 1 ≠ w.heap.size + 1 + 1 by omega)).trans b1) _ _ _ _) Tryz.underlying33 info33) rfl ?_
  exact kid_fin HK6.out (World.ownsRow_nil _ _ _ _) _ _ _ _ _
set_option maxRecDepth 100000 in
set_option maxHeartbeats 3200000 in
theorem nw_e3 (w : World) (g cap : Nat) : Calls Tryz.prog 18 #[.agg #[.int .i64 1, .int .i64 3, .slice (some ⟨g, 0, none⟩) 0 cap, .slice none 0 0]] w fun e w' => KidP (fun _ => False) w 3 [] e w' := by
  obtain ⟨i0, hi, hz0, hz1, hz2⟩ := info_parts fltInfo
  have hwr : IntKind.i64.wrap 0 = 0 := by decide +kernel
  have ha : Go.bits .and .i64 3 3 = 3 := by decide +kernel
  have hmn : min (0 : Int) 1 = 0 := by decide
  have hci : (0 : Int) ≤ (cap : Int) := by omega
  have hK0 := (((Keep.refl (fun _ => False) w).alloc (.cells #[.int .i64 1, .int .i64 3, .slice (some ⟨g, 0, none⟩) 0 cap, .slice none 0 0] 33)).alloc (.cells #[.int .i64 0, .int .i64 0, .slice none 0 0, .slice none 0 0] 33)).alloc (.cells #[.int .i64 1, .int .i64 3, .slice none 0 0, .slice none 0 0] 33)
  have b0 := heap_alloc3_0 w (.cells #[.int .i64 1, .int .i64 3, .slice (some ⟨g, 0, none⟩) 0 cap, .slice none 0 0] 33) (.cells #[.int .i64 0, .int .i64 0, .slice none 0 0, .slice none 0 0] 33) (.cells #[.int .i64 1, .int .i64 3, .slice none 0 0, .slice none 0 0] 33)
  have b1 := heap_alloc3_1 w (.cells #[.int .i64 1, .int .i64 3, .slice (some ⟨g, 0, none⟩) 0 cap, .slice none 0 0] 33) (.cells #[.int .i64 0, .int .i64 0, .slice none 0 0, .slice none 0 0] 33) (.cells #[.int .i64 1, .int .i64 3, .slice none 0 0, .slice none 0 0] 33)
  have b2 := heap_alloc3_2 w (.cells #[.int .i64 1, .int .i64 3, .slice (some ⟨g, 0, none⟩) 0 cap, .slice none 0 0] 33) (.cells #[.int .i64 0, .int .i64 0, .slice none 0 0, .slice none 0 0] 33) (.cells #[.int .i64 1, .int .i64 3, .slice none 0 0, .slice none 0 0] 33)
  have HB0 := Lib.hid b0
  have HB1 := Lib.hid b1
  have HB2 := Lib.hid b2
  have HK0 := Lib.hid hK0
  clear b0 b1 b2 hK0
  go_enter Tryz.func18, Tryz.ntmps18
  go_wp2_with (go_at_call 32; refine (lf_1 _).mono ?_; rintro e w9 ⟨rfl, rfl⟩)
  go_quiet (exact (wd33_3 _).mono fun e w9 h => ⟨h.1, _, h.2.symm⟩)
  go_wp2_with (fail)
  generalize hw1 : World.drewN (((w.alloc (.cells #[.int .i64 1, .int .i64 3, .slice (some ⟨g, 0, none⟩) 0 cap, .slice none 0 0] 33)).alloc (.cells #[.int .i64 0, .int .i64 0, .slice none 0 0, .slice none 0 0] 33)).alloc (.cells #[.int .i64 1, .int .i64 3, .slice none 0 0, .slice none 0 0] 33)) _ = w1
  have b0 : w1.heap[w.heap.size]? = some (.cells #[.int .i64 1, .int .i64 3, .slice (some ⟨g, 0, none⟩) 0 cap, .slice none 0 0] 33) := by rw [← hw1]; exact HB0.out
  have b1 : w1.heap[w.heap.size + 1]? = some (.cells #[.int .i64 0, .int .i64 0, .slice none 0 0, .slice none 0 0] 33) := by rw [← hw1]; exact HB1.out
  have b2 : w1.heap[w.heap.size + 1 + 1]? = some (.cells #[.int .i64 1, .int .i64 3, .slice none 0 0, .slice none 0 0] 33) := by rw [← hw1]; exact HB2.out
  have hK1 : Keep (fun _ => False) w w1 := by rw [← hw1]; exact HK0.out.drewN _
  have hs1 : w1.heap.size = w.heap.size + 3 := by rw [← hw1]; exact (by simp only [World.size_alloc] : (((w.alloc (.cells #[.int .i64 1, .int .i64 3, .slice (some ⟨g, 0, none⟩) 0 cap, .slice none 0 0] 33)).alloc (.cells #[.int .i64 0, .int .i64 0, .slice none 0 0, .slice none 0 0] 33)).alloc (.cells #[.int .i64 1, .int .i64 3, .slice none 0 0, .slice none 0 0] 33)).heap.size = w.heap.size + 3)
  have HK1 := Lib.hid hK1
  have HB1 := Lib.hid b1
  have HB2 := Lib.hid b2
  clear HB0 HK0 hw1 hK1
  obtain ⟨c0, c1, c2, c3, c4, c5, c6, c7⟩ := cells4 b0
  obtain ⟨d0, d1, d2, d3, d4, d5, d6, d7⟩ := cells4 b1
  obtain ⟨e0, e1, e2, e3, e4, e5, e6, e7⟩ := cells4 b2
  clear b0 b1 b2
  refine wp_region_still_tail 10 (by kernel_rfl) (by kernel_rfl) ?_
  simp only [List.take_succ_cons, List.take_zero, List.drop_succ_cons, List.drop_zero]
  repeat still_step
  still_call ((wd33_3 _).mono fun e w h => ⟨h.1, h.2.symm⟩)
  repeat still_step
  try refine wpStill_nil ?_
  change wpList _ _ _ _ _ w1.drew
  have hK2 : Keep (fun _ => False) w w1.drew := HK1.out.drew
  have b1 : w1.drew.heap[w.heap.size + 1]? = some (.cells #[.int .i64 0, .int .i64 0, .slice none 0 0, .slice none 0 0] 33) := HB1.out
  have b2 : w1.drew.heap[w.heap.size + 1 + 1]? = some (.cells #[.int .i64 1, .int .i64 3, .slice none 0 0, .slice none 0 0] 33) := HB2.out
  have hs2 : w1.drew.heap.size = w.heap.size + 3 := hs1
  clear c0 c1 c2 c3 c4 c5 c6 c7 d0 d1 d2 d3 d4 d5 d6 d7 e0 e1 e2 e3 e4 e5 e6 e7 HK1 HB1 HB2 hs1
  generalize w1.drew = w2 at *
  obtain ⟨d0, d1, d2, d3, d4, d5, d6, d7⟩ := cells4 b1
  obtain ⟨e0, e1, e2, e3, e4, e5, e6, e7⟩ := cells4 b2
  have HK6 := Lib.hid hK2
  clear hK2
  go_wp2_with (fail)
  (try simp only [Exit.inBlock, Exit.then]); refine bodyPost_ret (results_one rfl _ _ _ _ _ _ _ rfl (blk4 ((Below.heap_setCell _ _ _ _ (show w.heap.size + 1 ≠ w.heap.size + 1 + 1 by omega)).trans b1) _ _ _ _) Tryz.underlying33 info33) rfl ?_
  exact kid_fin HK6.out (World.ownsRow_nil _ _ _ _) _ _ _ _ _
set_option maxRecDepth 100000 in
set_option maxHeartbeats 3200000 in
theorem nw_f3 (w : World) (v : Value) (x y z m : Nat) (hv : NmC w v [x, y, z, m]) : Calls Tryz.prog 18 #[.agg #[.int .i64 1, .int .i64 3, v, .slice none 0 0]] w fun e w' => KidP (fun _ => False) w 3 [x, y, z, m] e w' := by
  obtain ⟨i0, hi, hz0, hz1, hz2⟩ := info_parts fltInfo
  have hwr : IntKind.i64.wrap 4 = 4 := by decide +kernel
  have ha : Go.bits .and .i64 3 3 = 3 := by decide +kernel
  obtain ⟨⟨a, cap, rfl, hc⟩, ⟨a2, cap2, he2, hcap⟩, _⟩ := hv
  cases he2
  have hcap : 4 ≤ cap := hcap
  have hci : (4 : Int) ≤ (cap : Int) := by omega
  obtain ⟨g, rfl, hg, _⟩ := hc 0 x rfl
  have hcell : ∀ i u, [x, y, z, m][i]? = some u → w.cell? ⟨g, i, none⟩ = some (.float .f64 u) := by
    intro i u hx
    obtain ⟨g', e, _, hh⟩ := hc i u hx
    cases e
    exact hh
  have HC := Lib.hid hcell
  clear hcell hc
  have hK0 := (((Keep.refl (fun _ => False) w).alloc (.cells #[.int .i64 1, .int .i64 3, .slice (some ⟨g, 0, none⟩) 4 cap, .slice none 0 0] 33)).alloc (.cells #[.int .i64 0, .int .i64 0, .slice none 0 0, .slice none 0 0] 33)).alloc (.cells #[.int .i64 1, .int .i64 3, .slice none 0 0, .slice none 0 0] 33)
  have b0 := heap_alloc3_0 w (.cells #[.int .i64 1, .int .i64 3, .slice (some ⟨g, 0, none⟩) 4 cap, .slice none 0 0] 33) (.cells #[.int .i64 0, .int .i64 0, .slice none 0 0, .slice none 0 0] 33) (.cells #[.int .i64 1, .int .i64 3, .slice none 0 0, .slice none 0 0] 33)
  have b1 := heap_alloc3_1 w (.cells #[.int .i64 1, .int .i64 3, .slice (some ⟨g, 0, none⟩) 4 cap, .slice none 0 0] 33) (.cells #[.int .i64 0, .int .i64 0, .slice none 0 0, .slice none 0 0] 33) (.cells #[.int .i64 1, .int .i64 3, .slice none 0 0, .slice none 0 0] 33)
  have b2 := heap_alloc3_2 w (.cells #[.int .i64 1, .int .i64 3, .slice (some ⟨g, 0, none⟩) 4 cap, .slice none 0 0] 33) (.cells #[.int .i64 0, .int .i64 0, .slice none 0 0, .slice none 0 0] 33) (.cells #[.int .i64 1, .int .i64 3, .slice none 0 0, .slice none 0 0] 33)
  have HB0 := Lib.hid b0
  have HB1 := Lib.hid b1
  have HB2 := Lib.hid b2
  have HK0 := Lib.hid hK0
  clear b0 b1 b2 hK0
  go_enter Tryz.func18, Tryz.ntmps18
  go_wp2_with (go_at_call 32; refine (lf_1 _).mono ?_; rintro e w9 ⟨rfl, rfl⟩)
  go_quiet (exact (wd33_3 _).mono fun e w9 h => ⟨h.1, _, h.2.symm⟩)
  go_wp2_with (fail)
  generalize hw1 : World.drewN (((w.alloc (.cells #[.int .i64 1, .int .i64 3, .slice (some ⟨g, 0, none⟩) 4 cap, .slice none 0 0] 33)).alloc (.cells #[.int .i64 0, .int .i64 0, .slice none 0 0, .slice none 0 0] 33)).alloc (.cells #[.int .i64 1, .int .i64 3, .slice none 0 0, .slice none 0 0] 33)) _ = w1
  have b0 : w1.heap[w.heap.size]? = some (.cells #[.int .i64 1, .int .i64 3, .slice (some ⟨g, 0, none⟩) 4 cap, .slice none 0 0] 33) := by rw [← hw1]; exact HB0.out
  have b1 : w1.heap[w.heap.size + 1]? = some (.cells #[.int .i64 0, .int .i64 0, .slice none 0 0, .slice none 0 0] 33) := by rw [← hw1]; exact HB1.out
  have b2 : w1.heap[w.heap.size + 1 + 1]? = some (.cells #[.int .i64 1, .int .i64 3, .slice none 0 0, .slice none 0 0] 33) := by rw [← hw1]; exact HB2.out
  have hK1 : Keep (fun _ => False) w w1 := by rw [← hw1]; exact HK0.out.drewN _
  have hs1 : w1.heap.size = w.heap.size + 3 := by rw [← hw1]; exact (by simp only [World.size_alloc] : (((w.alloc (.cells #[.int .i64 1, .int .i64 3, .slice (some ⟨g, 0, none⟩) 4 cap, .slice none 0 0] 33)).alloc (.cells #[.int .i64 0, .int .i64 0, .slice none 0 0, .slice none 0 0] 33)).alloc (.cells #[.int .i64 1, .int .i64 3, .slice none 0 0, .slice none 0 0] 33)).heap.size = w.heap.size + 3)
  have HK1 := Lib.hid hK1
  have HB1 := Lib.hid b1
  have HB2 := Lib.hid b2
  clear HB0 HK0 hw1 hK1
  obtain ⟨c0, c1, c2, c3, c4, c5, c6, c7⟩ := cells4 b0
  obtain ⟨d0, d1, d2, d3, d4, d5, d6, d7⟩ := cells4 b1
  obtain ⟨e0, e1, e2, e3, e4, e5, e6, e7⟩ := cells4 b2
  clear b0 b1 b2
  refine wp_region_still_tail 10 (by kernel_rfl) (by kernel_rfl) ?_
  simp only [List.take_succ_cons, List.take_zero, List.drop_succ_cons, List.drop_zero]
  repeat still_step
  still_call ((wd33_3 _).mono fun e w h => ⟨h.1, h.2.symm⟩)
  repeat still_step
  try refine wpStill_nil ?_
  change wpList _ _ _ _ _ w1.drew
  have hK2 : Keep (fun _ => False) w w1.drew := HK1.out.drew
  have b1 : w1.drew.heap[w.heap.size + 1]? = some (.cells #[.int .i64 0, .int .i64 0, .slice none 0 0, .slice none 0 0] 33) := HB1.out
  have b2 : w1.drew.heap[w.heap.size + 1 + 1]? = some (.cells #[.int .i64 1, .int .i64 3, .slice none 0 0, .slice none 0 0] 33) := HB2.out
  have hs2 : w1.drew.heap.size = w.heap.size + 3 := hs1
  clear c0 c1 c2 c3 c4 c5 c6 c7 d0 d1 d2 d3 d4 d5 d6 d7 e0 e1 e2 e3 e4 e5 e6 e7 HK1 HB1 HB2 hs1
  generalize w1.drew = w2 at *
  refine wpList_append_own (P := Tryz.prog) (w := w2) rfl (.tmp 40) (.tmp 48) 30 rfl (w.heap.size + 3) 65 i0 _ 1 8 Tryz.underlying30 hi hz0 hz1 hz2 rfl (by omega) (.slice none 0 0) 0 [] (by rfl) (World.ownsRow_nil _ _ _ _) ⟨g, 0, none⟩ 4 cap (fl [x, y, z, m]) (by rfl) (by rfl) ?_ (by intro u hu; simp [fl] at hu; rcases hu with rfl | rfl | rfl | rfl <;> rfl) (by unfold maxLen; omega) (by omega) (by omega) ?_
  · intro j u hu
    have hadd : (⟨g, 0, none⟩ : Addr).add j = ⟨g, j, none⟩ := by unfold Addr.add; split <;> simp_all
    rw [hadd]
    simp only [fl, List.getElem?_map, Option.map_eq_some_iff] at hu
    obtain ⟨q, hq, rfl⟩ := hu
    exact hK2.cell (HC.out j q hq) (fun h => h)
  intro v6 w6 ho6 hg6 _
  have hK6 := hK2.grown (World.ownsRow_nil _ _ 65 1) hg6
  have b1 := (hg6.block _ (Array.getElem?_eq_some_iff.1 b1).1 (by intro e; cases e)).trans b1
  have b2 := (hg6.block _ (Array.getElem?_eq_some_iff.1 b2).1 (by intro e; cases e)).trans b2
  have hn : w6.ownsRow (w.heap.size + 3) 65 1 v6 ([x, y, z, m]).length (fl [x, y, z, m]) := by simpa using ho6
  clear ho6 hg6 hK2
  obtain ⟨a6, c6, hv6⟩ := own_form hn
  subst hv6
  obtain ⟨d0, d1, d2, d3, d4, d5, d6, d7⟩ := cells4 b1
  obtain ⟨e0, e1, e2, e3, e4, e5, e6, e7⟩ := cells4 b2
  have HN := Lib.hid hn
  have HK6 := Lib.hid hK6
  clear hn hK6
  go_wp2_with (fail)
  (try simp only [Exit.inBlock, Exit.then]); refine bodyPost_ret (results_one rfl _ _ _ _ _ _ _ rfl (blk4 ((Below.heap_setCell _ _ _ _ (show w.heap.size + 1 ≠ w.heap.size + 1 + 1 by omega)).trans b1) _ _ _ _) Tryz.underlying33 info33) rfl ?_
  exact kid_fin HK6.out HN.out _ _ _ _ _
theorem nw_pt {w : World} {v : Value} {xs : List Nat} {ct : Nat} (hct : ct < 4) (hv : NmC w v xs) (hx : xs = [] ∨ xs.length = wd ct) : Calls Tryz.prog 18 #[.agg #[.int .i64 1, .int .i64 (ct : Int), v, .slice none 0 0]] w fun e w' => KidP (fun _ => False) w ct xs e w' := by
  have h4 : ct = 0 ∨ ct = 1 ∨ ct = 2 ∨ ct = 3 := by omega
  rcases hx with rfl | hx
  · rcases hv.2.2 with rfl | ⟨g, cap, rfl⟩
    · rcases h4 with rfl | rfl | rfl | rfl
      · exact nw_z0 w
      · exact nw_z1 w
      · exact nw_z2 w
      · exact nw_z3 w
    · rcases h4 with rfl | rfl | rfl | rfl
      · exact nw_e0 w g cap
      · exact nw_e1 w g cap
      · exact nw_e2 w g cap
      · exact nw_e3 w g cap
  · rcases h4 with rfl | rfl | rfl | rfl
    · obtain ⟨x, y, rfl⟩ := xs2 hx
      exact nw_f0 w v x y hv
    · obtain ⟨x, y, z, rfl⟩ := xs3 hx
      exact nw_f1 w v x y z hv
    · obtain ⟨x, y, z, rfl⟩ := xs3 hx
      exact nw_f2 w v x y z hv
    · obtain ⟨x, y, z, m, rfl⟩ := xs4 hx
      exact nw_f3 w v x y z m hv
end Go.Proofs.YtlckfiflfkbofaaGreatDoor
