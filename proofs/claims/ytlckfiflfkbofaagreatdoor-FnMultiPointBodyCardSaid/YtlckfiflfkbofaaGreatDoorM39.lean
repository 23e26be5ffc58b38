/- SameGeom, SameGeoms, of equal data. Points as plain data are kept where a geometry of another kind is written. Part 39 of 51 of the proof that FnMultiPointBody returns true for every text and every type of coordinates, where the listed variables hold what the text of the program lays. -/
import Derived.StillTailTactics
import Derived.Test.YtlckfiflfkbofaaGreatDoorM38
set_option linter.all false

/- SameGeom, SameGeoms, of equal data. -/
namespace Go.Proofs.YtlckfiflfkbofaaGreatDoor
open Go.RowKit

/-- A point as plain data. -/
def GeoP (w : World) (v : Value) (ct : Nat) (xs : List Nat) : Prop := ∃ nv, v = .agg #[.int .i64 1, .int .i64 (ct : Int), nv, .slice none 0 0] ∧ NumV w nv xs
/-- Points as plain data. -/
def KidV (w : World) (v : Value) (ct : Nat) (ks : List (List Nat)) : Prop := ∃ a cap, v = .slice a ks.length cap ∧ ∀ i xs, ks[i]? = some xs → ∃ g nv, a = some ⟨g, 0, none⟩ ∧ g < w.heap.size ∧ NumV w nv xs ∧
  w.cell? ⟨g, i * 4, none⟩ = some (.int .i64 1) ∧ w.cell? ⟨g, i * 4 + 1, none⟩ = some (.int .i64 (ct : Int)) ∧ w.cell? ⟨g, i * 4 + 2, none⟩ = some nv ∧ w.cell? ⟨g, i * 4 + 3, none⟩ = some (.slice none 0 0)
/-- Several points as plain data. -/
def GeoM (w : World) (v : Value) (ct : Nat) (ks : List (List Nat)) : Prop := ∃ kv, v = .agg #[.int .i64 4, .int .i64 (ct : Int), .slice none 0 0, kv] ∧ KidV w kv ct ks
theorem KidV.keep {w w' : World} {v : Value} {ct : Nat} {ks : List (List Nat)} (h : KidV w v ct ks) (k : Keep (fun _ => False) w w') : KidV w' v ct ks := by
  obtain ⟨a, cap, h1, h2⟩ := h
  refine ⟨a, cap, h1, fun i xs hx => ?_⟩
  obtain ⟨g, nv, e, hg, hn, c0, c1, c2, c3⟩ := h2 i xs hx
  exact ⟨g, nv, e, Nat.lt_of_lt_of_le hg k.size, hn.keep k, k.cell c0 (fun h => h), k.cell c1 (fun h => h), k.cell c2 (fun h => h), k.cell c3 (fun h => h)⟩

set_option maxRecDepth 100000 in
theorem sgs_nil (w : World) : Calls Tryz.prog 21 #[.slice none 0 0, .slice none 0 0] w fun e w' => e = .returned (.bool true) ∧ w = w' := by
  go_enter Tryz.func21, Tryz.ntmps21
  go_wp2_with (fail)
  go_loopw [14] (fun v14 wr => v14 = .int .i64 0 ∧ wr = w) (fun _ _ => 0)
  case atStart => exact ⟨rfl, rfl⟩
  case round =>
    obtain ⟨rfl, rfl⟩ := hrel
    go_wp2_with (fail)
    go_ret
    exact ⟨rfl, rfl⟩

set_option maxRecDepth 100000 in
set_option maxHeartbeats 3200000 in
theorem sg_pt (w : World) (u v : Value) (ct : Nat) (xs : List Nat) (hu : NumV w u xs) (hv : NumV w v xs) (hl : xs.length ≤ 100000) :
    Calls Tryz.prog 11 #[.agg #[.int .i64 1, .int .i64 (ct : Int), u, .slice none 0 0], .agg #[.int .i64 1, .int .i64 (ct : Int), v, .slice none 0 0]] w fun e w' => e = .returned (.bool true) ∧ Keep (fun _ => False) w w' := by
  have hK := ((Keep.refl (fun _ => False) w).alloc (.cells #[.int .i64 1, .int .i64 (ct : Int), u, .slice none 0 0] 33)).alloc (.cells #[.int .i64 1, .int .i64 (ct : Int), v, .slice none 0 0] 33)
  have h20 := sn_calls20 _ u v xs (hu.keep hK) (hv.keep hK) hl
  have HK := Lib.hid hK
  obtain ⟨a, cap, rfl, hca⟩ := hu
  obtain ⟨b, cap', rfl, hcb⟩ := hv
  clear hK hca hcb
  go_enter Tryz.func11, Tryz.ntmps11
  go_wp2_with (first | (go_at_call 20; refine h20.mono ?_; rintro e w3 ⟨rfl, hK3⟩; have d0 := hK3.cell (a := ⟨w.heap.size, 3, none⟩) (v := .slice none 0 0) ((cell_of_row _ _ 3 _ _ _ (heap_alloc2_old w _ _)).trans rfl) (fun h => h); have d1 := hK3.cell (a := ⟨w.heap.size + 1, 3, none⟩) (v := .slice none 0 0) ((cell_of_row _ _ 3 _ _ _ (heap_alloc2_new w _ _)).trans rfl) (fun h => h)) | (go_at_call 21; refine (sgs_nil _).mono ?_; rintro e w4 ⟨rfl, rfl⟩))
  go_ret
  exact ⟨rfl, HK.out.trans hK3⟩

set_option maxRecDepth 100000 in
set_option maxHeartbeats 3200000 in
theorem sgs_calls (w : World) (u v : Value) (ct : Nat) (ks : List (List Nat)) (hu : KidV w u ct ks) (hv : KidV w v ct ks) (hl : ks.length ≤ 100000) (hx : ∀ xs ∈ ks, xs.length ≤ 100000) : Calls Tryz.prog 21 #[u, v] w fun e w' => e = .returned (.bool true) ∧ Keep (fun _ => False) w w' := by
  obtain ⟨a, cap, rfl, hca⟩ := hu
  obtain ⟨b, cap', rfl, hcb⟩ := hv
  obtain ⟨n, hn⟩ : ∃ n, n = ks.length := ⟨_, rfl⟩
  rw [← hn] at hl ⊢
  have HN := Lib.hid hn
  clear hn
  go_enter Tryz.func21, Tryz.ntmps21
  go_wp2_with (fail)
  go_loopw [14] (fun v14 wr => ∃ i : Nat, i ≤ n ∧ v14 = .int .i64 (i : Int) ∧ Hid (Keep (fun _ => False) w wr)) (fun v14 _ => n - (match v14 with | .int _ i => i.toNat | _ => 0))
  case atStart => exact ⟨0, Nat.zero_le _, rfl, Lib.hid (Keep.refl _ _)⟩
  case round =>
    obtain ⟨i, hin, rfl, hK⟩ := hrel
    by_cases hlt : i < n
    · have hlt' : (i : Int) < n := by omega
      have hltp : i < ks.length := by have := HN.out; omega
      obtain ⟨xs, hxs⟩ : ∃ x, ks[i]? = some x := ⟨_, List.getElem?_eq_getElem hltp⟩
      obtain ⟨g, nv, rfl, hg, hnv, c0, c1, c2, c3⟩ := hca i xs hxs
      obtain ⟨g', nv', rfl, hg', hnv', e0, e1, e2, e3⟩ := hcb i xs hxs
      have hxl := hx xs (List.mem_of_getElem? hxs)
      have hKc := hK.out
      have c0 := hKc.cell c0 (fun h => h)
      have c1 := hKc.cell c1 (fun h => h)
      have c2 := hKc.cell c2 (fun h => h)
      have c3 := hKc.cell c3 (fun h => h)
      have e0 := hKc.cell e0 (fun h => h)
      have e1 := hKc.cell e1 (fun h => h)
      have e2 := hKc.cell e2 (fun h => h)
      have e3 := hKc.cell e3 (fun h => h)
      have hS : ∀ W, Keep (fun _ => False) w W → Calls Tryz.prog 11 #[.agg #[.int .i64 1, .int .i64 (ct : Int), nv, .slice none 0 0], .agg #[.int .i64 1, .int .i64 (ct : Int), nv', .slice none 0 0]] W fun e w' => e = .returned (.bool true) ∧ Keep (fun _ => False) W w' :=
        fun W k => sg_pt W nv nv' ct xs (hnv.keep k) (hnv'.keep k) hxl
      have HS := Lib.hid hS
      obtain ⟨na, nc, rfl, _⟩ := hnv
      obtain ⟨na', nc', rfl, _⟩ := hnv'
      clear hca hcb hxs hKc hS
      have hA := (Keep.refl (fun _ => False) wr).alloc (.cells #[.int .i64 1, .int .i64 (ct : Int), .slice na xs.length nc, .slice none 0 0] 33)
      have p0 := hA.cell e0 (fun h => h)
      have p1 := hA.cell e1 (fun h => h)
      have p2 := hA.cell e2 (fun h => h)
      have p3 := hA.cell e3 (fun h => h)
      have q0 : (wr.alloc (.cells #[.int .i64 1, .int .i64 (ct : Int), .slice na xs.length nc, .slice none 0 0] 33)).cell? ⟨wr.heap.size, 0, none⟩ = some (.int .i64 1) := (cell_of_row _ _ 0 _ _ _ (heap_alloc_new wr _)).trans rfl
      have q1 : (wr.alloc (.cells #[.int .i64 1, .int .i64 (ct : Int), .slice na xs.length nc, .slice none 0 0] 33)).cell? ⟨wr.heap.size, 1, none⟩ = some (.int .i64 (ct : Int)) := (cell_of_row _ _ 1 _ _ _ (heap_alloc_new wr _)).trans rfl
      have q2 : (wr.alloc (.cells #[.int .i64 1, .int .i64 (ct : Int), .slice na xs.length nc, .slice none 0 0] 33)).cell? ⟨wr.heap.size, 2, none⟩ = some (.slice na xs.length nc) := (cell_of_row _ _ 2 _ _ _ (heap_alloc_new wr _)).trans rfl
      have q3 : (wr.alloc (.cells #[.int .i64 1, .int .i64 (ct : Int), .slice na xs.length nc, .slice none 0 0] 33)).cell? ⟨wr.heap.size, 3, none⟩ = some (.slice none 0 0) := (cell_of_row _ _ 3 _ _ _ (heap_alloc_new wr _)).trans rfl
      have hKw := Lib.hid (hK.out.trans hA)
      clear hA
      go_wp2_with (fail)
      generalize wr.alloc (.cells #[.int .i64 1, .int .i64 (ct : Int), .slice na xs.length nc, .slice none 0 0] 33) = w1 at *
      go_still_tail 5, (by kernel_rfl)
      change wpList _ _ _ _ _ w1.drew
      have hKd := Lib.hid hKw.out.drew
      generalize w1.drew = w2 at *
      have hc := HS.out _ hKd.out
      go_wp2_with (go_at_call 11; refine hc.mono ?_; rintro e w3 ⟨rfl, hK3⟩)
      go_roundw
      case rel => exact ⟨i + 1, by omega, int_eq (by omega), Lib.hid (hKd.out.trans hK3)⟩
      case measure => simp only []; omega
    · have hlt' : ¬ (i : Int) < n := by omega
      clear hca hcb
      go_wp2_with (fail)
      go_ret
      exact ⟨rfl, hK.out⟩

set_option maxRecDepth 100000 in
set_option maxHeartbeats 3200000 in
theorem sg_mp (w : World) (u v : Value) (ct : Nat) (ks : List (List Nat)) (hu : GeoM w u ct ks) (hv : GeoM w v ct ks) (hl : ks.length ≤ 100000) (hx : ∀ xs ∈ ks, xs.length ≤ 100000) :
    Calls Tryz.prog 11 #[u, v] w fun e w' => e = .returned (.bool true) ∧ Keep (fun _ => False) w w' := by
  obtain ⟨ku, rfl, hku⟩ := hu
  obtain ⟨kv, rfl, hkv⟩ := hv
  have hK := ((Keep.refl (fun _ => False) w).alloc (.cells #[.int .i64 4, .int .i64 (ct : Int), .slice none 0 0, ku] 33)).alloc (.cells #[.int .i64 4, .int .i64 (ct : Int), .slice none 0 0, kv] 33)
  have h20 := fun W => sn_calls20 W (.slice none 0 0) (.slice none 0 0) [] ⟨none, 0, rfl, fun i x h => by cases h⟩ ⟨none, 0, rfl, fun i x h => by cases h⟩ (by simp)
  have h21 : ∀ W, Keep (fun _ => False) w W → Calls Tryz.prog 21 #[ku, kv] W fun e w' => e = .returned (.bool true) ∧ Keep (fun _ => False) W w' := fun W k => sgs_calls W ku kv ct ks (hku.keep k) (hkv.keep k) hl hx
  have H21 := Lib.hid h21
  have HK := Lib.hid hK
  obtain ⟨a, cap, rfl, _⟩ := hku
  obtain ⟨b, cap', rfl, _⟩ := hkv
  clear hK h21
  go_enter Tryz.func11, Tryz.ntmps11
  go_wp2_with (first | (go_at_call 20; refine (h20 _).mono ?_; rintro e w3 ⟨rfl, hK3⟩; have d0 := hK3.cell (a := ⟨w.heap.size, 3, none⟩) (v := .slice a ks.length cap) ((cell_of_row _ _ 3 _ _ _ (heap_alloc2_old w _ _)).trans rfl) (fun h => h); have d1 := hK3.cell (a := ⟨w.heap.size + 1, 3, none⟩) (v := .slice b ks.length cap') ((cell_of_row _ _ 3 _ _ _ (heap_alloc2_new w _ _)).trans rfl) (fun h => h); have hc := H21.out _ (HK.out.trans hK3)) | (go_at_call 21; refine hc.mono ?_; rintro e w4 ⟨rfl, hK4⟩))
  go_ret
  exact ⟨rfl, (HK.out.trans hK3).trans hK4⟩

end Go.Proofs.YtlckfiflfkbofaaGreatDoor

/- Points as plain data are kept where a geometry of another kind is written. -/
namespace Go.Proofs.YtlckfiflfkbofaaGreatDoor
open Go.RowKit

theorem cell_geo {w : World} {c : Nat} {z y : Int} {a a' : Option Addr} {n k n' k' : Nat} (hc : w.heap[c]? = some (.cells #[.int .i64 z, .int .i64 y, .slice a n k, .slice a' n' k'] 33 (0, 0))) {i : Nat} {v : Value} (h : w.cell? ⟨c, i, none⟩ = some v) :
    (i = 0 ∧ v = .int .i64 z) ∨ (i = 1 ∧ v = .int .i64 y) ∨ (i = 2 ∧ v = .slice a n k) ∨ (i = 3 ∧ v = .slice a' n' k') := by
  simp only [World.cell?, hc, Option.isSome_none, Bool.false_eq_true, if_false] at h
  match i, h with
  | 0, h => simp at h; exact Or.inl ⟨rfl, h.symm⟩
  | 1, h => simp at h; exact Or.inr (Or.inl ⟨rfl, h.symm⟩)
  | 2, h => simp at h; exact Or.inr (Or.inr (Or.inl ⟨rfl, h.symm⟩))
  | 3, h => simp at h; exact Or.inr (Or.inr (Or.inr ⟨rfl, h.symm⟩))
  | (m + 4), h => simp at h

theorem NumV.but {w w' : World} {c : Nat} {z y : Int} {a a' : Option Addr} {n k n' k' : Nat} {v : Value} {xs : List Nat} (h : NumV w v xs) (hc : w.heap[c]? = some (.cells #[.int .i64 z, .int .i64 y, .slice a n k, .slice a' n' k'] 33 (0, 0))) (q : Keep (At1 c) w w') : NumV w' v xs := by
  obtain ⟨b, cap, h1, h2⟩ := h
  refine ⟨b, cap, h1, fun i x hx => ?_⟩
  obtain ⟨g, e, hg, hcc⟩ := h2 i x hx
  refine ⟨g, e, Nat.lt_of_lt_of_le hg q.size, q.cell hcc (fun hgc => ?_)⟩
  have hgc : g = c := hgc
  subst hgc
  rcases cell_geo hc hcc with ⟨_, h⟩ | ⟨_, h⟩ | ⟨_, h⟩ | ⟨_, h⟩ <;> cases h
theorem KidV.but {w w' : World} {c ct : Nat} {z y : Int} {a a' : Option Addr} {n k n' k' : Nat} {v : Value} {ks : List (List Nat)} (h : KidV w v ct ks) (hc : w.heap[c]? = some (.cells #[.int .i64 z, .int .i64 y, .slice a n k, .slice a' n' k'] 33 (0, 0))) (hz : z ≠ 1) (q : Keep (At1 c) w w') : KidV w' v ct ks := by
  obtain ⟨b, cap, h1, h2⟩ := h
  refine ⟨b, cap, h1, fun i xs hx => ?_⟩
  obtain ⟨g, nv, e, hg, hn, c0, c1, c2, c3⟩ := h2 i xs hx
  have hgc : ¬ At1 c g := by
    intro hgc
    have hgc : g = c := hgc
    subst hgc
    rcases cell_geo hc c0 with ⟨_, h⟩ | ⟨h, _⟩ | ⟨h, _⟩ | ⟨h, _⟩
    · injection h with _ h; exact hz h.symm
    · omega
    · omega
    · omega
  exact ⟨g, nv, e, Nat.lt_of_lt_of_le hg q.size, hn.but hc q, q.cell c0 hgc, q.cell c1 hgc, q.cell c2 hgc, q.cell c3 hgc⟩
theorem keep_set4 (c : Nat) (w : World) (v0 v1 v2 v3 : Value) : Keep (At1 c) w ((((w.setCell ⟨c, 0, none⟩ v0).setCell ⟨c, 1, none⟩ v1).setCell ⟨c, 2, none⟩ v2).setCell ⟨c, 3, none⟩ v3) :=
  ((((Keep.refl (At1 c) w).setCell (Or.inr rfl) v0).setCell (Or.inr rfl) v1).setCell (Or.inr rfl) v2).setCell (Or.inr rfl) v3
theorem keep_set4F {w w' : World} (h : Keep (fun _ => False) w w') {c : Nat} (hc : w.heap.size ≤ c) (v0 v1 v2 v3 : Value) : Keep (fun _ => False) w ((((w'.setCell ⟨c, 0, none⟩ v0).setCell ⟨c, 1, none⟩ v1).setCell ⟨c, 2, none⟩ v2).setCell ⟨c, 3, none⟩ v3) :=
  h.trans' (keep_set4 c w' v0 v1 v2 v3) (fun i hi e => by have : i = c := e; omega)
end Go.Proofs.YtlckfiflfkbofaaGreatDoor
