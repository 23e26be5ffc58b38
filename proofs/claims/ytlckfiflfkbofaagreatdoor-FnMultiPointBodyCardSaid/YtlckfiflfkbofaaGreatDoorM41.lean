/- Slices of points: forceCoordinatesTypeOfPointSlice, NewMultiPoint. forceCoordinatesTypeOfPointSlice, NewMultiPoint, MultiPoint.ForceCoordinatesType: the walks. nextMultiPointText. nextMultiPointText: the walk. Part 41 of 51 of the proof that FnMultiPointBody returns true for every text and every type of coordinates, where the listed variables hold what the text of the program lays. -/
import Derived.Test.YtlckfiflfkbofaaGreatDoorM37
set_option linter.all false

/- Slices of points: forceCoordinatesTypeOfPointSlice, NewMultiPoint. -/
namespace Go.Proofs.YtlckfiflfkbofaaGreatDoor
open Go.RowKit

/-- A point, plain. -/
structure Pg where
  x : Nat
  y : Nat
  z : Nat
  m : Nat
  f : Bool
def Pg.val (p : Pg) (ct : Nat) : Value := ptG p.x p.y p.z p.m ct p.f
def Pg.ok (p : Pg) : Prop := p.f = false → p.x = 0 ∧ p.y = 0 ∧ p.z = 0 ∧ p.m = 0

/-- Six cells of a point from place o of block g on. -/
def At6 (w : World) (g o : Nat) (p : Pg) (ct : Nat) : Prop :=
  w.cell? ⟨g, o, none⟩ = some (.float .f64 p.x) ∧ w.cell? ⟨g, o + 1, none⟩ = some (.float .f64 p.y) ∧ w.cell? ⟨g, o + 2, none⟩ = some (.float .f64 p.z) ∧ w.cell? ⟨g, o + 3, none⟩ = some (.float .f64 p.m) ∧ w.cell? ⟨g, o + 4, none⟩ = some (.int .u8 (ct : Int)) ∧ w.cell? ⟨g, o + 5, none⟩ = some (.bool p.f)
theorem At6.keep {S : Nat → Prop} {w w' : World} {g o : Nat} {p : Pg} {ct : Nat} (h : At6 w g o p ct) (k : Keep S w w') (hg : ¬ S g) : At6 w' g o p ct :=
  ⟨k.cell h.1 hg, k.cell h.2.1 hg, k.cell h.2.2.1 hg, k.cell h.2.2.2.1 hg, k.cell h.2.2.2.2.1 hg, k.cell h.2.2.2.2.2 hg⟩

/-- The slice v shows the points ps. -/
def MpV (w : World) (v : Value) (ct : Nat) (ps : List Pg) : Prop := ∃ a cap, v = .slice a ps.length cap ∧ ps.length ≤ cap ∧ cap ≤ 9223372036854775807 ∧ ∀ i p, ps[i]? = some p → ∃ g, a = some ⟨g, 0, none⟩ ∧ g < w.heap.size ∧ At6 w g (i * 6) p ct
theorem MpV.keep {w w' : World} {v : Value} {ct : Nat} {ps : List Pg} (h : MpV w v ct ps) (k : Keep (fun _ => False) w w') : MpV w' v ct ps := by
  obtain ⟨a, cap, h1, h2, h3, h4⟩ := h
  refine ⟨a, cap, h1, h2, h3, fun i p hp => ?_⟩
  obtain ⟨g, e, hg, hc⟩ := h4 i p hp
  exact ⟨g, e, Nat.lt_of_lt_of_le hg k.size, hc.keep k (fun h => h)⟩

section
variable {w : World} {g o : Nat}
def set6 (w : World) (g o : Nat) (v0 v1 v2 v3 v4 v5 : Value) : World :=
  (((((w.setCell ⟨g, o, none⟩ v0).setCell ⟨g, o + 1, none⟩ v1).setCell ⟨g, o + 2, none⟩ v2).setCell ⟨g, o + 3, none⟩ v3).setCell ⟨g, o + 4, none⟩ v4).setCell ⟨g, o + 5, none⟩ v5
theorem set6_other {v0 v1 v2 v3 v4 v5 : Value} {k : Nat} (hk : k < o ∨ o + 6 ≤ k) : (set6 w g o v0 v1 v2 v3 v4 v5).cell? ⟨g, k, none⟩ = w.cell? ⟨g, k, none⟩ := by
  unfold set6
  repeat rw [World.cell?_setCell_other _ _ _ _ (by intro e; injection e with _ e _; omega)]
theorem set6_same {v0 v1 v2 v3 v4 v5 : Value} (h : ∀ j, j < 6 → (w.cell? ⟨g, o + j, none⟩).isSome = true) :
    (set6 w g o v0 v1 v2 v3 v4 v5).cell? ⟨g, o, none⟩ = some v0 ∧ (set6 w g o v0 v1 v2 v3 v4 v5).cell? ⟨g, o + 1, none⟩ = some v1 ∧ (set6 w g o v0 v1 v2 v3 v4 v5).cell? ⟨g, o + 2, none⟩ = some v2 ∧ (set6 w g o v0 v1 v2 v3 v4 v5).cell? ⟨g, o + 3, none⟩ = some v3 ∧ (set6 w g o v0 v1 v2 v3 v4 v5).cell? ⟨g, o + 4, none⟩ = some v4 ∧ (set6 w g o v0 v1 v2 v3 v4 v5).cell? ⟨g, o + 5, none⟩ = some v5 := by
  have key : ∀ (X : World) (k : Nat) (v : Value), (X.cell? ⟨g, k, none⟩).isSome = true → (X.setCell ⟨g, k, none⟩ v).cell? ⟨g, k, none⟩ = some v := by
    intro X k v hx
    obtain ⟨u, hu⟩ := Option.isSome_iff_exists.1 hx
    exact World.cell?_setCell_same X _ v hu
  have oth : ∀ (X : World) (k k' : Nat) (v : Value), k ≠ k' → (X.setCell ⟨g, k, none⟩ v).cell? ⟨g, k', none⟩ = X.cell? ⟨g, k', none⟩ := by
    intro X k k' v hk
    exact World.cell?_setCell_other _ _ _ _ (by intro e; injection e with _ e _; omega)
  unfold set6
  refine ⟨?_, ?_, ?_, ?_, ?_, ?_⟩
  · rw [oth _ _ _ _ (by omega), oth _ _ _ _ (by omega), oth _ _ _ _ (by omega), oth _ _ _ _ (by omega), oth _ _ _ _ (by omega)]
    exact key _ _ _ (h 0 (by omega))
  · rw [oth _ _ _ _ (by omega), oth _ _ _ _ (by omega), oth _ _ _ _ (by omega), oth _ _ _ _ (by omega)]
    refine key _ _ _ ?_
    rw [oth _ _ _ _ (by omega)]; exact h 1 (by omega)
  · rw [oth _ _ _ _ (by omega), oth _ _ _ _ (by omega), oth _ _ _ _ (by omega)]
    refine key _ _ _ ?_
    rw [oth _ _ _ _ (by omega), oth _ _ _ _ (by omega)]; exact h 2 (by omega)
  · rw [oth _ _ _ _ (by omega), oth _ _ _ _ (by omega)]
    refine key _ _ _ ?_
    rw [oth _ _ _ _ (by omega), oth _ _ _ _ (by omega), oth _ _ _ _ (by omega)]; exact h 3 (by omega)
  · rw [oth _ _ _ _ (by omega)]
    refine key _ _ _ ?_
    rw [oth _ _ _ _ (by omega), oth _ _ _ _ (by omega), oth _ _ _ _ (by omega), oth _ _ _ _ (by omega)]; exact h 4 (by omega)
  · refine key _ _ _ ?_
    rw [oth _ _ _ _ (by omega), oth _ _ _ _ (by omega), oth _ _ _ _ (by omega), oth _ _ _ _ (by omega), oth _ _ _ _ (by omega)]; exact h 5 (by omega)
theorem set6_some {v0 v1 v2 v3 v4 v5 : Value} {k : Nat} (h : ∀ j, j < 6 → (w.cell? ⟨g, o + j, none⟩).isSome = true) (hk : (w.cell? ⟨g, k, none⟩).isSome = true) : ((set6 w g o v0 v1 v2 v3 v4 v5).cell? ⟨g, k, none⟩).isSome = true := by
  by_cases hlt : k < o ∨ o + 6 ≤ k
  · rw [set6_other hlt]; exact hk
  · obtain ⟨h0, h1, h2, h3, h4, h5⟩ := set6_same (v0 := v0) (v1 := v1) (v2 := v2) (v3 := v3) (v4 := v4) (v5 := v5) h
    have : k = o ∨ k = o + 1 ∨ k = o + 2 ∨ k = o + 3 ∨ k = o + 4 ∨ k = o + 5 := by omega
    rcases this with rfl | rfl | rfl | rfl | rfl | rfl
    · rw [h0]; rfl
    · rw [h1]; rfl
    · rw [h2]; rfl
    · rw [h3]; rfl
    · rw [h4]; rfl
    · rw [h5]; rfl
theorem set6_fz {v0 v1 v2 v3 v4 v5 : Value} (k : Nat) : (set6 w g o v0 v1 v2 v3 v4 v5).frozen? ⟨g, k, none⟩ = w.frozen? ⟨g, k, none⟩ := by
  unfold set6
  repeat rw [World.frozen?_setCell]
theorem set6_keep {w0 : World} {v0 v1 v2 v3 v4 v5 : Value} (h : Keep (fun _ => False) w0 w) (hg : w0.heap.size ≤ g) : Keep (fun _ => False) w0 (set6 w g o v0 v1 v2 v3 v4 v5) := by
  unfold set6
  exact (((((h.setCell (Or.inl hg) _).setCell (Or.inl hg) _).setCell (Or.inl hg) _).setCell (Or.inl hg) _).setCell (Or.inl hg) _).setCell (Or.inl hg) _
end

/-- The row that is being filled. -/
structure Fm (w0 wr : World) (n ct : Nat) (ps : List Pg) (i : Nat) : Prop where
  c : ∀ j p, j < i → ps[j]? = some p → At6 wr w0.heap.size (j * 6) p ct
  s : ∀ k, k < n * 6 → (wr.cell? ⟨w0.heap.size, k, none⟩).isSome = true
  f : ∀ k, wr.frozen? ⟨w0.heap.size, k, none⟩ = false
  k : Keep (fun _ => False) w0 wr
  lt : w0.heap.size < wr.heap.size
theorem Fm.step {w0 wr w' : World} {n ct : Nat} {ps : List Pg} {i : Nat} (h : Fm w0 wr n ct ps i) (k : Keep (fun _ => False) wr w') : Fm w0 w' n ct ps i := by
  have hb := k.block w0.heap.size h.lt (fun h => h)
  refine ⟨fun j p hj hp => (h.c j p hj hp).keep k (fun h => h), fun j hj => ?_, fun j => ?_, h.k.trans k, Nat.lt_of_lt_of_le h.lt k.size⟩
  · rw [(cell_block hb).1]; exact h.s j hj
  · rw [(cell_block hb).2]; exact h.f j
theorem Fm.set {w0 wr : World} {n ct : Nat} {ps : List Pg} {i : Nat} (h : Fm w0 wr n ct ps i) (hi : i < n) {p : Pg} (hp : ps[i]? = some p) : Fm w0 (set6 wr w0.heap.size (i * 6) (.float .f64 p.x) (.float .f64 p.y) (.float .f64 p.z) (.float .f64 p.m) (.int .u8 (ct : Int)) (.bool p.f)) n ct ps (i + 1) := by
  have hs : ∀ j, j < 6 → (wr.cell? ⟨w0.heap.size, i * 6 + j, none⟩).isSome = true := fun j hj => h.s _ (by omega)
  refine ⟨fun j q hj hq => ?_, fun k hk => set6_some hs (h.s k hk), fun k => by rw [set6_fz]; exact h.f k, set6_keep h.k (Nat.le_refl _), by unfold set6; simpa using h.lt⟩
  by_cases e : j = i
  · subst e
    rw [hp] at hq
    cases hq
    exact set6_same hs
  · have hc := h.c j q (by omega) hq
    unfold At6 at hc ⊢
    rw [set6_other (by omega), set6_other (by omega), set6_other (by omega), set6_other (by omega), set6_other (by omega), set6_other (by omega)]
    exact hc

end Go.Proofs.YtlckfiflfkbofaaGreatDoor

/- forceCoordinatesTypeOfPointSlice, NewMultiPoint, MultiPoint.ForceCoordinatesType: the walks. -/
namespace Go.Proofs.YtlckfiflfkbofaaGreatDoor
open Go.RowKit

theorem Fm.start {w w' : World} {n ct : Nat} {ps : List Pg} {xs : List Value} (h : w'.ownsRow w.heap.size 71 6 (.slice (some ⟨w.heap.size, 0, none⟩) n n) n xs) (g : w.grownBy w' none) : Fm w w' n ct ps 0 := by
  have hadd : ∀ j, (⟨w.heap.size, 0, none⟩ : Addr).add j = ⟨w.heap.size, j, none⟩ := by intro j; unfold Addr.add; split <;> simp_all
  have hc := h.cells (g := w.heap.size) rfl
  rcases h.2 with ⟨h0, _⟩ | ⟨gg, cap, cur, h0, hb, hgg, _⟩
  · cases h0
  · cases h0
    refine ⟨fun j p hj => by omega, fun k hk => ?_, fun k => Lib.frozen_of_heap hgg k, ⟨g.os, g.tape, g.output, g.size, fun k hk _ => g.block k hk (by simp)⟩, (Array.getElem?_eq_some_iff.1 hgg).1⟩
    have hl : k < xs.length := by rw [h.1]; exact hk
    have := hc k _ (List.getElem?_eq_getElem hl)
    rw [hadd] at this
    rw [this]; rfl

theorem Fm.mp {w wr : World} {n ct : Nat} {ps : List Pg} (h : Fm w wr n ct ps n) (hn : n = ps.length) (hl : ps.length ≤ 1000000) : MpV wr (.slice (some ⟨w.heap.size, 0, none⟩) ps.length ps.length) ct ps :=
  ⟨_, _, rfl, Nat.le_refl _, by omega, fun i p hp => ⟨_, rfl, h.lt, h.c i p (by have := (List.getElem?_eq_some_iff.1 hp).1; omega) hp⟩⟩

/-- What forceCoordinatesTypeOfPointSlice answers. -/
def FcP (w : World) (ct : Nat) (ps : List Pg) (e : Ending) (w' : World) : Prop := e = .returned (.slice (some ⟨w.heap.size, 0, none⟩) ps.length ps.length) ∧ MpV w' (.slice (some ⟨w.heap.size, 0, none⟩) ps.length ps.length) ct ps ∧ Keep (fun _ => False) w w'

set_option maxRecDepth 100000 in
set_option maxHeartbeats 8000000 in
theorem fc_calls (w : World) (v : Value) (ct : Nat) (hct : ct < 4) (ps : List Pg) (hv : MpV w v ct ps) (hl : ps.length ≤ 1000000) (hok : ∀ p ∈ ps, p.ok) :
    Calls Tryz.prog 66 #[v, .int .u8 (ct : Int)] w fun e w' => FcP w ct ps e w' := by
  obtain ⟨i0, hi, hz0, hz1, hz2⟩ := info_parts ptInfo
  obtain ⟨a, cap, rfl, hcap, hcap2, hcells⟩ := hv
  have hst := run_store_flt
  obtain ⟨n, hn⟩ : ∃ n, n = ps.length := ⟨_, rfl⟩
  rw [← hn] at hl hcap
  have HN := Lib.hid hn
  have hn' : (ps.length : Int) = (n : Int) := by omega
  go_enter Tryz.func66, Tryz.ntmps66
  go_wp2_with (at_make; refine wpList_make_full _ rfl _ _ 38 rfl w.heap.size 71 i0 _ 6 Tryz.underlying38 hi hz0 hz1 .i64 .i64 _ _ n (by rfl) (by rfl) (by first | rfl | exact hn') (by first | rfl | exact hn') (by rw [hz2]; omega) (by unfold maxLen; omega) (Nat.le_refl _) ?_; intro w1 hown hg)
  have hF0 : Fm w w1 n ct ps 0 := Fm.start hown hg
  have HF0 := Lib.hid hF0
  clear hown hg hF0
  go_loopw [13] (fun v13 wr => ∃ i : Nat, i ≤ n ∧ v13 = .int .i64 (i : Int) ∧ Hid (Fm w wr n ct ps i)) (fun v13 _ => n - (match v13 with | .int _ i => i.toNat | _ => 0))
  case atStart => exact ⟨0, Nat.zero_le _, rfl, HF0⟩
  case round =>
    obtain ⟨i, hin, rfl, hF⟩ := hrel
    by_cases hlt : i < n
    · have hlt' : (i : Int) < n := by omega
      have hltp : i < ps.length := by have := HN.out; omega
      obtain ⟨p, hp⟩ : ∃ p, ps[i]? = some p := ⟨_, List.getElem?_eq_getElem hltp⟩
      obtain ⟨g, rfl, hg, hc⟩ := hcells i p hp
      have hc' := hc.keep hF.out.k (fun h => h)
      obtain ⟨c0, c1, c2, c3, c4, c5⟩ := hc'
      have h72 : ∀ W, Calls Tryz.prog 72 #[.agg #[.float .f64 p.x, .float .f64 p.y, .float .f64 p.z, .float .f64 p.m, .int .u8 (ct : Int), .bool p.f], .int .u8 (ct : Int)] W fun e w' => e = .returned (.agg #[.float .f64 p.x, .float .f64 p.y, .float .f64 p.z, .float .f64 p.m, .int .u8 (ct : Int), .bool p.f]) ∧ Below W.heap.size W w' :=
        fun W => np72 ct hct p.f p.x p.y p.z p.m (hok p (List.mem_of_getElem? hp)) W
      have HP := Lib.hid hp
      clear hcells hc hp
      go_wp2_with (go_at_call 72; refine (h72 _).mono ?_; rintro e w3 ⟨rfl, hB⟩; have hF3 := hF.out.step (((Keep.refl _ _).alloc _).trans (Keep.of_below hB)); obtain ⟨o0, k0⟩ := Option.isSome_iff_exists.1 (hF3.s (i * 6) (by omega)); obtain ⟨o1, k1⟩ := Option.isSome_iff_exists.1 (hF3.s (i * 6 + 1) (by omega)); obtain ⟨o2, k2⟩ := Option.isSome_iff_exists.1 (hF3.s (i * 6 + 2) (by omega)); obtain ⟨o3, k3⟩ := Option.isSome_iff_exists.1 (hF3.s (i * 6 + 3) (by omega)); obtain ⟨o4, k4⟩ := Option.isSome_iff_exists.1 (hF3.s (i * 6 + 4) (by omega)); obtain ⟨o5, k5⟩ := Option.isSome_iff_exists.1 (hF3.s (i * 6 + 5) (by omega)); have f0 := hF3.f (i * 6); have f1 := hF3.f (i * 6 + 1); have f2 := hF3.f (i * 6 + 2); have f3 := hF3.f (i * 6 + 3); have f4 := hF3.f (i * 6 + 4); have f5 := hF3.f (i * 6 + 5); have HF3 := Lib.hid hF3; clear hF3)
      go_roundw
      case rel => exact ⟨i + 1, by omega, int_eq (by omega), Lib.hid (HF3.out.set hlt HP.out)⟩
      case measure => simp only []; omega
    · have hlt' : ¬ (i : Int) < n := by omega
      have hin' : i = n := by omega
      have hF' := hF.out
      rw [hin'] at hF'
      have HF := Lib.hid hF'
      clear hF hF' hcells hin'
      go_wp2_with (fail)
      go_ret
      have := HF.out.mp HN.out (by omega)
      exact ⟨rfl, this, HF.out.k⟩

theorem MpV.other {w : World} {g n cap c i : Nat} {x : Value} {ct : Nat} {ps : List Pg} (h : MpV w (.slice (some ⟨g, 0, none⟩) n cap) ct ps) (hc : c ≠ g) : MpV (w.setCell ⟨c, i, none⟩ x) (.slice (some ⟨g, 0, none⟩) n cap) ct ps := by
  obtain ⟨a, cap', h1, h2, h3, h4⟩ := h
  refine ⟨a, cap', h1, h2, h3, fun j p hp => ?_⟩
  obtain ⟨g', e, hg, hc'⟩ := h4 j p hp
  cases h1
  cases e
  exact ⟨_, rfl, by simpa using hg, hc'.keep ((Keep.refl (fun k => k = c) w).setCell (Or.inr rfl) x) (fun e => hc e.symm)⟩

theorem and_ct (c ct : Nat) (hct : ct < 4) (hc : c = 3 ∨ c = ct) : Go.bits .and .u8 (c : Int) (ct : Int) = (ct : Int) := by
  have : ct = 0 ∨ ct = 1 ∨ ct = 2 ∨ ct = 3 := by omega
  rcases this with rfl | rfl | rfl | rfl <;> rcases hc with rfl | rfl <;> decide +kernel

/-- What NewMultiPoint answers. -/
def NmP (w : World) (ct : Nat) (ps : List Pg) (e : Ending) (w' : World) : Prop := ∃ v, e = .returned (.agg #[v, .int .u8 (ct : Int)]) ∧ MpV w' v ct ps ∧ Keep (fun _ => False) w w'

set_option maxRecDepth 100000 in
set_option maxHeartbeats 8000000 in
theorem nm_calls (w : World) (v : Value) (ct : Nat) (hct : ct < 4) (ps : List Pg) (hv : MpV w v ct ps) (hl : ps.length ≤ 1000000) (hok : ∀ p ∈ ps, p.ok) (hne : ps ≠ []) :
    Calls Tryz.prog 49 #[v] w fun e w' => NmP w ct ps e w' := by
  have hv0 := hv
  obtain ⟨a, cap, rfl, hcap, hcap2, hcells⟩ := hv
  have hst := run_store_flt
  have hn0 : 0 < ps.length := List.length_pos_iff.2 hne
  obtain ⟨n, hn⟩ : ∃ n, n = ps.length := ⟨_, rfl⟩
  have hfc : ∀ W, Hid (Keep (fun _ => False) w W) → Calls Tryz.prog 66 #[.slice a n cap, .int .u8 (ct : Int)] W fun e w' => FcP W ct ps e w' := by
    intro W k
    have := fc_calls W _ ct hct ps (hv0.keep k.out) hl hok
    rw [← hn] at this
    exact this
  have HFC := Lib.hid hfc
  rw [← hn] at hl hn0 ⊢
  have HN := Lib.hid hn
  have hn1 : ((n : Int) == 0) = false := by simp; omega
  have hn2 : ¬ (n : Int) = 0 := by omega
  clear hv0 hcap hfc hn hok hne
  go_enter Tryz.func49, Tryz.ntmps49
  go_wp2_with (fail)
  go_loopw [3, 13] (fun v3 v13 wr => ∃ i c : Nat, i ≤ n ∧ (c = 3 ∨ c = ct) ∧ (i ≠ 0 → c = ct) ∧ v3 = .int .u8 (c : Int) ∧ v13 = .int .i64 (i : Int) ∧ Hid (Keep (fun _ => False) (w.alloc (.cells #[.slice none 0 0, .int .u8 0] 41)) wr)) (fun _ v13 _ => n - (match v13 with | .int _ i => i.toNat | _ => 0))
  case atStart => exact ⟨0, 3, Nat.zero_le _, Or.inl rfl, fun h => absurd rfl h, rfl, rfl, Lib.hid (Keep.refl _ _)⟩
  case round =>
    obtain ⟨i, c, hin, hc3, hc0, rfl, rfl, hK⟩ := hrel
    by_cases hlt : i < n
    · have hlt' : (i : Int) < n := by omega
      have hltp : i < ps.length := by have := HN.out; omega
      obtain ⟨p, hp⟩ : ∃ p, ps[i]? = some p := ⟨_, List.getElem?_eq_getElem hltp⟩
      obtain ⟨g, rfl, hg, hc⟩ := hcells i p hp
      obtain ⟨c0, c1, c2, c3, c4, c5⟩ := (hc.keep ((Keep.refl (fun _ => False) w).alloc (.cells #[.slice none 0 0, .int .u8 0] 41)) (fun h => h)).keep hK.out (fun h => h)
      have h50 := fun W => np50 p.x p.y p.z p.m ct p.f W
      have hand := and_ct c ct hct hc3
      have HC3 := Lib.hid hc3
      clear hcells hc hp hc3 hc0
      go_wp2_with (go_at_call 50; refine (h50 _).mono ?_; rintro e w3 ⟨rfl, hB⟩; have hK3 := Lib.hid ((hK.out.alloc _).trans (Keep.of_below hB)))
      go_roundw
      case rel => exact ⟨i + 1, ct, by omega, Or.inr rfl, fun _ => rfl, rfl, int_eq (by omega), hK3⟩
      case measure => simp only []; omega
    · have hlt' : ¬ (i : Int) < n := by omega
      have hcc : c = ct := hc0 (by omega)
      subst hcc
      have hK1 := Lib.hid (((Keep.refl (fun _ => False) w).alloc (.cells #[.slice none 0 0, .int .u8 0] 41)).trans hK.out)
      have h66 := HFC.out wr hK1
      have hres := (hK.out.block w.heap.size (by simp) (fun h => h)).trans (heap_alloc_new w _)
      have HR := Lib.hid hres
      clear hcells hc3 hc0 hres
      go_wp2_with (go_at_call 66; refine h66.mono ?_; rintro e w3 ⟨rfl, hM, hK3⟩; have hres := (hK3.block w.heap.size (Array.getElem?_eq_some_iff.1 HR.out).1 (fun h => h)).trans HR.out; have r0 : w3.cell? ⟨w.heap.size, 0, none⟩ = some (.slice none 0 0) := (by simp [World.cell?, hres]); have r1 : w3.cell? ⟨w.heap.size, 1, none⟩ = some (.int .u8 0) := (by simp [World.cell?, hres]); have r2 := Lib.frozen_of_heap hres 0; have r3 := Lib.frozen_of_heap hres 1; have HR3 := Lib.hid hres; clear hres)
      (try simp only [Exit.inBlock, Exit.then]); refine bodyPost_ret (results_one rfl _ _ _ _ _ _ _ rfl (Lib.heap_setCell_same (i := 1) (Lib.heap_setCell_same (i := 0) HR3.out _) _) Tryz.underlying41 info41) rfl ?_
      have hsz : w.heap.size < wr.heap.size := (Array.getElem?_eq_some_iff.1 HR.out).1
      exact ⟨_, rfl, (hM.other (by omega)).other (by omega), ((hK1.out.trans hK3).setCell (Or.inl (Nat.le_refl _)) _).setCell (Or.inl (Nat.le_refl _)) _⟩

end Go.Proofs.YtlckfiflfkbofaaGreatDoor

/- nextMultiPointText. -/
namespace Go.Proofs.YtlckfiflfkbofaaGreatDoor
open Go.RowKit

set_option maxRecDepth 100000 in
theorem fe_calls (w : World) (ct : Nat) (hct : ct < 4) : Calls Tryz.prog 48 #[.agg #[.slice none 0 0, .int .u8 0], .int .u8 (ct : Int)] w fun e w' => NmP w ct [] e w' := by
  have hfc : ∀ W, Calls Tryz.prog 66 #[.slice none 0 0, .int .u8 (ct : Int)] W fun e w' => FcP W ct [] e w' := fun W => fc_calls W _ ct hct [] ⟨none, 0, rfl, Nat.le_refl _, by omega, fun i p hp => by cases hp⟩ (by simp) (by simp)
  go_enter Tryz.func48, Tryz.ntmps48
  go_wp2_with (go_at_call 66; refine (hfc _).mono ?_; rintro e w3 ⟨rfl, hM, hK3⟩; have hres := (hK3.block (w.heap.size + 1) (by simp) (fun h => h)).trans (heap_alloc2_new w _ _); have r0 : w3.cell? ⟨w.heap.size + 1, 0, none⟩ = some (.slice none 0 0) := (by simp [World.cell?, hres]); have r1 : w3.cell? ⟨w.heap.size + 1, 1, none⟩ = some (.int .u8 0) := (by simp [World.cell?, hres]); have r2 := Lib.frozen_of_heap hres 0; have r3 := Lib.frozen_of_heap hres 1; have HR3 := Lib.hid hres; clear hres)
  (try simp only [Exit.inBlock, Exit.then]); refine bodyPost_ret (results_one rfl _ _ _ _ _ _ _ rfl (Lib.heap_setCell_same (i := 1) (Lib.heap_setCell_same (i := 0) HR3.out _) _) Tryz.underlying41 info41) rfl ?_
  refine ⟨_, rfl, ?_, ?_⟩
  · exact ⟨_, _, rfl, Nat.le_refl _, by simp, fun i p hp => by cases hp⟩
  · have hK := (((Keep.refl (fun _ => False) w).alloc (.cells #[.slice none 0 0, .int .u8 0] 41)).alloc (.cells #[.slice none 0 0, .int .u8 0] 41)).trans hK3
    exact (hK.setCell (Or.inl (Nat.le_succ _)) _).setCell (Or.inl (Nat.le_succ _)) _

def Pg.cells (p : Pg) (ct : Nat) : List Value := [.float .f64 p.x, .float .f64 p.y, .float .f64 p.z, .float .f64 p.m, .int .u8 (ct : Int), .bool p.f]
def flatG (ct : Nat) (ps : List Pg) : List Value := ps.flatMap fun p => p.cells ct
theorem flatG_snoc (ct : Nat) (ps : List Pg) (p : Pg) : flatG ct (ps ++ [p]) = flatG ct ps ++ p.cells ct := by simp [flatG]
theorem flatG_len (ct : Nat) (ps : List Pg) : (flatG ct ps).length = ps.length * 6 := by
  induction ps with
  | nil => rfl
  | cons p ps ih =>
    have : flatG ct (p :: ps) = p.cells ct ++ flatG ct ps := rfl
    rw [this, List.length_append, ih, List.length_cons]; simp [Pg.cells]; omega
theorem flatG_get {ct : Nat} {ps : List Pg} {i : Nat} {p : Pg} (h : ps[i]? = some p) {j : Nat} (hj : j < 6) : (flatG ct ps)[i * 6 + j]? = (p.cells ct)[j]? := by
  induction ps generalizing i with
  | nil => cases h
  | cons a l ih =>
    have e : flatG ct (a :: l) = a.cells ct ++ flatG ct l := rfl
    have hl : (a.cells ct).length = 6 := rfl
    cases i with
    | zero => cases h; rw [e, List.getElem?_append_left (by omega)]; simp
    | succ i =>
      rw [e, List.getElem?_append_right (by omega), show (i + 1) * 6 + j - (a.cells ct).length = i * 6 + j by rw [hl]; omega]
      exact ih (by simpa using h)

theorem own_mp {w : World} {B : Nat} {v : Value} {ct : Nat} {ps : List Pg} (h : w.ownsRow B 71 6 v ps.length (flatG ct ps)) : MpV w v ct ps := by
  rcases h.2 with ⟨rfl, h0⟩ | ⟨g, cap, cur, rfl, hb, hg, hn, hc, _⟩
  · have : ps = [] := List.eq_nil_of_length_eq_zero h0
    subst this
    exact ⟨none, 0, rfl, Nat.le_refl _, by simp, fun i p hp => by cases hp⟩
  · refine ⟨_, cap, rfl, hn, by unfold maxLen at hc; omega, fun i p hp => ⟨g, rfl, (Array.getElem?_eq_some_iff.1 hg).1, ?_⟩⟩
    have hadd : ∀ j, (⟨g, 0, none⟩ : Addr).add j = ⟨g, j, none⟩ := by intro j; unfold Addr.add; split <;> simp_all
    have hcc := h.cells (g := g) rfl
    have at1 : ∀ j u, j < 6 → (p.cells ct)[j]? = some u → w.cell? ⟨g, i * 6 + j, none⟩ = some u := by
      intro j u hj hu
      have := hcc (i * 6 + j) u ((flatG_get hp hj).trans hu)
      rwa [hadd] at this
    exact ⟨at1 0 _ (by omega) rfl, at1 1 _ (by omega) rfl, at1 2 _ (by omega) rfl, at1 3 _ (by omega) rfl, at1 4 _ (by omega) rfl, at1 5 _ (by omega) rfl⟩

def pgOf (ct : Nat) (xs : List Nat) : Pg := ⟨xs.getD 0 0, xs.getD 1 0, if ct % 2 = 1 then xs.getD 2 0 else 0, if ct / 2 = 1 then xs.getD (2 + ct % 2) 0 else 0, !xs.isEmpty⟩
theorem pgOf_ok (ct : Nat) (xs : List Nat) : (pgOf ct xs).ok := by
  intro h
  cases xs with
  | nil => exact ⟨rfl, rfl, by simp [pgOf], by simp [pgOf]⟩
  | cons a b => cases h

/-- The points under way. -/
structure Mz (P : GP) (B b r : Nat) (t : ByteArray) (w0 w : World) (v : Value) (ct : Nat) (pts : List Pg) (l : List Tok) : Prop where
  fr : Fr B b r w0 w
  bw : B ≤ w0.heap.size
  bl : b < w0.heap.size
  rl : r < w0.heap.size
  res : w.heap[w0.heap.size]? = some (.cells #[.slice none 0 0, .int .u8 0] 41 (0, 0))
  own : w.ownsRow w0.heap.size 71 6 v pts.length (flatG ct pts)
  ev : Ev P w B t
  ps : PS w B b r t l
  tg : ∀ k ∈ l, Tg k

section
variable {P : GP} {B b r : Nat} {t : ByteArray} {w0 w w' : World} {v : Value} {ct : Nat} {pts : List Pg} {l l' : List Tok} {k : Tok}
theorem own_fr {bs n size : Nat} {e : TypeId} {xs : List Value} (h : w.ownsRow bs e size v n xs) (q : Fr B b r w w') (h5 : e ≠ 5) (hb : b < bs) (hr : r < bs) : w'.ownsRow bs e size v n xs := by
  refine ⟨h.1, ?_⟩
  rcases h.2 with hn | ⟨g, cap, cur, rfl, hbg, hgg, rest⟩
  · exact .inl hn
  · exact .inr ⟨g, cap, cur, rfl, hbg, q.oth _ _ hgg (by omega) (by omega) (by intro c fz e1; injection e1 with _ e2 _; exact h5 e2), rest⟩
theorem Mz.go (h : Mz P B b r t w0 w v ct pts l) (q : Fr B b r w w') (hp : PS w' B b r t l') (hl : ∀ k ∈ l', k ∈ l) : Mz P B b r t w0 w' v ct pts l' :=
  ⟨h.fr.trans q, h.bw, h.bl, h.rl, q.oth _ _ h.res (by have := h.bl; omega) (by have := h.rl; omega) (by intro c fz e; cases e), own_fr h.own q (by decide) h.bl h.rl, h.ev.fr q, hp, fun k hk => h.tg k (hl k hk)⟩
theorem Mz.bel (h : Mz P B b r t w0 w v ct pts l) (q : Below w.heap.size w w') : Mz P B b r t w0 w' v ct pts l :=
  h.go (Fr.of_below q (Nat.le_trans h.bw h.fr.bel.size)) (h.ps.below q) fun _ h => h
theorem Mz.app (h : Mz P B b r t w0 w v ct pts l) {v' : Value} {p : Pg} (ho : w'.ownsRow w0.heap.size 71 6 v' (pts.length + 1) (flatG ct pts ++ p.cells ct)) (q : w.grownBy w' v.ownBlock) : Mz P B b r t w0 w' v' ct (pts ++ [p]) l := by
  have hown := h.own
  have hne : ∀ (g : Nat) (o : Obj), v.ownBlock = some g → w.heap[g]? = some o → ∃ c, o = Obj.cells c 71 (0, 0) := by
    intro g o hg ho
    rcases hown.2 with ⟨rfl, _⟩ | ⟨g', cap, cur, rfl, hb, hgg, _⟩
    · cases hg
    · cases hg
      rw [hgg] at ho
      cases ho
      exact ⟨cur, rfl⟩
  have keepO : ∀ (k : Nat) (o : Obj), w.heap[k]? = some o → (∀ c, o ≠ Obj.cells c 71 (0, 0)) → w'.heap[k]? = some o := by
    intro k o hk hno
    rw [q.block k (Array.getElem?_eq_some_iff.1 hk).1 ?_]
    · exact hk
    · intro e
      obtain ⟨c, hc⟩ := hne k o e.symm hk
      exact hno c hc
  have keepL : ∀ k, k < w0.heap.size → w'.heap[k]? = w.heap[k]? := by
    intro k hk
    refine q.block k (Nat.lt_of_lt_of_le hk h.fr.bel.size) ?_
    intro e
    have := (hown.lt k e.symm).1
    omega
  have hoth : Oth b r w w' := by
    refine ⟨q.size, fun k o hk ho => ?_⟩
    rcases ho with rfl | rfl | ⟨c, fz, rfl⟩
    · rw [keepL _ h.bl]; exact hk
    · rw [keepL _ h.rl]; exact hk
    · exact keepO k _ hk (by intro c' e; cases e)
  have hkB : Keep (fun k => B ≤ k) w w' := ⟨q.os, q.tape, q.output, q.size, fun k _ hs => keepL k (by have := h.bw; omega)⟩
  refine ⟨⟨⟨q.os.trans h.fr.bel.os, q.tape.trans h.fr.bel.tape, q.output.trans h.fr.bel.output, Nat.le_trans h.fr.bel.size q.size, fun k hk => ?_⟩, fun k o hk hb hr ho => ?_⟩, h.bw, h.bl, h.rl, keepO _ _ h.res (by intro c e; cases e), ?_, h.ev.keep hkB, h.ps.othr hoth, h.tg⟩
  · rw [keepL k (Nat.lt_of_lt_of_le hk h.bw)]; exact h.fr.bel.block k hk
  · have h1 := h.fr.oth k o hk hb hr ho
    rw [keepL k (Array.getElem?_eq_some_iff.1 hk).1]; exact h1
  · rw [flatG_snoc, List.length_append]; exact ho
theorem Mz.rcells (h : Mz P B b r t w0 w v ct pts l) : w.cell? ⟨w0.heap.size, 0, none⟩ = some (.slice none 0 0) ∧ w.cell? ⟨w0.heap.size, 1, none⟩ = some (.int .u8 0) ∧ w.frozen? ⟨w0.heap.size, 0, none⟩ = false ∧ w.frozen? ⟨w0.heap.size, 1, none⟩ = false :=
  ⟨by simp [World.cell?, h.res], by simp [World.cell?, h.res], Lib.frozen_of_heap h.res 0, Lib.frozen_of_heap h.res 1⟩
end

/-- The result's block alone, behind a fault. -/
structure Rz (B b r : Nat) (w0 w : World) : Prop where
  fr : Fr B b r w0 w
  bw : B ≤ w0.heap.size
  res : w.heap[w0.heap.size]? = some (.cells #[.slice none 0 0, .int .u8 0] 41 (0, 0))
section
variable {P : GP} {B b r : Nat} {t : ByteArray} {w0 w w' : World} {v : Value} {ct : Nat} {pts : List Pg} {l l' : List Tok} {k : Tok}
theorem Mz.rz (h : Mz P B b r t w0 w v ct pts l) (q : Fr B b r w w') : Rz B b r w0 w' :=
  ⟨h.fr.trans q, h.bw, q.oth _ _ h.res (by have := h.bl; omega) (by have := h.rl; omega) (by intro c fz e; cases e)⟩
theorem Rz.rcells (h : Rz B b r w0 w) : w.cell? ⟨w0.heap.size, 0, none⟩ = some (.slice none 0 0) ∧ w.cell? ⟨w0.heap.size, 1, none⟩ = some (.int .u8 0) ∧ w.frozen? ⟨w0.heap.size, 0, none⟩ = false ∧ w.frozen? ⟨w0.heap.size, 1, none⟩ = false :=
  ⟨by simp [World.cell?, h.res], by simp [World.cell?, h.res], Lib.frozen_of_heap h.res 0, Lib.frozen_of_heap h.res 1⟩
theorem Rz.keep (h : Rz B b r w0 w) (q : Keep (fun _ => False) w w') : Rz B b r w0 w' := by
  have hb : Fr B b r w w' := Fr.of_below q.below (Nat.le_trans h.bw h.fr.bel.size)
  exact ⟨h.fr.trans hb, h.bw, (q.block _ (Array.getElem?_eq_some_iff.1 h.res).1 (fun h => h)).trans h.res⟩
theorem Rz.alloc (h : Rz B b r w0 w) (o : Obj) : Rz B b r w0 (w.alloc o) := h.keep ((Keep.refl _ w).alloc o)
/-- The result's two stores. -/
theorem Rz.fin (h : Rz B b r w0 w) (v0 v1 : Value) : Fr B b r w0 ((w.setCell ⟨w0.heap.size, 0, none⟩ v0).setCell ⟨w0.heap.size, 1, none⟩ v1) ∧ ((w.setCell ⟨w0.heap.size, 0, none⟩ v0).setCell ⟨w0.heap.size, 1, none⟩ v1).heap[w0.heap.size]? = some (.cells #[v0, v1] 41 (0, 0)) :=
  ⟨(h.fr.setNew (Nat.le_refl _) h.bw v0).setNew (Nat.le_refl _) h.bw v1, Lib.heap_setCell_same (i := 1) (Lib.heap_setCell_same (i := 0) h.res v0) v1⟩

theorem Mz.start (hV : Ev P w B t) (h : PS w B b r t l) (hg : ∀ k ∈ l, Tg k) (ct : Nat) : Mz P B b r t w (w.alloc (.cells #[.slice none 0 0, .int .u8 0] 41)) (.slice none 0 0) ct [] l :=
  ⟨(Fr.refl B b r w).alloc h.BW.1 _, h.BW.1, h.BW.2.2.1, h.BW.2.2.2, heap_alloc_new w _, World.ownsRow_nil _ _ _ _, hV.keep ((Keep.refl _ w).alloc _), h.othr ((Oth.refl b r w).alloc _), hg⟩

/-- A point of the body. -/
theorem Mz.pt (h : Mz P B b r t w0 w v ct pts l) (hct : ct < 4) {xs : List Nat} {q : List Tok} (hv : pPoint (val P) (wd ct) l = some (xs, q)) :
    Calls Tryz.prog 44 #[.pointer (some ⟨b, 0, none⟩), .int .u8 (ct : Int)] w fun en w' => en = .returned (.tuple #[if xs = [] then crdV 0 0 0 0 0 else ptV ct xs, .bool (!xs.isEmpty), .nilIface]) ∧ Mz P B b r t w0 w' v ct pts q := by
  refine (msp_calls h.ev h.ps h.tg ct hct).mono ?_
  rintro en w' h1
  rw [hv] at h1
  obtain ⟨h1, h2, h3⟩ := h1
  refine ⟨h1, h.go h3 h2 fun k hk => ?_⟩
  obtain ⟨cc, rfl, _⟩ := pPoint_eats (val_kind P) (w := wd ct) (by unfold wd; omega) l xs q hv
  simp [hk]
theorem Mz.ptN (h : Mz P B b r t w0 w v ct pts l) (hct : ct < 4) (hv : pPoint (val P) (wd ct) l = none) :
    Calls Tryz.prog 44 #[.pointer (some ⟨b, 0, none⟩), .int .u8 (ct : Int)] w fun en w' => (∃ v, en = .returned (.tuple #[.agg #[.float .f64 0, .float .f64 0, .float .f64 0, .float .f64 0, .int .u8 0], .bool false, .iface 138 v])) ∧ Rz B b r w0 w' := by
  refine (msp_calls h.ev h.ps h.tg ct hct).mono ?_
  rintro en w' h1
  rw [hv] at h1
  exact ⟨h1.1, h.rz h1.2⟩
/-- A comma or a parenthesis. -/
theorem Mz.sep (h : Mz P B b r t w0 w v ct pts (k :: l)) (hk : k.k = 44 ∨ k.k = 41) :
    Calls Tryz.prog 47 #[.pointer (some ⟨b, 0, none⟩)] w fun en w' => en = .returned (.tuple #[.string k.s, .nilIface]) ∧ Mz P B b r t w0 w' v ct pts l := by
  have htk := h.tg k (by simp)
  rcases hk with hk | hk
  · refine (cr_comma h.ev.en h.ps (htk.sign (x := 44) (by omega) hk)).mono ?_
    rintro en w' ⟨h1, h2, h3⟩
    exact ⟨h1, h.go h3 h2 fun _ h => List.mem_cons_of_mem _ h⟩
  · refine (cr_right h.ev.en h.ps (htk.sign (x := 41) (by omega) hk)).mono ?_
    rintro en w' ⟨h1, h2, h3⟩
    exact ⟨h1, h.go h3 h2 fun _ h => List.mem_cons_of_mem _ h⟩
theorem Mz.sepN (h : Mz P B b r t w0 w v ct pts l) (hl : ∀ k q, l = k :: q → k.k ≠ 44 ∧ k.k ≠ 41) :
    Calls Tryz.prog 47 #[.pointer (some ⟨b, 0, none⟩)] w fun en w' => ErrT en ∧ Rz B b r w0 w' := by
  cases l with
  | nil =>
    refine (cr_nil h.ev.en h.ev.eof h.ps).mono ?_
    rintro en w' ⟨h1, h2⟩
    exact ⟨h1, h.rz h2⟩
  | cons k q =>
    obtain ⟨h1, h2⟩ := hl k q rfl
    have htk := h.tg k (by simp)
    refine (cr_bad h.ev.en h.ps (htk.nsign (x := 41) (by omega) h2) (htk.nsign (x := 44) (by omega) h1)).mono ?_
    rintro en w' ⟨h1, h2⟩
    exact ⟨h1, h.rz h2⟩
end

/-- What nextMultiPointText answers. -/
def MptR (P : GP) (B b r : Nat) (ct : Nat) (o : Option (List (List Nat) × List Tok)) (w : World) (en : Ending) (w' : World) : Prop :=
  match o with
  | some (xss, _) => (∃ v, en = .returned (.tuple #[.agg #[v, .int .u8 (ct : Int)], .nilIface]) ∧ MpV w' v ct (xss.map (pgOf ct))) ∧ Fr B b r w w'
  | none => (∃ v, en = .returned (.tuple #[.agg #[.slice none 0 0, .int .u8 0], .iface 138 v])) ∧ Fr B b r w w'

end Go.Proofs.YtlckfiflfkbofaaGreatDoor

/- nextMultiPointText: the walk. -/
namespace Go.Proofs.YtlckfiflfkbofaaGreatDoor
open Go.RowKit
section
variable {P : GP} {w : World} {B b r : Nat} {t : ByteArray} {l : List Tok} {k : Tok}

set_option maxRecDepth 100000 in
set_option maxHeartbeats 3200000 in
theorem mpt_nil (hV : Ev P w B t) (h : PS w B b r t []) (hg : ∀ u ∈ [], Tg u) (ct : Nat) (hct : ct < 4)  : Calls Tryz.prog 23 #[.pointer (some ⟨b, 0, none⟩), .int .u8 (ct : Int)] w fun en w' => MptR P B b r ct none w en w' := by
  have hM := Mz.start hV h hg ct
  have hn := es_nil hM.ev.en hM.ev.eof hM.ps
  go_enter Tryz.func23, Tryz.ntmps23
  go_wp2_with (go_at_call 43; refine hn.mono ?_; clear hn; rintro en w2 ⟨⟨v, rfl⟩, hF⟩; have hN := hM.rz hF; clear hM; obtain ⟨r0, r1, r2, r3⟩ := hN.rcells)
  (try simp only [Exit.inBlock, Exit.then]); refine bodyPost_ret (results_two rfl _ _ _ _ _ _ _ rfl (hN.fin _ _).2 Tryz.underlying41 info41) rfl ?_
  exact ⟨⟨_, rfl⟩, (hN.fin _ _).1⟩

set_option maxRecDepth 100000 in
set_option maxHeartbeats 3200000 in
theorem mpt_bad (hV : Ev P w B t) (h : PS w B b r t (k :: l)) (hg : ∀ u ∈ (k :: l), Tg u) (ct : Nat) (hct : ct < 4) (hk0 : (k.s.toList == [69, 77, 80, 84, 89]) = false) (hk1 : (k.s.toList == [40]) = false) : Calls Tryz.prog 23 #[.pointer (some ⟨b, 0, none⟩), .int .u8 (ct : Int)] w fun en w' => MptR P B b r ct none w en w' := by
  have hM := Mz.start hV h hg ct
  have hn := es_bad hM.ev.en hM.ps hk0 hk1
  go_enter Tryz.func23, Tryz.ntmps23
  go_wp2_with (go_at_call 43; refine hn.mono ?_; clear hn; rintro en w2 ⟨⟨v, rfl⟩, hF⟩; have hN := hM.rz hF; clear hM; obtain ⟨r0, r1, r2, r3⟩ := hN.rcells)
  (try simp only [Exit.inBlock, Exit.then]); refine bodyPost_ret (results_two rfl _ _ _ _ _ _ _ rfl (hN.fin _ _).2 Tryz.underlying41 info41) rfl ?_
  exact ⟨⟨_, rfl⟩, (hN.fin _ _).1⟩

set_option maxRecDepth 100000 in
set_option maxHeartbeats 3200000 in
theorem mpt_emp (hV : Ev P w B t) (h : PS w B b r t (k :: l)) (hg : ∀ u ∈ (k :: l), Tg u) (ct : Nat) (hct : ct < 4) (hk : k.s.toList = [69, 77, 80, 84, 89]) (hk1 : (k.s.toList == [40]) = false) : Calls Tryz.prog 23 #[.pointer (some ⟨b, 0, none⟩), .int .u8 (ct : Int)] w fun en w' => MptR P B b r ct (some ([], l)) w en w' := by
  have hM := Mz.start hV h hg ct
  have hn := es_empty hM.ev.en hM.ps hk
  go_enter Tryz.func23, Tryz.ntmps23
  go_wp2_with (first | (go_at_call 43; refine hn.mono ?_; clear hn; rintro en w2 ⟨rfl, hP, hF⟩; have hN := hM.rz hF; clear hM) | (go_at_call 48; refine (fe_calls w2 ct hct).mono ?_; rintro en w3 ⟨v, rfl, hv, hK⟩; have hN := hN.keep hK; obtain ⟨a, cap, rfl, h2, h3, h4⟩ := hv; obtain ⟨r0, r1, r2, r3⟩ := hN.rcells))
  (try simp only [Exit.inBlock, Exit.then]); refine bodyPost_ret (results_two rfl _ _ _ _ _ _ _ rfl (hN.fin _ _).2 Tryz.underlying41 info41) rfl ?_
  refine ⟨⟨_, rfl, ?_⟩, (hN.fin _ _).1⟩
  exact ⟨a, cap, rfl, h2, h3, fun i p hp => by cases hp⟩

theorem pPoint_len {ct : Nat} {l : List Tok} {xs : List Nat} {q : List Tok} (h : pPoint (val P) (wd ct) l = some (xs, q)) : q.length ≤ l.length := by
  obtain ⟨c, rfl, _⟩ := pPoint_eats (val_kind P) (w := wd ct) (by unfold wd; omega) _ _ _ h
  simp
theorem pPoint_mem {ct : Nat} {l : List Tok} {xs : List Nat} {q : List Tok} {k : Tok} (h : pPoint (val P) (wd ct) l = some (xs, k :: q)) : k ∈ l := by
  obtain ⟨c, rfl, _⟩ := pPoint_eats (val_kind P) (w := wd ct) (by unfold wd; omega) _ _ _ h
  simp
theorem keep2 (w : World) (c : Nat) (u v : Value) : Keep (fun k => k = c) w ((w.setCell ⟨c, 0, none⟩ u).setCell ⟨c, 1, none⟩ v) :=
  ((Keep.refl (fun k => k = c) w).setCell (p := ⟨c, 0, none⟩) (Or.inr rfl) u).setCell (p := ⟨c, 1, none⟩) (Or.inr rfl) v
theorem MpV.but {w w' : World} {v : Value} {ct c : Nat} {ps : List Pg} {u : Value} (h : MpV w v ct ps) (hc : w.heap[c]? = some (.cells #[.slice none 0 0, u] 41 (0, 0))) (q : Keep (fun k => k = c) w w') : MpV w' v ct ps := by
  obtain ⟨a, cap, h1, h2, h3, h4⟩ := h
  refine ⟨a, cap, h1, h2, h3, fun i p hp => ?_⟩
  obtain ⟨g, e, hg, hcc⟩ := h4 i p hp
  refine ⟨g, e, Nat.lt_of_lt_of_le hg q.size, hcc.keep q fun e2 => ?_⟩
  subst e2
  have h0 := hcc.1
  have h1 := hcc.2.1
  rcases Nat.eq_zero_or_pos i with rfl | hi
  · simp [World.cell?, hc] at h0
  · have : i * 6 ≥ 6 := by omega
    simp only [World.cell?, hc] at h0
    rw [Array.getElem?_eq_none (by simp; omega)] at h0
    cases h0

set_option maxRecDepth 100000 in
set_option maxHeartbeats 3200000 in
theorem mpt_loop (hV : Ev P w B t) (h : PS w B b r t (k :: l)) (hg : ∀ u ∈ (k :: l), Tg u) (ct : Nat) (hct : ct < 4) (hk : k.s.toList = [40]) (hll : l.length ≤ 3000) : Calls Tryz.prog 23 #[.pointer (some ⟨b, 0, none⟩), .int .u8 (ct : Int)] w fun en w' => MptR P B b r ct (pPoints (val P) (wd ct) (l.length + 1) l) w en w' := by
  obtain ⟨i0, hi, hz0, hz1, hz2⟩ := info_parts ptInfo
  have hM := Mz.start hV h hg ct
  have hn := es_paren hM.ev.en hM.ps hk
  have hst := run_store_flt
  have h46 := fun W => np46 ct W
  obtain ⟨R0, hR0⟩ : ∃ R0, R0 = pPoints (val P) (wd ct) (l.length + 1) l := ⟨_, rfl⟩
  rw [← hR0]
  have HR0 := Lib.hid hR0
  clear hR0 h hV hg
  go_enter Tryz.func23, Tryz.ntmps23
  go_wp2_with (go_at_call 43; refine hn.mono ?_; clear hn; rintro en w2 ⟨rfl, hP, hF⟩; have hM2 := Lib.hid (hM.go hF hP fun _ h => List.mem_cons_of_mem _ h); clear hM hP hF)
  go_loopg [8] l.length (fun kq v8 wx => ∃ (acc : List (List Nat)) (l' : List Tok), l'.length ≤ kq ∧ acc.length + kq ≤ 3000 ∧ Hid (Mz P B b r t w wx v8 ct (acc.map (pgOf ct)) l') ∧ Hid (R0 = (pPoints (val P) (wd ct) (kq + 1) l').map fun y => (acc ++ y.1, y.2)))
  case atStart => exact ⟨[], l, Nat.le_refl _, by simpa using hll, hM2, Lib.hid (HR0.out.trans (by cases pPoints (val P) (wd ct) (l.length + 1) l <;> simp))⟩
  case round =>
    obtain ⟨acc, l', hlk, hak, hM1, hq⟩ := hrel
    have hM0 := hM1.out
    have hq' := hq.out
    cases hpp : pPoint (val P) (wd ct) l' with
    | none =>
      have h44 := hM0.ptN hct hpp
      have hR : Hid (R0 = none) := Lib.hid (hq'.trans (by simp only [pPoints, hpp]; rfl))
      clear hq hq' hpp HR0
      go_wp2_with (first | (go_at_call 44; refine h44.mono ?_; clear h44; rintro en w3 ⟨⟨v, rfl⟩, hN0⟩; have hN := hN0.alloc (.cells #[.float .f64 0, .float .f64 0, .float .f64 0, .float .f64 0, .int .u8 0] 69); obtain ⟨r0, r1, r2, r3⟩ := hN.rcells))
      (try simp only [Exit.inBlock, Exit.then]); refine bodyPost_ret (results_two rfl _ _ _ _ _ _ _ rfl (hN.fin _ _).2 Tryz.underlying41 info41) rfl ?_
      rw [hR.out]
      exact ⟨⟨_, rfl⟩, (hN.fin _ _).1⟩
    | some pq =>
      obtain ⟨xs, q⟩ := pq
      have h44 := hM0.pt hct hpp
      by_cases hxs : xs = []
      · rw [if_pos hxs] at h44
        have hpl : #[Value.float .f64 0, Value.float .f64 0, Value.float .f64 0, Value.float .f64 0, Value.int .u8 (ct : Int), Value.bool false].toList = (pgOf ct xs).cells ct := by rw [hxs]; simp [Pg.cells, pgOf]
        have hb : (!xs.isEmpty) = false := by rw [hxs]; rfl
        rw [hb] at h44
        have h44 : Calls Tryz.prog 44 #[.pointer (some ⟨b, 0, none⟩), .int .u8 (ct : Int)] wr fun en w' => en = .returned (.tuple #[.agg #[.float .f64 0, .float .f64 0, .float .f64 0, .float .f64 0, .int .u8 0], .bool false, .nilIface]) ∧ Mz P B b r t w w' u8 ct (acc.map (pgOf ct)) q := h44
        have HPL := Lib.hid hpl
        clear hM1 hb hpl
        cases q with
        | nil =>
          have hR : Hid (R0 = none) := Lib.hid (hq'.trans (by simp only [pPoints, hpp]; rfl))
          clear hq hq' hpp HR0
          go_wp2_with (first | (go_at_call 44; refine h44.mono ?_; clear h44; rintro en w3 ⟨rfl, hM⟩; have hM3 := hM.bel ((Below.refl _ w3).alloc (Nat.le_refl _) (.cells #[.float .f64 0, .float .f64 0, .float .f64 0, .float .f64 0, .int .u8 0] 69)); clear hM) | (go_at_call 46; refine (h46 _).mono ?_; rintro en w5 ⟨rfl, hB⟩; have hM5 := hM3.bel hB; clear hM3 h46) | (at_builtin; refine wpList_append_one rfl _ _ 38 rfl w.heap.size 71 i0 _ 6 48 Tryz.underlying38 hi hz0 hz1 hz2 rfl (by omega) (by omega) _ _ _ _ _ (by rfl) (by exact hM5.own) (by first | rfl | (simp only [World.size_alloc]; rfl)) rfl (by intro u hu; simp at hu; rcases hu with rfl | rfl | rfl | rfl | rfl | rfl <;> rfl) (by rw [List.length_map]; omega) (hM5.fr.bel.size) ?_; intro v6 w6 ho6 hg6; rw [HPL.out] at ho6; have hM6 := hM5.app (p := pgOf ct xs) ho6 hg6; clear ho6 hg6 hM5; have h47 := hM6.sepN (fun _ _ h => by cases h); clear hM6) | (go_at_call 47; refine h47.mono ?_; clear h47; rintro en w7 ⟨⟨v, rfl⟩, hN⟩; obtain ⟨r0, r1, r2, r3⟩ := hN.rcells))
          (try simp only [Exit.inBlock, Exit.then]); refine bodyPost_ret (results_two rfl _ _ _ _ _ _ _ rfl (hN.fin _ _).2 Tryz.underlying41 info41) rfl ?_
          rw [hR.out]
          exact ⟨⟨_, rfl⟩, (hN.fin _ _).1⟩
        | cons k2 l2 =>
          have hln := pPoint_len hpp
          have htk2 := hM0.tg k2 (pPoint_mem hpp)
          by_cases h44k : k2.k = 44
          · have hs := htk2.sign (x := 44) (by omega) h44k
            have hR : Hid (R0 = (pPoints (val P) (wd ct) gk l2).map fun y => ((acc ++ [xs]) ++ y.1, y.2)) := Lib.hid (hq'.trans (by
              simp only [pPoints, hpp, h44k, if_true]
              cases pPoints (val P) (wd ct) gk l2 <;> simp))
            clear hq hq' hpp HR0 htk2
            go_wp2_with (first | (go_at_call 44; refine h44.mono ?_; clear h44; rintro en w3 ⟨rfl, hM⟩; have hM3 := hM.bel ((Below.refl _ w3).alloc (Nat.le_refl _) (.cells #[.float .f64 0, .float .f64 0, .float .f64 0, .float .f64 0, .int .u8 0] 69)); clear hM) | (go_at_call 46; refine (h46 _).mono ?_; rintro en w5 ⟨rfl, hB⟩; have hM5 := hM3.bel hB; clear hM3 h46) | (at_builtin; refine wpList_append_one rfl _ _ 38 rfl w.heap.size 71 i0 _ 6 48 Tryz.underlying38 hi hz0 hz1 hz2 rfl (by omega) (by omega) _ _ _ _ _ (by rfl) (by exact hM5.own) (by first | rfl | (simp only [World.size_alloc]; rfl)) rfl (by intro u hu; simp at hu; rcases hu with rfl | rfl | rfl | rfl | rfl | rfl <;> rfl) (by rw [List.length_map]; omega) (hM5.fr.bel.size) ?_; intro v6 w6 ho6 hg6; rw [HPL.out] at ho6; have hM6 := hM5.app (p := pgOf ct xs) ho6 hg6; clear ho6 hg6 hM5; have h47 := hM6.sep (Or.inl h44k); clear hM6) | (go_at_call 47; refine h47.mono ?_; clear h47; rintro en w7 ⟨rfl, hM7⟩))
            go_roundg (gk - 1)
            case measure => simp only [List.length_cons] at hln; omega
            case rel =>
              simp only [List.length_cons] at hln
              refine ⟨acc ++ [xs], l2, by omega, by simp only [List.length_append, List.length_cons, List.length_nil]; omega, ?_, ?_⟩
              · rw [List.map_append]; exact Lib.hid hM7
              · rw [show gk - 1 + 1 = gk by omega]; exact hR
          · by_cases h41k : k2.k = 41
            · have hs := htk2.nsign (x := 44) (by omega) h44k
              have hs2 : (k2.s.toList == [44]) = false := hs
              have hR : Hid (R0 = some (acc ++ [xs], l2)) := Lib.hid (hq'.trans (by simp only [pPoints, hpp, h44k, h41k, if_true, if_false]; rfl))
              clear hq hq' hpp HR0 htk2 hs
              go_wp2_with (first | (go_at_call 44; refine h44.mono ?_; clear h44; rintro en w3 ⟨rfl, hM⟩; have hM3 := hM.bel ((Below.refl _ w3).alloc (Nat.le_refl _) (.cells #[.float .f64 0, .float .f64 0, .float .f64 0, .float .f64 0, .int .u8 0] 69)); clear hM) | (go_at_call 46; refine (h46 _).mono ?_; rintro en w5 ⟨rfl, hB⟩; have hM5 := hM3.bel hB; clear hM3 h46) | (at_builtin; refine wpList_append_one rfl _ _ 38 rfl w.heap.size 71 i0 _ 6 48 Tryz.underlying38 hi hz0 hz1 hz2 rfl (by omega) (by omega) _ _ _ _ _ (by rfl) (by exact hM5.own) (by first | rfl | (simp only [World.size_alloc]; rfl)) rfl (by intro u hu; simp at hu; rcases hu with rfl | rfl | rfl | rfl | rfl | rfl <;> rfl) (by rw [List.length_map]; omega) (hM5.fr.bel.size) ?_; intro v6 w6 ho6 hg6; rw [HPL.out] at ho6; have hM6 := hM5.app (p := pgOf ct xs) ho6 hg6; clear ho6 hg6 hM5; have h47 := hM6.sep (Or.inr h41k); clear hM6) | (go_at_call 47; refine h47.mono ?_; clear h47; rintro en w7 ⟨rfl, hM7⟩; obtain ⟨a, cap, hv6, hcap, hcap2, _⟩ := own_mp hM7.own; have hmp := own_mp hM7.own; subst hv6; rw [List.length_append, List.length_map, List.length_singleton] at hmp; have hN := hM7.rz (Fr.refl _ _ _ _); clear hM7; have hlen9 : (((acc.length + 1 : Nat) : Int) == 0) = false := (by simp; omega)) | (go_at_call 49; refine (nm_calls _ _ ct hct _ (by simpa using hmp) (by simp; omega) (by intro q hq; simp at hq; rcases hq with ⟨a, _, rfl⟩ | rfl <;> exact pgOf_ok _ _) (by simp)).mono ?_; rintro en w8 ⟨v8, rfl, hv8, hK⟩; have hN := hN.keep hK; have hv9 := Lib.hid hv8; obtain ⟨a8, cap8, rfl, _⟩ := hv8; obtain ⟨r0, r1, r2, r3⟩ := hN.rcells))
              (try simp only [Exit.inBlock, Exit.then]); refine bodyPost_ret (results_two rfl _ _ _ _ _ _ _ rfl (hN.fin _ _).2 Tryz.underlying41 info41) rfl ?_
              rw [hR.out]
              refine ⟨⟨_, rfl, ?_⟩, (hN.fin _ _).1⟩
              rw [List.map_append]
              have h9 := hv9.out
              rw [show (List.map (pgOf ct) acc ++ [pgOf ct xs]).length = acc.length + 1 by simp] at h9
              refine h9.but hN.res ?_
              exact keep2 _ _ _ _
            · have hR : Hid (R0 = none) := Lib.hid (hq'.trans (by simp only [pPoints, hpp, h44k, h41k, if_false]; rfl))
              clear hq hq' hpp HR0
              go_wp2_with (first | (go_at_call 44; refine h44.mono ?_; clear h44; rintro en w3 ⟨rfl, hM⟩; have hM3 := hM.bel ((Below.refl _ w3).alloc (Nat.le_refl _) (.cells #[.float .f64 0, .float .f64 0, .float .f64 0, .float .f64 0, .int .u8 0] 69)); clear hM) | (go_at_call 46; refine (h46 _).mono ?_; rintro en w5 ⟨rfl, hB⟩; have hM5 := hM3.bel hB; clear hM3 h46) | (at_builtin; refine wpList_append_one rfl _ _ 38 rfl w.heap.size 71 i0 _ 6 48 Tryz.underlying38 hi hz0 hz1 hz2 rfl (by omega) (by omega) _ _ _ _ _ (by rfl) (by exact hM5.own) (by first | rfl | (simp only [World.size_alloc]; rfl)) rfl (by intro u hu; simp at hu; rcases hu with rfl | rfl | rfl | rfl | rfl | rfl <;> rfl) (by rw [List.length_map]; omega) (hM5.fr.bel.size) ?_; intro v6 w6 ho6 hg6; rw [HPL.out] at ho6; have hM6 := hM5.app (p := pgOf ct xs) ho6 hg6; clear ho6 hg6 hM5; have h47 := hM6.sepN (fun _ _ h => by cases h; exact ⟨h44k, h41k⟩); clear hM6) | (go_at_call 47; refine h47.mono ?_; clear h47; rintro en w7 ⟨⟨v, rfl⟩, hN⟩; obtain ⟨r0, r1, r2, r3⟩ := hN.rcells))
              (try simp only [Exit.inBlock, Exit.then]); refine bodyPost_ret (results_two rfl _ _ _ _ _ _ _ rfl (hN.fin _ _).2 Tryz.underlying41 info41) rfl ?_
              rw [hR.out]
              exact ⟨⟨_, rfl⟩, (hN.fin _ _).1⟩
      · rw [if_neg hxs] at h44
        obtain ⟨p, hp⟩ : ∃ p, p = pgOf ct xs := ⟨_, rfl⟩
        have hb : (!xs.isEmpty) = true := by cases xs with
          | nil => exact absurd rfl hxs
          | cons a c => rfl
        have hpl : #[Value.float .f64 p.x, Value.float .f64 p.y, Value.float .f64 p.z, Value.float .f64 p.m, Value.int .u8 (ct : Int), Value.bool true].toList = (pgOf ct xs).cells ct := by rw [hp]; simp only [Pg.cells, pgOf, hb]
        rw [hb] at h44
        have h44 : Calls Tryz.prog 44 #[.pointer (some ⟨b, 0, none⟩), .int .u8 (ct : Int)] wr fun en w' => en = .returned (.tuple #[.agg #[.float .f64 p.x, .float .f64 p.y, .float .f64 p.z, .float .f64 p.m, .int .u8 (ct : Int)], .bool true, .nilIface]) ∧ Mz P B b r t w w' u8 ct (acc.map (pgOf ct)) q := by rw [hp]; exact h44
        have h45 := fun W => np45 p.x p.y p.z p.m ct W
        have HPL := Lib.hid hpl
        clear hM1 hb hp hpl
        cases q with
        | nil =>
          have hR : Hid (R0 = none) := Lib.hid (hq'.trans (by simp only [pPoints, hpp]; rfl))
          clear hq hq' hpp HR0
          go_wp2_with (first | (go_at_call 44; refine h44.mono ?_; clear h44; rintro en w3 ⟨rfl, hM⟩; have hM3 := hM.bel ((Below.refl _ w3).alloc (Nat.le_refl _) (.cells #[.float .f64 p.x, .float .f64 p.y, .float .f64 p.z, .float .f64 p.m, .int .u8 (ct : Int)] 69)); clear hM) | (go_at_call 45; refine (h45 _).mono ?_; rintro en w5 ⟨rfl, hB⟩; have hM5 := hM3.bel hB; clear hM3 h45) | (at_builtin; refine wpList_append_one rfl _ _ 38 rfl w.heap.size 71 i0 _ 6 48 Tryz.underlying38 hi hz0 hz1 hz2 rfl (by omega) (by omega) _ _ _ _ _ (by rfl) (by exact hM5.own) (by first | rfl | (simp only [World.size_alloc]; rfl)) rfl (by intro u hu; simp at hu; rcases hu with rfl | rfl | rfl | rfl | rfl | rfl <;> rfl) (by rw [List.length_map]; omega) (hM5.fr.bel.size) ?_; intro v6 w6 ho6 hg6; rw [HPL.out] at ho6; have hM6 := hM5.app (p := pgOf ct xs) ho6 hg6; clear ho6 hg6 hM5; have h47 := hM6.sepN (fun _ _ h => by cases h); clear hM6) | (go_at_call 47; refine h47.mono ?_; clear h47; rintro en w7 ⟨⟨v, rfl⟩, hN⟩; obtain ⟨r0, r1, r2, r3⟩ := hN.rcells))
          (try simp only [Exit.inBlock, Exit.then]); refine bodyPost_ret (results_two rfl _ _ _ _ _ _ _ rfl (hN.fin _ _).2 Tryz.underlying41 info41) rfl ?_
          rw [hR.out]
          exact ⟨⟨_, rfl⟩, (hN.fin _ _).1⟩
        | cons k2 l2 =>
          have hln := pPoint_len hpp
          have htk2 := hM0.tg k2 (pPoint_mem hpp)
          by_cases h44k : k2.k = 44
          · have hs := htk2.sign (x := 44) (by omega) h44k
            have hR : Hid (R0 = (pPoints (val P) (wd ct) gk l2).map fun y => ((acc ++ [xs]) ++ y.1, y.2)) := Lib.hid (hq'.trans (by
              simp only [pPoints, hpp, h44k, if_true]
              cases pPoints (val P) (wd ct) gk l2 <;> simp))
            clear hq hq' hpp HR0 htk2
            go_wp2_with (first | (go_at_call 44; refine h44.mono ?_; clear h44; rintro en w3 ⟨rfl, hM⟩; have hM3 := hM.bel ((Below.refl _ w3).alloc (Nat.le_refl _) (.cells #[.float .f64 p.x, .float .f64 p.y, .float .f64 p.z, .float .f64 p.m, .int .u8 (ct : Int)] 69)); clear hM) | (go_at_call 45; refine (h45 _).mono ?_; rintro en w5 ⟨rfl, hB⟩; have hM5 := hM3.bel hB; clear hM3 h45) | (at_builtin; refine wpList_append_one rfl _ _ 38 rfl w.heap.size 71 i0 _ 6 48 Tryz.underlying38 hi hz0 hz1 hz2 rfl (by omega) (by omega) _ _ _ _ _ (by rfl) (by exact hM5.own) (by first | rfl | (simp only [World.size_alloc]; rfl)) rfl (by intro u hu; simp at hu; rcases hu with rfl | rfl | rfl | rfl | rfl | rfl <;> rfl) (by rw [List.length_map]; omega) (hM5.fr.bel.size) ?_; intro v6 w6 ho6 hg6; rw [HPL.out] at ho6; have hM6 := hM5.app (p := pgOf ct xs) ho6 hg6; clear ho6 hg6 hM5; have h47 := hM6.sep (Or.inl h44k); clear hM6) | (go_at_call 47; refine h47.mono ?_; clear h47; rintro en w7 ⟨rfl, hM7⟩))
            go_roundg (gk - 1)
            case measure => simp only [List.length_cons] at hln; omega
            case rel =>
              simp only [List.length_cons] at hln
              refine ⟨acc ++ [xs], l2, by omega, by simp only [List.length_append, List.length_cons, List.length_nil]; omega, ?_, ?_⟩
              · rw [List.map_append]; exact Lib.hid hM7
              · rw [show gk - 1 + 1 = gk by omega]; exact hR
          · by_cases h41k : k2.k = 41
            · have hs := htk2.nsign (x := 44) (by omega) h44k
              have hs2 : (k2.s.toList == [44]) = false := hs
              have hR : Hid (R0 = some (acc ++ [xs], l2)) := Lib.hid (hq'.trans (by simp only [pPoints, hpp, h44k, h41k, if_true, if_false]; rfl))
              clear hq hq' hpp HR0 htk2 hs
              go_wp2_with (first | (go_at_call 44; refine h44.mono ?_; clear h44; rintro en w3 ⟨rfl, hM⟩; have hM3 := hM.bel ((Below.refl _ w3).alloc (Nat.le_refl _) (.cells #[.float .f64 p.x, .float .f64 p.y, .float .f64 p.z, .float .f64 p.m, .int .u8 (ct : Int)] 69)); clear hM) | (go_at_call 45; refine (h45 _).mono ?_; rintro en w5 ⟨rfl, hB⟩; have hM5 := hM3.bel hB; clear hM3 h45) | (at_builtin; refine wpList_append_one rfl _ _ 38 rfl w.heap.size 71 i0 _ 6 48 Tryz.underlying38 hi hz0 hz1 hz2 rfl (by omega) (by omega) _ _ _ _ _ (by rfl) (by exact hM5.own) (by first | rfl | (simp only [World.size_alloc]; rfl)) rfl (by intro u hu; simp at hu; rcases hu with rfl | rfl | rfl | rfl | rfl | rfl <;> rfl) (by rw [List.length_map]; omega) (hM5.fr.bel.size) ?_; intro v6 w6 ho6 hg6; rw [HPL.out] at ho6; have hM6 := hM5.app (p := pgOf ct xs) ho6 hg6; clear ho6 hg6 hM5; have h47 := hM6.sep (Or.inr h41k); clear hM6) | (go_at_call 47; refine h47.mono ?_; clear h47; rintro en w7 ⟨rfl, hM7⟩; obtain ⟨a, cap, hv6, hcap, hcap2, _⟩ := own_mp hM7.own; have hmp := own_mp hM7.own; subst hv6; rw [List.length_append, List.length_map, List.length_singleton] at hmp; have hN := hM7.rz (Fr.refl _ _ _ _); clear hM7; have hlen9 : (((acc.length + 1 : Nat) : Int) == 0) = false := (by simp; omega)) | (go_at_call 49; refine (nm_calls _ _ ct hct _ (by simpa using hmp) (by simp; omega) (by intro q hq; simp at hq; rcases hq with ⟨a, _, rfl⟩ | rfl <;> exact pgOf_ok _ _) (by simp)).mono ?_; rintro en w8 ⟨v8, rfl, hv8, hK⟩; have hN := hN.keep hK; have hv9 := Lib.hid hv8; obtain ⟨a8, cap8, rfl, _⟩ := hv8; obtain ⟨r0, r1, r2, r3⟩ := hN.rcells))
              (try simp only [Exit.inBlock, Exit.then]); refine bodyPost_ret (results_two rfl _ _ _ _ _ _ _ rfl (hN.fin _ _).2 Tryz.underlying41 info41) rfl ?_
              rw [hR.out]
              refine ⟨⟨_, rfl, ?_⟩, (hN.fin _ _).1⟩
              rw [List.map_append]
              have h9 := hv9.out
              rw [show (List.map (pgOf ct) acc ++ [pgOf ct xs]).length = acc.length + 1 by simp] at h9
              refine h9.but hN.res ?_
              exact keep2 _ _ _ _
            · have hR : Hid (R0 = none) := Lib.hid (hq'.trans (by simp only [pPoints, hpp, h44k, h41k, if_false]; rfl))
              clear hq hq' hpp HR0
              go_wp2_with (first | (go_at_call 44; refine h44.mono ?_; clear h44; rintro en w3 ⟨rfl, hM⟩; have hM3 := hM.bel ((Below.refl _ w3).alloc (Nat.le_refl _) (.cells #[.float .f64 p.x, .float .f64 p.y, .float .f64 p.z, .float .f64 p.m, .int .u8 (ct : Int)] 69)); clear hM) | (go_at_call 45; refine (h45 _).mono ?_; rintro en w5 ⟨rfl, hB⟩; have hM5 := hM3.bel hB; clear hM3 h45) | (at_builtin; refine wpList_append_one rfl _ _ 38 rfl w.heap.size 71 i0 _ 6 48 Tryz.underlying38 hi hz0 hz1 hz2 rfl (by omega) (by omega) _ _ _ _ _ (by rfl) (by exact hM5.own) (by first | rfl | (simp only [World.size_alloc]; rfl)) rfl (by intro u hu; simp at hu; rcases hu with rfl | rfl | rfl | rfl | rfl | rfl <;> rfl) (by rw [List.length_map]; omega) (hM5.fr.bel.size) ?_; intro v6 w6 ho6 hg6; rw [HPL.out] at ho6; have hM6 := hM5.app (p := pgOf ct xs) ho6 hg6; clear ho6 hg6 hM5; have h47 := hM6.sepN (fun _ _ h => by cases h; exact ⟨h44k, h41k⟩); clear hM6) | (go_at_call 47; refine h47.mono ?_; clear h47; rintro en w7 ⟨⟨v, rfl⟩, hN⟩; obtain ⟨r0, r1, r2, r3⟩ := hN.rcells))
              (try simp only [Exit.inBlock, Exit.then]); refine bodyPost_ret (results_two rfl _ _ _ _ _ _ _ rfl (hN.fin _ _).2 Tryz.underlying41 info41) rfl ?_
              rw [hR.out]
              exact ⟨⟨_, rfl⟩, (hN.fin _ _).1⟩


/-- The body is read as the plain reading reads it. -/
theorem mpt_calls (hV : Ev P w B t) (h : PS w B b r t l) (hg : ∀ u ∈ l, Tg u) (hll : l.length ≤ 3000) (ct : Nat) (hct : ct < 4) :
    Calls Tryz.prog 23 #[.pointer (some ⟨b, 0, none⟩), .int .u8 (ct : Int)] w fun en w' => MptR P B b r ct (pAll (val P) (wd ct) l) w en w' := by
  cases l with
  | nil => exact mpt_nil hV h hg ct hct
  | cons k l =>
    have hk := hg k (by simp)
    simp only [pAll]
    cases hE : isE k with
    | true =>
      rw [if_pos rfl]
      have h97 : ¬ k.k = 40 := by
        intro e
        have h1 := (isE_iff hk).1 hE
        have h2 := hk.sign (x := 40) (by omega) e
        rw [h1] at h2
        cases h2
      exact mpt_emp hV h hg ct hct ((isE_iff hk).1 hE) (hk.nsign (x := 40) (by omega) h97)
    | false =>
      rw [if_neg (by simp)]
      by_cases h40 : k.k = 40
      · rw [if_pos h40]
        exact mpt_loop hV h hg ct hct (hk.sign (x := 40) (by omega) h40) (by simp only [List.length_cons] at hll; omega)
      · rw [if_neg h40]
        exact mpt_bad hV h hg ct hct (nE_iff hk hE) (hk.nsign (x := 40) (by omega) h40)
end
end Go.Proofs.YtlckfiflfkbofaaGreatDoor
