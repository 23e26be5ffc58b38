/- scanNumber behind a leading 0. scanNumber behind a leading 0 and a point. (*bytes.Buffer).Reset where the buffer is the scanner's field; small facts for Scan. Scan. Part 25 of 51 of the proof that FnMultiPointBody returns true for every text and every type of coordinates, where the listed variables hold what the text of the program lays. -/
import Derived.Deep.DeepCutAuto
import Derived.Deep.CutBlock
import Derived.Test.YtlckfiflfkbofaaGreatDoorM07
import Derived.Test.YtlckfiflfkbofaaGreatDoorM24
set_option linter.all false

/- scanNumber behind a leading 0. -/
namespace Go.Proofs.YtlckfiflfkbofaaGreatDoor
open Go.RowKit

set_option maxRecDepth 100000 in
set_option maxHeartbeats 3200000 in
theorem sn_c1 (w : World) (B b r : Nat) (t : ByteArray) (i m e : Nat) (g : Gs) (hE : En w B t) (h : Sa w B b r t i g) (hm1 : m = i + 1) (hm : m ≤ t.size) (hM : isD (chA t m) = false ∧ (chA t m == 95) = false) (h48 : (chA t i == 48) = true) (h46 : (chA t m == 46) = false) (l1 : (lowA (chA t m) == 120) = false) (l2 : (lowA (chA t m) == 111) = false) (l3 : (lowA (chA t m) == 98) = false) (hX : ExpT t m e) :
    Calls Tryz.prog 80 #[.pointer (some ⟨b, 0, none⟩), .int .i32 (chA t i), .bool false] w fun en w' => ∃ k : Int, en = .returned (.tuple #[.int .i32 k, .int .i32 (chA t e)]) ∧ numTok k ∧ SnP B b r t e g w w' := by
  obtain ⟨v, hv⟩ : ∃ v, v = w.heap.size := ⟨_, rfl⟩
  have hvs : w.heap.size ≤ v := by omega
  have hvb : v ≠ b := by have := h.blt; omega
  have hvr : v ≠ r := by have := h.rlt; omega
  have hvB : B ≤ v := by have := h.BW; omega
  have hal : Below w.heap.size w (w.alloc (.cells #[.int .i32 0] 21)) := (Below.refl _ w).alloc (Nat.le_refl _) _
  have hF0 : Frx B b r v w (w.alloc (.cells #[.int .i32 0] 21)) := (Fr.of_below hal h.BW).x
  have hS0 := h.old hal
  have hE0 := hE.keep hF0.keep
  have hV0 : IsV0 (w.alloc (.cells #[.int .i32 0] 21)) v := by rw [hv]; exact heap_alloc_new w _
  subst hv
  generalize hw0 : w.alloc (.cells #[.int .i32 0] 21) = w0 at hF0 hS0 hE0 hV0
  have nx := nx_at w0 B b r t i g hE0 hS0 (by omega)
  rw [← hm1, ← hw0] at nx
  clear hm1
  have d1 := fun W => dg8_none W b (chA t m) (.pointer (some ⟨w.heap.size, 0, none⟩)) hM
  have hlow1 := fun w => lower_run (chA t m) w
  have or0 : Go.bits .or .i64 1 0 = 1 := by decide
  have HW0 := Lib.hid hw0
  clear hw0
  go_enter Tryz.func80, Tryz.ntmps80
  go_wp2_with (first | (go_at_call 75; refine nx.mono ?_; rintro e' W1 ⟨rfl, hSF⟩; refine Hid.out ?_))
  refine Lib.hid ?_
  obtain ⟨hS, hF1⟩ := hSF
  rw [HW0.out] at hF1
  go_wp2_with (first | (go_at_call 95; refine (hlow1 _).mono ?_; rintro e' w' ⟨rfl, rfl⟩) | (go_at_call 96; refine (d1 _).mono ?_; rintro e' w' ⟨rfl, rfl⟩; refine Hid.out ?_))
  refine Lib.hid ?_
  have hV := hV0.fr hF1 hvb hvr
  have hVV := hV.v
  have hF := hF0.trans hF1.x
  have hEm := hE.keep hF.keep
  have hlow := fun w => lower_run (chA t m) w
  have cm := hS.mode
  have cv : W1.cell? ⟨w.heap.size, 0, none⟩ = some (.int .i32 0) := by rw [Lib.cell_of_heap hV]; rfl
  have or1 : Go.bits .or .i64 1 1 = 1 := by decide
  have and2 : Go.bits .and .i64 1 2 = 0 := by decide
  have and1' : Go.bits .and .i64 1 1 = 1 := by decide
  have and16 : Go.bits .and .u64 28 16 = 16 := by decide
  rcases hX with ⟨rfl, hx1, hx2⟩ | ⟨q, hx1, hx2, hx3, hx4, hx5, hx6, hx7, hx8⟩
  · go_wp2_with (go_at_call 95; refine (hlow _).mono ?_; rintro e w' ⟨rfl, rfl⟩)
    go_ret2
    exact ⟨_, rfl, Or.inl rfl, hS, hF.fr hvs⟩
  · have hq := beq_iff_eq.1 hx1
    rw [hq] at hlow
    clear hq hx1
    have nx := nx_at W1 B b r t m g hEm hS hx2
    go_wp2_with (first | (go_at_call 95; refine (hlow _).mono ?_; rintro en w' ⟨rfl, rfl⟩) | (go_at_call 75; refine nx.mono ?_; rintro en W2 ⟨rfl, hS2, hF2⟩; refine Hid.out ?_))
    refine Lib.hid ?_
    have hE2 := hEm.keep hF2.keep
    rcases hx8 with ⟨rfl, s1, s2⟩ | ⟨rfl, s1⟩
    · have dg := dg10 W2 B b r t (m + 1) (e - (m + 1)) g (.pointer none) hE2 hS2 (by omega) hx5 (by rw [show m + 1 + (e - (m + 1)) = e by omega]; exact ⟨hx6, hx7⟩)
      rw [show m + 1 + (e - (m + 1)) = e by omega, show sepN (e - (m + 1)) = 1 by unfold sepN; rw [if_neg (by omega)]] at dg
      go_wp2_with (first | (go_at_call 96; refine dg.mono ?_; rintro e' W3 ⟨rfl, hS3, hF3⟩))
      go_ret2
      exact ⟨_, rfl, Or.inr rfl, hS3, (hF.trans (hF2.trans hF3).x).fr hvs⟩
    · have hm2 : m + 1 < t.size := by omega
      have nx2 := nx_at W2 B b r t (m + 1) g hE2 hS2 hm2
      rcases s1 with s1 | ⟨s0, s1⟩
      · go_wp2_with (first | (go_at_call 75; refine nx2.mono ?_; rintro e' W3 ⟨rfl, hS3, hF3⟩; refine Hid.out ?_))
        refine Lib.hid ?_
        have dg := dg10 W3 B b r t (m + 2) (e - (m + 2)) g (.pointer none) (hE2.keep hF3.keep) hS3 (by omega) hx5 (by rw [show m + 2 + (e - (m + 2)) = e by omega]; exact ⟨hx6, hx7⟩)
        rw [show m + 2 + (e - (m + 2)) = e by omega, show sepN (e - (m + 2)) = 1 by unfold sepN; rw [if_neg (by omega)]] at dg
        go_wp2_with (first | (go_at_call 96; refine dg.mono ?_; rintro e' W4 ⟨rfl, hS4, hF4⟩))
        go_ret2
        exact ⟨_, rfl, Or.inr rfl, hS4, (hF.trans ((hF2.trans hF3).trans hF4).x).fr hvs⟩
      · go_wp2_with (first | (go_at_call 75; refine nx2.mono ?_; rintro e' W3 ⟨rfl, hS3, hF3⟩; refine Hid.out ?_))
        refine Lib.hid ?_
        have dg := dg10 W3 B b r t (m + 2) (e - (m + 2)) g (.pointer none) (hE2.keep hF3.keep) hS3 (by omega) hx5 (by rw [show m + 2 + (e - (m + 2)) = e by omega]; exact ⟨hx6, hx7⟩)
        rw [show m + 2 + (e - (m + 2)) = e by omega, show sepN (e - (m + 2)) = 1 by unfold sepN; rw [if_neg (by omega)]] at dg
        go_wp2_with (first | (go_at_call 96; refine dg.mono ?_; rintro e' W4 ⟨rfl, hS4, hF4⟩))
        go_ret2
        exact ⟨_, rfl, Or.inr rfl, hS4, (hF.trans ((hF2.trans hF3).trans hF4).x).fr hvs⟩

end Go.Proofs.YtlckfiflfkbofaaGreatDoor

/- scanNumber behind a leading 0 and a point. -/
namespace Go.Proofs.YtlckfiflfkbofaaGreatDoor
open Go.RowKit

set_option maxRecDepth 100000 in
set_option maxHeartbeats 3200000 in
theorem sn_c2 (w : World) (B b r : Nat) (t : ByteArray) (i m e : Nat) (g : Gs) (hE : En w B t) (h : Sa w B b r t i g) (hpm : i + 2 ≤ m) (hm : m ≤ t.size) (hp : chA t (i + 1) = 46) (hD2 : ∀ j, j < m - (i + 2) → isD (chA t (i + 2 + j)) = true) (hM : isD (chA t m) = false ∧ (chA t m == 95) = false) (h48 : (chA t i == 48) = true) (hX : ExpT t m e) :
    Calls Tryz.prog 80 #[.pointer (some ⟨b, 0, none⟩), .int .i32 (chA t i), .bool false] w fun en w' => ∃ k : Int, en = .returned (.tuple #[.int .i32 k, .int .i32 (chA t e)]) ∧ numTok k ∧ SnP B b r t e g w w' := by
  obtain ⟨v, hv⟩ : ∃ v, v = w.heap.size := ⟨_, rfl⟩
  have hvs : w.heap.size ≤ v := by omega
  have hvb : v ≠ b := by have := h.blt; omega
  have hvr : v ≠ r := by have := h.rlt; omega
  have hvB : B ≤ v := by have := h.BW; omega
  have hal : Below w.heap.size w (w.alloc (.cells #[.int .i32 0] 21)) := (Below.refl _ w).alloc (Nat.le_refl _) _
  have hF0 : Frx B b r v w (w.alloc (.cells #[.int .i32 0] 21)) := (Fr.of_below hal h.BW).x
  have hS0 := h.old hal
  have hE0 := hE.keep hF0.keep
  have hV0 : IsV0 (w.alloc (.cells #[.int .i32 0] 21)) v := by rw [hv]; exact heap_alloc_new w _
  subst hv
  generalize hw0 : w.alloc (.cells #[.int .i32 0] 21) = w0 at hF0 hS0 hE0 hV0
  have nx := nx_at w0 B b r t i g hE0 hS0 (by omega)
  rw [hp, ← hw0] at nx
  have d1 := fun W => dg8_none W b 46 (.pointer (some ⟨w.heap.size, 0, none⟩)) (by decide)
  have hlow1 := fun w => lower_run 46 w
  rw [show lowA 46 = 46 by decide] at hlow1
  have or0 : Go.bits .or .i64 1 0 = 1 := by decide
  have ors := or_sep1 (m - (i + 2))
  have and16 : Go.bits .and .u64 28 16 = 16 := by decide
  have HW0 := Lib.hid hw0
  clear hw0
  go_enter Tryz.func80, Tryz.ntmps80
  go_wp2_with (first | (go_at_call 75; refine nx.mono ?_; rintro e' W1 ⟨rfl, hSF⟩; refine Hid.out ?_))
  refine Lib.hid ?_
  obtain ⟨hS1, hF1⟩ := hSF
  rw [HW0.out] at hF1
  have cm1 := hS1.mode
  have hE1 := hE0.keep hF1.keep
  have nx2 := nx_at W1 B b r t (i + 1) g hE1 hS1 (by omega)
  go_wp2_with (first | (go_at_call 95; refine (hlow1 _).mono ?_; rintro e' w' ⟨rfl, rfl⟩) | (go_at_call 96; refine (d1 _).mono ?_; rintro e' w' ⟨rfl, rfl⟩) | (go_at_call 75; refine nx2.mono ?_; rintro e' W2 ⟨rfl, hSF⟩; refine Hid.out ?_))
  refine Lib.hid ?_
  obtain ⟨hS2, hF2⟩ := hSF
  have d2 := dg8' W2 B b r w.heap.size t (i + 2) m g (hE1.keep hF2.keep) hS2 (((hV0.fr hF1 hvb hvr).fr hF2 hvb hvr).v) hvB hvb hvr hpm hm hD2 hM
  go_wp2_with (first | (go_at_call 96; refine d2.mono ?_; rintro e' WM ⟨rfl, hSF⟩; refine Hid.out ?_))
  refine Lib.hid ?_
  obtain ⟨hS, hVV, hF3⟩ := hSF
  have hF := (hF0.trans (hF1.trans hF2).x).trans hF3
  have hEm := hE.keep hF.keep
  have hlow := fun w => lower_run (chA t m) w
  have cm := hS.mode
  have or1 : Go.bits .or .i64 1 1 = 1 := by decide
  have and2 : Go.bits .and .i64 1 2 = 0 := by decide
  have and1' : Go.bits .and .i64 1 1 = 1 := by decide
  have and16 : Go.bits .and .u64 28 16 = 16 := by decide
  rcases hX with ⟨rfl, hx1, hx2⟩ | ⟨q, hx1, hx2, hx3, hx4, hx5, hx6, hx7, hx8⟩
  · go_wp2_with (go_at_call 95; refine (hlow _).mono ?_; rintro e w' ⟨rfl, rfl⟩)
    go_ret2
    exact ⟨_, rfl, Or.inr rfl, hS, hF.fr hvs⟩
  · have hq := beq_iff_eq.1 hx1
    rw [hq] at hlow
    clear hq hx1
    have nx := nx_at WM B b r t m g hEm hS hx2
    go_wp2_with (first | (go_at_call 95; refine (hlow _).mono ?_; rintro en w' ⟨rfl, rfl⟩) | (go_at_call 75; refine nx.mono ?_; rintro en W2 ⟨rfl, hS2, hF2⟩; refine Hid.out ?_))
    refine Lib.hid ?_
    have hE2 := hEm.keep hF2.keep
    rcases hx8 with ⟨rfl, s1, s2⟩ | ⟨rfl, s1⟩
    · have dg := dg10 W2 B b r t (m + 1) (e - (m + 1)) g (.pointer none) hE2 hS2 (by omega) hx5 (by rw [show m + 1 + (e - (m + 1)) = e by omega]; exact ⟨hx6, hx7⟩)
      rw [show m + 1 + (e - (m + 1)) = e by omega, show sepN (e - (m + 1)) = 1 by unfold sepN; rw [if_neg (by omega)]] at dg
      go_wp2_with (first | (go_at_call 96; refine dg.mono ?_; rintro e' W3 ⟨rfl, hS3, hF3⟩))
      go_ret2
      exact ⟨_, rfl, Or.inr rfl, hS3, (hF.trans (hF2.trans hF3).x).fr hvs⟩
    · have hm2 : m + 1 < t.size := by omega
      have nx2 := nx_at W2 B b r t (m + 1) g hE2 hS2 hm2
      rcases s1 with s1 | ⟨s0, s1⟩
      · go_wp2_with (first | (go_at_call 75; refine nx2.mono ?_; rintro e' W3 ⟨rfl, hS3, hF3⟩; refine Hid.out ?_))
        refine Lib.hid ?_
        have dg := dg10 W3 B b r t (m + 2) (e - (m + 2)) g (.pointer none) (hE2.keep hF3.keep) hS3 (by omega) hx5 (by rw [show m + 2 + (e - (m + 2)) = e by omega]; exact ⟨hx6, hx7⟩)
        rw [show m + 2 + (e - (m + 2)) = e by omega, show sepN (e - (m + 2)) = 1 by unfold sepN; rw [if_neg (by omega)]] at dg
        go_wp2_with (first | (go_at_call 96; refine dg.mono ?_; rintro e' W4 ⟨rfl, hS4, hF4⟩))
        go_ret2
        exact ⟨_, rfl, Or.inr rfl, hS4, (hF.trans ((hF2.trans hF3).trans hF4).x).fr hvs⟩
      · go_wp2_with (first | (go_at_call 75; refine nx2.mono ?_; rintro e' W3 ⟨rfl, hS3, hF3⟩; refine Hid.out ?_))
        refine Lib.hid ?_
        have dg := dg10 W3 B b r t (m + 2) (e - (m + 2)) g (.pointer none) (hE2.keep hF3.keep) hS3 (by omega) hx5 (by rw [show m + 2 + (e - (m + 2)) = e by omega]; exact ⟨hx6, hx7⟩)
        rw [show m + 2 + (e - (m + 2)) = e by omega, show sepN (e - (m + 2)) = 1 by unfold sepN; rw [if_neg (by omega)]] at dg
        go_wp2_with (first | (go_at_call 96; refine dg.mono ?_; rintro e' W4 ⟨rfl, hS4, hF4⟩))
        go_ret2
        exact ⟨_, rfl, Or.inr rfl, hS4, (hF.trans ((hF2.trans hF3).trans hF4).x).fr hvs⟩

end Go.Proofs.YtlckfiflfkbofaaGreatDoor

/- (*bytes.Buffer).Reset where the buffer is the scanner's field; small facts for Scan. -/
namespace Go.Proofs.YtlckfiflfkbofaaGreatDoor
open Go.RowKit

set_option maxRecDepth 100000 in
set_option maxHeartbeats 1600000 in
theorem rs_calls (w : World) (B b : Nat) (t : ByteArray) (s : SS) (h : Sc w B b t s) :
    Calls Tryz.prog 76 #[.pointer (some ⟨b, 1033, none⟩)] w fun e w' => e = .returned (.tuple #[]) ∧ Sc w' B b t { s with bs := [] } ∧ Fr B b s.r w w' := by
  obtain ⟨hB, lr, hc⟩ := h.buf.cases
  rcases hc with ⟨hnil, hbk⟩ | ⟨g, cap, cur, hbk, hBg, hg, hnc, hcm, hcs, htk, hgb⟩
  · have c0 := hbk.c0
    have c1 := hbk.c1
    have c2 := hbk.c2
    have z0 := hbk.f 1033
    have z1 := hbk.f 1034
    have z2 := hbk.f 1035
    go_enter Tryz.func76, Tryz.ntmps76
    go_wp2_with (fail)
    go_end0
    refine ⟨rfl, ⟨⟨hB, _, 0, ((hbk.set0 _).set1 _).set2 _, World.ownsRow_nil _ _ _ _, by simp [Value.ownBlock]⟩, ?_, h.rB, ?_⟩, ?_⟩
    · show (World.setCell _ _ _).heap[s.r]? = _
      rw [Below.heap_setCell _ _ _ _ h.rb, Below.heap_setCell _ _ _ _ h.rb, Below.heap_setCell _ _ _ _ h.rb]
      exact h.rdr
    · simpa [World.setCell] using h.BW
    · exact (((Fr.refl B b s.r w).setCell (p := ⟨b, 1033, none⟩) (Or.inl rfl) hB _).setCell (p := ⟨b, 1034, none⟩) (Or.inl rfl) hB _).setCell (p := ⟨b, 1035, none⟩) (Or.inl rfl) hB _
  · have c0 := hbk.c0
    have c1 := hbk.c1
    have c2 := hbk.c2
    have z0 := hbk.f 1033
    have z1 := hbk.f 1034
    have z2 := hbk.f 1035
    go_enter Tryz.func76, Tryz.ntmps76
    go_wp2_with (fail)
    go_end0
    refine ⟨rfl, ⟨⟨hB, _, 0, ((hbk.set0 _).set1 _).set2 _, ⟨by simp, .inr ⟨g, cap, cur, rfl, hBg, ?_, Nat.zero_le _, hcm, by simpa using hcs, by simp [Lib.byteCells]⟩⟩, by simp only [Value.ownBlock, ne_eq, Option.some.injEq]; exact hgb⟩, ?_, h.rB, ?_⟩, ?_⟩
    · show (World.setCell _ _ _).heap[g]? = _
      rw [Below.heap_setCell _ _ _ _ hgb, Below.heap_setCell _ _ _ _ hgb, Below.heap_setCell _ _ _ _ hgb]
      exact hg
    · show (World.setCell _ _ _).heap[s.r]? = _
      rw [Below.heap_setCell _ _ _ _ h.rb, Below.heap_setCell _ _ _ _ h.rb, Below.heap_setCell _ _ _ _ h.rb]
      exact h.rdr
    · simpa [World.setCell] using h.BW
    · exact (((Fr.refl B b s.r w).setCell (p := ⟨b, 1033, none⟩) (Or.inl rfl) hB _).setCell (p := ⟨b, 1034, none⟩) (Or.inl rfl) hB _).setCell (p := ⟨b, 1035, none⟩) (Or.inl rfl) hB _

/-! ### White space, by the scanner's mask -/
def isW (x : Int) : Bool := x == 32 || x == 9 || x == 10 || x == 13
def wsV (x : Int) : Int := Go.bits .and .u64 4294977024 (IntKind.u64.wrap (2 ^ min (IntKind.u64.wrap x).toNat 64))
theorem ws_all : ((List.range 129).all fun n => (wsV ((n : Int) - 1) != 0) == isW ((n : Int) - 1)) = true := by decide +kernel
theorem ws_is {x : Int} (h1 : -1 ≤ x) (h2 : x < 128) : (Go.bits .and .u64 4294977024 (IntKind.u64.wrap (2 ^ min (IntKind.u64.wrap x).toNat 64)) != 0) = isW x := by
  have := List.all_eq_true.1 ws_all (x + 1).toNat (List.mem_range.2 (by omega))
  have e : (((x + 1).toNat : Nat) : Int) - 1 = x := by omega
  rw [e] at this
  exact beq_iff_eq.1 this

end Go.Proofs.YtlckfiflfkbofaaGreatDoor

/- Scan. -/
namespace Go.Proofs.YtlckfiflfkbofaaGreatDoor
open Go.RowKit

section
variable {w : World} {B b r : Nat} {t : ByteArray} {g : Gs} {s : SS} {i : Nat}
theorem Sx.put_tp0 (h : Sx w B b r t g s) : Sx (w.setCell ⟨b, 1036, none⟩ (.int .i64 (-1))) B b r t { g with tk := none } { s with tp := -1 } :=
  ⟨h.sc.put_tp (-1), ⟨⟨h.ok.se, h.ok.sp, h.ok.rd, h.ok.sz, h.ok.sb, h.ok.st⟩, h.ok.lc1, h.ok.lc⟩, rfl, h.P, h.lc, h.te, h.ch, h.er, h.pk, h.r⟩
theorem Sx.put_pl (h : Sx w B b r t g s) (x : Int) : Sx (w.setCell ⟨b, 1046, none⟩ (.int .i64 x)) B b r t g { s with pl := x } :=
  ⟨h.sc.put_pl x, ⟨⟨h.ok.se, h.ok.sp, h.ok.rd, h.ok.sz, h.ok.sb, h.ok.st⟩, h.ok.lc1, h.ok.lc⟩, by
    have := h.tk
    cases hk : g.tk with
    | none => rw [hk] at this; exact this
    | some a => rw [hk] at this; exact this, h.P, h.lc, h.te, h.ch, h.er, h.pk, h.r⟩
theorem Sx.put_pc (h : Sx w B b r t g s) (x : Int) : Sx (w.setCell ⟨b, 1047, none⟩ (.int .i64 x)) B b r t g { s with pc := x } :=
  ⟨h.sc.put_pc x, ⟨⟨h.ok.se, h.ok.sp, h.ok.rd, h.ok.sz, h.ok.sb, h.ok.st⟩, h.ok.lc1, h.ok.lc⟩, by
    have := h.tk
    cases hk : g.tk with
    | none => rw [hk] at this; exact this
    | some a => rw [hk] at this; exact this, h.P, h.lc, h.te, h.ch, h.er, h.pk, h.r⟩
theorem Sx.put_po (h : Sx w B b r t g s) (x : Int) : Sx (w.setCell ⟨b, 1045, none⟩ (.int .i64 x)) B b r t g { s with po := x } :=
  ⟨h.sc.put_po x, ⟨⟨h.ok.se, h.ok.sp, h.ok.rd, h.ok.sz, h.ok.sb, h.ok.st⟩, h.ok.lc1, h.ok.lc⟩, by
    have := h.tk
    cases hk : g.tk with
    | none => rw [hk] at this; exact this
    | some a => rw [hk] at this; exact this, h.P, h.lc, h.te, h.ch, h.er, h.pk, h.r⟩
end

theorem Sx.sa {w : World} {B b r : Nat} {t : ByteArray} {i : Nat} {tk te : Option Nat} {ch : Int} {er : Value} {pk : ByteArray} {s : SS} (h : Sx w B b r t ⟨min (i + 1) t.size, if i < t.size then 1 else 0, tk, te, ch, er, pk⟩ s) : Sa w B b r t i ⟨0, 0, tk, none, ch, er, pk⟩ :=
  ⟨s, h.sc, h.ok, h.tk, h.P, h.lc, fun e he => by simp at he, h.ch, h.er, h.pk, h.r⟩
theorem Sa.ws {w : World} {B b r : Nat} {t : ByteArray} {i : Nat} {g : Gs} (h : Sa w B b r t i g) : w.cell? ⟨b, 1042, none⟩ = some (.int .u64 4294977024) := by
  obtain ⟨s, hs⟩ := h; exact hs.sc.c 1042 (by omega) (by omega)

/-- The scanner ahead of the text's character i, seen or not yet seen. -/
def At0 (w : World) (B b r : Nat) (t : ByteArray) (i : Nat) (er : Value) (pk : ByteArray) : Prop :=
  (i = 0 ∧ ∃ s, Sx w B b r t ⟨0, 0, none, none, -2, er, pk⟩ s) ∨ (∃ tk te s, Sx w B b r t ⟨min (i + 1) t.size, if i < t.size then 1 else 0, tk, te, chA t i, er, pk⟩ s)

theorem peek0 (w : World) (B b r : Nat) (t : ByteArray) (i : Nat) (er : Value) (pk : ByteArray) (hE : En w B t) (h : At0 w B b r t i er pk) :
    Calls Tryz.prog 74 #[.pointer (some ⟨b, 0, none⟩)] w fun e w' => e = .returned (.int .i32 (chA t i)) ∧ (∃ tk te s, Sx w' B b r t ⟨min (i + 1) t.size, if i < t.size then 1 else 0, tk, te, chA t i, er, pk⟩ s) ∧ Fr B b r w w' := by
  rcases h with ⟨rfl, s, hs⟩ | ⟨tk, te, s, hs⟩
  · refine (pk_first w B b r t _ s hE hs rfl rfl rfl).mono ?_
    rintro e w' ⟨h1, ⟨s', h2⟩, h3⟩
    exact ⟨h1, ⟨_, _, s', h2⟩, h3⟩
  · have hc : s.ch = chA t i := hs.ch
    have := (chA_lo hE.asc i).1
    refine (pk_later w B b t s hs.sc (by rw [hc]; omega)).mono ?_
    rintro e w' ⟨h1, rfl⟩
    rw [hc] at h1
    exact ⟨h1, ⟨_, _, s, hs⟩, Fr.refl _ _ _ _⟩

/-- What a number that begins with a digit at a and ends at e is. -/
def NumC (t : ByteArray) (a e : Nat) : Prop := ∃ m, m ≤ t.size ∧ isD (chA t m) = false ∧ (chA t m == 95) = false ∧ ExpT t m e ∧
  ((a < m ∧ (∀ j, j < m - a → isD (chA t (a + j)) = true) ∧ (chA t a == 48) = false ∧ (chA t m == 46) = false) ∨
   (∃ p, a < p ∧ p < m ∧ (∀ j, j < p - a → isD (chA t (a + j)) = true) ∧ chA t p = 46 ∧ (∀ j, j < m - (p + 1) → isD (chA t (p + 1 + j)) = true) ∧ (chA t a == 48) = false) ∨
   (m = a + 1 ∧ (chA t a == 48) = true ∧ (chA t m == 46) = false ∧ (lowA (chA t m) == 120) = false ∧ (lowA (chA t m) == 111) = false ∧ (lowA (chA t m) == 98) = false) ∨
   (a + 2 ≤ m ∧ chA t (a + 1) = 46 ∧ (∀ j, j < m - (a + 2) → isD (chA t (a + 2 + j)) = true) ∧ (chA t a == 48) = true))

theorem sn_num (w : World) (B b r : Nat) (t : ByteArray) (a e : Nat) (g : Gs) (hE : En w B t) (h : Sa w B b r t a g) (hN : NumC t a e) :
    Calls Tryz.prog 80 #[.pointer (some ⟨b, 0, none⟩), .int .i32 (chA t a), .bool false] w fun en w' => ∃ k : Int, en = .returned (.tuple #[.int .i32 k, .int .i32 (chA t e)]) ∧ numTok k ∧ SnP B b r t e g w w' := by
  obtain ⟨m, h1, h2, h3, h4, h5⟩ := hN
  rcases h5 with ⟨k1, k2, k3, k4⟩ | ⟨p, k1, k2, k3, k4, k5, k6⟩ | ⟨k1, k2, k3, k4, k5, k6⟩ | ⟨k1, k2, k3, k4⟩
  · exact sn_b1 w B b r t a m e g hE h k1 h1 k2 ⟨h2, h3⟩ k3 k4 h4
  · exact sn_b2 w B b r t a m e g hE h p k1 k2 h1 k3 k4 k5 ⟨h2, h3⟩ k6 h4
  · exact sn_c1 w B b r t a m e g hE h k1 h1 ⟨h2, h3⟩ k2 k3 k4 k5 k6 h4
  · exact sn_c2 w B b r t a m e g hE h k1 h1 k2 k3 ⟨h2, h3⟩ k4 h4

/-- A token from a to e, as the scanner cuts it. -/
def TokC (t : ByteArray) (a e : Nat) : Prop :=
  (a < e ∧ e ≤ t.size ∧ (∀ j, j < e - a → isL (chA t (a + j)) = true) ∧ isL (chA t e) = false ∧ isD (chA t e) = false ∧ (chA t e == 95) = false) ∨
  (isD (chA t a) = true ∧ a < t.size ∧ NumC t a e) ∨
  (chA t a = 46 ∧ ∃ m, a + 1 < m ∧ m ≤ t.size ∧ (∀ j, j < m - (a + 1) → isD (chA t (a + 1 + j)) = true) ∧ isD (chA t m) = false ∧ (chA t m == 95) = false ∧ ExpT t m e) ∨
  ((chA t a = 40 ∨ chA t a = 41 ∨ chA t a = 44 ∨ chA t a = 45) ∧ a < t.size ∧ e = a + 1)

theorem ExpT.le {t : ByteArray} {m e : Nat} (h : ExpT t m e) (hm : m ≤ t.size) : e ≤ t.size := by
  rcases h with ⟨rfl, _⟩ | ⟨q, _, _, _, h, _⟩
  · exact hm
  · exact h
theorem TokC.le {t : ByteArray} {a e : Nat} (h : TokC t a e) : e ≤ t.size := by
  rcases h with ⟨_, h, _⟩ | ⟨_, _, m, h1, _, _, h4, _⟩ | ⟨_, m, _, h2, _, _, _, h7⟩ | ⟨_, h, rfl⟩
  · exact h
  · exact h4.le h1
  · exact h7.le h2
  · omega

/-- Behind a token. -/
def AtE (w : World) (B b r : Nat) (t : ByteArray) (a e : Nat) (er : Value) (pk : ByteArray) : Prop :=
  ∃ s, Sx w B b r t ⟨min (e + 1) t.size, if e < t.size then 1 else 0, some a, some e, chA t e, er, pk⟩ s

set_option maxRecDepth 100000 in
set_option maxHeartbeats 3200000 in
theorem scan_tok (w : World) (B b r : Nat) (t : ByteArray) (i a e : Nat) (er : Value) (pk : ByteArray) (hE : En w B t) (h : At0 w B b r t i er pk) (hia : i ≤ a) (hat : a ≤ t.size)
    (hW : ∀ j, i ≤ j → j < a → isW (chA t j) = true) (hX : isW (chA t a) = false) (hT : TokC t a e) :
    Calls Tryz.prog 69 #[.pointer (some ⟨b, 0, none⟩)] w fun en w' => ∃ k : Int, en = .returned (.int .i32 k) ∧ k ≠ -1 ∧ AtE w' B b r t a e er pk ∧ Fr B b r w w' := by
  have pk0 := peek0 w B b r t i er pk hE h
  go_enter Tryz.func69, Tryz.ntmps69
  go_wp2_with (fail)
  go_step3
  go_wp2_with (first | (go_at_call 74; refine pk0.mono ?_; rintro e' W1 ⟨rfl, hSF⟩; refine Hid.out ?_))
  refine Lib.hid ?_
  obtain ⟨⟨tk, te, s, hs⟩, hF1⟩ := hSF
  have c1 := hs.sc.c_tp
  have z1 := hs.sc.fz 1036
  have c2 := hs.sc.c_pl
  have z2 := hs.sc.fz 1046
  go_wp2_with (fail)
  go_step3
  go_wp2_with (fail)
  have hs2 := ((hs.put_tp0).put_pl 0).sa
  have hF2 := (hF1.setCell (p := ⟨b, 1036, none⟩) (Or.inl rfl) hs.sc.Bb (.int .i64 (-1))).setCell (p := ⟨b, 1046, none⟩) (Or.inl rfl) hs.sc.Bb (.int .i64 0)
  generalize World.setCell (W1.setCell ⟨b, 1036, none⟩ (.int .i64 (-1))) ⟨b, 1046, none⟩ (.int .i64 0) = W2 at *
  clear hs c1 c2 z1 z2
  go_loopg [3] (a - i) (fun kq s3 wx => ∃ j : Nat, i + j ≤ a ∧ kq = a - i - j ∧ s3 = .int .i32 (chA t (i + j)) ∧ Sa wx B b r t (i + j) ⟨0, 0, none, none, chA t i, er, pk⟩ ∧ Fr B b r w wx)
  case atStart => exact ⟨0, by omega, by omega, rfl, hs2, hF2⟩
  case round =>
    obtain ⟨j, j1, hk, rfl, hSj, hFj⟩ := hrel
    have cw := hSj.ws
    have hlo := chA_lo hE.asc (i + j)
    have hws := ws_is hlo.1 hlo.2
    by_cases hj : i + j < a
    · rw [hW (i + j) (by omega) hj] at hws
      have nx := nx_at wr B b r t (i + j) _ (hE.keep hFj.keep) hSj (by omega)
      rw [Nat.add_assoc] at nx
      clear hlo
      go_wp2_with (first | (go_at_call 75; refine nx.mono ?_; rintro e' w2 ⟨rfl, hS3, hF3⟩))
      go_roundg (a - i - (j + 1))
      case measure => omega
      case rel => exact ⟨j + 1, by omega, rfl, rfl, hS3, hFj.trans hF3⟩
    · have hja : i + j = a := by omega
      rw [hja] at hws hSj ⊢
      rw [hX] at hws
      clear hlo j1 hk hja
      have HW := Lib.hid hW
      have HX := Lib.hid hX
      clear hW hX
      obtain ⟨s, hs⟩ := hSj
      have rs := rs_calls wr B b t s hs.sc
      go_wp2_with (first | (go_at_call 76; refine rs.mono ?_; rintro e' W3 ⟨rfl, hSF⟩; refine Hid.out ?_))
      refine Lib.hid ?_
      obtain ⟨hS3, hF3⟩ := hSF
      have hsp : s.sp ≤ 1024 := Nat.le_trans hs.ok.sp hs.ok.se
      have hlc : s.lc ≤ 1 := hs.ok.lc1
      have hlcs : s.lc ≤ s.sp := hs.ok.lc
      have hoff : s.off ≤ 3000 := by have := hs.ok.sz; have := hE.hz; omega
      have HS := Lib.hid hs
      have hBb := hs.sc.Bb
      clear hs
      generalize hs3 : ({ s with bs := [] } : SS) = s3 at hS3
      have q1 : s3.sp = s.sp := by rw [← hs3]
      have q2 : s3.lc = s.lc := by rw [← hs3]
      have q3 : s3.off = s.off := by rw [← hs3]
      have HS3 := Lib.hid hs3
      clear hs3
      have c1 := hS3.c_sp
      rw [q1] at c1
      have c2 := hS3.c_lc
      rw [q2] at c2
      have c3 := hS3.c_tp
      have z3 := hS3.fz 1036
      go_wp2_with (fail)
      go_region
      obtain ⟨k, hk⟩ : ∃ k : Nat, (k : Int) = (s.sp : Int) - s.lc := ⟨s.sp - s.lc, by omega⟩
      rw [← hk]
      have hS4 := (hS3.put_tp (k : Int)).drew
      have hF4 := ((Fr.refl B b s.r W3).setCell (p := ⟨b, 1036, none⟩) (Or.inl rfl) hBb (.int .i64 (k : Int))).drew
      generalize World.drew (World.setCell W3 ⟨b, 1036, none⟩ (.int .i64 (k : Int))) = W4 at *
      have hkl : k ≤ 1024 := by omega
      have HK := Lib.hid hk
      clear hk c1 c2 c3 z3
      have c1 := hS4.c_off
      rw [show ({ s3 with tp := (k : Int) } : SS).off = s.off from q3] at c1
      have c2 : W4.cell? ⟨b, 1036, none⟩ = some (.int .i64 (k : Int)) := hS4.c_tp
      have c3 := hS4.c_po
      have z3 := hS4.fz 1045
      go_wp2_with (fail)
      go_region
      have es : ((s.off : Int) + k) = ((s.off : Int) + k) := rfl
      have hS5 := (hS4.put_po ((s.off : Int) + k)).drew
      have hF5 := (hF4.setCell (p := ⟨b, 1045, none⟩) (Or.inl rfl) hBb (.int .i64 ((s.off : Int) + k))).drew
      generalize World.drew (World.setCell W4 ⟨b, 1045, none⟩ (.int .i64 ((s.off : Int) + k))) = W5 at *
      generalize hs5 : ({ ({ s3 with tp := (k : Int) } : SS) with po := (s.off : Int) + k } : SS) = s5 at hS5
      have HS5 := Lib.hid hs5
      clear hs5 es c1 c2 c3 z3 hS4
      have c1 := hS5.c_col
      go_upto_if 58 with (fail)
      go_cut [2] (fun s2 wx => s2 = .int .i32 0 ∧ (∃ pl pc, Sc wx B b t { s5 with pl := pl, pc := pc }) ∧ Fr B b s.r W5 wx)
      case first =>
       as_aux_lemma =>
        have c2 := hS5.c_line
        have c3 := hS5.c_lll
        have c4 := hS5.c_pl
        have c5 := hS5.c_pc
        have z1 := hS5.fz 1046
        have z2 := hS5.fz 1047
        by_cases hc : s5.col > 0
        · go_wp2_with (fail)
          go_meet
          exact ⟨rfl, ⟨_, _, (hS5.put_pl _).put_pc _⟩, ((Fr.refl B b s.r W5).setCell (p := ⟨b, 1046, none⟩) (Or.inl rfl) hBb _).setCell (p := ⟨b, 1047, none⟩) (Or.inl rfl) hBb _⟩
        · go_wp2_with (fail)
          go_meet
          exact ⟨rfl, ⟨_, _, (hS5.put_pl _).put_pc _⟩, ((Fr.refl B b s.r W5).setCell (p := ⟨b, 1046, none⟩) (Or.inl rfl) hBb _).setCell (p := ⟨b, 1047, none⟩) (Or.inl rfl) hBb _⟩
      obtain ⟨rfl, ⟨pl, pc, hS6⟩, hF6⟩ := hcut
      have hA : Sa wc B b r t a ⟨0, 0, some a, none, chA t i, er, pk⟩ := by
        have hs := HS.out
        have h3 := HS3.out
        have h5 := HS5.out
        have hkk := HK.out
        refine ⟨_, hS6, ?_, ?_, ?_, ?_, fun e he => by simp at he, ?_, ?_, ?_, ?_⟩
        · rw [← h5, ← h3]; exact ⟨⟨hs.ok.se, hs.ok.sp, hs.ok.rd, hs.ok.sz, hs.ok.sb, hs.ok.st⟩, hs.ok.lc1, hs.ok.lc⟩
        · have hP := hs.P
          have hl := hs.lc
          rw [← h5, ← h3]
          refine ⟨k, rfl, by show k ≤ s.sp; omega, fun e1 => by have e1 : s.lc = 1 := e1; show k < s.sp; omega, ?_, ?_⟩
          · show a ≤ s.off + k
            dsimp only at hP hl
            split at hl <;> omega
          · show ([] : List UInt8) = _
            have : s.off + k - a = 0 := by
              dsimp only at hP hl
              split at hl <;> omega
            show [] = List.take (s.off + k - a) _
            rw [this]; rfl
        · rw [← h5, ← h3]; exact hs.P
        · rw [← h5, ← h3]; exact hs.lc
        · rw [← h5, ← h3]; exact hs.ch
        · rw [← h5, ← h3]; exact hs.er
        · rw [← h5, ← h3]; exact hs.pk
        · rw [← h5, ← h3]; exact hs.r
      have hsr : s.r = r := HS.out.r
      have hFw : Fr B b r w wc := by
        rw [hsr] at hF3 hF5 hF6
        exact ((hFj.trans hF3).trans hF5).trans hF6
      clear hF1 hF2 hFj hF3 hF4 hF5 hF6 hS5 hS6 hsr hkl hsp hlc hlcs hoff cw hws HS HS3 HS5 HK q1 q2 q3 c1 rs
      have hEc := hE.keep hFw.keep
      have hlo := chA_lo hE.asc a
      have hid := id_at hA (chA t a) 0 hlo.1 hlo.2
      have hde := fun W => dec_run (chA t a) W
      have cm := hA.mode
      go_upto_block 2 with (fail)
      have hTle := hT.le
      go_cut [3, 4] (fun s3 s4 wx => s3 = .int .i32 (chA t e) ∧ (∃ k : Int, s4 = .int .i32 k ∧ k ≠ -1) ∧ Sa wx B b r t e ⟨0, 0, some a, none, chA t i, er, pk⟩ ∧ Fr B b r w wx)
      case first =>
       as_aux_lemma =>
        rcases hT with ⟨w1, w2, w3, w4, w5, w6⟩ | ⟨d1, d2, hN⟩ | ⟨p1, m, p2, p3, p4, p5, p6, p7⟩ | ⟨hc, s1, rfl⟩
        · have hb : identB (chA t a) 0 = true := by unfold identB; rw [show isL (chA t a) = true from w3 0 (by omega)]; simp
          rw [hb] at hid
          have and4 : Go.bits .and .u64 28 4 = 4 := by decide
          have idc := id_calls wc B b r t a (e - a) _ hEc hA (by omega) (by omega) w3 (by rw [show a + (e - a) = e by omega]; exact ⟨w4, w5, w6⟩)
          rw [show a + (e - a) = e by omega] at idc
          clear hb hlo w3 w4 w5 w6
          go_wp2_with (first | (go_at_call 77; refine hid.mono ?_; rintro e' w' ⟨rfl, rfl⟩) | (go_at_call 78; refine idc.mono ?_; rintro e' w7 ⟨rfl, hS7, hF7⟩))
          go_meet
          exact ⟨rfl, ⟨-2, rfl, by decide⟩, hS7, hFw.trans hF7⟩
        · have hr : 48 ≤ chA t a ∧ chA t a ≤ 57 := by unfold isD at d1; simpa using d1
          have hb : identB (chA t a) 0 = false := by
            have l1 : isL (chA t a) = false := by unfold isL; simp; omega
            have l2 : (chA t a == 95) = false := by simp; omega
            unfold identB; rw [l1, l2]; simp
          rw [hb] at hid
          rw [d1] at hde
          have and24 : Go.bits .and .u64 28 24 = 24 := by decide
          have sn := sn_num wc B b r t a e _ hEc hA hN
          clear hb hlo hr d1 hN
          go_wp2_with (first | (go_at_call 77; refine hid.mono ?_; rintro e' w' ⟨rfl, rfl⟩) | (go_at_call 79; refine (hde _).mono ?_; rintro e' w' ⟨rfl, rfl⟩) | (go_at_call 80; refine sn.mono ?_; rintro e' w7 ⟨k', rfl, hk', hP⟩))
          go_meet
          exact ⟨rfl, ⟨k', rfl, by rcases hk' with rfl | rfl <;> decide⟩, hP.1, hFw.trans hP.2⟩
        · have nx := nx_at wc B b r t a _ hEc hA (by omega)
          rw [p1] at hid hde
          have d0 := p4 0 (by omega)
          have hdd := fun W => dec_run (chA t (a + 1)) W
          rw [show isD (chA t (a + 1)) = true from d0] at hdd
          rw [p1]
          rw [show identB 46 0 = false by decide] at hid
          rw [show isD 46 = false by decide] at hde
          have and16 : Go.bits .and .u64 28 16 = 16 := by decide
          clear hlo d0
          go_wp2_with (first | (go_at_call 77; refine hid.mono ?_; rintro e' w' ⟨rfl, rfl⟩) | (go_at_call 79; refine (hde _).mono ?_; rintro e' w' ⟨rfl, rfl⟩) | (go_at_call 75; refine nx.mono ?_; rintro e' w7 ⟨rfl, hS7, hF7⟩; refine Hid.out ?_))
          refine Lib.hid ?_
          have cm7 := hS7.mode
          have sn := sn_a w7 B b r t (a + 1) m e _ (hEc.keep hF7.keep) hS7 p2 p3 p4 ⟨p5, p6⟩ p7
          clear p4 p7
          go_wp2_with (first | (go_at_call 79; refine (hdd _).mono ?_; rintro e' w' ⟨rfl, rfl⟩) | (go_at_call 80; refine sn.mono ?_; rintro e' w8 ⟨k', rfl, hk', hP⟩))
          go_meet
          exact ⟨rfl, ⟨k', rfl, by rcases hk' with rfl | rfl <;> decide⟩, hP.1, (hFw.trans hF7).trans hP.2⟩
        · have nx := nx_at wc B b r t a _ hEc hA s1
          clear hlo
          rcases hc with hc | hc | hc | hc
          · rw [hc] at hid hde ⊢
            rw [show identB 40 0 = false by decide] at hid
            rw [show isD 40 = false by decide] at hde
            clear hc
            go_wp2_with (first | (go_at_call 77; refine hid.mono ?_; rintro e' w' ⟨rfl, rfl⟩) | (go_at_call 79; refine (hde _).mono ?_; rintro e' w' ⟨rfl, rfl⟩) | (go_at_call 75; refine nx.mono ?_; rintro e' w7 ⟨rfl, hS7, hF7⟩))
            go_meet
            exact ⟨rfl, ⟨40, rfl, by decide⟩, hS7, hFw.trans hF7⟩
          · rw [hc] at hid hde ⊢
            rw [show identB 41 0 = false by decide] at hid
            rw [show isD 41 = false by decide] at hde
            clear hc
            go_wp2_with (first | (go_at_call 77; refine hid.mono ?_; rintro e' w' ⟨rfl, rfl⟩) | (go_at_call 79; refine (hde _).mono ?_; rintro e' w' ⟨rfl, rfl⟩) | (go_at_call 75; refine nx.mono ?_; rintro e' w7 ⟨rfl, hS7, hF7⟩))
            go_meet
            exact ⟨rfl, ⟨41, rfl, by decide⟩, hS7, hFw.trans hF7⟩
          · rw [hc] at hid hde ⊢
            rw [show identB 44 0 = false by decide] at hid
            rw [show isD 44 = false by decide] at hde
            clear hc
            go_wp2_with (first | (go_at_call 77; refine hid.mono ?_; rintro e' w' ⟨rfl, rfl⟩) | (go_at_call 79; refine (hde _).mono ?_; rintro e' w' ⟨rfl, rfl⟩) | (go_at_call 75; refine nx.mono ?_; rintro e' w7 ⟨rfl, hS7, hF7⟩))
            go_meet
            exact ⟨rfl, ⟨44, rfl, by decide⟩, hS7, hFw.trans hF7⟩
          · rw [hc] at hid hde ⊢
            rw [show identB 45 0 = false by decide] at hid
            rw [show isD 45 = false by decide] at hde
            clear hc
            go_wp2_with (first | (go_at_call 77; refine hid.mono ?_; rintro e' w' ⟨rfl, rfl⟩) | (go_at_call 79; refine (hde _).mono ?_; rintro e' w' ⟨rfl, rfl⟩) | (go_at_call 75; refine nx.mono ?_; rintro e' w7 ⟨rfl, hS7, hF7⟩))
            go_meet
            exact ⟨rfl, ⟨45, rfl, by decide⟩, hS7, hFw.trans hF7⟩
      obtain ⟨rfl, ⟨k', rfl, hkn⟩, hS7, hF7⟩ := hcut
      obtain ⟨s7, hs7⟩ := hS7
      have HX7 := Lib.hid hs7
      have hsp : s7.sp ≤ 1024 := Nat.le_trans hs7.ok.sp hs7.ok.se
      have hlc : s7.lc ≤ 1 := hs7.ok.lc1
      have c1 := hs7.sc.c_sp
      have c2 := hs7.sc.c_lc
      have c3 := hs7.sc.c_te
      have z3 := hs7.sc.fz 1037
      have hB7 := hs7.sc.Bb
      have hS7 := hs7.sc
      clear hs7
      go_wp2_with (fail)
      go_region
      have c4 := hS7.c_ch
      have z4 := hS7.fz 1038
      go_wp2_with (fail)
      rw [Exit.noGoto_ret]
      go_ret
      refine ⟨k', rfl, hkn, ?_, (hF7.setCell (p := ⟨b, 1037, none⟩) (Or.inl rfl) hB7 _).setCell (p := ⟨b, 1038, none⟩) (Or.inl rfl) hB7 _ |>.drew⟩
      have h7 := HX7.out
      refine ⟨{ ({ s7 with te := (s7.sp : Int) - s7.lc } : SS) with ch := chA t e }, ((hS7.put_te _).put_ch _).drew, ⟨⟨h7.ok.se, h7.ok.sp, h7.ok.rd, h7.ok.sz, h7.ok.sb, h7.ok.st⟩, h7.ok.lc1, h7.ok.lc⟩, h7.tk, h7.P, h7.lc, ?_, rfl, h7.er, h7.pk, h7.r⟩
      intro e1 he1
      have he1 : e = e1 := by simpa using he1
      subst he1
      have hP := h7.P
      have hl := h7.lc
      have hle := hTle
      show (s7.off : Int) + ((s7.sp : Int) - s7.lc) = e
      dsimp only at hP hl
      split at hl <;> omega

end Go.Proofs.YtlckfiflfkbofaaGreatDoor
