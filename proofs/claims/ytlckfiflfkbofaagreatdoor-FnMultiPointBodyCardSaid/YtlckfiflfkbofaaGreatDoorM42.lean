/- Reading points out again: Coordinates, PointN, NumPoints. The reference's Places and Nums, at no place and at one. plainPoint. Part 42 of 51 of the proof that FnMultiPointBody returns true for every text and every type of coordinates, where the listed variables hold what the text of the program lays. -/
import Derived.BigRegion
import Derived.Test.YtlckfiflfkbofaaGreatDoorM39
import Derived.Test.YtlckfiflfkbofaaGreatDoorM41
set_option linter.all false

/- Reading points out again: Coordinates, PointN, NumPoints. -/
namespace Go.Proofs.YtlckfiflfkbofaaGreatDoor
open Go.RowKit

set_option maxRecDepth 100000 in
theorem np24 (v : Value) (ct : Int) (w : World) : Calls Tryz.prog 24 #[.agg #[v, .int .u8 ct]] w fun e w' => e = .returned (.int .u8 ct) ∧ Below w.heap.size w w' := by
  go_enter Tryz.func24, Tryz.ntmps24
  go_wp2_with (fail)
  go_ret
  exact ⟨rfl, (Below.refl _ w).alloc (Nat.le_refl _) _⟩
set_option maxRecDepth 100000 in
theorem np25 (a : Option Addr) (n cap : Nat) (ct : Int) (w : World) : Calls Tryz.prog 25 #[.agg #[.slice a n cap, .int .u8 ct]] w fun e w' => e = .returned (.int .i64 (n : Int)) ∧ Below w.heap.size w w' := by
  go_enter Tryz.func25, Tryz.ntmps25
  go_wp2_with (fail)
  go_ret
  exact ⟨rfl, (Below.refl _ w).alloc (Nat.le_refl _) _⟩
set_option maxRecDepth 100000 in
theorem np51 (x y z m : Nat) (ct : Int) (f : Bool) (w : World) : Calls Tryz.prog 51 #[.agg #[.float .f64 x, .float .f64 y, .float .f64 z, .float .f64 m, .int .u8 ct, .bool f]] w fun e w' => e = .returned (.tuple #[.agg #[.float .f64 x, .float .f64 y, .float .f64 z, .float .f64 m, .int .u8 ct], .bool f]) ∧ Below w.heap.size w w' := by
  have hst := run_store_flt
  go_enter Tryz.func51, Tryz.ntmps51
  go_wp2_with (fail)
  go_region
  go_wp2_with (fail)
  (try simp only [Exit.inBlock, Exit.then]); refine bodyPost_ret (results_two rfl _ _ _ _ _ _ _ rfl (heap_alloc2_new w _ _) Tryz.underlying69 info69) rfl ?_
  exact ⟨rfl, bel_dr (((Below.refl _ w).alloc (Nat.le_refl _) _).alloc (by simp) _) 1⟩
set_option maxRecDepth 100000 in
theorem np27 (w : World) (a : Option Addr) (n cap : Nat) (ct : Nat) (i : Nat) (p : Pg) (g : Nat) (ha : a = some ⟨g, 0, none⟩) (hg : g < w.heap.size) (hp : At6 w g (i * 6) p ct) (hi : i < n) (hn : n ≤ cap) (hl : n ≤ 1000000) : Calls Tryz.prog 27 #[.agg #[.slice a n cap, .int .u8 (ct : Int)], .int .i64 (i : Int)] w fun e w' => e = .returned (.agg #[.float .f64 p.x, .float .f64 p.y, .float .f64 p.z, .float .f64 p.m, .int .u8 (ct : Int), .bool p.f]) ∧ Below w.heap.size w w' := by
  have hst := run_store_flt
  subst ha
  obtain ⟨c0, c1, c2, c3, c4, c5⟩ := hp
  have hi' : (i : Int) < n := by omega
  go_enter Tryz.func27, Tryz.ntmps27
  go_wp2_with (fail)
  (try simp only [Exit.inBlock, Exit.then]); refine bodyPost_ret (results_one rfl _ _ _ _ _ _ _ rfl (heap_alloc2_new w _ _) Tryz.underlying71 info71) rfl ?_
  exact ⟨rfl, ((Below.refl _ w).alloc (Nat.le_refl _) _).alloc (by simp) _⟩

theorem wpList_append_m {ops : Array Oper} {rest : List Oper} {o : Oper} {a : Act} {Q : Exit → Act → World → Prop} (hgd : o.guard = none) (s x : Operand) (t : TypeId)
    (ho : o.op = .call { callee := .builtin .append, args := #[s, x], argTypes := #[t, t] })
    (base : Nat) (e : TypeId) (i : TypeInfo) (z : Value) (size bytes : Nat) (ht : Tryz.prog.underlying t = some (.slice e)) (hi : Tryz.prog.info? e = some i) (hz : i.zero = some z)
    (hsize : i.size = size) (hby : i.bytes = bytes) (hzs : z.cells.size = size) (hsz : 0 < size) (hb : bytes ≤ 1000)
    (w : World) (v : Value) (n : Nat) (xs : List Value) (m : Nat) (cs : Array Value) (hs : a.eval s = v) (hown : w.ownsRow base e size v n xs)
    (hx : a.eval x = .slice (some ⟨w.heap.size, 0, none⟩) m m) (hl : cs.size = m * size) (h1 : ∀ u ∈ cs.toList, u.oneCell' = true) (hm : m ≤ 1000) (hn : n ≤ 1000000) (hbase : base ≤ w.heap.size)
    (h : ∀ v' w', w'.ownsRow base e size v' (n + m) (xs ++ cs.toList) → w.grownBy w' v.ownBlock → wpList Tryz.prog ops Q rest (a.put o.dst v') w') : wpList Tryz.prog ops Q (o :: rest) a (w.alloc (.cells cs e)) := by
  refine wpList_append_own (P := Tryz.prog) (w := w.alloc (.cells cs e)) hgd s x t ho base e i z size bytes ht hi hz hsize hby hzs hsz v n xs hs (hown.alloc _) ⟨w.heap.size, 0, none⟩ m m cs.toList hx (by simp [hl]) ?_ h1 ?_ ?_ ?_ ?_
  · intro j u hu
    have hadd : (⟨w.heap.size, 0, none⟩ : Addr).add j = ⟨w.heap.size, j, none⟩ := by unfold Addr.add; split <;> simp_all
    rw [hadd, World.cell?_alloc_new]
    simpa using hu
  · unfold maxLen; omega
  · have : (n + m) * bytes ≤ 1001000 * 1000 := Nat.mul_le_mul (by omega) hb
    omega
  · simp; omega
  · intro v' w' h2 h3 _
    refine h v' w' h2 ?_
    have h4 := World.grownBy_alloc w (.cells cs e) v.ownBlock
    exact ⟨h3.os.trans h4.os, h3.tape.trans h4.tape, h3.output.trans h4.output, Nat.le_trans h4.size h3.size, fun k hk hne => (h3.block k (Nat.lt_of_lt_of_le hk h4.size) hne).trans (h4.block k hk hne)⟩

end Go.Proofs.YtlckfiflfkbofaaGreatDoor

/- The reference's Places and Nums, at no place and at one. -/
namespace Go.Proofs.YtlckfiflfkbofaaGreatDoor
open Go.RowKit

theorem alloc_drew (w : World) (o : Obj) : (w.alloc o).drew = w.drew.alloc o := rfl
theorem size_drew (w : World) : w.drew.heap.size = w.heap.size := rfl
theorem plcInfo : (Tryz.prog.info? 131).map (fun i => (i.zero, i.size, i.bytes)) = some (some (.agg #[.float .f64 0, .float .f64 0, .float .f64 0, .float .f64 0]), 4, 32) := by kernel_rfl

set_option maxRecDepth 100000 in
theorem pl_nil (w : World) (a : Option Addr) (cap : Nat) (ct : Nat) (hct : ct < 4) : Calls Tryz.prog 56 #[.slice a 0 cap, .int .i64 (ct : Int)] w fun e w' => e = .returned (.slice none 0 0) ∧ Keep (fun _ => False) w w' := by
  have hW := fun W => wd_calls ct hct W
  have hw1 : ¬ ((wd ct : Nat) : Int) ≤ 0 := by unfold wd; omega
  have hw2 : IntKind.i64.wrap (0 + ((wd ct : Nat) : Int)) = ((wd ct : Nat) : Int) := by rw [IntWalk.i64_in _ (by unfold wd; omega)]; omega
  have hw3 : IntKind.i64.wrap ((wd ct : Nat) : Int) = ((wd ct : Nat) : Int) := by rw [IntWalk.i64_in _ (by unfold wd; omega)]
  go_enter Tryz.func56, Tryz.ntmps56
  go_wp2_with (go_at_call 33; refine (hW _).mono ?_; rintro e w2 ⟨rfl, rfl⟩)
  go_loopw [5, 7] (fun v5 v7 wr => v5 = .slice none 0 0 ∧ v7 = .int .i64 0 ∧ wr = w) (fun _ _ _ => 0)
  case atStart => exact ⟨rfl, rfl, rfl⟩
  case round =>
    obtain ⟨rfl, rfl, rfl⟩ := hrel
    go_wp2_with (fail)
    go_ret
    exact ⟨rfl, Keep.refl _ _⟩

set_option maxRecDepth 100000 in
set_option maxHeartbeats 3200000 in
theorem pl_0 (w : World) (v : Value) (x y : Nat) (hv : NumV w v [x, y]) : Calls Tryz.prog 56 #[v, .int .i64 0] w fun e w' => ∃ pv, e = .returned pv ∧ w'.ownsRow w.heap.size 131 4 pv 1 (fl [x, y, 0, 0]) ∧ Keep (fun _ => False) w w' := by
  obtain ⟨i0, hi, hz0, hz1, hz2⟩ := info_parts plcInfo
  have hst := run_store_flt
  have hW := fun W => wd33_0 W
  obtain ⟨a, cap, rfl, hc⟩ := hv
  obtain ⟨g, rfl, hg, _⟩ := hc 0 x rfl
  have hcell : ∀ i u, [x, y][i]? = some u → w.cell? ⟨g, i, none⟩ = some (.float .f64 u) := by
    intro i u hx
    obtain ⟨g', e, _, hh⟩ := hc i u hx
    cases e
    exact hh
  have c0 := hcell 0 x rfl
  have c1 := hcell 1 y rfl
  clear hcell hc
  go_enter Tryz.func56, Tryz.ntmps56
  go_wp2_with (go_at_call 33; refine (hW _).mono ?_; rintro e w2 ⟨rfl, rfl⟩)
  go_loopw [5, 7] (fun v5 v7 wr => (v5 = .slice none 0 0 ∧ v7 = .int .i64 0 ∧ wr = w) ∨ (v7 = .int .i64 2 ∧ Hid (wr.ownsRow w.heap.size 131 4 v5 1 (fl [x, y, 0, 0])) ∧ Hid (Keep (fun _ => False) w wr))) (fun _ v7 _ => match v7 with | .int _ 0 => 1 | _ => 0)
  case atStart => exact Or.inl ⟨rfl, rfl, rfl⟩
  case round =>
    rcases hrel with ⟨rfl, rfl, rfl⟩ | ⟨rfl, ho, hK⟩
    · go_wp2_with (fail)
      go_region
      have HB : ∀ v0 v1 v2 v3, wr.heap.size ≤ (wr.alloc (.cells #[v0, v1, v2, v3] 131)).drew.heap.size := by intros; simp
      go_wp2_with (first | (at_builtin; rw [alloc_drew]; refine wpList_append_m rfl _ _ 117 rfl wr.heap.size 131 i0 _ 4 32 Tryz.underlying117 hi hz0 hz1 hz2 rfl (by omega) (by omega) _ (.slice none 0 0) 0 [] 1 _ (by rfl) (by exact World.ownsRow_nil _ _ _ _) (by first | rfl | (simp only [World.size_alloc]; rfl) | (simp only [World.size_setCell]; rfl) | (simp only [size_drew, World.size_alloc]; rfl) | (simp only [size_drew, World.size_setCell, World.size_alloc]; rfl)) rfl (by intro u hu; simp at hu; rcases hu with rfl | rfl | rfl | rfl <;> rfl) (by omega) (by simp) (by first | exact HB _ _ _ _ | (simp only [World.size_setCell]; exact HB _ _ _ _)) ?_; intro v6 w6 ho6 hg6))
      all_goals (
        go_roundw
        case rel => exact Or.inr ⟨rfl, Lib.hid ho6, Lib.hid (Keep.grown (by repeat (first | exact Keep.refl _ _ | refine Keep.setCell ?_ (Or.inl (Nat.le_refl _)) _ | refine Keep.drew ?_ | refine Keep.alloc ?_ _)) (World.ownsRow_nil _ _ 131 4) hg6)⟩
        case measure => simp only []; omega)
    · go_wp2_with (fail)
      go_ret
      exact ⟨_, rfl, ho.out, hK.out⟩

set_option maxRecDepth 100000 in
set_option maxHeartbeats 3200000 in
theorem pl_1 (w : World) (v : Value) (x y z : Nat) (hv : NumV w v [x, y, z]) : Calls Tryz.prog 56 #[v, .int .i64 1] w fun e w' => ∃ pv, e = .returned pv ∧ w'.ownsRow w.heap.size 131 4 pv 1 (fl [x, y, z, 0]) ∧ Keep (fun _ => False) w w' := by
  obtain ⟨i0, hi, hz0, hz1, hz2⟩ := info_parts plcInfo
  have hst := run_store_flt
  have hW := fun W => wd33_1 W
  obtain ⟨a, cap, rfl, hc⟩ := hv
  obtain ⟨g, rfl, hg, _⟩ := hc 0 x rfl
  have hcell : ∀ i u, [x, y, z][i]? = some u → w.cell? ⟨g, i, none⟩ = some (.float .f64 u) := by
    intro i u hx
    obtain ⟨g', e, _, hh⟩ := hc i u hx
    cases e
    exact hh
  have c0 := hcell 0 x rfl
  have c1 := hcell 1 y rfl
  have c2 := hcell 2 z rfl
  clear hcell hc
  go_enter Tryz.func56, Tryz.ntmps56
  go_wp2_with (go_at_call 33; refine (hW _).mono ?_; rintro e w2 ⟨rfl, rfl⟩)
  go_loopw [5, 7] (fun v5 v7 wr => (v5 = .slice none 0 0 ∧ v7 = .int .i64 0 ∧ wr = w) ∨ (v7 = .int .i64 3 ∧ Hid (wr.ownsRow w.heap.size 131 4 v5 1 (fl [x, y, z, 0])) ∧ Hid (Keep (fun _ => False) w wr))) (fun _ v7 _ => match v7 with | .int _ 0 => 1 | _ => 0)
  case atStart => exact Or.inl ⟨rfl, rfl, rfl⟩
  case round =>
    rcases hrel with ⟨rfl, rfl, rfl⟩ | ⟨rfl, ho, hK⟩
    · go_wp2_with (fail)
      go_region
      have HB : ∀ v0 v1 v2 v3, wr.heap.size ≤ (wr.alloc (.cells #[v0, v1, v2, v3] 131)).drew.heap.size := by intros; simp
      go_wp2_with (first | (at_builtin; rw [alloc_drew]; refine wpList_append_m rfl _ _ 117 rfl wr.heap.size 131 i0 _ 4 32 Tryz.underlying117 hi hz0 hz1 hz2 rfl (by omega) (by omega) _ (.slice none 0 0) 0 [] 1 _ (by rfl) (by exact World.ownsRow_nil _ _ _ _) (by first | rfl | (simp only [World.size_alloc]; rfl) | (simp only [World.size_setCell]; rfl) | (simp only [size_drew, World.size_alloc]; rfl) | (simp only [size_drew, World.size_setCell, World.size_alloc]; rfl)) rfl (by intro u hu; simp at hu; rcases hu with rfl | rfl | rfl | rfl <;> rfl) (by omega) (by simp) (by first | exact HB _ _ _ _ | (simp only [World.size_setCell]; exact HB _ _ _ _)) ?_; intro v6 w6 ho6 hg6))
      all_goals (
        go_roundw
        case rel => exact Or.inr ⟨rfl, Lib.hid ho6, Lib.hid (Keep.grown (by repeat (first | exact Keep.refl _ _ | refine Keep.setCell ?_ (Or.inl (Nat.le_refl _)) _ | refine Keep.drew ?_ | refine Keep.alloc ?_ _)) (World.ownsRow_nil _ _ 131 4) hg6)⟩
        case measure => simp only []; omega)
    · go_wp2_with (fail)
      go_ret
      exact ⟨_, rfl, ho.out, hK.out⟩

set_option maxRecDepth 100000 in
set_option maxHeartbeats 3200000 in
theorem pl_2 (w : World) (v : Value) (x y m : Nat) (hv : NumV w v [x, y, m]) : Calls Tryz.prog 56 #[v, .int .i64 2] w fun e w' => ∃ pv, e = .returned pv ∧ w'.ownsRow w.heap.size 131 4 pv 1 (fl [x, y, 0, m]) ∧ Keep (fun _ => False) w w' := by
  obtain ⟨i0, hi, hz0, hz1, hz2⟩ := info_parts plcInfo
  have hst := run_store_flt
  have hW := fun W => wd33_2 W
  obtain ⟨a, cap, rfl, hc⟩ := hv
  obtain ⟨g, rfl, hg, _⟩ := hc 0 x rfl
  have hcell : ∀ i u, [x, y, m][i]? = some u → w.cell? ⟨g, i, none⟩ = some (.float .f64 u) := by
    intro i u hx
    obtain ⟨g', e, _, hh⟩ := hc i u hx
    cases e
    exact hh
  have c0 := hcell 0 x rfl
  have c1 := hcell 1 y rfl
  have c2 := hcell 2 m rfl
  clear hcell hc
  go_enter Tryz.func56, Tryz.ntmps56
  go_wp2_with (go_at_call 33; refine (hW _).mono ?_; rintro e w2 ⟨rfl, rfl⟩)
  go_loopw [5, 7] (fun v5 v7 wr => (v5 = .slice none 0 0 ∧ v7 = .int .i64 0 ∧ wr = w) ∨ (v7 = .int .i64 3 ∧ Hid (wr.ownsRow w.heap.size 131 4 v5 1 (fl [x, y, 0, m])) ∧ Hid (Keep (fun _ => False) w wr))) (fun _ v7 _ => match v7 with | .int _ 0 => 1 | _ => 0)
  case atStart => exact Or.inl ⟨rfl, rfl, rfl⟩
  case round =>
    rcases hrel with ⟨rfl, rfl, rfl⟩ | ⟨rfl, ho, hK⟩
    · go_wp2_with (fail)
      go_region
      have HB : ∀ v0 v1 v2 v3, wr.heap.size ≤ (wr.alloc (.cells #[v0, v1, v2, v3] 131)).drew.heap.size := by intros; simp
      go_wp2_with (first | (at_builtin; rw [alloc_drew]; refine wpList_append_m rfl _ _ 117 rfl wr.heap.size 131 i0 _ 4 32 Tryz.underlying117 hi hz0 hz1 hz2 rfl (by omega) (by omega) _ (.slice none 0 0) 0 [] 1 _ (by rfl) (by exact World.ownsRow_nil _ _ _ _) (by first | rfl | (simp only [World.size_alloc]; rfl) | (simp only [World.size_setCell]; rfl) | (simp only [size_drew, World.size_alloc]; rfl) | (simp only [size_drew, World.size_setCell, World.size_alloc]; rfl)) rfl (by intro u hu; simp at hu; rcases hu with rfl | rfl | rfl | rfl <;> rfl) (by omega) (by simp) (by first | exact HB _ _ _ _ | (simp only [World.size_setCell]; exact HB _ _ _ _)) ?_; intro v6 w6 ho6 hg6))
      all_goals (
        go_roundw
        case rel => exact Or.inr ⟨rfl, Lib.hid ho6, Lib.hid (Keep.grown (by repeat (first | exact Keep.refl _ _ | refine Keep.setCell ?_ (Or.inl (Nat.le_refl _)) _ | refine Keep.drew ?_ | refine Keep.alloc ?_ _)) (World.ownsRow_nil _ _ 131 4) hg6)⟩
        case measure => simp only []; omega)
    · go_wp2_with (fail)
      go_ret
      exact ⟨_, rfl, ho.out, hK.out⟩

set_option maxRecDepth 100000 in
set_option maxHeartbeats 3200000 in
theorem pl_3 (w : World) (v : Value) (x y z m : Nat) (hv : NumV w v [x, y, z, m]) : Calls Tryz.prog 56 #[v, .int .i64 3] w fun e w' => ∃ pv, e = .returned pv ∧ w'.ownsRow w.heap.size 131 4 pv 1 (fl [x, y, z, m]) ∧ Keep (fun _ => False) w w' := by
  obtain ⟨i0, hi, hz0, hz1, hz2⟩ := info_parts plcInfo
  have hst := run_store_flt
  have hW := fun W => wd33_3 W
  obtain ⟨a, cap, rfl, hc⟩ := hv
  obtain ⟨g, rfl, hg, _⟩ := hc 0 x rfl
  have hcell : ∀ i u, [x, y, z, m][i]? = some u → w.cell? ⟨g, i, none⟩ = some (.float .f64 u) := by
    intro i u hx
    obtain ⟨g', e, _, hh⟩ := hc i u hx
    cases e
    exact hh
  have c0 := hcell 0 x rfl
  have c1 := hcell 1 y rfl
  have c2 := hcell 2 z rfl
  have c3 := hcell 3 m rfl
  clear hcell hc
  go_enter Tryz.func56, Tryz.ntmps56
  go_wp2_with (go_at_call 33; refine (hW _).mono ?_; rintro e w2 ⟨rfl, rfl⟩)
  go_loopw [5, 7] (fun v5 v7 wr => (v5 = .slice none 0 0 ∧ v7 = .int .i64 0 ∧ wr = w) ∨ (v7 = .int .i64 4 ∧ Hid (wr.ownsRow w.heap.size 131 4 v5 1 (fl [x, y, z, m])) ∧ Hid (Keep (fun _ => False) w wr))) (fun _ v7 _ => match v7 with | .int _ 0 => 1 | _ => 0)
  case atStart => exact Or.inl ⟨rfl, rfl, rfl⟩
  case round =>
    rcases hrel with ⟨rfl, rfl, rfl⟩ | ⟨rfl, ho, hK⟩
    · go_wp2_with (fail)
      go_region
      have HB : ∀ v0 v1 v2 v3, wr.heap.size ≤ (wr.alloc (.cells #[v0, v1, v2, v3] 131)).drew.heap.size := by intros; simp
      go_wp2_with (first | (at_builtin; rw [alloc_drew]; refine wpList_append_m rfl _ _ 117 rfl wr.heap.size 131 i0 _ 4 32 Tryz.underlying117 hi hz0 hz1 hz2 rfl (by omega) (by omega) _ (.slice none 0 0) 0 [] 1 _ (by rfl) (by exact World.ownsRow_nil _ _ _ _) (by first | rfl | (simp only [World.size_alloc]; rfl) | (simp only [World.size_setCell]; rfl) | (simp only [size_drew, World.size_alloc]; rfl) | (simp only [size_drew, World.size_setCell, World.size_alloc]; rfl)) rfl (by intro u hu; simp at hu; rcases hu with rfl | rfl | rfl | rfl <;> rfl) (by omega) (by simp) (by first | exact HB _ _ _ _ | (simp only [World.size_setCell]; exact HB _ _ _ _)) ?_; intro v6 w6 ho6 hg6))
      all_goals (
        go_roundw
        case rel => exact Or.inr ⟨rfl, Lib.hid ho6, Lib.hid (Keep.grown (by repeat (first | exact Keep.refl _ _ | refine Keep.setCell ?_ (Or.inl (Nat.le_refl _)) _ | refine Keep.drew ?_ | refine Keep.alloc ?_ _)) (World.ownsRow_nil _ _ 131 4) hg6)⟩
        case measure => simp only []; omega)
    · go_wp2_with (fail)
      go_ret
      exact ⟨_, rfl, ho.out, hK.out⟩

end Go.Proofs.YtlckfiflfkbofaaGreatDoor

/- plainPoint. -/
namespace Go.Proofs.YtlckfiflfkbofaaGreatDoor
open Go.RowKit

theorem cells4 {w : World} {c : Nat} {ty : TypeId} {a0 a1 a2 a3 : Value} (h : w.heap[c]? = some (.cells #[a0, a1, a2, a3] ty (0, 0))) : w.cell? ⟨c, 0, none⟩ = some a0 ∧ w.cell? ⟨c, 1, none⟩ = some a1 ∧ w.cell? ⟨c, 2, none⟩ = some a2 ∧ w.cell? ⟨c, 3, none⟩ = some a3 ∧ w.frozen? ⟨c, 0, none⟩ = false ∧ w.frozen? ⟨c, 1, none⟩ = false ∧ w.frozen? ⟨c, 2, none⟩ = false ∧ w.frozen? ⟨c, 3, none⟩ = false := by
  refine ⟨?_, ?_, ?_, ?_, ?_, ?_, ?_, ?_⟩
  all_goals first | (simp only [World.cell?, h]; rfl) | exact Lib.frozen_of_heap h _
theorem cells5 {w : World} {c : Nat} {ty : TypeId} {a0 a1 a2 a3 a4 : Value} (h : w.heap[c]? = some (.cells #[a0, a1, a2, a3, a4] ty (0, 0))) : w.cell? ⟨c, 0, none⟩ = some a0 ∧ w.cell? ⟨c, 1, none⟩ = some a1 ∧ w.cell? ⟨c, 2, none⟩ = some a2 ∧ w.cell? ⟨c, 3, none⟩ = some a3 ∧ w.cell? ⟨c, 4, none⟩ = some a4 := by
  refine ⟨?_, ?_, ?_, ?_, ?_⟩
  all_goals (simp only [World.cell?, h]; rfl)
theorem blk4 {w : World} {c : Nat} {ty : TypeId} {a0 a1 a2 a3 : Value} (h : w.heap[c]? = some (.cells #[a0, a1, a2, a3] ty (0, 0))) (v0 v1 v2 v3 : Value) :
    ((((w.setCell ⟨c, 0, none⟩ v0).setCell ⟨c, 1, none⟩ v1).setCell ⟨c, 2, none⟩ v2).setCell ⟨c, 3, none⟩ v3).heap[c]? = some (.cells #[v0, v1, v2, v3] ty (0, 0)) :=
  Lib.heap_setCell_same (i := 3) (Lib.heap_setCell_same (i := 2) (Lib.heap_setCell_same (i := 1) (Lib.heap_setCell_same (i := 0) h v0) v1) v2) v3

/-- plainPoint's blocks: the result at R, the geometry at b, the coordinates at c. -/
structure Pq (w0 w : World) (b c : Nat) (ct : Nat) (nv : Value) (x y z m : Nat) (ns : List Nat) : Prop where
  r : w.heap[w0.heap.size + 1]? = some (.cells #[.int .i64 0, .int .i64 0, .slice none 0 0, .slice none 0 0] 33 (0, 0))
  g : w.heap[b]? = some (.cells #[.int .i64 1, .int .i64 (ct : Int), nv, .slice none 0 0] 33 (0, 0))
  c : w.heap[c]? = some (.cells #[.float .f64 x, .float .f64 y, .float .f64 z, .float .f64 m, .int .u8 (ct : Int)] 69 (0, 0))
  own : w.ownsRow w0.heap.size 65 1 nv ns.length (fl ns)
  k : Keep (fun _ => False) w0 w
  rb : b ≠ w0.heap.size + 1
  b0 : w0.heap.size ≤ b

section
variable {w0 w w' : World} {b c ct : Nat} {nv : Value} {x y z m : Nat} {ns : List Nat}
theorem Pq.keep (h : Pq w0 w b c ct nv x y z m ns) (k : Keep (fun _ => False) w w') : Pq w0 w' b c ct nv x y z m ns := by
  have st : ∀ (i : Nat) (o : Obj), w.heap[i]? = some o → w'.heap[i]? = some o := fun i o hi => (k.block i (Array.getElem?_eq_some_iff.1 hi).1 (fun h => h)).trans hi
  exact ⟨st _ _ h.r, st _ _ h.g, st _ _ h.c, own_keep h.own k (fun _ _ h => h), h.k.trans k, h.rb, h.b0⟩
theorem Pq.setN (h : Pq w0 w b c ct nv x y z m ns) {v' : Value} {ns' : List Nat} (ho : w'.ownsRow w0.heap.size 65 1 v' ns'.length (fl ns')) (q : w.grownBy w' nv.ownBlock) : Pq w0 (w'.setCell ⟨b, 2, none⟩ v') b c ct v' x y z m ns' := by
  have hne : ∀ (i : Nat) (cs : Array Value) (ty : TypeId), ty ≠ 65 → w.heap[i]? = some (.cells cs ty (0, 0)) → w'.heap[i]? = some (.cells cs ty (0, 0)) := by
    intro i cs ty hty hi
    rw [q.block i (Array.getElem?_eq_some_iff.1 hi).1 ?_]
    · exact hi
    · intro e
      rcases h.own.2 with ⟨hn, _⟩ | ⟨g', cap, cur, hn, hb, hgg, _⟩
      · rw [hn] at e; cases e
      · rw [hn] at e
        cases e
        rw [hgg] at hi
        injection hi with hi
        injection hi with _ h2 _
        exact hty h2.symm
  have hr := hne _ _ _ (by decide) h.r
  have hg := hne _ _ _ (by decide) h.g
  have hc := hne _ _ _ (by decide) h.c
  have hcb : c ≠ b := by
    intro e
    have h1 := h.c
    have h2 := h.g
    rw [e, h2] at h1
    cases h1
  refine ⟨?_, Lib.heap_setCell_same (i := 2) hg v', ?_, ?_, (h.k.grown h.own q).setCell (Or.inl h.b0) _, h.rb, h.b0⟩
  · rw [Below.heap_setCell _ _ _ _ (show w0.heap.size + 1 ≠ b from fun e => h.rb e.symm)]; exact hr
  · rw [Below.heap_setCell _ _ _ _ (show c ≠ b from hcb)]; exact hc
  · have hk2 : Keep (fun k => k = b) w' (w'.setCell ⟨b, 2, none⟩ v') := (Keep.refl (fun k => k = b) w').setCell (p := ⟨b, 2, none⟩) (Or.inr rfl) v'
    refine own_keep ho hk2 ?_
    intro g' hg' e
    subst e
    rcases ho.2 with ⟨hn, _⟩ | ⟨g2, cap, cur, hn, hb, hgg, _⟩
    · rw [hn] at hg'; cases hg'
    · rw [hn] at hg'
      cases hg'
      rw [hgg] at hg
      cases hg
theorem Pq.gk (h : Pq w0 w b c ct nv x y z m ns) (q : w.grownBy w' nv.ownBlock) : w'.heap[b]? = some (.cells #[.int .i64 1, .int .i64 (ct : Int), nv, .slice none 0 0] 33 (0, 0)) := by
  have hi := h.g
  rw [q.block b (Array.getElem?_eq_some_iff.1 hi).1 ?_]
  · exact hi
  · intro e
    rcases h.own.2 with ⟨hn, _⟩ | ⟨g', cap, cur, hn, hb, hgg, _⟩
    · rw [hn] at e; cases e
    · rw [hn] at e
      cases e
      rw [hgg] at hi
      cases hi
theorem own_sl {bs n size : Nat} {e : TypeId} {v : Value} {us : List Value} (h : w.ownsRow bs e size v n us) (hn : 0 < n) : ∃ (g k cap : Nat), v = .slice (some ⟨g, 0, none⟩) k cap := by
  rcases h.2 with ⟨_, h0⟩ | ⟨g, cap, cur, rfl, _⟩
  · omega
  · exact ⟨g, _, cap, rfl⟩
theorem Pq.own2 (h : Pq w0 w b c ct nv x y z m ns) {v' : Value} {u : List Nat} (ho : w'.ownsRow w0.heap.size 65 1 v' (ns.length + u.length) (fl ns ++ fl u)) : w'.ownsRow w0.heap.size 65 1 v' (ns ++ u).length (fl (ns ++ u)) := by
  rw [List.length_append, show fl (ns ++ u) = fl ns ++ fl u by simp [fl]]; exact ho
/-- The result is stored. -/
theorem Pq.fin (h : Pq w0 w b c ct nv x y z m ns) (v0 v1 v2 v3 : Value) : Keep (fun _ => False) w0 ((((w.setCell ⟨w0.heap.size + 1, 0, none⟩ v0).setCell ⟨w0.heap.size + 1, 1, none⟩ v1).setCell ⟨w0.heap.size + 1, 2, none⟩ v2).setCell ⟨w0.heap.size + 1, 3, none⟩ v3) ∧
    ((((w.setCell ⟨w0.heap.size + 1, 0, none⟩ v0).setCell ⟨w0.heap.size + 1, 1, none⟩ v1).setCell ⟨w0.heap.size + 1, 2, none⟩ v2).setCell ⟨w0.heap.size + 1, 3, none⟩ v3).ownsRow w0.heap.size 65 1 nv ns.length (fl ns) := by
  have hK : ∀ (S : Nat → Prop) (W : World), (∀ i, i = w0.heap.size + 1 → S i) → Keep S W ((((W.setCell ⟨w0.heap.size + 1, 0, none⟩ v0).setCell ⟨w0.heap.size + 1, 1, none⟩ v1).setCell ⟨w0.heap.size + 1, 2, none⟩ v2).setCell ⟨w0.heap.size + 1, 3, none⟩ v3) := fun S W hS =>
    ((((Keep.refl S W).setCell (Or.inr (hS _ rfl)) v0).setCell (Or.inr (hS _ rfl)) v1).setCell (Or.inr (hS _ rfl)) v2).setCell (Or.inr (hS _ rfl)) v3
  refine ⟨((((h.k.setCell (Or.inl (Nat.le_succ _)) v0).setCell (Or.inl (Nat.le_succ _)) v1).setCell (Or.inl (Nat.le_succ _)) v2).setCell (Or.inl (Nat.le_succ _)) v3), own_keep h.own (hK (fun k => k = w0.heap.size + 1) w fun _ h => h) ?_⟩
  intro g' hg' e
  subst e
  rcases h.own.2 with ⟨hn, _⟩ | ⟨g2, cap, cur, hn, hb, hgg, _⟩
  · rw [hn] at hg'; cases hg'
  · rw [hn] at hg'
    cases hg'
    have := h.r
    rw [hgg] at this
    cases this
end

/-- What plainPoint answers. -/
def PptP (w : World) (ct : Nat) (ns : List Nat) (e : Ending) (w' : World) : Prop := ∃ nv, e = .returned (.agg #[.int .i64 1, .int .i64 (ct : Int), nv, .slice none 0 0]) ∧ w'.ownsRow w.heap.size 65 1 nv ns.length (fl ns) ∧ Keep (fun _ => False) w w'

theorem pq_start {w w2 w3 : World} {ct : Nat} {x y z m : Nat} (hb1 : w2.heap[w.heap.size + 1]? = some (.cells #[.int .i64 0, .int .i64 0, .slice none 0 0, .slice none 0 0] 33 (0, 0))) (hK2 : Keep (fun _ => False) w w2)
    (hB : Below (w2.alloc (.cells #[.int .i64 1, .int .i64 (ct : Int), .slice none 0 0, .slice none 0 0] 33)).heap.size (w2.alloc (.cells #[.int .i64 1, .int .i64 (ct : Int), .slice none 0 0, .slice none 0 0] 33)) w3) :
    Pq w (w3.alloc (.cells #[.float .f64 x, .float .f64 y, .float .f64 z, .float .f64 m, .int .u8 (ct : Int)] 69)) w2.heap.size w3.heap.size ct (.slice none 0 0) x y z m [] := by
  have hl1 := (Array.getElem?_eq_some_iff.1 hb1).1
  have hg3 := (hB.block w2.heap.size (by simp only [World.size_alloc]; omega)).trans (heap_alloc_new w2 _)
  have hb3 := (hB.block (w.heap.size + 1) (by simp only [World.size_alloc]; omega)).trans ((Below.heap_alloc w2 _ _ hl1).trans hb1)
  have k1 := ((hK2.alloc (.cells #[.int .i64 1, .int .i64 (ct : Int), .slice none 0 0, .slice none 0 0] 33)).trans (Keep.of_below hB)).alloc (.cells #[.float .f64 x, .float .f64 y, .float .f64 z, .float .f64 m, .int .u8 (ct : Int)] 69)
  exact ⟨(Below.heap_alloc _ _ _ (Array.getElem?_eq_some_iff.1 hb3).1).trans hb3, (Below.heap_alloc _ _ _ (Array.getElem?_eq_some_iff.1 hg3).1).trans hg3, heap_alloc_new w3 _, World.ownsRow_nil _ _ _ _, k1, by omega, hK2.size⟩

set_option maxRecDepth 100000 in
set_option maxHeartbeats 3200000 in
theorem pp_emp (w : World) (x y z m : Nat) (ct : Nat) (hct : ct < 4) : Calls Tryz.prog 26 #[.agg #[.float .f64 x, .float .f64 y, .float .f64 z, .float .f64 m, .int .u8 (ct : Int), .bool false]] w fun e w' => PptP w ct [] e w' := by
  have hst := run_store_flt
  have h50 := fun W => np50 x y z m ct false W
  have h51 := fun W => np51 x y z m ct false W
  go_enter Tryz.func26, Tryz.ntmps26
  go_wp2_with (go_at_call 50; refine (h50 _).mono ?_; rintro e w2 ⟨rfl, hB⟩; clear h50; have hb0 := (hB.block w.heap.size (by simp only [World.size_alloc]; omega)).trans (heap_alloc2_old w _ _); have hb1 := (hB.block (w.heap.size + 1) (by simp only [World.size_alloc]; omega)).trans (heap_alloc2_new w _ _); obtain ⟨d0, d1, d2, d3, d4, d5, _⟩ := cells6 hb0; have hl0 := (Array.getElem?_eq_some_iff.1 hb0).1; have hl1 := (Array.getElem?_eq_some_iff.1 hb1).1; have hK2 := (((Keep.refl (fun _ => False) w).alloc _).alloc _).trans (Keep.of_below hB); clear hB)
  refine (h51 _).mono ?_
  rintro e w3 ⟨rfl, hB⟩
  clear h51
  have hQ : Pq w (w3.alloc (.cells #[.float .f64 x, .float .f64 y, .float .f64 z, .float .f64 m, .int .u8 (ct : Int)] 69)) w2.heap.size w3.heap.size ct (.slice none 0 0) x y z m [] := pq_start hb1 hK2 hB
  have hg3 := (hB.block w2.heap.size (by simp only [World.size_alloc]; omega)).trans (heap_alloc_new w2 _)
  have hb3 := (hB.block (w.heap.size + 1) (by simp only [World.size_alloc]; omega)).trans ((Below.heap_alloc w2 _ _ hl1).trans hb1)
  have hK3 := (hK2.alloc (.cells #[.int .i64 1, .int .i64 (ct : Int), .slice none 0 0, .slice none 0 0] 33)).trans (Keep.of_below hB)
  clear d0 d1 d2 d3 d4 d5 hb0 hb1 hl0 hl1 hB
  obtain ⟨r0, r1, r2, r3, r4, r5, r6, r7⟩ := cells4 hb3
  obtain ⟨g0, g1, g2, g3, g4, g5, g6, g7⟩ := cells4 hg3
  have hl1 := (Array.getElem?_eq_some_iff.1 hb3).1
  have hl2 := (Array.getElem?_eq_some_iff.1 hg3).1
  have hl1' : w.heap.size + 1 < w3.heap.size := hl1
  go_wp2_with (fail)
  (try simp only [Exit.inBlock, Exit.then]); refine bodyPost_ret (results_one rfl _ _ _ _ _ _ _ rfl ((Below.heap_alloc _ _ _ (Array.getElem?_eq_some_iff.1 (blk4 hb3 _ _ _ _)).1).trans (blk4 hb3 _ _ _ _)) Tryz.underlying33 info33) rfl ?_
  exact ⟨_, rfl, World.ownsRow_nil _ _ _ _, (((((hK3.setCell (Or.inl (Nat.le_succ _)) _).setCell (Or.inl (Nat.le_succ _)) _).setCell (Or.inl (Nat.le_succ _)) _).setCell (Or.inl (Nat.le_succ _)) _).alloc _)⟩
set_option maxRecDepth 100000 in
set_option maxHeartbeats 3200000 in
theorem pp_0 (w : World) (x y z m : Nat) : Calls Tryz.prog 26 #[.agg #[.float .f64 x, .float .f64 y, .float .f64 z, .float .f64 m, .int .u8 0, .bool true]] w fun e w' => PptP w 0 ([x, y]) e w' := by
  obtain ⟨i0, hi, hz0, hz1, hz2⟩ := info_parts fltInfo
  have hst := run_store_flt
  have h50 := fun W => np50 x y z m 0 true W
  have h51 := fun W => np51 x y z m 0 true W
  go_enter Tryz.func26, Tryz.ntmps26
  go_wp2_with (go_at_call 50; refine (h50 _).mono ?_; rintro e w2 ⟨rfl, hB⟩; clear h50; have hb0 := (hB.block w.heap.size (by simp only [World.size_alloc]; omega)).trans (heap_alloc2_old w _ _); have hb1 := (hB.block (w.heap.size + 1) (by simp only [World.size_alloc]; omega)).trans (heap_alloc2_new w _ _); obtain ⟨d0, d1, d2, d3, d4, d5, _⟩ := cells6 hb0; have hl0 := (Array.getElem?_eq_some_iff.1 hb0).1; have hl1 := (Array.getElem?_eq_some_iff.1 hb1).1; have hK2 := (((Keep.refl (fun _ => False) w).alloc _).alloc _).trans (Keep.of_below hB); clear hB)
  refine (h51 _).mono ?_
  rintro e w3 ⟨rfl, hB⟩
  clear h51
  have hQ : Pq w (w3.alloc (.cells #[.float .f64 x, .float .f64 y, .float .f64 z, .float .f64 m, .int .u8 0] 69)) w2.heap.size w3.heap.size 0 (.slice none 0 0) x y z m [] := pq_start hb1 hK2 hB
  have hg3 := (hB.block w2.heap.size (by simp only [World.size_alloc]; omega)).trans (heap_alloc_new w2 _)
  have hb3 := (hB.block (w.heap.size + 1) (by simp only [World.size_alloc]; omega)).trans ((Below.heap_alloc w2 _ _ hl1).trans hb1)
  have hK3 := (hK2.alloc (.cells #[.int .i64 1, .int .i64 0, .slice none 0 0, .slice none 0 0] 33)).trans (Keep.of_below hB)
  clear d0 d1 d2 d3 d4 d5 hb0 hb1 hl0 hl1 hB
  obtain ⟨r0, r1, r2, r3, r4, r5, r6, r7⟩ := cells4 hb3
  obtain ⟨g0, g1, g2, g3, g4, g5, g6, g7⟩ := cells4 hg3
  have hl1 := (Array.getElem?_eq_some_iff.1 hb3).1
  have hl2 := (Array.getElem?_eq_some_iff.1 hg3).1
  have hl1' : w.heap.size + 1 < w3.heap.size := hl1
  go_wp2_with (first | (at_builtin; refine wpList_append_m rfl _ _ 30 rfl w.heap.size 65 i0 _ 1 8 Tryz.underlying30 hi hz0 hz1 hz2 rfl (by omega) (by omega) _ _ _ _ 2 _ (by rfl) (by exact hQ.own) (by first | rfl | (simp only [World.size_alloc]; rfl) | (simp only [World.size_setCell]; rfl)) rfl (by intro u hu; simp at hu; rcases hu with rfl | rfl <;> rfl) (by omega) (by simp) hQ.k.size ?_; intro v6 w6 ho6 hg6; obtain ⟨g6, n6, cap6, hv6⟩ := own_sl ho6 (by simp); subst hv6; obtain ⟨p0, p1, p2, p3, p4, p5, p6, p7⟩ := cells4 (hQ.gk hg6); have hQ2 := hQ.setN (hQ.own2 (u := [x, y]) ho6) hg6; clear hQ ho6 hg6; obtain ⟨c0, c1, c2, c3, c4⟩ := cells5 hQ2.c; obtain ⟨g0, g1, g2, g3, g4, g5, g6', g7⟩ := cells4 hQ2.g; obtain ⟨r0, r1, r2, r3, r4, r5, r6, r7⟩ := cells4 hQ2.r; have hQ := hQ2; clear hQ2) | (go_at_call 52; refine (is3_0 _).mono ?_; rintro e w9 ⟨rfl, rfl⟩) | (go_at_call 53; refine (isM_0 _).mono ?_; rintro e w9 ⟨rfl, rfl⟩))
  (try simp only [Exit.inBlock, Exit.then]); refine bodyPost_ret (results_one rfl _ _ _ _ _ _ _ rfl (blk4 hQ.r _ _ _ _) Tryz.underlying33 info33) rfl ?_
  exact ⟨_, rfl, (hQ.fin _ _ _ _).2, (hQ.fin _ _ _ _).1⟩
set_option maxRecDepth 100000 in
set_option maxHeartbeats 3200000 in
theorem pp_1 (w : World) (x y z m : Nat) : Calls Tryz.prog 26 #[.agg #[.float .f64 x, .float .f64 y, .float .f64 z, .float .f64 m, .int .u8 1, .bool true]] w fun e w' => PptP w 1 ([x, y] ++ [z]) e w' := by
  obtain ⟨i0, hi, hz0, hz1, hz2⟩ := info_parts fltInfo
  have hst := run_store_flt
  have h50 := fun W => np50 x y z m 1 true W
  have h51 := fun W => np51 x y z m 1 true W
  go_enter Tryz.func26, Tryz.ntmps26
  go_wp2_with (go_at_call 50; refine (h50 _).mono ?_; rintro e w2 ⟨rfl, hB⟩; clear h50; have hb0 := (hB.block w.heap.size (by simp only [World.size_alloc]; omega)).trans (heap_alloc2_old w _ _); have hb1 := (hB.block (w.heap.size + 1) (by simp only [World.size_alloc]; omega)).trans (heap_alloc2_new w _ _); obtain ⟨d0, d1, d2, d3, d4, d5, _⟩ := cells6 hb0; have hl0 := (Array.getElem?_eq_some_iff.1 hb0).1; have hl1 := (Array.getElem?_eq_some_iff.1 hb1).1; have hK2 := (((Keep.refl (fun _ => False) w).alloc _).alloc _).trans (Keep.of_below hB); clear hB)
  refine (h51 _).mono ?_
  rintro e w3 ⟨rfl, hB⟩
  clear h51
  have hQ : Pq w (w3.alloc (.cells #[.float .f64 x, .float .f64 y, .float .f64 z, .float .f64 m, .int .u8 1] 69)) w2.heap.size w3.heap.size 1 (.slice none 0 0) x y z m [] := pq_start hb1 hK2 hB
  have hg3 := (hB.block w2.heap.size (by simp only [World.size_alloc]; omega)).trans (heap_alloc_new w2 _)
  have hb3 := (hB.block (w.heap.size + 1) (by simp only [World.size_alloc]; omega)).trans ((Below.heap_alloc w2 _ _ hl1).trans hb1)
  have hK3 := (hK2.alloc (.cells #[.int .i64 1, .int .i64 1, .slice none 0 0, .slice none 0 0] 33)).trans (Keep.of_below hB)
  clear d0 d1 d2 d3 d4 d5 hb0 hb1 hl0 hl1 hB
  obtain ⟨r0, r1, r2, r3, r4, r5, r6, r7⟩ := cells4 hb3
  obtain ⟨g0, g1, g2, g3, g4, g5, g6, g7⟩ := cells4 hg3
  have hl1 := (Array.getElem?_eq_some_iff.1 hb3).1
  have hl2 := (Array.getElem?_eq_some_iff.1 hg3).1
  have hl1' : w.heap.size + 1 < w3.heap.size := hl1
  go_wp2_with (first | (at_builtin; refine wpList_append_m rfl _ _ 30 rfl w.heap.size 65 i0 _ 1 8 Tryz.underlying30 hi hz0 hz1 hz2 rfl (by omega) (by omega) _ _ _ _ 2 _ (by rfl) (by exact hQ.own) (by first | rfl | (simp only [World.size_alloc]; rfl) | (simp only [World.size_setCell]; rfl)) rfl (by intro u hu; simp at hu; rcases hu with rfl | rfl <;> rfl) (by omega) (by simp) hQ.k.size ?_; intro v6 w6 ho6 hg6; obtain ⟨g6, n6, cap6, hv6⟩ := own_sl ho6 (by simp); subst hv6; obtain ⟨p0, p1, p2, p3, p4, p5, p6, p7⟩ := cells4 (hQ.gk hg6); have hQ2 := hQ.setN (hQ.own2 (u := [x, y]) ho6) hg6; clear hQ ho6 hg6; obtain ⟨c0, c1, c2, c3, c4⟩ := cells5 hQ2.c; obtain ⟨g0, g1, g2, g3, g4, g5, g6', g7⟩ := cells4 hQ2.g; obtain ⟨r0, r1, r2, r3, r4, r5, r6, r7⟩ := cells4 hQ2.r; have hQ := hQ2; clear hQ2) | (at_builtin; refine wpList_append_m rfl _ _ 30 rfl w.heap.size 65 i0 _ 1 8 Tryz.underlying30 hi hz0 hz1 hz2 rfl (by omega) (by omega) _ _ _ _ 1 _ (by rfl) (by exact hQ.own) (by first | rfl | (simp only [World.size_alloc]; rfl) | (simp only [World.size_setCell]; rfl)) rfl (by intro u hu; simp at hu; subst hu; rfl) (by omega) (by simp) hQ.k.size ?_; intro v6 w6 ho6 hg6; obtain ⟨g6, n6, cap6, hv6⟩ := own_sl ho6 (by simp); subst hv6; obtain ⟨p0, p1, p2, p3, p4, p5, p6, p7⟩ := cells4 (hQ.gk hg6); have hQ2 := hQ.setN (hQ.own2 (u := [z]) ho6) hg6; clear hQ ho6 hg6; obtain ⟨c0, c1, c2, c3, c4⟩ := cells5 hQ2.c; obtain ⟨g0, g1, g2, g3, g4, g5, g6', g7⟩ := cells4 hQ2.g; obtain ⟨r0, r1, r2, r3, r4, r5, r6, r7⟩ := cells4 hQ2.r; have hQ := hQ2; clear hQ2) | (go_at_call 52; refine (is3_1 _).mono ?_; rintro e w9 ⟨rfl, rfl⟩) | (go_at_call 53; refine (isM_1 _).mono ?_; rintro e w9 ⟨rfl, rfl⟩))
  (try simp only [Exit.inBlock, Exit.then]); refine bodyPost_ret (results_one rfl _ _ _ _ _ _ _ rfl (blk4 hQ.r _ _ _ _) Tryz.underlying33 info33) rfl ?_
  exact ⟨_, rfl, (hQ.fin _ _ _ _).2, (hQ.fin _ _ _ _).1⟩
set_option maxRecDepth 100000 in
set_option maxHeartbeats 3200000 in
theorem pp_2 (w : World) (x y z m : Nat) : Calls Tryz.prog 26 #[.agg #[.float .f64 x, .float .f64 y, .float .f64 z, .float .f64 m, .int .u8 2, .bool true]] w fun e w' => PptP w 2 ([x, y] ++ [m]) e w' := by
  obtain ⟨i0, hi, hz0, hz1, hz2⟩ := info_parts fltInfo
  have hst := run_store_flt
  have h50 := fun W => np50 x y z m 2 true W
  have h51 := fun W => np51 x y z m 2 true W
  go_enter Tryz.func26, Tryz.ntmps26
  go_wp2_with (go_at_call 50; refine (h50 _).mono ?_; rintro e w2 ⟨rfl, hB⟩; clear h50; have hb0 := (hB.block w.heap.size (by simp only [World.size_alloc]; omega)).trans (heap_alloc2_old w _ _); have hb1 := (hB.block (w.heap.size + 1) (by simp only [World.size_alloc]; omega)).trans (heap_alloc2_new w _ _); obtain ⟨d0, d1, d2, d3, d4, d5, _⟩ := cells6 hb0; have hl0 := (Array.getElem?_eq_some_iff.1 hb0).1; have hl1 := (Array.getElem?_eq_some_iff.1 hb1).1; have hK2 := (((Keep.refl (fun _ => False) w).alloc _).alloc _).trans (Keep.of_below hB); clear hB)
  refine (h51 _).mono ?_
  rintro e w3 ⟨rfl, hB⟩
  clear h51
  have hQ : Pq w (w3.alloc (.cells #[.float .f64 x, .float .f64 y, .float .f64 z, .float .f64 m, .int .u8 2] 69)) w2.heap.size w3.heap.size 2 (.slice none 0 0) x y z m [] := pq_start hb1 hK2 hB
  have hg3 := (hB.block w2.heap.size (by simp only [World.size_alloc]; omega)).trans (heap_alloc_new w2 _)
  have hb3 := (hB.block (w.heap.size + 1) (by simp only [World.size_alloc]; omega)).trans ((Below.heap_alloc w2 _ _ hl1).trans hb1)
  have hK3 := (hK2.alloc (.cells #[.int .i64 1, .int .i64 2, .slice none 0 0, .slice none 0 0] 33)).trans (Keep.of_below hB)
  clear d0 d1 d2 d3 d4 d5 hb0 hb1 hl0 hl1 hB
  obtain ⟨r0, r1, r2, r3, r4, r5, r6, r7⟩ := cells4 hb3
  obtain ⟨g0, g1, g2, g3, g4, g5, g6, g7⟩ := cells4 hg3
  have hl1 := (Array.getElem?_eq_some_iff.1 hb3).1
  have hl2 := (Array.getElem?_eq_some_iff.1 hg3).1
  have hl1' : w.heap.size + 1 < w3.heap.size := hl1
  go_wp2_with (first | (at_builtin; refine wpList_append_m rfl _ _ 30 rfl w.heap.size 65 i0 _ 1 8 Tryz.underlying30 hi hz0 hz1 hz2 rfl (by omega) (by omega) _ _ _ _ 2 _ (by rfl) (by exact hQ.own) (by first | rfl | (simp only [World.size_alloc]; rfl) | (simp only [World.size_setCell]; rfl)) rfl (by intro u hu; simp at hu; rcases hu with rfl | rfl <;> rfl) (by omega) (by simp) hQ.k.size ?_; intro v6 w6 ho6 hg6; obtain ⟨g6, n6, cap6, hv6⟩ := own_sl ho6 (by simp); subst hv6; obtain ⟨p0, p1, p2, p3, p4, p5, p6, p7⟩ := cells4 (hQ.gk hg6); have hQ2 := hQ.setN (hQ.own2 (u := [x, y]) ho6) hg6; clear hQ ho6 hg6; obtain ⟨c0, c1, c2, c3, c4⟩ := cells5 hQ2.c; obtain ⟨g0, g1, g2, g3, g4, g5, g6', g7⟩ := cells4 hQ2.g; obtain ⟨r0, r1, r2, r3, r4, r5, r6, r7⟩ := cells4 hQ2.r; have hQ := hQ2; clear hQ2) | (at_builtin; refine wpList_append_m rfl _ _ 30 rfl w.heap.size 65 i0 _ 1 8 Tryz.underlying30 hi hz0 hz1 hz2 rfl (by omega) (by omega) _ _ _ _ 1 _ (by rfl) (by exact hQ.own) (by first | rfl | (simp only [World.size_alloc]; rfl) | (simp only [World.size_setCell]; rfl)) rfl (by intro u hu; simp at hu; subst hu; rfl) (by omega) (by simp) hQ.k.size ?_; intro v6 w6 ho6 hg6; obtain ⟨g6, n6, cap6, hv6⟩ := own_sl ho6 (by simp); subst hv6; obtain ⟨p0, p1, p2, p3, p4, p5, p6, p7⟩ := cells4 (hQ.gk hg6); have hQ2 := hQ.setN (hQ.own2 (u := [m]) ho6) hg6; clear hQ ho6 hg6; obtain ⟨c0, c1, c2, c3, c4⟩ := cells5 hQ2.c; obtain ⟨g0, g1, g2, g3, g4, g5, g6', g7⟩ := cells4 hQ2.g; obtain ⟨r0, r1, r2, r3, r4, r5, r6, r7⟩ := cells4 hQ2.r; have hQ := hQ2; clear hQ2) | (go_at_call 52; refine (is3_2 _).mono ?_; rintro e w9 ⟨rfl, rfl⟩) | (go_at_call 53; refine (isM_2 _).mono ?_; rintro e w9 ⟨rfl, rfl⟩))
  (try simp only [Exit.inBlock, Exit.then]); refine bodyPost_ret (results_one rfl _ _ _ _ _ _ _ rfl (blk4 hQ.r _ _ _ _) Tryz.underlying33 info33) rfl ?_
  exact ⟨_, rfl, (hQ.fin _ _ _ _).2, (hQ.fin _ _ _ _).1⟩
set_option maxRecDepth 100000 in
set_option maxHeartbeats 3200000 in
theorem pp_3 (w : World) (x y z m : Nat) : Calls Tryz.prog 26 #[.agg #[.float .f64 x, .float .f64 y, .float .f64 z, .float .f64 m, .int .u8 3, .bool true]] w fun e w' => PptP w 3 ([x, y] ++ [z] ++ [m]) e w' := by
  obtain ⟨i0, hi, hz0, hz1, hz2⟩ := info_parts fltInfo
  have hst := run_store_flt
  have h50 := fun W => np50 x y z m 3 true W
  have h51 := fun W => np51 x y z m 3 true W
  go_enter Tryz.func26, Tryz.ntmps26
  go_wp2_with (go_at_call 50; refine (h50 _).mono ?_; rintro e w2 ⟨rfl, hB⟩; clear h50; have hb0 := (hB.block w.heap.size (by simp only [World.size_alloc]; omega)).trans (heap_alloc2_old w _ _); have hb1 := (hB.block (w.heap.size + 1) (by simp only [World.size_alloc]; omega)).trans (heap_alloc2_new w _ _); obtain ⟨d0, d1, d2, d3, d4, d5, _⟩ := cells6 hb0; have hl0 := (Array.getElem?_eq_some_iff.1 hb0).1; have hl1 := (Array.getElem?_eq_some_iff.1 hb1).1; have hK2 := (((Keep.refl (fun _ => False) w).alloc _).alloc _).trans (Keep.of_below hB); clear hB)
  refine (h51 _).mono ?_
  rintro e w3 ⟨rfl, hB⟩
  clear h51
  have hQ : Pq w (w3.alloc (.cells #[.float .f64 x, .float .f64 y, .float .f64 z, .float .f64 m, .int .u8 3] 69)) w2.heap.size w3.heap.size 3 (.slice none 0 0) x y z m [] := pq_start hb1 hK2 hB
  have hg3 := (hB.block w2.heap.size (by simp only [World.size_alloc]; omega)).trans (heap_alloc_new w2 _)
  have hb3 := (hB.block (w.heap.size + 1) (by simp only [World.size_alloc]; omega)).trans ((Below.heap_alloc w2 _ _ hl1).trans hb1)
  have hK3 := (hK2.alloc (.cells #[.int .i64 1, .int .i64 3, .slice none 0 0, .slice none 0 0] 33)).trans (Keep.of_below hB)
  clear d0 d1 d2 d3 d4 d5 hb0 hb1 hl0 hl1 hB
  obtain ⟨r0, r1, r2, r3, r4, r5, r6, r7⟩ := cells4 hb3
  obtain ⟨g0, g1, g2, g3, g4, g5, g6, g7⟩ := cells4 hg3
  have hl1 := (Array.getElem?_eq_some_iff.1 hb3).1
  have hl2 := (Array.getElem?_eq_some_iff.1 hg3).1
  have hl1' : w.heap.size + 1 < w3.heap.size := hl1
  go_wp2_with (first | (at_builtin; refine wpList_append_m rfl _ _ 30 rfl w.heap.size 65 i0 _ 1 8 Tryz.underlying30 hi hz0 hz1 hz2 rfl (by omega) (by omega) _ _ _ _ 2 _ (by rfl) (by exact hQ.own) (by first | rfl | (simp only [World.size_alloc]; rfl) | (simp only [World.size_setCell]; rfl)) rfl (by intro u hu; simp at hu; rcases hu with rfl | rfl <;> rfl) (by omega) (by simp) hQ.k.size ?_; intro v6 w6 ho6 hg6; obtain ⟨g6, n6, cap6, hv6⟩ := own_sl ho6 (by simp); subst hv6; obtain ⟨p0, p1, p2, p3, p4, p5, p6, p7⟩ := cells4 (hQ.gk hg6); have hQ2 := hQ.setN (hQ.own2 (u := [x, y]) ho6) hg6; clear hQ ho6 hg6; obtain ⟨c0, c1, c2, c3, c4⟩ := cells5 hQ2.c; obtain ⟨g0, g1, g2, g3, g4, g5, g6', g7⟩ := cells4 hQ2.g; obtain ⟨r0, r1, r2, r3, r4, r5, r6, r7⟩ := cells4 hQ2.r; have hQ := hQ2; clear hQ2) | (at_builtin; refine wpList_append_m rfl _ _ 30 rfl w.heap.size 65 i0 _ 1 8 Tryz.underlying30 hi hz0 hz1 hz2 rfl (by omega) (by omega) _ _ _ _ 1 _ (by rfl) (by exact hQ.own) (by first | rfl | (simp only [World.size_alloc]; rfl) | (simp only [World.size_setCell]; rfl)) rfl (by intro u hu; simp at hu; subst hu; rfl) (by omega) (by simp) hQ.k.size ?_; intro v6 w6 ho6 hg6; obtain ⟨g6, n6, cap6, hv6⟩ := own_sl ho6 (by simp); subst hv6; obtain ⟨p0, p1, p2, p3, p4, p5, p6, p7⟩ := cells4 (hQ.gk hg6); have hQ2 := hQ.setN (hQ.own2 (u := [z]) ho6) hg6; clear hQ ho6 hg6; obtain ⟨c0, c1, c2, c3, c4⟩ := cells5 hQ2.c; obtain ⟨g0, g1, g2, g3, g4, g5, g6', g7⟩ := cells4 hQ2.g; obtain ⟨r0, r1, r2, r3, r4, r5, r6, r7⟩ := cells4 hQ2.r; have hQ := hQ2; clear hQ2) | (at_builtin; refine wpList_append_m rfl _ _ 30 rfl w.heap.size 65 i0 _ 1 8 Tryz.underlying30 hi hz0 hz1 hz2 rfl (by omega) (by omega) _ _ _ _ 1 _ (by rfl) (by exact hQ.own) (by first | rfl | (simp only [World.size_alloc]; rfl) | (simp only [World.size_setCell]; rfl)) rfl (by intro u hu; simp at hu; subst hu; rfl) (by omega) (by simp) hQ.k.size ?_; intro v6 w6 ho6 hg6; obtain ⟨g6, n6, cap6, hv6⟩ := own_sl ho6 (by simp); subst hv6; obtain ⟨p0, p1, p2, p3, p4, p5, p6, p7⟩ := cells4 (hQ.gk hg6); have hQ2 := hQ.setN (hQ.own2 (u := [m]) ho6) hg6; clear hQ ho6 hg6; obtain ⟨c0, c1, c2, c3, c4⟩ := cells5 hQ2.c; obtain ⟨g0, g1, g2, g3, g4, g5, g6', g7⟩ := cells4 hQ2.g; obtain ⟨r0, r1, r2, r3, r4, r5, r6, r7⟩ := cells4 hQ2.r; have hQ := hQ2; clear hQ2) | (go_at_call 52; refine (is3_3 _).mono ?_; rintro e w9 ⟨rfl, rfl⟩) | (go_at_call 53; refine (isM_3 _).mono ?_; rintro e w9 ⟨rfl, rfl⟩))
  (try simp only [Exit.inBlock, Exit.then]); refine bodyPost_ret (results_one rfl _ _ _ _ _ _ _ rfl (blk4 hQ.r _ _ _ _) Tryz.underlying33 info33) rfl ?_
  exact ⟨_, rfl, (hQ.fin _ _ _ _).2, (hQ.fin _ _ _ _).1⟩
end Go.Proofs.YtlckfiflfkbofaaGreatDoor
