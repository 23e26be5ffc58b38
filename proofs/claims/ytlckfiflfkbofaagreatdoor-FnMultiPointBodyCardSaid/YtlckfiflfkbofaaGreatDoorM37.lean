/- The geometry's small functions on points. Part 37 of 51 of the proof that FnMultiPointBody returns true for every text and every type of coordinates, where the listed variables hold what the text of the program lays. -/
import Derived.Test.YtlckfiflfkbofaaGreatDoorM28
import Derived.Test.YtlckfiflfkbofaaGreatDoorM32
set_option linter.all false

/- The geometry's small functions on points. -/
namespace Go.Proofs.YtlckfiflfkbofaaGreatDoor
open Go.RowKit

theorem results_one {fn : Func} {p : Tmp} {ty : TypeId} (h : fn.results = #[.cell p ty]) (tmps : Array Value) (w : World) (g : Nat) (t : TypeId) (cs : Array Value) (fr : Nat × Nat) (fs : Array Field)
    (hp : tmps.getD p undef = .pointer (some ⟨g, 0, none⟩)) (hg : w.heap[g]? = some (.cells cs t fr)) (hu : Tryz.prog.underlying ty = some (.struct fs)) (hi : (Tryz.prog.info? ty).map (·.size) = some cs.size) :
    (results fn tmps).run Tryz.prog w = .ok (.agg cs) w := by
  have hp' : tmps[p]?.getD undef = .pointer (some ⟨g, 0, none⟩) := by simpa using hp
  simp [results, h, hp', asAddr, run_loadVar_row w g t ty cs fr _ hg hu rfl hi]
theorem info71 : (Tryz.prog.info? 71).map (·.size) = some 6 := by kernel_rfl
theorem info41 : (Tryz.prog.info? 41).map (·.size) = some 2 := by kernel_rfl
theorem info33 : (Tryz.prog.info? 33).map (·.size) = some 4 := by kernel_rfl

/-- A point's value. -/
def ptG (x y z m : Nat) (ct : Int) (f : Bool) : Value := .agg #[.float .f64 x, .float .f64 y, .float .f64 z, .float .f64 m, .int .u8 ct, .bool f]

set_option maxRecDepth 100000 in
theorem np45 (x y z m : Nat) (ct : Int) (w : World) : Calls Tryz.prog 45 #[.agg #[.float .f64 x, .float .f64 y, .float .f64 z, .float .f64 m, .int .u8 ct]] w fun e w' => e = .returned (.agg #[.float .f64 x, .float .f64 y, .float .f64 z, .float .f64 m, .int .u8 ct, .bool true]) ∧ Below w.heap.size w w' := by
  have hst := run_store_flt
  go_enter Tryz.func45, Tryz.ntmps45
  go_wp2_with (fail)
  (try simp only [Exit.inBlock, Exit.then]); refine bodyPost_ret (results_one rfl _ _ _ _ _ _ _ rfl (heap_alloc2_new w _ _) Tryz.underlying71 info71) rfl ?_
  exact ⟨rfl, ((Below.refl _ w).alloc (Nat.le_refl _) _).alloc (by simp) _⟩
set_option maxRecDepth 100000 in
theorem np46 (ct : Int) (w : World) : Calls Tryz.prog 46 #[.int .u8 ct] w fun e w' => e = .returned (.agg #[.float .f64 0, .float .f64 0, .float .f64 0, .float .f64 0, .int .u8 ct, .bool false]) ∧ Below w.heap.size w w' := by
  have hst := run_store_flt
  go_enter Tryz.func46, Tryz.ntmps46
  go_wp2_with (fail)
  (try simp only [Exit.inBlock, Exit.then]); refine bodyPost_ret (results_one rfl _ _ _ _ _ _ _ rfl (heap_alloc_new w _) Tryz.underlying71 info71) rfl ?_
  exact ⟨rfl, (Below.refl _ w).alloc (Nat.le_refl _) _⟩
set_option maxRecDepth 100000 in
theorem np50 (x y z m : Nat) (ct : Int) (f : Bool) (w : World) : Calls Tryz.prog 50 #[.agg #[.float .f64 x, .float .f64 y, .float .f64 z, .float .f64 m, .int .u8 ct, .bool f]] w fun e w' => e = .returned (.int .u8 ct) ∧ Below w.heap.size w w' := by
  have hst := run_store_flt
  go_enter Tryz.func50, Tryz.ntmps50
  go_wp2_with (fail)
  go_ret
  exact ⟨rfl, (Below.refl _ w).alloc (Nat.le_refl _) _⟩
theorem bel_dr {B : Nat} {w0 w : World} (h : Below B w0 w) (n : Nat) : Below B w0 (w.drewN n) := ⟨h.os, h.tape, h.output, h.size, h.block⟩
theorem quiet0 {f : FuncId} {args : Array Value} {w : World} {v : Value} (h : Calls Tryz.prog f args w fun e w' => e = .returned v ∧ w = w') : Calls Tryz.prog f args w fun e w' => e = .returned v ∧ ∃ n, w' = w.drewN n :=
  h.mono fun e w' ⟨h1, h2⟩ => ⟨h1, 0, h2.symm⟩
theorem cells6 {w : World} {c : Nat} {ty : TypeId} {a0 a1 a2 a3 a4 a5 : Value} (h : w.heap[c]? = some (.cells #[a0, a1, a2, a3, a4, a5] ty (0, 0))) : w.cell? ⟨c, 0, none⟩ = some a0 ∧ w.cell? ⟨c, 1, none⟩ = some a1 ∧ w.cell? ⟨c, 2, none⟩ = some a2 ∧ w.cell? ⟨c, 3, none⟩ = some a3 ∧ w.cell? ⟨c, 4, none⟩ = some a4 ∧ w.cell? ⟨c, 5, none⟩ = some a5 ∧ w.frozen? ⟨c, 0, none⟩ = false ∧ w.frozen? ⟨c, 1, none⟩ = false ∧ w.frozen? ⟨c, 2, none⟩ = false ∧ w.frozen? ⟨c, 3, none⟩ = false ∧ w.frozen? ⟨c, 4, none⟩ = false ∧ w.frozen? ⟨c, 5, none⟩ = false := by
  refine ⟨?_, ?_, ?_, ?_, ?_, ?_, ?_, ?_, ?_, ?_, ?_, ?_⟩
  all_goals first | (simp only [World.cell?, h]; rfl) | exact Lib.frozen_of_heap h _
theorem blk6 {w : World} {c : Nat} {ty : TypeId} {a0 a1 a2 a3 a4 a5 : Value} (h : w.heap[c]? = some (.cells #[a0, a1, a2, a3, a4, a5] ty (0, 0))) (v0 v1 v2 v3 v4 v5 : Value) :
    ((((((w.setCell ⟨c, 0, none⟩ v0).setCell ⟨c, 1, none⟩ v1).setCell ⟨c, 2, none⟩ v2).setCell ⟨c, 3, none⟩ v3).setCell ⟨c, 4, none⟩ v4).setCell ⟨c, 5, none⟩ v5).heap[c]? = some (.cells #[v0, v1, v2, v3, v4, v5] ty (0, 0)) :=
  Lib.heap_setCell_same (i := 5) (Lib.heap_setCell_same (i := 4) (Lib.heap_setCell_same (i := 3) (Lib.heap_setCell_same (i := 2) (Lib.heap_setCell_same (i := 1) (Lib.heap_setCell_same (i := 0) h v0) v1) v2) v3) v4) v5
theorem bel6 {w w0 : World} {c : Nat} (h : Below w0.heap.size w0 w) (hc : w0.heap.size ≤ c) (v0 v1 v2 v3 v4 v5 : Value) :
    Below w0.heap.size w0 ((((((w.setCell ⟨c, 0, none⟩ v0).setCell ⟨c, 1, none⟩ v1).setCell ⟨c, 2, none⟩ v2).setCell ⟨c, 3, none⟩ v3).setCell ⟨c, 4, none⟩ v4).setCell ⟨c, 5, none⟩ v5) :=
  (((((h.setCell hc v0).setCell hc v1).setCell hc v2).setCell hc v3).setCell hc v4).setCell hc v5
set_option maxRecDepth 100000 in
theorem np72e (ct ct' : Int) (x y z m : Nat) (w : World) : Calls Tryz.prog 72 #[.agg #[.float .f64 x, .float .f64 y, .float .f64 z, .float .f64 m, .int .u8 ct', .bool false], .int .u8 ct] w fun e w' => e = .returned (.agg #[.float .f64 0, .float .f64 0, .float .f64 0, .float .f64 0, .int .u8 ct, .bool false]) ∧ Below w.heap.size w w' := by
  have hst := run_store_flt
  have h46 := fun w => np46 ct w
  go_enter Tryz.func72, Tryz.ntmps72
  go_wp2_with (go_at_call 46; refine (h46 _).mono ?_; rintro e w2 ⟨rfl, hB⟩; have hres : w2.heap[w.heap.size + 1]? = some (.cells #[.float .f64 0, .float .f64 0, .float .f64 0, .float .f64 0, .int .u8 0, .bool false] 71 (0, 0)) := (hB.block _ (by simp)).trans (heap_alloc2_new w _ _); obtain ⟨d0, d1, d2, d3, d4, d5, f0, f1, f2, f3, f4, f5⟩ := cells6 hres; have hB2 : Below w.heap.size w w2 := (((Below.refl _ w).alloc (Nat.le_refl _) _).alloc (by simp) _).trans ⟨hB.os, hB.tape, hB.output, hB.size, fun k hk => hB.block k (by simp; omega)⟩)
  (try simp only [Exit.inBlock, Exit.then]); refine bodyPost_ret (results_one rfl _ _ _ _ _ _ _ rfl (blk6 hres _ _ _ _ _ _) Tryz.underlying71 info71) rfl ?_
  exact ⟨rfl, bel6 hB2 (Nat.le_succ _) _ _ _ _ _ _⟩
set_option maxRecDepth 100000 in
theorem np72_0 (x y z m : Nat) (w : World) : Calls Tryz.prog 72 #[.agg #[.float .f64 x, .float .f64 y, .float .f64 z, .float .f64 m, .int .u8 0, .bool true], .int .u8 0] w fun e w' => e = .returned (.agg #[.float .f64 x, .float .f64 y, .float .f64 z, .float .f64 m, .int .u8 0, .bool true]) ∧ Below w.heap.size w w' := by
  have hst := run_store_flt
  go_enter Tryz.func72, Tryz.ntmps72
  go_wp2_with (fail)
  go_quiet (exact (is3_0 _).mono fun e w9 h => ⟨h.1, _, h.2.symm⟩)
  go_wp2_with (fail)
  go_quiet (exact (isM_0 _).mono fun e w9 h => ⟨h.1, _, h.2.symm⟩)
  go_wp2_with (fail)
  (try simp only [Exit.inBlock, Exit.then]); refine bodyPost_ret (results_one rfl _ _ _ _ _ _ _ rfl (blk6 ((Below.heap_setCell _ _ _ _ (show w.heap.size + 1 ≠ w.heap.size by omega)).trans (heap_alloc2_new w _ _)) _ _ _ _ _ _) Tryz.underlying71 info71) rfl ?_
  exact ⟨rfl, bel6 ((bel_dr (((Below.refl _ w).alloc (Nat.le_refl _) _).alloc (by simp) _) _).setCell (Nat.le_refl _) _) (Nat.le_succ _) _ _ _ _ _ _⟩
set_option maxRecDepth 100000 in
theorem np72_1 (x y z m : Nat) (w : World) : Calls Tryz.prog 72 #[.agg #[.float .f64 x, .float .f64 y, .float .f64 z, .float .f64 m, .int .u8 1, .bool true], .int .u8 1] w fun e w' => e = .returned (.agg #[.float .f64 x, .float .f64 y, .float .f64 z, .float .f64 m, .int .u8 1, .bool true]) ∧ Below w.heap.size w w' := by
  have hst := run_store_flt
  go_enter Tryz.func72, Tryz.ntmps72
  go_wp2_with (fail)
  go_quiet (exact (is3_1 _).mono fun e w9 h => ⟨h.1, _, h.2.symm⟩)
  go_wp2_with (fail)
  go_quiet (exact (isM_1 _).mono fun e w9 h => ⟨h.1, _, h.2.symm⟩)
  go_wp2_with (fail)
  (try simp only [Exit.inBlock, Exit.then]); refine bodyPost_ret (results_one rfl _ _ _ _ _ _ _ rfl (blk6 ((Below.heap_setCell _ _ _ _ (show w.heap.size + 1 ≠ w.heap.size by omega)).trans (heap_alloc2_new w _ _)) _ _ _ _ _ _) Tryz.underlying71 info71) rfl ?_
  exact ⟨rfl, bel6 ((bel_dr (((Below.refl _ w).alloc (Nat.le_refl _) _).alloc (by simp) _) _).setCell (Nat.le_refl _) _) (Nat.le_succ _) _ _ _ _ _ _⟩
set_option maxRecDepth 100000 in
theorem np72_2 (x y z m : Nat) (w : World) : Calls Tryz.prog 72 #[.agg #[.float .f64 x, .float .f64 y, .float .f64 z, .float .f64 m, .int .u8 2, .bool true], .int .u8 2] w fun e w' => e = .returned (.agg #[.float .f64 x, .float .f64 y, .float .f64 z, .float .f64 m, .int .u8 2, .bool true]) ∧ Below w.heap.size w w' := by
  have hst := run_store_flt
  go_enter Tryz.func72, Tryz.ntmps72
  go_wp2_with (fail)
  go_quiet (exact (is3_2 _).mono fun e w9 h => ⟨h.1, _, h.2.symm⟩)
  go_wp2_with (fail)
  go_quiet (exact (isM_2 _).mono fun e w9 h => ⟨h.1, _, h.2.symm⟩)
  go_wp2_with (fail)
  (try simp only [Exit.inBlock, Exit.then]); refine bodyPost_ret (results_one rfl _ _ _ _ _ _ _ rfl (blk6 ((Below.heap_setCell _ _ _ _ (show w.heap.size + 1 ≠ w.heap.size by omega)).trans (heap_alloc2_new w _ _)) _ _ _ _ _ _) Tryz.underlying71 info71) rfl ?_
  exact ⟨rfl, bel6 ((bel_dr (((Below.refl _ w).alloc (Nat.le_refl _) _).alloc (by simp) _) _).setCell (Nat.le_refl _) _) (Nat.le_succ _) _ _ _ _ _ _⟩
set_option maxRecDepth 100000 in
theorem np72_3 (x y z m : Nat) (w : World) : Calls Tryz.prog 72 #[.agg #[.float .f64 x, .float .f64 y, .float .f64 z, .float .f64 m, .int .u8 3, .bool true], .int .u8 3] w fun e w' => e = .returned (.agg #[.float .f64 x, .float .f64 y, .float .f64 z, .float .f64 m, .int .u8 3, .bool true]) ∧ Below w.heap.size w w' := by
  have hst := run_store_flt
  go_enter Tryz.func72, Tryz.ntmps72
  go_wp2_with (fail)
  go_quiet (exact (is3_3 _).mono fun e w9 h => ⟨h.1, _, h.2.symm⟩)
  go_wp2_with (fail)
  go_quiet (exact (isM_3 _).mono fun e w9 h => ⟨h.1, _, h.2.symm⟩)
  go_wp2_with (fail)
  (try simp only [Exit.inBlock, Exit.then]); refine bodyPost_ret (results_one rfl _ _ _ _ _ _ _ rfl (blk6 ((Below.heap_setCell _ _ _ _ (show w.heap.size + 1 ≠ w.heap.size by omega)).trans (heap_alloc2_new w _ _)) _ _ _ _ _ _) Tryz.underlying71 info71) rfl ?_
  exact ⟨rfl, bel6 ((bel_dr (((Below.refl _ w).alloc (Nat.le_refl _) _).alloc (by simp) _) _).setCell (Nat.le_refl _) _) (Nat.le_succ _) _ _ _ _ _ _⟩

theorem np72 (ct : Nat) (hct : ct < 4) (f : Bool) (x y z m : Nat) (hf : f = false → x = 0 ∧ y = 0 ∧ z = 0 ∧ m = 0) (w : World) : Calls Tryz.prog 72 #[ptG x y z m ct f, .int .u8 (ct : Int)] w fun e w' => e = .returned (ptG x y z m ct f) ∧ Below w.heap.size w w' := by
  cases f with
  | false =>
    obtain ⟨rfl, rfl, rfl, rfl⟩ := hf rfl
    exact np72e ct ct 0 0 0 0 w
  | true =>
    have : ct = 0 ∨ ct = 1 ∨ ct = 2 ∨ ct = 3 := by omega
    rcases this with rfl | rfl | rfl | rfl
    · exact np72_0 x y z m w
    · exact np72_1 x y z m w
    · exact np72_2 x y z m w
    · exact np72_3 x y z m w
end Go.Proofs.YtlckfiflfkbofaaGreatDoor
