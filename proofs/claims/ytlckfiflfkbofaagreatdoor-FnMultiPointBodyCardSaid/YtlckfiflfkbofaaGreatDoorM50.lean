/- What the listed variables give the walks. From the row's listed variables to what the walks ask of the world. Part 50 of 51 of the proof that FnMultiPointBody returns true for every text and every type of coordinates, where the listed variables hold what the text of the program lays. -/
import Derived.Test.YtlckfiflfkbofaaGreatDoorRows
import Derived.Lib.LaidU8
import Derived.LaidMore
import Derived.LaidLaws
import Derived.OpenShut
import Derived.ChangeSame
import Derived.Stop.LaidErr
import Derived.Test.YtlckfiflfkbofaaGreatDoorM28
import Derived.Test.YtlckfiflfkbofaaGreatDoorM49
set_option linter.all false

/- What the listed variables give the walks. -/
namespace Go.Proofs.YtlckfiflfkbofaaGreatDoor
open Go.RowKit Go.Lib Go.ChangeShapes

theorem drop_take_one {cs : List Value} {i : Nat} {v : Value} (h : (cs.drop i).take 1 = [v]) : cs[i]? = some v := by
  have h0 : ((cs.drop i).take 1)[0]? = some v := by rw [h]; rfl
  simpa using h0

section
variable {w : World} {n : String} {g t e N : Nat} {k : IntKind}
theorem vr_arr {ds : List (DataW Unit)} (hg : Tryz.prog.globalNamed n = some g) (ht : (Tryz.prog.globals[g]?).map (·.type) = some t) (hu : Tryz.prog.underlying t = some (.array N e)) (hc : Tryz.prog.cellsOf e = 1) (he : Tryz.prog.underlying e = some (.int k))
    (hV : VarReads Tryz.prog w n (.agg ds)) (i : Nat) (z : Int) (hz : ds[i]? = some (.lit (.int k z))) : w.cell? ⟨g, i, none⟩ = some (.int k z) := by
  obtain ⟨g', t', cs, fuel, p, h1, h2, h3, h4⟩ := hV
  obtain rfl := Option.some.inj (hg.symm.trans h1)
  obtain rfl := Option.some.inj (ht.symm.trans h2)
  obtain ⟨xs, m, _, ex, _, hl, hel⟩ := DataW.trod_array hu h4
  have e3 : xs.map (·.1) = ds := (DataW.agg.inj (Prod.mk.inj ex).1).symm
  rw [← e3, List.getElem?_map, Option.map_eq_some_iff] at hz
  obtain ⟨x, hx, hxz⟩ := hz
  have hi : i < N := by rw [← hl]; exact (List.getElem?_eq_some_iff.1 hx).1
  have hE := hel i hi
  rw [hc, Nat.mul_one, hx] at hE
  obtain ⟨z', e1, e2, _⟩ := DataW.trod_int he hE
  rw [e2] at hxz
  cases hxz
  rw [World.var?_cell h1 h3 i]
  simpa using drop_take_one e1

/-- A field of a struct. -/
theorem vr_fld {ds : List (DataW Unit)} {fs : Array Field} (hg : Tryz.prog.globalNamed n = some g) (ht : (Tryz.prog.globals[g]?).map (·.type) = some t) (hu : Tryz.prog.underlying t = some (.struct fs))
    (hV : VarReads Tryz.prog w n (.agg ds)) {i : Nat} {f : Field} (hf : fs[i]? = some f) (hc : Tryz.prog.cellsOf f.type = 1) (he : Tryz.prog.underlying f.type = some (.int k)) (z : Int) (hz : ds[i]? = some (.lit (.int k z))) : w.cell? ⟨g, f.offset, none⟩ = some (.int k z) := by
  obtain ⟨g', t', cs, fuel, p, h1, h2, h3, h4⟩ := hV
  obtain rfl := Option.some.inj (hg.symm.trans h1)
  obtain rfl := Option.some.inj (ht.symm.trans h2)
  obtain ⟨xs, m, _, ex, _, hl, hel⟩ := DataW.trod_struct hu h4
  have e3 : xs.map (·.1) = ds := (DataW.agg.inj (Prod.mk.inj ex).1).symm
  rw [← e3, List.getElem?_map, Option.map_eq_some_iff] at hz
  obtain ⟨x, hx, hxz⟩ := hz
  have hE := hel i f hf
  rw [hc, hx] at hE
  obtain ⟨z', e1, e2, _⟩ := DataW.trod_int he hE
  rw [e2] at hxz
  cases hxz
  rw [World.var?_cell h1 h3 f.offset]
  simpa using drop_take_one e1

theorem vr_bool {b : Bool} (hg : Tryz.prog.globalNamed n = some g) (ht : (Tryz.prog.globals[g]?).map (·.type) = some t) (hu : Tryz.prog.underlying t = some .bool) (hV : VarReads Tryz.prog w n (.lit (.bool b))) : w.cell? ⟨g, 0, none⟩ = some (.bool b) := by
  obtain ⟨g', t', cs, fuel, p, h1, h2, h3, h4⟩ := hV
  obtain rfl := Option.some.inj (hg.symm.trans h1)
  obtain rfl := Option.some.inj (ht.symm.trans h2)
  obtain ⟨b', e1, e2⟩ := DataW.trod_bool hu h4
  simp only [Prod.mk.injEq, DataW.lit.injEq, Lit.bool.injEq] at e2
  rw [World.var?_cell h1 h3 0, e2.1]
  have : cs.toList[0]? = some (.bool b') := by rw [e1]; rfl
  simpa using this

/-- A string in a struct of one field. -/
theorem vr_str {s : List UInt8} {f : Field} (hg : Tryz.prog.globalNamed n = some g) (ht : (Tryz.prog.globals[g]?).map (·.type) = some t) (hu : Tryz.prog.underlying t = some (.struct #[f])) (hc : Tryz.prog.cellsOf f.type = 1) (h0 : f.offset = 0) (he : Tryz.prog.underlying f.type = some .string)
    (hV : VarReads Tryz.prog w n (.agg [.lit (.string s)])) : ∃ x : ByteArray, w.cell? ⟨g, 0, none⟩ = some (.string x) := by
  obtain ⟨g', t', cs, fuel, p, h1, h2, h3, h4⟩ := hV
  obtain rfl := Option.some.inj (hg.symm.trans h1)
  obtain rfl := Option.some.inj (ht.symm.trans h2)
  obtain ⟨xs, m, _, ex, _, hl, hel⟩ := DataW.trod_struct hu h4
  have hE := hel 0 f rfl
  have hxl : xs.length = 1 := hl
  obtain ⟨x, hx⟩ : ∃ x, xs[0]? = some x := ⟨_, List.getElem?_eq_getElem (by omega)⟩
  rw [hc, hx, h0] at hE
  obtain ⟨z', e1, e2, _⟩ := DataW.trod_string he hE
  refine ⟨z', ?_⟩
  rw [World.var?_cell h1 h3 0]
  simpa using drop_take_one e1

/-- A slice of one-cell elements. -/
theorem vr_row {ds : List (DataW Unit)} (hg : Tryz.prog.globalNamed n = some g) (ht : (Tryz.prog.globals[g]?).map (·.type) = some t) (hu : Tryz.prog.underlying t = some (.slice e)) (hc : Tryz.prog.cellsOf e = 1) (h0 : ds ≠ [])
    (hV : VarReads Tryz.prog w n (.slice ds [])) : ∃ b o cap, w.cell? ⟨g, 0, none⟩ = some (.slice (some ⟨b, o, none⟩) ds.length cap) ∧ b < w.heap.size ∧ ∀ i d, ds[i]? = some d → ∃ v m q, w.cell? ⟨b, o + i, none⟩ = some v ∧ DataW.trod (fun _ => ()) Tryz.prog w 0 (fun _ => true) false m e [v] = some (d, q) := by
  obtain ⟨g', t', cs, fuel, p, h1, h2, h3, h4⟩ := hV
  obtain rfl := Option.some.inj (hg.symm.trans h1)
  obtain rfl := Option.some.inj (ht.symm.trans h2)
  obtain ⟨a, cap, hcs, hcap, hel⟩ := open_row hu hc h4
  obtain ⟨v0, m0, q0, hv0, _⟩ := hel 0 (ds[0]'(List.length_pos_iff.2 h0)) (List.getElem?_eq_getElem _)
  have e0 : a.add 0 = a := by simp [Addr.add]
  rw [e0] at hv0
  obtain ⟨b, o, sp⟩ := a
  obtain rfl : sp = none := by have := congrArg Addr.spot (spot_none hv0); exact this
  refine ⟨b, o, cap, ?_, World.block_lt_of_cell? (w := w) (a := ⟨b, o, none⟩) hv0, fun i d hd => ?_⟩
  · rw [World.var?_cell h1 h3 0]
    have : cs.toList[0]? = some (.slice (some ⟨b, o, none⟩) ds.length cap) := by rw [hcs]; rfl
    simpa using this
  · obtain ⟨v, m, q, h5, h6⟩ := hel i d hd
    refine ⟨v, m, q, ?_, h6⟩
    have : (⟨b, o, none⟩ : Addr).add i = ⟨b, o + i, none⟩ := by unfold Addr.add; split <;> simp_all
    rwa [this] at h5

theorem trod_flt {m : Nat} {v : Value} {x : Nat} {q : List MemPlace} (he : Tryz.prog.underlying e = some (.float .f64)) (h : DataW.trod (fun _ => ()) Tryz.prog w 0 (fun _ => true) false m e [v] = some (.lit (.float .f64 x), q)) : v = .float .f64 x := by
  cases m with
  | zero => simp [DataW.trod] at h
  | succ m => cases v <;> simp [DataW.trod, he] at h; simp_all
theorem trod_int1 {m : Nat} {v : Value} {x : Int} {q : List MemPlace} (he : Tryz.prog.underlying e = some (.int k)) (h : DataW.trod (fun _ => ()) Tryz.prog w 0 (fun _ => true) false m e [v] = some (.lit (.int k x), q)) : v = .int k x := by
  obtain ⟨z, e1, e2, _⟩ := DataW.trod_int he h
  simp only [Prod.mk.injEq, DataW.lit.injEq, Lit.int.injEq, true_and] at e2
  cases e1
  rw [e2.1]
end


theorem star_es : "*" ++ "errors.errorString" = "*errors.errorString" := by decide
theorem row209 (u : TypeId) (h : Tryz.prog.typeName? 3 u = some "*errors.errorString") : u = 209 :=
  typeName_ptr_named (nm := "errors.errorString") (by rw [star_es]; kernel_rfl) (by kernel_rfl) (by decide) u (by rw [star_es]; exact h)
theorem c1_3 : Tryz.prog.cellsOf 3 = 1 := by kernel_rfl
theorem c1_5 : Tryz.prog.cellsOf 5 = 1 := by kernel_rfl
theorem c1_9 : Tryz.prog.cellsOf 9 = 1 := by kernel_rfl
theorem c1_65 : Tryz.prog.cellsOf 65 = 1 := by kernel_rfl
theorem c1_83 : Tryz.prog.cellsOf 83 = 1 := by kernel_rfl
theorem c1_94 : Tryz.prog.cellsOf 94 = 1 := by kernel_rfl
theorem c1_211 : Tryz.prog.cellsOf 211 = 1 := by kernel_rfl
theorem c2_234 : Tryz.prog.cellsOf 234 = 2 := by kernel_rfl
theorem c2_245 : Tryz.prog.cellsOf 245 = 2 := by kernel_rfl

/-- A sentinel, wherever it stands first. -/
theorem vr_err {n : String} {text : List UInt8} {r : List (String × DataW Unit)} {W : World} {g : Nat} (h : laidMet Tryz.prog ((n, .iface "*errors.errorString" (.ptr (.agg [.lit (.string text)]))) :: r) W)
    (hg : Tryz.prog.globalNamed n = some g) (ht : (Tryz.prog.globals[g]?).map (·.type) = some 43) : ∃ (a : Addr) (s : ByteArray), W.cell? ⟨g, 0, none⟩ = some (.iface 209 (.pointer (some a))) ∧ W.cell? a = some (.string s) ∧ s.size = text.length := by
  obtain ⟨a, s, h1, h2, h3, _⟩ := laid_sentinel h hg ht Tryz.underlying43 row209 Tryz.underlying209 Tryz.underlying211 rfl rfl Tryz.underlying9 c1_211 c1_9
  refine ⟨a, s, ?_, h2, by rw [← data_size, h3]⟩
  rw [World.var?_cell hg h1 0]
  rfl

theorem fst_all : ((List.range 128).all fun i => Pinned.utf8FirstZ[i]? == some 240) = true := by decide +kernel
theorem vr_first {w : World} (hV : VarReads Tryz.prog w "unicode/utf8.first" Rows.laid_unicode_utf8_first) : Fst w := by
  intro i hi
  refine vr_arr (k := .u8) (show Tryz.prog.globalNamed "unicode/utf8.first" = some 3 by kernel_rfl) (show (Tryz.prog.globals[3]?).map (·.type) = some 171 by kernel_rfl) Tryz.underlying171 c1_5 Tryz.underlying5 hV i 240 ?_
  have h := List.all_eq_true.1 fst_all i (List.mem_range.2 hi)
  have h' : Pinned.utf8FirstZ[i]? = some 240 := by simpa using h
  unfold Pinned.numbers
  rw [List.getElem?_map, h']
  rfl

/-- The table of powers of ten. -/
def ptab (i : Nat) : Nat := if i % 2 = 0 then (Pinned.pow10Rows.getD (i / 2) (0, 0)).1 else (Pinned.pow10Rows.getD (i / 2) (0, 0)).2
theorem ptab_all : (Pinned.pow10Rows.all fun x => decide (x.1 < 18446744073709551616) && decide (x.2 < 18446744073709551616)) = true := by decide +kernel
theorem ptab_len : Pinned.pow10Rows.length = 696 := by decide +kernel
theorem ptab_lt (i : Nat) : ptab i < 18446744073709551616 := by
  have key : (Pinned.pow10Rows.getD (i / 2) (0, 0)).1 < 18446744073709551616 ∧ (Pinned.pow10Rows.getD (i / 2) (0, 0)).2 < 18446744073709551616 := by
    rw [List.getD]
    cases h : Pinned.pow10Rows[i / 2]? with
    | none => exact ⟨by decide, by decide⟩
    | some x =>
      have := List.all_eq_true.1 ptab_all x (List.mem_of_getElem? h)
      simpa using this
  unfold ptab
  split
  · exact key.1
  · exact key.2
theorem vr_pow {w : World} (hV : VarReads Tryz.prog w "internal/strconv.pow10Tab" Rows.laid_internal_strconv_pow10Tab) : PTab w ptab := by
  refine ⟨fun j hj => ?_, ptab_lt⟩
  obtain ⟨g', t', cs, fuel, p, h1, h2, h3, h4⟩ := hV
  obtain rfl := Option.some.inj ((show Tryz.prog.globalNamed "internal/strconv.pow10Tab" = some 14 by kernel_rfl).symm.trans h1)
  obtain rfl := Option.some.inj ((show (Tryz.prog.globals[14]?).map (·.type) = some 235 by kernel_rfl).symm.trans h2)
  obtain ⟨xs, m, _, ex, _, hl, hel⟩ := DataW.trod_array Tryz.underlying235 h4
  have e3 : xs.map (·.1) = Pinned.pow10Rows.map fun x => .agg [.lit (.int .u64 x.1), .lit (.int .u64 x.2)] := (DataW.agg.inj (Prod.mk.inj ex).1).symm
  have hi : j / 2 < 696 := by omega
  have hE := hel (j / 2) hi
  obtain ⟨r, hr⟩ : ∃ r, Pinned.pow10Rows[j / 2]? = some r := ⟨_, List.getElem?_eq_getElem (by rw [ptab_len]; exact hi)⟩
  obtain ⟨x, hx⟩ : ∃ x, xs[j / 2]? = some x := ⟨_, List.getElem?_eq_getElem (by rw [hl]; exact hi)⟩
  have hxr : x.1 = .agg [.lit (.int .u64 r.1), .lit (.int .u64 r.2)] := by
    have := congrArg (·[j / 2]?) e3
    simp only [List.getElem?_map, hx, hr, Option.map_some, Option.some.injEq] at this
    exact this
  rw [c2_234, hx] at hE
  obtain ⟨y0, y1, m2, ey, _, hy0, hy1⟩ := trod_struct2 Tryz.underlying234 hE
  rw [ey] at hxr
  simp only [DataW.agg.injEq, List.cons.injEq, and_true] at hxr
  obtain ⟨z0, f0, g0, _⟩ := DataW.trod_int Tryz.underlying83 hy0
  obtain ⟨z1, f1, g1, _⟩ := DataW.trod_int Tryz.underlying83 hy1
  rw [g0] at hxr
  rw [g1] at hxr
  simp only [DataW.lit.injEq, Lit.int.injEq, true_and] at hxr
  obtain ⟨rfl, rfl⟩ := hxr
  have k0 : cs[j / 2 * 2]? = some (.int .u64 (r.1 : Int)) := by
    have := congrArg (·[0]?) f0
    simpa [c1_83, List.getElem?_take, List.getElem?_drop] using this
  have k1 : cs[j / 2 * 2 + 1]? = some (.int .u64 (r.2 : Int)) := by
    have := congrArg (·[0]?) f1
    simpa [c1_83, List.getElem?_take, List.getElem?_drop] using this
  rw [World.var?_cell h1 h3 j]
  unfold ptab
  rw [List.getD, hr]
  by_cases hj2 : j % 2 = 0
  · rw [if_pos hj2, show j = j / 2 * 2 by omega]
    have e9 : (j / 2 * 2) = j / 2 * 2 := rfl
    rw [k0]; rfl
  · rw [if_neg hj2]
    have e9 : cs[j]? = some (.int .u64 (r.2 : Int)) := by rw [show j = j / 2 * 2 + 1 by omega]; exact k1
    rw [e9]; rfl
end Go.Proofs.YtlckfiflfkbofaaGreatDoor

/- From the row's listed variables to what the walks ask of the world. -/
namespace Go.Proofs.YtlckfiflfkbofaaGreatDoor
open Go.RowKit Go.Lib Go.ChangeShapes

theorem cells_two {w : World} {a : Addr} {cs : List Value} (h : w.cells? 0 a 2 = some cs) : ∃ x y, cs = [x, y] ∧ w.cell? (a.add 0) = some x ∧ w.cell? (a.add 1) = some y := by
  unfold World.cells? at h
  rw [if_pos (Nat.zero_le _)] at h
  simp only [List.range_succ, List.range_zero, List.nil_append, List.cons_append, List.mapM_cons, List.mapM_nil] at h
  cases h0 : w.cell? (a.add 0) with
  | none => simp [h0] at h
  | some x =>
    cases h1 : w.cell? (a.add 1) with
    | none => simp [h0, h1] at h
    | some y =>
      simp [h0, h1] at h
      exact ⟨x, y, h.symm, rfl, rfl⟩

theorem cheat_len : Pinned.cheatRows.length = 61 := by decide +kernel
theorem vr_cheat {w : World} (hV : VarReads Tryz.prog w "internal/strconv.leftcheats" Rows.laid_internal_strconv_leftcheats) : ∃ b o cap, b < w.heap.size ∧ ∀ k, 1 ≤ k → k ≤ 60 → Cheat w k b o cap := by
  obtain ⟨g', t', cs, fuel, p, h1, h2, h3, h4⟩ := hV
  obtain rfl := Option.some.inj ((show Tryz.prog.globalNamed "internal/strconv.leftcheats" = some 15 by kernel_rfl).symm.trans h1)
  obtain rfl := Option.some.inj ((show (Tryz.prog.globals[15]?).map (·.type) = some 246 by kernel_rfl).symm.trans h2)
  rcases DataW.trod_slice Tryz.underlying246 h4 with ⟨_, hx⟩ | ⟨a, len, cap, elems, rest, m, _, hcs, hx, _, hlc, _, hlen, hel, _⟩
  · cases (Prod.mk.inj hx).1
  · have e3 : elems.map (·.1) = Pinned.cheatRows.map fun x => .agg [.lit (.int .i64 x.1), .lit (.string x.2)] := by
      have := (Prod.mk.inj hx).1
      simp only [Rows.laid_internal_strconv_leftcheats, Pinned.leftcheats, DataW.slice.injEq] at this
      exact this.1.symm
    have hl61 : len = 61 := by
      have := congrArg List.length e3
      simp only [List.length_map, cheat_len] at this
      omega
    subst hl61
    have key : ∀ k, k ≤ 60 → w.cell? ((a.add (k * 2)).add 0) = some (.int .i64 (Dp.lcD k : Int)) ∧ w.cell? ((a.add (k * 2)).add 1) = some (.string ⟨(Dp.lcRow k).2.toArray⟩) := by
      intro k hk
      have hE := hel k (by omega)
      rw [c2_245] at hE
      obtain ⟨r, hr⟩ : ∃ r, Pinned.cheatRows[k]? = some r := ⟨_, List.getElem?_eq_getElem (by rw [cheat_len]; omega)⟩
      obtain ⟨x, hxk⟩ : ∃ x, elems[k]? = some x := ⟨_, List.getElem?_eq_getElem (by omega)⟩
      have hxr : x.1 = .agg [.lit (.int .i64 r.1), .lit (.string r.2)] := by
        have := congrArg (·[k]?) e3
        simp only [List.getElem?_map, hxk, hr, Option.map_some, Option.some.injEq] at this
        exact this
      rw [hxk] at hE
      obtain ⟨ce, hce, hte⟩ := Option.bind_eq_some_iff.1 hE
      obtain ⟨v0, v1, rfl, k0, k1⟩ := cells_two hce
      obtain ⟨y0, y1, m2, ey, _, hy0, hy1⟩ := trod_struct2 Tryz.underlying245 hte
      rw [ey] at hxr
      simp only [DataW.agg.injEq, List.cons.injEq, and_true] at hxr
      obtain ⟨z0, f0, g0, _⟩ := DataW.trod_int Tryz.underlying3 hy0
      obtain ⟨z1, f1, g1, _⟩ := DataW.trod_string Tryz.underlying9 hy1
      rw [g0] at hxr
      rw [g1] at hxr
      simp only [DataW.lit.injEq, Lit.int.injEq, Lit.string.injEq, true_and] at hxr
      have q0 : v0 = .int .i64 z0 := by
        have := congrArg (·[0]?) f0
        simpa [c1_3] using this
      have q1 : v1 = .string z1 := by
        have := congrArg (·[0]?) f1
        simpa [c1_9] using this
      have hrow : Dp.lcRow k = r := by unfold Dp.lcRow; rw [List.getD, hr]; rfl
      refine ⟨?_, ?_⟩
      · rw [k0, q0, hxr.1]; unfold Dp.lcD; rw [hrow]
      · rw [k1, q1, hrow, ← hxr.2]
    have hs := (key 0 (by omega)).1
    have ha0 : (a.add (0 * 2)).add 0 = a := by simp [Addr.add]
    rw [ha0] at hs
    obtain ⟨b, o, sp⟩ := a
    obtain rfl : sp = none := by have := congrArg Addr.spot (spot_none hs); exact this
    have hadd : ∀ j, (⟨b, o, none⟩ : Addr).add j = ⟨b, o + j, none⟩ := by intro j; unfold Addr.add; split <;> simp_all
    have hadd2 : ∀ j i, (⟨b, o + j, none⟩ : Addr).add i = ⟨b, o + j + i, none⟩ := by intro j i; unfold Addr.add; split <;> simp_all
    refine ⟨b, o, cap, World.block_lt_of_cell? (w := w) (a := ⟨b, o, none⟩) hs, fun k hk1 hk2 => ⟨?_, ?_, ?_⟩⟩
    · rw [World.var?_cell h1 h3 0]
      have : cs.toList[0]? = some (.slice (some ⟨b, o, none⟩) 61 cap) := by rw [hcs]; rfl
      simpa using this
    · have := (key k hk2).1
      rw [hadd, hadd2] at this
      exact this
    · have := (key k hk2).2
      rw [hadd, hadd2] at this
      exact this

def f64L : List Nat := [4607182418800017408, 4621819117588971520, 4636737291354636288, 4652007308841189376, 4666723172467343360, 4681608360884174848, 4696837146684686336, 4711630319722168320, 4726483295884279808, 4741671816366391296, 4756540486875873280, 4771362005757984768, 4786511204640096256, 4801453603149578240, 4816244402031689728, 4831355200913801216, 4846369599423283200, 4861130398305394688, 4876203697187506176, 4891288408196988160, 4906019910204099648, 4921056587992461136, 4936209963552724370]
theorem f64_eq : (Rows.laid_internal_strconv_float64pow10 : DataW Unit) = .slice (f64L.map fun n => .lit (.float .f64 n)) [] := rfl
def f64T (i : Nat) : Nat := f64L.getD i 0
theorem f64_all : ((List.range 23).all fun i => decide (f64T i ≤ 1100 * 2 ^ 52) && decide (1023 * 2 ^ 52 ≤ f64T i)) = true := by decide +kernel
theorem f64_ok : FOk f64T := by
  have h : ∀ i, i < 23 → f64T i ≤ 1100 * 2 ^ 52 ∧ 1023 * 2 ^ 52 ≤ f64T i := by
    intro i hi
    have := List.all_eq_true.1 f64_all i (List.mem_range.2 hi)
    simpa only [Bool.and_eq_true, decide_eq_true_eq] using this
  exact ⟨fun i hi => (h i hi).1, fun i hi => (h i hi).2⟩
def pwL : List Nat := [1, 3, 6, 9, 13, 16, 19, 23, 26]
theorem pw_eq : (Rows.laid_internal_strconv_powtab : DataW Unit) = .slice (pwL.map fun (n : Nat) => .lit (.int .i64 (n : Int))) [] := rfl

/-- WHAT THE ROW's CONDITION GIVES A WALK. -/
theorem wd_of_laid {w : World} (hL : laidMet Tryz.prog Rows.fnMultiPointBodyRow.laid w) : ∃ P : GP, Wd0 P w := by
  have hR : ∀ n d, (n, d) ∈ Rows.fnMultiPointBodyRow.laid → VarReads Tryz.prog w n d := fun n d hm => laidMet.reads hL hm
  have hfst := vr_first (hR _ _ (.tail _ (.tail _ (.tail _ (.tail _ (.tail _ (.tail _ (.tail _ (.tail _ (.tail _ (.tail _ (.tail _ (.tail _ (.tail _ (.tail _ (.tail _ (.tail _ (.tail _ (.head _)))))))))))))))))))
  have hpow := vr_pow (hR _ _ (.tail _ (.tail _ (.tail _ (.tail _ (.tail _ (.tail _ (.tail _ (.tail _ (.tail _ (.tail _ (.tail _ (.tail _ (.tail _ (.tail _ (.tail _ (.tail _ (.head _))))))))))))))))))
  obtain ⟨Bc, oc, cc, hBc, hcheat⟩ := vr_cheat (hR _ _ (.tail _ (.tail _ (.tail _ (.tail _ (.tail _ (.tail _ (.tail _ (.tail _ (.tail _ (.tail _ (.tail _ (.tail _ (.tail _ (.tail _ (.tail _ (.head _)))))))))))))))))
  obtain ⟨xe, hxe⟩ := vr_str (show Tryz.prog.globalNamed "pub-alidade/pub/simplefeatures/geom.wktUnexpectedEOF" = some 1 by kernel_rfl) (show (Tryz.prog.globals[1]?).map (·.type) = some 138 by kernel_rfl) Tryz.underlying138 c1_9 rfl Tryz.underlying9 (hR _ _ (.tail _ (.tail _ (.tail _ (.tail _ (.tail _ (.tail _ (.tail _ (.tail _ (.tail _ (.tail _ (.tail _ (.tail _ (.tail _ (.tail _ (.head _))))))))))))))))
  have hopt := vr_bool (show Tryz.prog.globalNamed "internal/strconv.optimize" = some 9 by kernel_rfl) (show (Tryz.prog.globals[9]?).map (·.type) = some 4 by kernel_rfl) Tryz.underlying4 (hR _ (.lit (.bool true)) (.tail _ (.tail _ (.tail _ (.tail _ (.head _))))))
  have hfi := hR "internal/strconv.float64info" (.agg [.lit (.int .u64 52), .lit (.int .u64 11), .lit (.int .i64 (-1023))]) (.tail _ (.tail _ (.tail _ (.head _))))
  have h10 : Tryz.prog.globalNamed "internal/strconv.float64info" = some 10 := by kernel_rfl
  have t10 : (Tryz.prog.globals[10]?).map (·.type) = some 192 := by kernel_rfl
  have hm := vr_fld (i := 0) h10 t10 Tryz.underlying192 hfi rfl c1_94 Tryz.underlying94 52 rfl
  have he := vr_fld (i := 1) h10 t10 Tryz.underlying192 hfi rfl c1_94 Tryz.underlying94 11 rfl
  have hb := vr_fld (i := 2) h10 t10 Tryz.underlying192 hfi rfl c1_3 Tryz.underlying3 (-1023) rfl
  obtain ⟨Bp, op, cp, hpv, hBp, hpc⟩ := vr_row (show Tryz.prog.globalNamed "internal/strconv.powtab" = some 12 by kernel_rfl) (show (Tryz.prog.globals[12]?).map (·.type) = some 229 by kernel_rfl) Tryz.underlying229 c1_3 (by decide) (pw_eq ▸ hR _ _ (.tail _ (.tail _ (.tail _ (.tail _ (.tail _ (.head _)))))))
  obtain ⟨bf, og, cf, hfv, hbf, hfc⟩ := vr_row (show Tryz.prog.globalNamed "internal/strconv.float64pow10" = some 13 by kernel_rfl) (show (Tryz.prog.globals[13]?).map (·.type) = some 30 by kernel_rfl) Tryz.underlying30 c1_65 (by decide) (f64_eq ▸ hR _ _ (.tail _ (.tail _ (.tail _ (.tail _ (.tail _ (.tail _ (.head _))))))))
  obtain ⟨a7, s7, h7, d7, z7⟩ := vr_err (show laidMet Tryz.prog (("strconv.ErrRange", .iface "*errors.errorString" (.ptr (.agg [.lit (.string [118, 97, 108, 117, 101, 32, 111, 117, 116, 32, 111, 102, 32, 114, 97, 110, 103, 101])]))) :: _) w from hL.tail.tail.tail.tail.tail.tail.tail.tail.tail.tail) (show Tryz.prog.globalNamed "strconv.ErrRange" = some 7 by kernel_rfl) (by kernel_rfl)
  obtain ⟨a6, s6, h6, d6, z6⟩ := vr_err (show laidMet Tryz.prog (("strconv.ErrSyntax", .iface "*errors.errorString" (.ptr (.agg [.lit (.string [105, 110, 118, 97, 108, 105, 100, 32, 115, 121, 110, 116, 97, 120])]))) :: _) w from hL.tail.tail.tail.tail.tail.tail.tail.tail.tail.tail.tail) (show Tryz.prog.globalNamed "strconv.ErrSyntax" = some 6 by kernel_rfl) (by kernel_rfl)
  obtain ⟨a2, s2, h2, d2, z2⟩ := vr_err (show laidMet Tryz.prog (("io.EOF", .iface "*errors.errorString" (.ptr (.agg [.lit (.string [69, 79, 70])]))) :: _) w from hL.tail.tail.tail.tail.tail.tail.tail.tail.tail.tail.tail.tail) (show Tryz.prog.globalNamed "io.EOF" = some 2 by kernel_rfl) (by kernel_rfl)
  have hbig : 19 ≤ w.heap.size := by
    obtain ⟨g', t', cs, fuel, p, k1, k2, k3, k4⟩ := hR _ _ (.tail _ (.head _))
    obtain rfl := Option.some.inj ((show Tryz.prog.globalNamed "math/bits.deBruijn64tab" = some 18 by kernel_rfl).symm.trans k1)
    obtain rfl := Option.some.inj ((show (Tryz.prog.globals[18]?).map (·.type) = some 254 by kernel_rfl).symm.trans k2)
    obtain ⟨xs, m, _, _, hlen, _⟩ := DataW.trod_array Tryz.underlying254 k4
    have h64 : Tryz.prog.cellsOf 254 = 64 := by kernel_rfl
    have hc0 := World.var?_cell k1 k3 0
    have hpos : 0 < cs.size := by have : cs.toList.length = cs.size := by simp
                                  omega
    rw [Array.getElem?_eq_getElem hpos] at hc0
    have := World.block_lt_of_cell? (w := w) (a := ⟨18, 0, none⟩) hc0
    exact this
  refine ⟨{ G := w.heap.size, g := bf, Bp := Bp, op := op, cp := cp, Bc := Bc, oc := oc, cc := cc, ft := f64T, pt := ptab, fok := f64_ok, hpt := ptab_lt, q6 := a6, q7 := a7, x6 := s6, x7 := s7, hx6 := by rw [z6]; decide, hx7 := by rw [z7]; decide }, ?_⟩
  refine ⟨hfst, ⟨a2, h2⟩, ⟨xe, hxe⟩, ⟨⟨⟨hbig, hBp, hBc, hm, he, hb, hpv, fun i hi => ?_, hcheat⟩, ⟨hm, og, cf, hfv, fun i hi => ?_⟩, f64_ok, hpow, hopt, hbf, hbig, Nat.le_refl _⟩, Nat.le_refl _, World.block_lt_of_cell? w a6 d6, World.block_lt_of_cell? w a7 d7, h6, h7, d6, d7⟩, hbig⟩
  · obtain ⟨v, m, q, hv, ht⟩ := hpc i (.lit (.int .i64 (pwT i : Int))) (by
      rw [List.getElem?_map]
      have : pwL[i]? = some (pwT i) := by
        have : i = 0 ∨ i = 1 ∨ i = 2 ∨ i = 3 ∨ i = 4 ∨ i = 5 ∨ i = 6 ∨ i = 7 ∨ i = 8 := by omega
        rcases this with rfl | rfl | rfl | rfl | rfl | rfl | rfl | rfl | rfl <;> rfl
      rw [this]; rfl)
    rw [hv, trod_int1 Tryz.underlying3 ht]
  · obtain ⟨v, m, q, hv, ht⟩ := hfc i (.lit (.float .f64 (f64T i))) (by
      rw [List.getElem?_map]
      have hlt : i < f64L.length := hi
      have : f64L[i]? = some (f64T i) := by unfold f64T; rw [List.getD, List.getElem?_eq_getElem hlt]; rfl
      rw [this]; rfl)
    rw [hv, trod_flt Tryz.underlying65 ht]
end Go.Proofs.YtlckfiflfkbofaaGreatDoor
