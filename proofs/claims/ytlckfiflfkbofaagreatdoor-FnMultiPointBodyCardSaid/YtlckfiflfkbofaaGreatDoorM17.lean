/- atof64exact of internal/strconv: where it answers, it answers one finite magnitude for either sign. atof64exact of internal/strconv, its cases joined. Plain: the decimal of a word apart from its sign; floatBits' answer goes by no sign; bounds on the mantissa. atof64 of internal/strconv at a decimal: one magnitude and one error for either sign. atof64 of internal/strconv at a decimal, its ways joined. Part 17 of 51 of the proof that FnMultiPointBody returns true for every text and every type of coordinates, where the listed variables hold what the text of the program lays. -/
import Derived.Test.YtlckfiflfkbofaaGreatDoorM09
import Derived.Test.YtlckfiflfkbofaaGreatDoorM12
import Derived.Test.YtlckfiflfkbofaaGreatDoorM14
import Derived.Test.YtlckfiflfkbofaaGreatDoorM16
set_option linter.all false

/- atof64exact of internal/strconv: where it answers, it answers one finite magnitude for either sign. -/
namespace Go.Proofs.YtlckfiflfkbofaaGreatDoor
open Go.RowKit

/-- The table of exact powers of ten. -/
structure FTab (w : World) (g : Nat) (ft : Nat → Nat) : Prop where
  m : w.cell? ⟨10, 0, none⟩ = some (.int .u64 52)
  ex : ∃ og cp, w.cell? ⟨13, 0, none⟩ = some (.slice (some ⟨g, og, none⟩) 23 cp) ∧ ∀ i, i < 23 → w.cell? ⟨g, og + i, none⟩ = some (.float .f64 (ft i))
structure FOk (ft : Nat → Nat) : Prop where
  hi : ∀ i, i < 23 → ft i ≤ 1100 * 2 ^ 52
  lo : ∀ i, i < 23 → 1023 * 2 ^ 52 ≤ ft i

theorem sgN_false (x : Nat) : sgN false x = x := rfl
theorem sgN_flip {x : Nat} (h : x < 2 ^ 63) : sgN true x = Fl.flip x := by unfold sgN Fl.flip; rw [if_pos rfl, if_pos h]
theorem sgN_mul (n : Bool) {x y r : Nat} (hx : x < 2 ^ 63) (hr : r < 2 ^ 63) (h : Ieee.double.mul x y = some r) : Ieee.double.mul (sgN n x) y = some (sgN n r) := by
  cases n with
  | false => exact h
  | true => rw [sgN_flip hx, sgN_flip hr]; exact Fl.mul_flip (by omega) h
theorem sgN_div (n : Bool) {x y r : Nat} (hx : x < 2 ^ 63) (hr : r < 2 ^ 63) (h : Ieee.double.div x y = some r) : Ieee.double.div (sgN n x) y = some (sgN n r) := by
  cases n with
  | false => exact h
  | true => rw [sgN_flip hx, sgN_flip hr]; exact Fl.div_flip (by omega) h

def big1 : Nat := 4831355200913801216
def big2 : Nat := 14054727237768577024
theorem big_flip : Fl.flip big1 = big2 := by decide
theorem big_flip2 : Fl.flip big2 = big1 := by decide
theorem sgN_gt (n : Bool) {x : Nat} (hx : x < 2 ^ 63) : (Ieee.double.order (sgN n x) big1 == some .gt) = if n then (Ieee.double.order x big2 == some .lt) else (Ieee.double.order x big1 == some .gt) := by
  cases n with
  | false => rfl
  | true => rw [sgN_flip hx, ← big_flip2, Fl.gt_flip (by omega) (by decide)]; rfl
theorem sgN_lt2 (n : Bool) {x : Nat} (hx : x < 2 ^ 63) : (Ieee.double.order (sgN n x) big2 == some .lt) = if n then (Ieee.double.order x big1 == some .gt) else (Ieee.double.order x big2 == some .lt) := by
  cases n with
  | false => rfl
  | true => rw [sgN_flip hx, ← big_flip, Fl.lt_flip (by omega) (by decide)]; rfl
/-- Out of the bounds, on whichever side. -/
theorem sgN_out (n : Bool) {x : Nat} (hx : x < 2 ^ 63) (h : ((Ieee.double.order x big1 == some .gt) || (Ieee.double.order x big2 == some .lt)) = true) :
    ((Ieee.double.order (sgN n x) big1 == some .gt) = true) ∨ ((Ieee.double.order (sgN n x) big1 == some .gt) = false ∧ (Ieee.double.order (sgN n x) big2 == some .lt) = true) := by
  rw [sgN_gt n hx, sgN_lt2 n hx]
  revert h
  cases (Ieee.double.order x big1 == some .gt) <;> cases (Ieee.double.order x big2 == some .lt) <;> cases n <;> simp
theorem sgN_in (n : Bool) {x : Nat} (hx : x < 2 ^ 63) (h : ((Ieee.double.order x big1 == some .gt) || (Ieee.double.order x big2 == some .lt)) = false) :
    (Ieee.double.order (sgN n x) big1 == some .gt) = false ∧ (Ieee.double.order (sgN n x) big2 == some .lt) = false := by
  rw [sgN_gt n hx, sgN_lt2 n hx]
  revert h
  cases (Ieee.double.order x big1 == some .gt) <;> cases (Ieee.double.order x big2 == some .lt) <;> cases n <;> simp

/-- The float of a mantissa, and its negative. -/
theorem fint (d : Nat) (hd : d < 4503599627370496) : ∃ F, floatOfInt .f64 (d : Int) = F ∧ F ≤ 1075 * 2 ^ 52 := by
  obtain ⟨r, h1, h2⟩ := Fl.nearest_rung false d 0 1075 (by omega) (by omega) (Or.inr (by have := Fl.log2_le (n := d) (k := 51) hd; omega))
  refine ⟨r, ?_, h2⟩
  show FloatKind.f64.encode (.number ((d : Int) < 0) (d : Int).natAbs 0) = r
  have : decide ((d : Int) < 0) = false := decide_eq_false (by omega)
  rw [this, Int.natAbs_natCast]
  exact h1
theorem fneg {x : Nat} (hx : x < 2 ^ 63) (w : World) : (Op.unary UnOp.neg (.float .f64 x)).run Tryz.prog w = .ok (.float .f64 (sgN true x)) w := by
  rw [sgN_flip hx, ← Fl.xor_flip (by omega)]
  rfl

def ExV (V : Option Nat) (n : Bool) (e : Ending) : Prop := match V with
  | some B => e = .returned (.tuple #[.float .f64 (sgN n B), .bool true])
  | none => ∃ x : Nat, e = .returned (.tuple #[.float .f64 x, .bool false])

set_option maxRecDepth 100000 in
set_option maxHeartbeats 1600000 in
theorem ex_big (d F : Nat) (g : Nat) (ft : Nat → Nat) (n : Bool) (w : World) (T : FTab w g ft) (p : Int) (hd : 4503599627370496 ≤ d) :
    Calls Tryz.prog 132 #[.int .u64 d, .int .i64 p, .bool n] w fun e w' => ExV none n e ∧ ∃ k, w' = w.drewN k := by
  have m := T.m
  obtain ⟨og, cp, s, tc⟩ := T.ex
  have e1 : decide ((d : Int) / 4503599627370496 = 0) = false := decide_eq_false (by omega)
  have e2 : ((d : Int) / 4503599627370496 != 0) = true := by simp; omega
  clear tc
  cases n with
  | true =>
    go_enter Tryz.func132, Tryz.ntmps132
    go_wp2_with (fail)
    all_goals (go_ret2; first | exact ⟨⟨_, rfl⟩, 0, rfl⟩ | exact ⟨⟨_, rfl⟩, 1, rfl⟩ | exact ⟨⟨_, rfl⟩, 2, rfl⟩)
  | false =>
    go_enter Tryz.func132, Tryz.ntmps132
    go_wp2_with (fail)
    all_goals (go_ret2; first | exact ⟨⟨_, rfl⟩, 0, rfl⟩ | exact ⟨⟨_, rfl⟩, 1, rfl⟩ | exact ⟨⟨_, rfl⟩, 2, rfl⟩)

set_option maxRecDepth 100000 in
set_option maxHeartbeats 1600000 in
theorem ex_zero (d F : Nat) (g : Nat) (ft : Nat → Nat) (n : Bool) (w : World) (T : FTab w g ft) (hd : d < 4503599627370496) (hF : floatOfInt .f64 (d : Int) = F) (hFl : F < 2 ^ 63) :
    Calls Tryz.prog 132 #[.int .u64 d, .int .i64 0, .bool n] w fun e w' => ExV (some F) n e ∧ ∃ k, w' = w.drewN k := by
  have m := T.m
  obtain ⟨og, cp, s, tc⟩ := T.ex
  have e1 : (d : Int) / 4503599627370496 = 0 := by omega
  clear tc
  cases n with
  | true =>
    have hn := fneg hFl w
    go_enter Tryz.func132, Tryz.ntmps132
    go_wp2_with (fail)
    all_goals (go_ret2; first | exact ⟨rfl, 0, rfl⟩ | exact ⟨rfl, 1, rfl⟩ | exact ⟨rfl, 2, rfl⟩)
  | false =>
    have hn := fneg hFl w
    go_enter Tryz.func132, Tryz.ntmps132
    go_wp2_with (fail)
    all_goals (go_ret2; first | exact ⟨rfl, 0, rfl⟩ | exact ⟨rfl, 1, rfl⟩ | exact ⟨rfl, 2, rfl⟩)

set_option maxRecDepth 100000 in
set_option maxHeartbeats 1600000 in
theorem ex_s_in (d F : Nat) (g : Nat) (ft : Nat → Nat) (n : Bool) (w : World) (T : FTab w g ft) (hd : d < 4503599627370496) (hF : floatOfInt .f64 (d : Int) = F) (hFl : F < 2 ^ 63)(q : Nat) (hp1 : 1 ≤ q) (hp2 : q ≤ 22) (R : Nat) (hR : Ieee.double.mul F (ft q) = some R) (hRl : R < 2 ^ 63) (hin : ((Ieee.double.order F big1 == some .gt) || (Ieee.double.order F big2 == some .lt)) = false) :
    Calls Tryz.prog 132 #[.int .u64 d, .int .i64 (q : Nat), .bool n] w fun e w' => ExV (some R) n e ∧ ∃ k, w' = w.drewN k := by
  have m := T.m
  obtain ⟨og, cp, s, tc⟩ := T.ex
  have e1 : (d : Int) / 4503599627370496 = 0 := by omega
  have c1 := tc q (by omega)
  clear tc
  cases n with
  | true =>
    have hn := fneg hFl w
    obtain ⟨g1, g2⟩ := sgN_in true hFl hin
    simp only [big1, big2] at g1 g2
    have hm := fun w => run_float_arith (P := Tryz.prog) w .mul 65 .f64 (sgN true F) (ft q) (sgN true R) (sgN_mul true hFl hRl hR)
    clear hin hR hRl hFl
    replace g1 : (FloatKind.f64.format.order (sgN true F) 4831355200913801216 == some .gt) = false := g1
    replace g2 : (FloatKind.f64.format.order (sgN true F) 14054727237768577024 == some .lt) = false := g2
    generalize sgN true F = XF at *
    clear T
    go_enter Tryz.func132, Tryz.ntmps132
    go_wp2_with (fail)
    all_goals (go_ret2; first | exact ⟨rfl, 0, rfl⟩ | exact ⟨rfl, 1, rfl⟩ | exact ⟨rfl, 2, rfl⟩)
  | false =>
    have hn := fneg hFl w
    obtain ⟨g1, g2⟩ := sgN_in false hFl hin
    simp only [big1, big2] at g1 g2
    have hm := fun w => run_float_arith (P := Tryz.prog) w .mul 65 .f64 (sgN false F) (ft q) (sgN false R) (sgN_mul false hFl hRl hR)
    clear hin hR hRl hFl
    replace g1 : (FloatKind.f64.format.order (sgN false F) 4831355200913801216 == some .gt) = false := g1
    replace g2 : (FloatKind.f64.format.order (sgN false F) 14054727237768577024 == some .lt) = false := g2
    simp only [sgN_false] at *
    clear T
    go_enter Tryz.func132, Tryz.ntmps132
    go_wp2_with (fail)
    all_goals (go_ret2; first | exact ⟨rfl, 0, rfl⟩ | exact ⟨rfl, 1, rfl⟩ | exact ⟨rfl, 2, rfl⟩)

set_option maxRecDepth 100000 in
set_option maxHeartbeats 1600000 in
theorem ex_s_o1 (d F : Nat) (g : Nat) (ft : Nat → Nat) (n : Bool) (w : World) (T : FTab w g ft) (hd : d < 4503599627370496) (hF : floatOfInt .f64 (d : Int) = F) (hFl : F < 2 ^ 63)(q : Nat) (hp1 : 1 ≤ q) (hp2 : q ≤ 22) (ho : (Ieee.double.order (sgN n F) big1 == some .gt) = true) :
    Calls Tryz.prog 132 #[.int .u64 d, .int .i64 (q : Nat), .bool n] w fun e w' => ExV none n e ∧ ∃ k, w' = w.drewN k := by
  have m := T.m
  obtain ⟨og, cp, s, tc⟩ := T.ex
  have e1 : (d : Int) / 4503599627370496 = 0 := by omega
  have c1 := tc q (by omega)
  clear tc
  cases n with
  | true =>
    have hn := fneg hFl w
    have g1 := ho
    simp only [big1] at g1
    clear ho hFl
    replace g1 : (FloatKind.f64.format.order (sgN true F) 4831355200913801216 == some .gt) = true := g1
    generalize sgN true F = XF at *
    clear T
    go_enter Tryz.func132, Tryz.ntmps132
    go_wp2_with (fail)
    all_goals (go_ret2; first | exact ⟨⟨_, rfl⟩, 0, rfl⟩ | exact ⟨⟨_, rfl⟩, 1, rfl⟩ | exact ⟨⟨_, rfl⟩, 2, rfl⟩)
  | false =>
    have hn := fneg hFl w
    have g1 := ho
    simp only [big1] at g1
    clear ho hFl
    replace g1 : (FloatKind.f64.format.order (sgN false F) 4831355200913801216 == some .gt) = true := g1
    simp only [sgN_false] at *
    clear T
    go_enter Tryz.func132, Tryz.ntmps132
    go_wp2_with (fail)
    all_goals (go_ret2; first | exact ⟨⟨_, rfl⟩, 0, rfl⟩ | exact ⟨⟨_, rfl⟩, 1, rfl⟩ | exact ⟨⟨_, rfl⟩, 2, rfl⟩)

set_option maxRecDepth 100000 in
set_option maxHeartbeats 1600000 in
theorem ex_s_o2 (d F : Nat) (g : Nat) (ft : Nat → Nat) (n : Bool) (w : World) (T : FTab w g ft) (hd : d < 4503599627370496) (hF : floatOfInt .f64 (d : Int) = F) (hFl : F < 2 ^ 63)(q : Nat) (hp1 : 1 ≤ q) (hp2 : q ≤ 22) (ho1 : (Ieee.double.order (sgN n F) big1 == some .gt) = false) (ho : (Ieee.double.order (sgN n F) big2 == some .lt) = true) :
    Calls Tryz.prog 132 #[.int .u64 d, .int .i64 (q : Nat), .bool n] w fun e w' => ExV none n e ∧ ∃ k, w' = w.drewN k := by
  have m := T.m
  obtain ⟨og, cp, s, tc⟩ := T.ex
  have e1 : (d : Int) / 4503599627370496 = 0 := by omega
  have c1 := tc q (by omega)
  clear tc
  cases n with
  | true =>
    have hn := fneg hFl w
    have g1 := ho1
    have g2 := ho
    simp only [big1, big2] at g1 g2
    clear ho ho1 hFl
    replace g1 : (FloatKind.f64.format.order (sgN true F) 4831355200913801216 == some .gt) = false := g1
    replace g2 : (FloatKind.f64.format.order (sgN true F) 14054727237768577024 == some .lt) = true := g2
    generalize sgN true F = XF at *
    clear T
    go_enter Tryz.func132, Tryz.ntmps132
    go_wp2_with (fail)
    all_goals (go_ret2; first | exact ⟨⟨_, rfl⟩, 0, rfl⟩ | exact ⟨⟨_, rfl⟩, 1, rfl⟩ | exact ⟨⟨_, rfl⟩, 2, rfl⟩)
  | false =>
    have hn := fneg hFl w
    have g1 := ho1
    have g2 := ho
    simp only [big1, big2] at g1 g2
    clear ho ho1 hFl
    replace g1 : (FloatKind.f64.format.order (sgN false F) 4831355200913801216 == some .gt) = false := g1
    replace g2 : (FloatKind.f64.format.order (sgN false F) 14054727237768577024 == some .lt) = true := g2
    simp only [sgN_false] at *
    clear T
    go_enter Tryz.func132, Tryz.ntmps132
    go_wp2_with (fail)
    all_goals (go_ret2; first | exact ⟨⟨_, rfl⟩, 0, rfl⟩ | exact ⟨⟨_, rfl⟩, 1, rfl⟩ | exact ⟨⟨_, rfl⟩, 2, rfl⟩)

set_option maxRecDepth 100000 in
set_option maxHeartbeats 1600000 in
theorem ex_b_in (d F : Nat) (g : Nat) (ft : Nat → Nat) (n : Bool) (w : World) (T : FTab w g ft) (hd : d < 4503599627370496) (hF : floatOfInt .f64 (d : Int) = F) (hFl : F < 2 ^ 63)(q : Nat) (hp1 : 1 ≤ q) (hp2 : q ≤ 15) (G : Nat) (hG : Ieee.double.mul F (ft q) = some G) (hGl : G < 2 ^ 63) (R : Nat) (hR : Ieee.double.mul G (ft 22) = some R) (hRl : R < 2 ^ 63) (hin : ((Ieee.double.order G big1 == some .gt) || (Ieee.double.order G big2 == some .lt)) = false) :
    Calls Tryz.prog 132 #[.int .u64 d, .int .i64 ((q + 22 : Nat) : Int), .bool n] w fun e w' => ExV (some R) n e ∧ ∃ k, w' = w.drewN k := by
  have m := T.m
  obtain ⟨og, cp, s, tc⟩ := T.ex
  have e1 : (d : Int) / 4503599627370496 = 0 := by omega
  have c1 := tc q (by omega)
  have c2 := tc 22 (by omega)
  clear tc
  cases n with
  | true =>
    have hn := fneg hFl w
    obtain ⟨g1, g2⟩ := sgN_in true hGl hin
    simp only [big1, big2] at g1 g2
    have hm := fun w => run_float_arith (P := Tryz.prog) w .mul 65 .f64 (sgN true F) (ft q) (sgN true G) (sgN_mul true hFl hGl hG)
    have hm2 := fun w => run_float_arith (P := Tryz.prog) w .mul 65 .f64 (sgN true G) (ft 22) (sgN true R) (sgN_mul true hGl hRl hR)
    clear hin hR hRl hFl hG hGl
    replace g1 : (FloatKind.f64.format.order (sgN true G) 4831355200913801216 == some .gt) = false := g1
    replace g2 : (FloatKind.f64.format.order (sgN true G) 14054727237768577024 == some .lt) = false := g2
    generalize sgN true F = XF at *
    generalize sgN true G = XG at *
    clear T
    go_enter Tryz.func132, Tryz.ntmps132
    go_wp2_with (fail)
    all_goals (go_ret2; first | exact ⟨rfl, 0, rfl⟩ | exact ⟨rfl, 1, rfl⟩ | exact ⟨rfl, 2, rfl⟩)
  | false =>
    have hn := fneg hFl w
    obtain ⟨g1, g2⟩ := sgN_in false hGl hin
    simp only [big1, big2] at g1 g2
    have hm := fun w => run_float_arith (P := Tryz.prog) w .mul 65 .f64 (sgN false F) (ft q) (sgN false G) (sgN_mul false hFl hGl hG)
    have hm2 := fun w => run_float_arith (P := Tryz.prog) w .mul 65 .f64 (sgN false G) (ft 22) (sgN false R) (sgN_mul false hGl hRl hR)
    clear hin hR hRl hFl hG hGl
    replace g1 : (FloatKind.f64.format.order (sgN false G) 4831355200913801216 == some .gt) = false := g1
    replace g2 : (FloatKind.f64.format.order (sgN false G) 14054727237768577024 == some .lt) = false := g2
    simp only [sgN_false] at *
    clear T
    go_enter Tryz.func132, Tryz.ntmps132
    go_wp2_with (fail)
    all_goals (go_ret2; first | exact ⟨rfl, 0, rfl⟩ | exact ⟨rfl, 1, rfl⟩ | exact ⟨rfl, 2, rfl⟩)

set_option maxRecDepth 100000 in
set_option maxHeartbeats 1600000 in
theorem ex_b_o1 (d F : Nat) (g : Nat) (ft : Nat → Nat) (n : Bool) (w : World) (T : FTab w g ft) (hd : d < 4503599627370496) (hF : floatOfInt .f64 (d : Int) = F) (hFl : F < 2 ^ 63)(q : Nat) (hp1 : 1 ≤ q) (hp2 : q ≤ 15) (G : Nat) (hG : Ieee.double.mul F (ft q) = some G) (hGl : G < 2 ^ 63) (ho : (Ieee.double.order (sgN n G) big1 == some .gt) = true) :
    Calls Tryz.prog 132 #[.int .u64 d, .int .i64 ((q + 22 : Nat) : Int), .bool n] w fun e w' => ExV none n e ∧ ∃ k, w' = w.drewN k := by
  have m := T.m
  obtain ⟨og, cp, s, tc⟩ := T.ex
  have e1 : (d : Int) / 4503599627370496 = 0 := by omega
  have c1 := tc q (by omega)
  have c2 := tc 22 (by omega)
  clear tc
  cases n with
  | true =>
    have hn := fneg hFl w
    have hm := fun w => run_float_arith (P := Tryz.prog) w .mul 65 .f64 (sgN true F) (ft q) (sgN true G) (sgN_mul true hFl hGl hG)
    have g1 := ho
    simp only [big1] at g1
    clear ho hFl hG hGl
    replace g1 : (FloatKind.f64.format.order (sgN true G) 4831355200913801216 == some .gt) = true := g1
    generalize sgN true F = XF at *
    generalize sgN true G = XG at *
    clear T
    go_enter Tryz.func132, Tryz.ntmps132
    go_wp2_with (fail)
    all_goals (go_ret2; first | exact ⟨⟨_, rfl⟩, 0, rfl⟩ | exact ⟨⟨_, rfl⟩, 1, rfl⟩ | exact ⟨⟨_, rfl⟩, 2, rfl⟩)
  | false =>
    have hn := fneg hFl w
    have hm := fun w => run_float_arith (P := Tryz.prog) w .mul 65 .f64 (sgN false F) (ft q) (sgN false G) (sgN_mul false hFl hGl hG)
    have g1 := ho
    simp only [big1] at g1
    clear ho hFl hG hGl
    replace g1 : (FloatKind.f64.format.order (sgN false G) 4831355200913801216 == some .gt) = true := g1
    simp only [sgN_false] at *
    clear T
    go_enter Tryz.func132, Tryz.ntmps132
    go_wp2_with (fail)
    all_goals (go_ret2; first | exact ⟨⟨_, rfl⟩, 0, rfl⟩ | exact ⟨⟨_, rfl⟩, 1, rfl⟩ | exact ⟨⟨_, rfl⟩, 2, rfl⟩)

set_option maxRecDepth 100000 in
set_option maxHeartbeats 1600000 in
theorem ex_b_o2 (d F : Nat) (g : Nat) (ft : Nat → Nat) (n : Bool) (w : World) (T : FTab w g ft) (hd : d < 4503599627370496) (hF : floatOfInt .f64 (d : Int) = F) (hFl : F < 2 ^ 63)(q : Nat) (hp1 : 1 ≤ q) (hp2 : q ≤ 15) (G : Nat) (hG : Ieee.double.mul F (ft q) = some G) (hGl : G < 2 ^ 63) (ho1 : (Ieee.double.order (sgN n G) big1 == some .gt) = false) (ho : (Ieee.double.order (sgN n G) big2 == some .lt) = true) :
    Calls Tryz.prog 132 #[.int .u64 d, .int .i64 ((q + 22 : Nat) : Int), .bool n] w fun e w' => ExV none n e ∧ ∃ k, w' = w.drewN k := by
  have m := T.m
  obtain ⟨og, cp, s, tc⟩ := T.ex
  have e1 : (d : Int) / 4503599627370496 = 0 := by omega
  have c1 := tc q (by omega)
  have c2 := tc 22 (by omega)
  clear tc
  cases n with
  | true =>
    have hn := fneg hFl w
    have hm := fun w => run_float_arith (P := Tryz.prog) w .mul 65 .f64 (sgN true F) (ft q) (sgN true G) (sgN_mul true hFl hGl hG)
    have g1 := ho1
    have g2 := ho
    simp only [big1, big2] at g1 g2
    clear ho ho1 hFl hG hGl
    replace g1 : (FloatKind.f64.format.order (sgN true G) 4831355200913801216 == some .gt) = false := g1
    replace g2 : (FloatKind.f64.format.order (sgN true G) 14054727237768577024 == some .lt) = true := g2
    generalize sgN true F = XF at *
    generalize sgN true G = XG at *
    clear T
    go_enter Tryz.func132, Tryz.ntmps132
    go_wp2_with (fail)
    all_goals (go_ret2; first | exact ⟨⟨_, rfl⟩, 0, rfl⟩ | exact ⟨⟨_, rfl⟩, 1, rfl⟩ | exact ⟨⟨_, rfl⟩, 2, rfl⟩)
  | false =>
    have hn := fneg hFl w
    have hm := fun w => run_float_arith (P := Tryz.prog) w .mul 65 .f64 (sgN false F) (ft q) (sgN false G) (sgN_mul false hFl hGl hG)
    have g1 := ho1
    have g2 := ho
    simp only [big1, big2] at g1 g2
    clear ho ho1 hFl hG hGl
    replace g1 : (FloatKind.f64.format.order (sgN false G) 4831355200913801216 == some .gt) = false := g1
    replace g2 : (FloatKind.f64.format.order (sgN false G) 14054727237768577024 == some .lt) = true := g2
    simp only [sgN_false] at *
    clear T
    go_enter Tryz.func132, Tryz.ntmps132
    go_wp2_with (fail)
    all_goals (go_ret2; first | exact ⟨⟨_, rfl⟩, 0, rfl⟩ | exact ⟨⟨_, rfl⟩, 1, rfl⟩ | exact ⟨⟨_, rfl⟩, 2, rfl⟩)

set_option maxRecDepth 100000 in
set_option maxHeartbeats 1600000 in
theorem ex_neg (d F : Nat) (g : Nat) (ft : Nat → Nat) (n : Bool) (w : World) (T : FTab w g ft) (hd : d < 4503599627370496) (hF : floatOfInt .f64 (d : Int) = F) (hFl : F < 2 ^ 63)(q : Nat) (hp1 : 1 ≤ q) (hp2 : q ≤ 22) (R : Nat) (hR : Ieee.double.div F (ft q) = some R) (hRl : R < 2 ^ 63)  :
    Calls Tryz.prog 132 #[.int .u64 d, .int .i64 (-(q : Int)), .bool n] w fun e w' => ExV (some R) n e ∧ ∃ k, w' = w.drewN k := by
  have m := T.m
  obtain ⟨og, cp, s, tc⟩ := T.ex
  have e1 : (d : Int) / 4503599627370496 = 0 := by omega
  have c1 := tc q (by omega)
  clear tc
  cases n with
  | true =>
    have hn := fneg hFl w
    have hm := fun w => run_float_arith (P := Tryz.prog) w .quo 65 .f64 (sgN true F) (ft q) (sgN true R) (sgN_div true hFl hRl hR)
    clear hR hRl hFl
    generalize sgN true F = XF at *
    clear T
    go_enter Tryz.func132, Tryz.ntmps132
    go_wp2_with (fail)
    all_goals (go_ret2; first | exact ⟨rfl, 0, rfl⟩ | exact ⟨rfl, 1, rfl⟩ | exact ⟨rfl, 2, rfl⟩)
  | false =>
    have hn := fneg hFl w
    have hm := fun w => run_float_arith (P := Tryz.prog) w .quo 65 .f64 (sgN false F) (ft q) (sgN false R) (sgN_div false hFl hRl hR)
    clear hR hRl hFl
    simp only [sgN_false] at *
    clear T
    go_enter Tryz.func132, Tryz.ntmps132
    go_wp2_with (fail)
    all_goals (go_ret2; first | exact ⟨rfl, 0, rfl⟩ | exact ⟨rfl, 1, rfl⟩ | exact ⟨rfl, 2, rfl⟩)

set_option maxRecDepth 100000 in
set_option maxHeartbeats 1600000 in
theorem ex_far (d F : Nat) (g : Nat) (ft : Nat → Nat) (n : Bool) (w : World) (T : FTab w g ft) (hd : d < 4503599627370496) (hF : floatOfInt .f64 (d : Int) = F) (hFl : F < 2 ^ 63) (p : Int) (hp : 37 < p ∨ p < -22) :
    Calls Tryz.prog 132 #[.int .u64 d, .int .i64 p, .bool n] w fun e w' => ExV none n e ∧ ∃ k, w' = w.drewN k := by
  have m := T.m
  obtain ⟨og, cp, s, tc⟩ := T.ex
  have e1 : (d : Int) / 4503599627370496 = 0 := by omega
  have e2 : (decide (p > 0) && decide (p ≤ 37)) = false := by simp; omega
  have e3 : (decide (p < 0) && decide (p ≥ -22)) = false := by simp; omega
  have e4 : (p == 0) = false := by simp; omega
  clear tc
  cases n with
  | true =>
    have hn := fneg hFl w
    clear hFl
    go_enter Tryz.func132, Tryz.ntmps132
    go_wp2_with (fail)
    all_goals (go_ret2; first | exact ⟨⟨_, rfl⟩, 0, rfl⟩ | exact ⟨⟨_, rfl⟩, 1, rfl⟩ | exact ⟨⟨_, rfl⟩, 2, rfl⟩)
  | false =>
    have hn := fneg hFl w
    clear hFl
    go_enter Tryz.func132, Tryz.ntmps132
    go_wp2_with (fail)
    all_goals (go_ret2; first | exact ⟨⟨_, rfl⟩, 0, rfl⟩ | exact ⟨⟨_, rfl⟩, 1, rfl⟩ | exact ⟨⟨_, rfl⟩, 2, rfl⟩)

end Go.Proofs.YtlckfiflfkbofaaGreatDoor

/- atof64exact of internal/strconv, its cases joined. -/
namespace Go.Proofs.YtlckfiflfkbofaaGreatDoor
open Go.RowKit

theorem rung_fin {x K : Nat} (h : x ≤ K * 2 ^ 52) (hK : K ≤ 2046) : x < infN := by unfold infN; omega

theorem ex_calls (d : Nat) (p : Int) (g : Nat) (ft : Nat → Nat) (ok : FOk ft) : ∃ V : Option Nat, (∀ B, V = some B → B < infN) ∧ ∀ (n : Bool) (w : World), FTab w g ft →
    Calls Tryz.prog 132 #[.int .u64 d, .int .i64 p, .bool n] w fun e w' => ExV V n e ∧ ∃ k, w' = w.drewN k := by
  by_cases hd : 4503599627370496 ≤ d
  · exact ⟨none, by simp, fun n w T => ex_big d 0 g ft n w T p hd⟩
  have hd : d < 4503599627370496 := by omega
  obtain ⟨F, hF, hFr⟩ := fint d hd
  have hFl : F < 2 ^ 63 := by omega
  by_cases h0 : p = 0
  · subst h0
    exact ⟨some F, by intro B h; cases h; exact rung_fin hFr (by omega), fun n w T => ex_zero d F g ft n w T hd hF hFl⟩
  by_cases hfar : 37 < p ∨ p < -22
  · exact ⟨none, by simp, fun n w T => ex_far d F g ft n w T hd hF hFl p hfar⟩
  by_cases hneg : p < 0
  · obtain ⟨q, rfl⟩ : ∃ q : Nat, p = -(q : Int) := ⟨(-p).toNat, by omega⟩
    obtain ⟨R, hR, hRr⟩ := Fl.div_pos (x := F) (A := 1100) (C := 1100) (by omega) (ok.hi q (by omega)) (ok.lo q (by omega)) (by omega) (by omega) (by omega)
    exact ⟨some R, by intro B h; cases h; exact rung_fin hRr (by omega), fun n w T => ex_neg d F g ft n w T hd hF hFl q (by omega) (by omega) R hR (by omega)⟩
  by_cases hsm : p ≤ 22
  · obtain ⟨q, rfl⟩ : ∃ q : Nat, p = (q : Int) := ⟨p.toNat, by omega⟩
    obtain ⟨R, hR, hRr⟩ := Fl.mul_pos (x := F) (A := 1075) (C := 1100) hFr (ok.hi q (by omega)) (by omega) (by omega) (by omega) (by omega)
    by_cases hin : ((Ieee.double.order F big1 == some .gt) || (Ieee.double.order F big2 == some .lt)) = true
    · refine ⟨none, by simp, fun n w T => ?_⟩
      rcases sgN_out n hFl hin with h | ⟨h1, h2⟩
      · exact ex_s_o1 d F g ft n w T hd hF hFl q (by omega) (by omega) h
      · exact ex_s_o2 d F g ft n w T hd hF hFl q (by omega) (by omega) h1 h2
    · exact ⟨some R, by intro B h; cases h; exact rung_fin hRr (by omega), fun n w T => ex_s_in d F g ft n w T hd hF hFl q (by omega) (by omega) R hR (by omega) (by simpa using hin)⟩
  · obtain ⟨q, rfl⟩ : ∃ q : Nat, p = ((q + 22 : Nat) : Int) := ⟨(p - 22).toNat, by omega⟩
    obtain ⟨G, hG, hGr⟩ := Fl.mul_pos (x := F) (A := 1075) (C := 1100) hFr (ok.hi q (by omega)) (by omega) (by omega) (by omega) (by omega)
    have hGl : G < 2 ^ 63 := by omega
    obtain ⟨R, hR, hRr⟩ := Fl.mul_pos (x := G) (A := 1156) (C := 1100) hGr (ok.hi 22 (by omega)) (by omega) (by omega) (by omega) (by omega)
    by_cases hin : ((Ieee.double.order G big1 == some .gt) || (Ieee.double.order G big2 == some .lt)) = true
    · refine ⟨none, by simp, fun n w T => ?_⟩
      rcases sgN_out n hGl hin with h | ⟨h1, h2⟩
      · exact ex_b_o1 d F g ft n w T hd hF hFl q (by omega) (by omega) G hG hGl h
      · exact ex_b_o2 d F g ft n w T hd hF hFl q (by omega) (by omega) G hG hGl h1 h2
    · exact ⟨some R, by intro B h; cases h; exact rung_fin hRr (by omega), fun n w T => ex_b_in d F g ft n w T hd hF hFl q (by omega) (by omega) G hG hGl R hR (by omega) (by simpa using hin)⟩

end Go.Proofs.YtlckfiflfkbofaaGreatDoor

/- Plain: the decimal of a word apart from its sign; floatBits' answer goes by no sign; bounds on the mantissa. -/
namespace Go.Proofs.YtlckfiflfkbofaaGreatDoor
open Go.RowKit

theorem Dc.sg_sg (s : Dc) (a b : Bool) : (s.sg a).sg b = s.sg b := rfl
theorem fl1_sg (b : Bool) : ∀ (f : Nat) (s : Dc) (e : Int), fl1 f (s.sg b) e = ((fl1 f s e).1.sg b, (fl1 f s e).2)
  | 0, _, _ => rfl
  | f + 1, s, e => by
    rw [fl1, fl1]
    show (if 0 < s.dp then _ else _) = _
    split
    · have : (s.sg b).rsh (pw (s.sg b).dp.toNat) = (s.rsh (pw s.dp.toNat)).sg b := rfl
      rw [this, fl1_sg b f]; rfl
    · rfl
theorem fl2_sg (b : Bool) : ∀ (f : Nat) (s : Dc) (e : Int), fl2 f (s.sg b) e = ((fl2 f s e).1.sg b, (fl2 f s e).2)
  | 0, _, _ => rfl
  | f + 1, s, e => by
    rw [fl2, fl2]
    show (if s.dp < 0 ∨ (s.dp = 0 ∧ s.d 0 < 53) then _ else _) = _
    split
    · have : (s.sg b).lsh (pw (-(s.sg b).dp).toNat) = (s.lsh (pw (-s.dp).toNat)).sg b := rfl
      rw [this, fl2_sg b f]; rfl
    · rfl
theorem fbEnd_sg (b : Bool) (s : Dc) (e : Int) : fbEnd (s.sg b) e = fbEnd s e := by
  unfold fbEnd
  rw [lsh_sg, rint_sg]
theorem fbRes_sg (b : Bool) (s : Dc) : fbRes (s.sg b) = fbRes s := by
  unfold fbRes
  show (if s.nd = 0 then _ else if 310 < s.dp then _ else if s.dp < -330 then _ else _) = _
  split
  · rfl
  · split
    · rfl
    · split
      · rfl
      · dsimp only
        have hr1 : R1 (s.sg b) = R1 s := rfl
        rw [hr1, fl1_sg]
        dsimp only
        have hr2 : R2 ((fl1 (R1 s) s 0).1.sg b) = R2 (fl1 (R1 s) s 0).1 := rfl
        rw [hr2, fl2_sg]
        dsimp only
        rw [rshN_sg, fbEnd_sg, fbEnd_sg]

theorem Ds.step_sg (r : Ds) (b : Bool) (c : UInt8) : Ds.step { r with s := r.s.sg b } c = { (r.step c) with s := (r.step c).s.sg b } := by
  unfold Ds.step
  dsimp only [Dc.sg]
  by_cases h1 : c.toNat = 46
  · simp only [if_pos h1]
  · by_cases h2 : c.toNat = 48 ∧ r.s.nd = 0
    · simp only [if_neg h1, if_pos h2]; exact if_pos h2
    · by_cases h3 : r.s.nd < 800
      · simp only [if_neg h1, if_neg h2, if_pos h3]; exact (if_neg h2).trans (if_pos h3)
      · simp only [if_neg h1, if_neg h2, if_neg h3]; exact (if_neg h2).trans (if_neg h3)
theorem Ds.fold_sg (b : Bool) : ∀ (l : List UInt8) (r : Ds), l.foldl Ds.step { r with s := r.s.sg b } = { (l.foldl Ds.step r) with s := (l.foldl Ds.step r).s.sg b }
  | [], _ => rfl
  | c :: l, r => by
    rw [List.foldl_cons, List.foldl_cons, Ds.step_sg, Ds.fold_sg b l]
theorem Num.dc_sg (n : Num) (b : Bool) : n.dc b = (n.dc false).sg b := by
  have h : Ds.of b n.m = { (Ds.of false n.m) with s := (Ds.of false n.m).s.sg b } := by
    unfold Ds.of
    rw [← Ds.fold_sg]; rfl
  unfold Num.dc
  rw [h]
  rfl

theorem okM_all : ∀ (l : List UInt8) (dot : Bool), okM l dot = true → ∀ c ∈ l, c.toNat = 46 ∨ isDg c = true
  | [], _, _ => by simp
  | c :: r, dot, h => by
    intro x hx
    rcases okM_cons h with ⟨h1, _, h3⟩ | ⟨_, h2, h3⟩
    · rcases List.mem_cons.1 hx with rfl | hx
      · exact Or.inl h1
      · exact okM_all r true h3 x hx
    · rcases List.mem_cons.1 hx with rfl | hx
      · exact Or.inr h2
      · exact okM_all r dot h3 x hx

theorem Ds.fold_bd : ∀ (l : List UInt8) (r : Ds) (k : Nat), r.Bd k → (∀ c ∈ l, c.toNat = 46 ∨ isDg c = true) → (l.foldl Ds.step r).Bd (k + l.length)
  | [], _, _, h, _ => h
  | c :: l, r, k, h, hc => by
    have := Ds.fold_bd l (r.step c) (k + 1) (h.step (hc c (by simp))) (fun x hx => hc x (by simp [hx]))
    rw [List.foldl_cons, List.length_cons, show k + (l.length + 1) = k + 1 + l.length by omega]
    exact this
theorem Rf.fold_bd : ∀ (l : List UInt8) (r : Rf) (k : Nat), r.Bd k → (∀ c ∈ l, c.toNat = 46 ∨ isDg c = true) → (l.foldl Rf.step r).Bd (k + l.length)
  | [], _, _, h, _ => h
  | c :: l, r, k, h, hc => by
    have := Rf.fold_bd l (r.step c) (k + 1) (h.step (hc c (by simp))) (fun x hx => hc x (by simp [hx]))
    rw [List.foldl_cons, List.length_cons, show k + (l.length + 1) = k + 1 + l.length by omega]
    exact this

theorem Num.dc_good (n : Num) (ok : n.Ok) (b : Bool) : (n.dc b).nd = 0 ∨ Good (n.dc b) := by
  have h0 : Ds.Bd { s := Dc.zero b } 0 := ⟨Nat.le_refl _, by show 0 ≤ 800; omega, fun i hi => absurd hi (Nat.not_lt_zero _), fun h => absurd h (by show ¬ 1 ≤ 0; omega), by show (0 : Int) ≤ 0; omega, by show (0 : Int) ≤ 0; omega⟩
  have h := Ds.fold_bd n.m _ 0 h0 (okM_all n.m false ok.m)
  by_cases hz : (n.dc b).nd = 0
  · exact Or.inl hz
  · refine Or.inr ⟨by omega, h.n8, h.dig, h.top (by show 1 ≤ (n.dc b).nd; omega)⟩

theorem Num.mant_lt (n : Num) (ok : n.Ok) : n.rf.mant < 10 ^ 19 := by
  have h0 : Rf.Bd {} 0 := ⟨Nat.le_refl _, by show 0 ≤ 19; omega, by show 0 < 10 ^ 0; decide, by show (0 : Int) ≤ 0; omega, by show (0 : Int) ≤ 0; omega⟩
  have h := Rf.fold_bd n.m _ 0 h0 (okM_all n.m false ok.m)
  refine Nat.lt_of_lt_of_le h.mant (Nat.pow_le_pow_right (by decide) h.ndm)

end Go.Proofs.YtlckfiflfkbofaaGreatDoor

/- atof64 of internal/strconv at a decimal: one magnitude and one error for either sign. -/
namespace Go.Proofs.YtlckfiflfkbofaaGreatDoor
open Go.RowKit

/-- The library's tables, as far as reading a decimal comes to them. -/
structure Tabs (w : World) (G g Bp op cp Bc oc cc : Nat) (ft pt : Nat → Nat) : Prop where
  fb : FbAt w G Bp op cp Bc oc cc
  f : FTab w g ft
  fok : FOk ft
  p : PTab w pt
  o : w.cell? ⟨9, 0, none⟩ = some (.bool true)
  gG : g < G
  G19 : 19 ≤ G
  GW : G ≤ w.heap.size

/-- What is kept below a bound keeps the tables. -/
theorem Tabs.keep {w w' : World} {G g Bp op cp Bc oc cc : Nat} {ft pt : Nat → Nat} (h : Tabs w G g Bp op cp Bc oc cc ft pt) {S : Nat → Prop} (k : Keep S w w') (hS : ∀ i, i < G → ¬ S i) : Tabs w' G g Bp op cp Bc oc cc ft pt := by
  have key : ∀ (B o : Nat) (v : Value), B < G → w.cell? ⟨B, o, none⟩ = some v → w'.cell? ⟨B, o, none⟩ = some v := fun B o v hB hc => k.cell hc (hS _ hB)
  have hg := h.fb.g
  exact ⟨⟨h.fb.g, h.fb.gp, h.fb.gc, key _ _ _ (by omega) h.fb.m, key _ _ _ (by omega) h.fb.e, key _ _ _ (by omega) h.fb.b, key _ _ _ (by omega) h.fb.pv, fun i hi => key _ _ _ h.fb.gp (h.fb.p i hi),
      fun q h1 h2 => ⟨key _ _ _ (by omega) (h.fb.c q h1 h2).v, key _ _ _ h.fb.gc (h.fb.c q h1 h2).d, key _ _ _ h.fb.gc (h.fb.c q h1 h2).c⟩⟩,
    ⟨key _ _ _ (by omega) h.f.m, match h.f.ex with | ⟨og, cp, a, b⟩ => ⟨og, cp, key _ _ _ (by omega) a, fun i hi => key _ _ _ h.gG (b i hi)⟩⟩, h.fok,
    ⟨fun i hi => key _ _ _ (by omega) (h.p.c i hi), h.p.b⟩, key _ _ _ (by omega) h.o, h.gG, h.G19, Nat.le_trans h.GW k.size⟩

def AtV (B : Nat) (E : Bool) (n : Bool) (k : Nat) (e : Ending) : Prop := e = .returned (.tuple #[.float .f64 (sgN n B), .int .i64 k, errV E])

theorem or_lit {x : Nat} (h : x < 18446744073709551616) : Go.bits .or .u64 (x : Int) 0 = x := by
  have := u64_or_nat x 0 h (by decide)
  simpa using this

set_option maxRecDepth 100000 in
set_option maxHeartbeats 1600000 in
theorem at_zero (s : ByteArray) (d : Nat) (p : Int) (neg tr : Bool) (hsz : s.size ≤ 3000) (hd : d < 10000000000000000000)
    (hsp : ∀ w, Calls Tryz.prog 121 #[.string s] w fun e w' => e = .returned (.tuple #[.float .f64 0, .int .i64 0, .bool false]) ∧ w = w')
    (hrf : ∀ w, Calls Tryz.prog 122 #[.string s] w fun e w' => e = .returned (.tuple #[.int .u64 d, .int .i64 p, .bool neg, .bool tr, .bool false, .int .i64 s.size, .bool true]) ∧ w = w')
    (w : World) (o : w.cell? ⟨9, 0, none⟩ = some (.bool true)) (h0 : d = 0) :
    Calls Tryz.prog 115 #[.string s] w fun e w' => AtV 0 false neg s.size e ∧ Keep (fun _ => False) w w' := by
  subst h0
  cases neg with
  | true =>
    have fb := frombits_run 9223372036854775808
    have ob : Go.bits .or .u64 9223372036854775808 0 = 9223372036854775808 := by decide
    go_enter Tryz.func115, Tryz.ntmps115
    go_wp2_with (first | (go_at_call 121; refine (hsp _).mono ?_; rintro e w' ⟨rfl, rfl⟩) | (go_at_call 122; refine (hrf _).mono ?_; rintro e w' ⟨rfl, rfl⟩) | (go_at_call 130; refine (b2u_calls _ _).mono ?_; rintro e w' ⟨rfl, rfl⟩))
    go_ret3
    exact ⟨rfl, (Keep.refl _ _)⟩
  | false =>
    have fb := frombits_run 0
    have ob : Go.bits .or .u64 0 0 = 0 := by decide
    go_enter Tryz.func115, Tryz.ntmps115
    go_wp2_with (first | (go_at_call 121; refine (hsp _).mono ?_; rintro e w' ⟨rfl, rfl⟩) | (go_at_call 122; refine (hrf _).mono ?_; rintro e w' ⟨rfl, rfl⟩) | (go_at_call 130; refine (b2u_calls _ _).mono ?_; rintro e w' ⟨rfl, rfl⟩))
    go_ret3
    exact ⟨rfl, (Keep.refl _ _)⟩

set_option maxRecDepth 100000 in
set_option maxHeartbeats 1600000 in
theorem at_low (s : ByteArray) (d : Nat) (p : Int) (neg tr : Bool) (hsz : s.size ≤ 3000) (hd : d < 10000000000000000000)
    (hsp : ∀ w, Calls Tryz.prog 121 #[.string s] w fun e w' => e = .returned (.tuple #[.float .f64 0, .int .i64 0, .bool false]) ∧ w = w')
    (hrf : ∀ w, Calls Tryz.prog 122 #[.string s] w fun e w' => e = .returned (.tuple #[.int .u64 d, .int .i64 p, .bool neg, .bool tr, .bool false, .int .i64 s.size, .bool true]) ∧ w = w')
    (w : World) (o : w.cell? ⟨9, 0, none⟩ = some (.bool true)) (h0 : d ≠ 0) (hp : p < -345) :
    Calls Tryz.prog 115 #[.string s] w fun e w' => AtV 0 false neg s.size e ∧ Keep (fun _ => False) w w' := by
  have e0 : ((d : Int) == 0) = false := by simp; exact h0
  have e1 : decide (p > 310) = false := decide_eq_false (by omega)
  have e2 : decide (p < -345) = true := decide_eq_true (by omega)
  cases neg with
  | true =>
    have fb := frombits_run 9223372036854775808
    have ob : Go.bits .or .u64 9223372036854775808 0 = 9223372036854775808 := by decide
    go_enter Tryz.func115, Tryz.ntmps115
    go_wp2_with (first | (go_at_call 121; refine (hsp _).mono ?_; rintro e w' ⟨rfl, rfl⟩) | (go_at_call 122; refine (hrf _).mono ?_; rintro e w' ⟨rfl, rfl⟩) | (go_at_call 130; refine (b2u_calls _ _).mono ?_; rintro e w' ⟨rfl, rfl⟩))
    go_ret3
    exact ⟨rfl, (Keep.refl _ _)⟩
  | false =>
    have fb := frombits_run 0
    have ob : Go.bits .or .u64 0 0 = 0 := by decide
    go_enter Tryz.func115, Tryz.ntmps115
    go_wp2_with (first | (go_at_call 121; refine (hsp _).mono ?_; rintro e w' ⟨rfl, rfl⟩) | (go_at_call 122; refine (hrf _).mono ?_; rintro e w' ⟨rfl, rfl⟩) | (go_at_call 130; refine (b2u_calls _ _).mono ?_; rintro e w' ⟨rfl, rfl⟩))
    go_ret3
    exact ⟨rfl, (Keep.refl _ _)⟩

set_option maxRecDepth 100000 in
set_option maxHeartbeats 1600000 in
theorem at_high (s : ByteArray) (d : Nat) (p : Int) (neg tr : Bool) (hsz : s.size ≤ 3000) (hd : d < 10000000000000000000)
    (hsp : ∀ w, Calls Tryz.prog 121 #[.string s] w fun e w' => e = .returned (.tuple #[.float .f64 0, .int .i64 0, .bool false]) ∧ w = w')
    (hrf : ∀ w, Calls Tryz.prog 122 #[.string s] w fun e w' => e = .returned (.tuple #[.int .u64 d, .int .i64 p, .bool neg, .bool tr, .bool false, .int .i64 s.size, .bool true]) ∧ w = w')
    (w : World) (o : w.cell? ⟨9, 0, none⟩ = some (.bool true)) (h0 : d ≠ 0) (hp : 310 < p) :
    Calls Tryz.prog 115 #[.string s] w fun e w' => AtV infN true neg s.size e ∧ Keep (fun _ => False) w w' := by
  have e0 : ((d : Int) == 0) = false := by simp; exact h0
  have e1 : decide (p > 310) = true := decide_eq_true (by omega)
  cases neg with
  | true =>
    have fb := frombits_run (sgN true infN : Nat)
    have ob : Go.bits .or .u64 9223372036854775808 9218868437227405312 = (sgN true infN : Nat) := by decide
    go_enter Tryz.func115, Tryz.ntmps115
    go_wp2_with (first | (go_at_call 121; refine (hsp _).mono ?_; rintro e w' ⟨rfl, rfl⟩) | (go_at_call 122; refine (hrf _).mono ?_; rintro e w' ⟨rfl, rfl⟩) | (go_at_call 130; refine (b2u_calls _ _).mono ?_; rintro e w' ⟨rfl, rfl⟩))
    go_ret3
    exact ⟨rfl, (Keep.refl _ _)⟩
  | false =>
    have fb := frombits_run (sgN false infN : Nat)
    have ob : Go.bits .or .u64 0 9218868437227405312 = (sgN false infN : Nat) := by decide
    go_enter Tryz.func115, Tryz.ntmps115
    go_wp2_with (first | (go_at_call 121; refine (hsp _).mono ?_; rintro e w' ⟨rfl, rfl⟩) | (go_at_call 122; refine (hrf _).mono ?_; rintro e w' ⟨rfl, rfl⟩) | (go_at_call 130; refine (b2u_calls _ _).mono ?_; rintro e w' ⟨rfl, rfl⟩))
    go_ret3
    exact ⟨rfl, (Keep.refl _ _)⟩

set_option maxRecDepth 100000 in
set_option maxHeartbeats 1600000 in
theorem at_exact (s : ByteArray) (d : Nat) (p : Int) (neg tr : Bool) (hsz : s.size ≤ 3000) (hd : d < 10000000000000000000)
    (hsp : ∀ w, Calls Tryz.prog 121 #[.string s] w fun e w' => e = .returned (.tuple #[.float .f64 0, .int .i64 0, .bool false]) ∧ w = w')
    (hrf : ∀ w, Calls Tryz.prog 122 #[.string s] w fun e w' => e = .returned (.tuple #[.int .u64 d, .int .i64 p, .bool neg, .bool tr, .bool false, .int .i64 s.size, .bool true]) ∧ w = w')
    (w : World) (o : w.cell? ⟨9, 0, none⟩ = some (.bool true)) (h0 : d ≠ 0) (hp1 : -345 ≤ p) (hp2 : p ≤ 310) (ht : tr = false) (B : Nat) (hex : Calls Tryz.prog 132 #[.int .u64 d, .int .i64 p, .bool neg] w fun e w' => e = .returned (.tuple #[.float .f64 (sgN neg B), .bool true]) ∧ ∃ k, w' = w.drewN k)  :
    Calls Tryz.prog 115 #[.string s] w fun e w' => AtV B false neg s.size e ∧ Keep (fun _ => False) w w' := by
  have e0 : ((d : Int) == 0) = false := by simp; exact h0
  have e1 : decide (p > 310) = false := decide_eq_false (by omega)
  have e2 : decide (p < -345) = false := decide_eq_false (by omega)
  subst ht
  cases neg with
  | true =>
    go_enter Tryz.func115, Tryz.ntmps115
    go_wp2_with (first | (go_at_call 121; refine (hsp _).mono ?_; rintro e w' ⟨rfl, rfl⟩) | (go_at_call 122; refine (hrf _).mono ?_; rintro e w' ⟨rfl, rfl⟩) | (go_at_call 130; refine (b2u_calls _ _).mono ?_; rintro e w' ⟨rfl, rfl⟩) | (go_at_call 132; refine hex.mono ?_; rintro e w' ⟨rfl, k, rfl⟩))
    go_ret3
    exact ⟨rfl, ((Keep.refl _ _).drewN k)⟩
  | false =>
    go_enter Tryz.func115, Tryz.ntmps115
    go_wp2_with (first | (go_at_call 121; refine (hsp _).mono ?_; rintro e w' ⟨rfl, rfl⟩) | (go_at_call 122; refine (hrf _).mono ?_; rintro e w' ⟨rfl, rfl⟩) | (go_at_call 130; refine (b2u_calls _ _).mono ?_; rintro e w' ⟨rfl, rfl⟩) | (go_at_call 132; refine hex.mono ?_; rintro e w' ⟨rfl, k, rfl⟩))
    go_ret3
    exact ⟨rfl, ((Keep.refl _ _).drewN k)⟩

set_option maxRecDepth 100000 in
set_option maxHeartbeats 1600000 in
theorem at_fast (s : ByteArray) (d : Nat) (p : Int) (neg tr : Bool) (hsz : s.size ≤ 3000) (hd : d < 10000000000000000000)
    (hsp : ∀ w, Calls Tryz.prog 121 #[.string s] w fun e w' => e = .returned (.tuple #[.float .f64 0, .int .i64 0, .bool false]) ∧ w = w')
    (hrf : ∀ w, Calls Tryz.prog 122 #[.string s] w fun e w' => e = .returned (.tuple #[.int .u64 d, .int .i64 p, .bool neg, .bool tr, .bool false, .int .i64 s.size, .bool true]) ∧ w = w')
    (w : World) (o : w.cell? ⟨9, 0, none⟩ = some (.bool true)) (h0 : d ≠ 0) (hp1 : -345 ≤ p) (hp2 : p ≤ 310) (ht : tr = false) (hex : Calls Tryz.prog 132 #[.int .u64 d, .int .i64 p, .bool neg] w fun e w' => (∃ x : Nat, e = .returned (.tuple #[.float .f64 x, .bool false])) ∧ ∃ k, w' = w.drewN k) (B1 : Nat) (E1 : Bool) (hpf : ∀ wx, Keep (fun _ => False) w wx → Calls Tryz.prog 133 #[.int .u64 d, .int .i64 p, .int .u64 (sgN neg 0 : Nat)] wx fun e w' => e = .returned (.tuple #[.float .f64 (sgN neg B1), errV E1]) ∧ Keep (fun _ => False) wx w')  :
    Calls Tryz.prog 115 #[.string s] w fun e w' => AtV B1 E1 neg s.size e ∧ Keep (fun _ => False) w w' := by
  have e0 : ((d : Int) == 0) = false := by simp; exact h0
  have e1 : decide (p > 310) = false := decide_eq_false (by omega)
  have e2 : decide (p < -345) = false := decide_eq_false (by omega)
  subst ht
  cases neg with
  | true =>
    have hpf1 : ∀ wx, Keep (fun _ => False) w wx → Calls Tryz.prog 133 #[.int .u64 d, .int .i64 p, .int .u64 9223372036854775808] wx _ := hpf
    clear hpf
    go_enter Tryz.func115, Tryz.ntmps115
    go_wp2_with (first | (go_at_call 121; refine (hsp _).mono ?_; rintro e w' ⟨rfl, rfl⟩) | (go_at_call 122; refine (hrf _).mono ?_; rintro e w' ⟨rfl, rfl⟩) | (go_at_call 130; refine (b2u_calls _ _).mono ?_; rintro e w' ⟨rfl, rfl⟩) | (go_at_call 132; refine hex.mono ?_; rintro e w' ⟨⟨x, rfl⟩, k, rfl⟩) | (go_at_call 133; refine (hpf1 _ ((Keep.refl _ _).drewN k)).mono ?_; rintro e w' ⟨rfl, hK⟩))
    go_ret3
    exact ⟨rfl, (((Keep.refl _ _).drewN k).trans hK)⟩
  | false =>
    have hpf1 : ∀ wx, Keep (fun _ => False) w wx → Calls Tryz.prog 133 #[.int .u64 d, .int .i64 p, .int .u64 0] wx _ := hpf
    clear hpf
    go_enter Tryz.func115, Tryz.ntmps115
    go_wp2_with (first | (go_at_call 121; refine (hsp _).mono ?_; rintro e w' ⟨rfl, rfl⟩) | (go_at_call 122; refine (hrf _).mono ?_; rintro e w' ⟨rfl, rfl⟩) | (go_at_call 130; refine (b2u_calls _ _).mono ?_; rintro e w' ⟨rfl, rfl⟩) | (go_at_call 132; refine hex.mono ?_; rintro e w' ⟨⟨x, rfl⟩, k, rfl⟩) | (go_at_call 133; refine (hpf1 _ ((Keep.refl _ _).drewN k)).mono ?_; rintro e w' ⟨rfl, hK⟩))
    go_ret3
    exact ⟨rfl, (((Keep.refl _ _).drewN k).trans hK)⟩

set_option maxRecDepth 100000 in
set_option maxHeartbeats 1600000 in
theorem at_near (s : ByteArray) (d : Nat) (p : Int) (neg tr : Bool) (hsz : s.size ≤ 3000) (hd : d < 10000000000000000000)
    (hsp : ∀ w, Calls Tryz.prog 121 #[.string s] w fun e w' => e = .returned (.tuple #[.float .f64 0, .int .i64 0, .bool false]) ∧ w = w')
    (hrf : ∀ w, Calls Tryz.prog 122 #[.string s] w fun e w' => e = .returned (.tuple #[.int .u64 d, .int .i64 p, .bool neg, .bool tr, .bool false, .int .i64 s.size, .bool true]) ∧ w = w')
    (w : World) (o : w.cell? ⟨9, 0, none⟩ = some (.bool true)) (h0 : d ≠ 0) (hp1 : -345 ≤ p) (hp2 : p ≤ 310) (ht : tr = true) (B1 : Nat) (E1 : Bool) (hpf : ∀ wx, Keep (fun _ => False) w wx → Calls Tryz.prog 133 #[.int .u64 d, .int .i64 p, .int .u64 (sgN neg 0 : Nat)] wx fun e w' => e = .returned (.tuple #[.float .f64 (sgN neg B1), errV E1]) ∧ Keep (fun _ => False) wx w') (B2 : Nat) (E2 : Bool) (hpf2 : ∀ wx, Keep (fun _ => False) w wx → Calls Tryz.prog 133 #[.int .u64 ((d : Int) + 1), .int .i64 p, .int .u64 (sgN neg 0 : Nat)] wx fun e w' => e = .returned (.tuple #[.float .f64 (sgN neg B2), errV E2]) ∧ Keep (fun _ => False) wx w') (heq : (FloatKind.f64.format.order (sgN neg B1) (sgN neg B2) == some .eq) = true)  :
    Calls Tryz.prog 115 #[.string s] w fun e w' => AtV B1 E1 neg s.size e ∧ Keep (fun _ => False) w w' := by
  have e0 : ((d : Int) == 0) = false := by simp; exact h0
  have e1 : decide (p > 310) = false := decide_eq_false (by omega)
  have e2 : decide (p < -345) = false := decide_eq_false (by omega)
  subst ht
  cases neg with
  | true =>
    have hpf1 : ∀ wx, Keep (fun _ => False) w wx → Calls Tryz.prog 133 #[.int .u64 d, .int .i64 p, .int .u64 9223372036854775808] wx _ := hpf
    clear hpf
    have hpf3 : ∀ wx, Keep (fun _ => False) w wx → Calls Tryz.prog 133 #[.int .u64 ((d : Int) + 1), .int .i64 p, .int .u64 9223372036854775808] wx _ := hpf2
    clear hpf2
    go_enter Tryz.func115, Tryz.ntmps115
    go_wp2_with (first | (go_at_call 121; refine (hsp _).mono ?_; rintro e w' ⟨rfl, rfl⟩) | (go_at_call 122; refine (hrf _).mono ?_; rintro e w' ⟨rfl, rfl⟩) | (go_at_call 130; refine (b2u_calls _ _).mono ?_; rintro e w' ⟨rfl, rfl⟩) | (go_at_call 133; refine (hpf1 _ (Keep.refl _ _)).mono ?_; rintro e w' ⟨rfl, hK⟩; refine Hid.out ?_))
    refine Lib.hid ?_
    go_wp2_with (go_at_call 133; refine (hpf3 _ hK).mono ?_; rintro e w' ⟨rfl, hK2⟩)
    go_ret3
    exact ⟨rfl, hK.trans hK2⟩
  | false =>
    have hpf1 : ∀ wx, Keep (fun _ => False) w wx → Calls Tryz.prog 133 #[.int .u64 d, .int .i64 p, .int .u64 0] wx _ := hpf
    clear hpf
    have hpf3 : ∀ wx, Keep (fun _ => False) w wx → Calls Tryz.prog 133 #[.int .u64 ((d : Int) + 1), .int .i64 p, .int .u64 0] wx _ := hpf2
    clear hpf2
    go_enter Tryz.func115, Tryz.ntmps115
    go_wp2_with (first | (go_at_call 121; refine (hsp _).mono ?_; rintro e w' ⟨rfl, rfl⟩) | (go_at_call 122; refine (hrf _).mono ?_; rintro e w' ⟨rfl, rfl⟩) | (go_at_call 130; refine (b2u_calls _ _).mono ?_; rintro e w' ⟨rfl, rfl⟩) | (go_at_call 133; refine (hpf1 _ (Keep.refl _ _)).mono ?_; rintro e w' ⟨rfl, hK⟩; refine Hid.out ?_))
    refine Lib.hid ?_
    go_wp2_with (go_at_call 133; refine (hpf3 _ hK).mono ?_; rintro e w' ⟨rfl, hK2⟩)
    go_ret3
    exact ⟨rfl, hK.trans hK2⟩

set_option maxRecDepth 100000 in
set_option maxHeartbeats 1600000 in
theorem at_slow (s : ByteArray) (d : Nat) (p : Int) (neg tr : Bool) (hsz : s.size ≤ 3000) (hd : d < 10000000000000000000)
    (hsp : ∀ w, Calls Tryz.prog 121 #[.string s] w fun e w' => e = .returned (.tuple #[.float .f64 0, .int .i64 0, .bool false]) ∧ w = w')
    (hrf : ∀ w, Calls Tryz.prog 122 #[.string s] w fun e w' => e = .returned (.tuple #[.int .u64 d, .int .i64 p, .bool neg, .bool tr, .bool false, .int .i64 s.size, .bool true]) ∧ w = w')
    (w : World) (o : w.cell? ⟨9, 0, none⟩ = some (.bool true)) (h0 : d ≠ 0) (hp1 : -345 ≤ p) (hp2 : p ≤ 310) (ht : tr = true) (B1 : Nat) (E1 : Bool) (hpf : ∀ wx, Keep (fun _ => False) w wx → Calls Tryz.prog 133 #[.int .u64 d, .int .i64 p, .int .u64 (sgN neg 0 : Nat)] wx fun e w' => e = .returned (.tuple #[.float .f64 (sgN neg B1), errV E1]) ∧ Keep (fun _ => False) wx w') (B2 : Nat) (E2 : Bool) (hpf2 : ∀ wx, Keep (fun _ => False) w wx → Calls Tryz.prog 133 #[.int .u64 ((d : Int) + 1), .int .i64 p, .int .u64 (sgN neg 0 : Nat)] wx fun e w' => e = .returned (.tuple #[.float .f64 (sgN neg B2), errV E2]) ∧ Keep (fun _ => False) wx w') (heq : (FloatKind.f64.format.order (sgN neg B1) (sgN neg B2) == some .eq) = false) (D : Dc) (B3 : Nat) (E3 : Bool) (hset : ∀ wx, Keep (fun _ => False) w wx → Calls Tryz.prog 128 #[.pointer (some ⟨wx.heap.size, 0, none⟩), .string s] (wx.alloc (.cells Tryz.zeroCells202 202)) fun e w' => e = .returned (.bool true) ∧ IsDc w' wx.heap.size D ∧ Keep (fun _ => False) wx w')
    (hfb : ∀ wx b, IsDc wx b D → Keep (fun _ => False) w wx → w.heap.size ≤ b → Calls Tryz.prog 129 #[.pointer (some ⟨b, 0, none⟩), .pointer (some ⟨10, 0, none⟩)] wx fun e w' => e = .returned (.tuple #[.int .u64 (sgN neg B3 : Nat), .bool E3]) ∧ Keep (At1 b) wx w')  :
    Calls Tryz.prog 115 #[.string s] w fun e w' => AtV B3 E3 neg s.size e ∧ Keep (fun _ => False) w w' := by
  have e0 : ((d : Int) == 0) = false := by simp; exact h0
  have e1 : decide (p > 310) = false := decide_eq_false (by omega)
  have e2 : decide (p < -345) = false := decide_eq_false (by omega)
  subst ht
  cases neg with
  | true =>
    have hpf1 : ∀ wx, Keep (fun _ => False) w wx → Calls Tryz.prog 133 #[.int .u64 d, .int .i64 p, .int .u64 9223372036854775808] wx _ := hpf
    clear hpf
    have hpf3 : ∀ wx, Keep (fun _ => False) w wx → Calls Tryz.prog 133 #[.int .u64 ((d : Int) + 1), .int .i64 p, .int .u64 9223372036854775808] wx _ := hpf2
    clear hpf2
    have f3 := frombits_run (sgN true B3 : Nat)
    generalize hZ : sgN true B3 = Z at *
    simp only [AtV, hZ]
    clear hZ
    go_enter Tryz.func115, Tryz.ntmps115
    go_wp2_with (first | (go_at_call 121; refine (hsp _).mono ?_; rintro e w' ⟨rfl, rfl⟩) | (go_at_call 122; refine (hrf _).mono ?_; rintro e w' ⟨rfl, rfl⟩) | (go_at_call 130; refine (b2u_calls _ _).mono ?_; rintro e w' ⟨rfl, rfl⟩) | (go_at_call 133; refine (hpf1 _ (Keep.refl _ _)).mono ?_; rintro e w' ⟨rfl, hK⟩; refine Hid.out ?_))
    refine Lib.hid ?_
    go_wp2_with (first | (go_at_call 133; refine (hpf3 _ hK).mono ?_; rintro e w2 ⟨rfl, hK2⟩; refine Hid.out ?_))
    refine Lib.hid ?_
    have hset1 := hset _ (hK.trans hK2)
    go_wp2_with (first | (go_at_call 128; refine hset1.mono ?_; rintro e w3 ⟨rfl, hI, hK3⟩; refine Hid.out ?_))
    refine Lib.hid ?_
    have hK4 := (hK.trans hK2).trans hK3
    have hfb1 := hfb _ _ hI hK4 (hK.trans hK2).size
    clear hset hset1 hfb hI
    cases E3 with
    | true =>
      go_wp2_with (first | (go_at_call 129; refine hfb1.mono ?_; rintro e w4 ⟨rfl, hK5⟩))
      go_ret3
      exact ⟨rfl, (hK.trans hK2).trans (hK3.trans' hK5 (by intro i hi h; simp only [At1] at h; omega))⟩
    | false =>
      go_wp2_with (first | (go_at_call 129; refine hfb1.mono ?_; rintro e w4 ⟨rfl, hK5⟩))
      go_ret3
      exact ⟨rfl, (hK.trans hK2).trans (hK3.trans' hK5 (by intro i hi h; simp only [At1] at h; omega))⟩
  | false =>
    have hpf1 : ∀ wx, Keep (fun _ => False) w wx → Calls Tryz.prog 133 #[.int .u64 d, .int .i64 p, .int .u64 0] wx _ := hpf
    clear hpf
    have hpf3 : ∀ wx, Keep (fun _ => False) w wx → Calls Tryz.prog 133 #[.int .u64 ((d : Int) + 1), .int .i64 p, .int .u64 0] wx _ := hpf2
    clear hpf2
    have f3 := frombits_run (sgN false B3 : Nat)
    generalize hZ : sgN false B3 = Z at *
    simp only [AtV, hZ]
    clear hZ
    go_enter Tryz.func115, Tryz.ntmps115
    go_wp2_with (first | (go_at_call 121; refine (hsp _).mono ?_; rintro e w' ⟨rfl, rfl⟩) | (go_at_call 122; refine (hrf _).mono ?_; rintro e w' ⟨rfl, rfl⟩) | (go_at_call 130; refine (b2u_calls _ _).mono ?_; rintro e w' ⟨rfl, rfl⟩) | (go_at_call 133; refine (hpf1 _ (Keep.refl _ _)).mono ?_; rintro e w' ⟨rfl, hK⟩; refine Hid.out ?_))
    refine Lib.hid ?_
    go_wp2_with (first | (go_at_call 133; refine (hpf3 _ hK).mono ?_; rintro e w2 ⟨rfl, hK2⟩; refine Hid.out ?_))
    refine Lib.hid ?_
    have hset1 := hset _ (hK.trans hK2)
    go_wp2_with (first | (go_at_call 128; refine hset1.mono ?_; rintro e w3 ⟨rfl, hI, hK3⟩; refine Hid.out ?_))
    refine Lib.hid ?_
    have hK4 := (hK.trans hK2).trans hK3
    have hfb1 := hfb _ _ hI hK4 (hK.trans hK2).size
    clear hset hset1 hfb hI
    cases E3 with
    | true =>
      go_wp2_with (first | (go_at_call 129; refine hfb1.mono ?_; rintro e w4 ⟨rfl, hK5⟩))
      go_ret3
      exact ⟨rfl, (hK.trans hK2).trans (hK3.trans' hK5 (by intro i hi h; simp only [At1] at h; omega))⟩
    | false =>
      go_wp2_with (first | (go_at_call 129; refine hfb1.mono ?_; rintro e w4 ⟨rfl, hK5⟩))
      go_ret3
      exact ⟨rfl, (hK.trans hK2).trans (hK3.trans' hK5 (by intro i hi h; simp only [At1] at h; omega))⟩

end Go.Proofs.YtlckfiflfkbofaaGreatDoor

/- atof64 of internal/strconv at a decimal, its ways joined. -/
namespace Go.Proofs.YtlckfiflfkbofaaGreatDoor
open Go.RowKit

def isz (v : Option Value) (i : Nat) : Bool := match v with
  | some (.int .u8 0) => decide (i < 800)
  | some (.int .i64 0) => i == 800 || i == 801
  | some (.bool false) => i == 802 || i == 803
  | _ => false
set_option maxRecDepth 100000 in
theorem z202 : ((List.range 804).all fun i => isz Tryz.zeroCells202[i]? i) = true := by decide +kernel
theorem isz_at {v : Option Value} {i : Nat} (h : isz v i = true) : v = some ((Dc.zero false).at i) := by
  unfold isz at h
  split at h
  · rw [Dc.at_d _ (by simpa using h)]; rfl
  · simp only [Bool.or_eq_true, beq_iff_eq] at h
    rcases h with rfl | rfl <;> rfl
  · simp only [Bool.or_eq_true, beq_iff_eq] at h
    rcases h with rfl | rfl <;> rfl
  · cases h
theorem z202c (i : Nat) (hi : i < 804) : Tryz.zeroCells202[i]? = some ((Dc.zero false).at i) := isz_at (List.all_eq_true.1 z202 i (List.mem_range.2 hi))

theorem dc_fresh (w : World) : IsDc (w.alloc (.cells Tryz.zeroCells202 202)) w.heap.size (Dc.zero false) := Cells.new w _ _ _ 804 (fun i hi => z202c i hi)

theorem sgB_N (n : Bool) {x : Int} (h : 0 ≤ x) : sgB n x = ((sgN n x.toNat : Nat) : Int) := by
  unfold sgB sgN; split <;> omega

theorem eq_flip {x y : Nat} (hx : x < 2 ^ 64) (hy : y < 2 ^ 64) : (Ieee.double.order (Fl.flip x) (Fl.flip y) == some .eq) = (Ieee.double.order x y == some .eq) := by
  rw [Fl.order_flip hx hy]
  cases Ieee.double.order x y with
  | none => rfl
  | some o => cases o <;> rfl
theorem sgN_eq (n : Bool) {x y : Nat} (hx : x < 2 ^ 63) (hy : y < 2 ^ 63) : (FloatKind.f64.format.order (sgN n x) (sgN n y) == some .eq) = (Ieee.double.order x y == some .eq) := by
  cases n with
  | false => rfl
  | true =>
    rw [sgN_flip hx, sgN_flip hy]
    exact eq_flip (by omega) (by omega)

theorem at_calls (n : Num) (ok : n.Ok) (G g Bp op cp Bc oc cc : Nat) (ft pt : Nat → Nat) (fok : FOk ft) (hpt : ∀ i, pt i < 18446744073709551616) :
    ∃ B E, Ans B E ∧ ∀ (neg : Bool) (s : ByteArray) (w : World), s.data.toList = n.str neg → s.size ≤ 3000 → Tabs w G g Bp op cp Bc oc cc ft pt →
      Calls Tryz.prog 115 #[.string s] w fun e w' => AtV B E neg s.size e ∧ Keep (fun _ => False) w w' := by
  obtain ⟨d, hd⟩ : ∃ d, d = n.rf.mant := ⟨_, rfl⟩
  have hdl : d < 10000000000000000000 := hd ▸ n.mant_lt ok
  have hsp := fun (neg : Bool) (s : ByteArray) (hs : s.data.toList = n.str neg) (hz : s.size ≤ 3000) (w : World) => sp_dec n neg s w ok hs hz
  have hrf := fun (neg : Bool) (s : ByteArray) (hs : s.data.toList = n.str neg) (hz : s.size ≤ 3000) (w : World) => rf_calls n neg s w ok hs hz
  rw [← hd] at hrf
  by_cases h0 : d = 0
  · exact ⟨0, false, ⟨by decide, fun _ => by decide⟩, fun neg s w hs hz T => at_zero s d n.exp neg n.rf.tr hz hdl (hsp neg s hs hz) (hrf neg s hs hz) w T.o h0⟩
  by_cases hlow : n.exp < -345
  · exact ⟨0, false, ⟨by decide, fun _ => by decide⟩, fun neg s w hs hz T => at_low s d n.exp neg n.rf.tr hz hdl (hsp neg s hs hz) (hrf neg s hs hz) w T.o h0 hlow⟩
  by_cases hhigh : 310 < n.exp
  · exact ⟨infN, true, ⟨by decide, fun h => by cases h⟩, fun neg s w hs hz T => at_high s d n.exp neg n.rf.tr hz hdl (hsp neg s hs hz) (hrf neg s hs hz) w T.o h0 hhigh⟩
  obtain ⟨q, hq⟩ : ∃ q : Nat, n.exp = (q : Int) - 348 := ⟨(n.exp + 348).toNat, by omega⟩
  obtain ⟨B1, E1, hA1, hpf⟩ := pf_calls (d : Int) q pt (by omega) (by omega) (by omega) (by omega) hpt
  rw [← hq] at hpf
  have pf1 : ∀ (neg : Bool) (w : World), Tabs w G g Bp op cp Bc oc cc ft pt → ∀ wx, Keep (fun _ => False) w wx → Calls Tryz.prog 133 #[.int .u64 d, .int .i64 n.exp, .int .u64 (sgN neg 0 : Nat)] wx fun e w' => e = .returned (.tuple #[.float .f64 (sgN neg B1), errV E1]) ∧ Keep (fun _ => False) wx w' := by
    intro neg w T wx hK
    have T' := T.keep hK (fun _ _ h => h)
    exact hpf neg wx T'.p (by have := T'.G19; have := T'.GW; omega)
  by_cases ht : n.rf.tr = true
  · obtain ⟨B2, E2, hA2, hpg⟩ := pf_calls ((d : Int) + 1) q pt (by omega) (by omega) (by omega) (by omega) hpt
    rw [← hq] at hpg
    have pf2 : ∀ (neg : Bool) (w : World), Tabs w G g Bp op cp Bc oc cc ft pt → ∀ wx, Keep (fun _ => False) w wx → Calls Tryz.prog 133 #[.int .u64 ((d : Int) + 1), .int .i64 n.exp, .int .u64 (sgN neg 0 : Nat)] wx fun e w' => e = .returned (.tuple #[.float .f64 (sgN neg B2), errV E2]) ∧ Keep (fun _ => False) wx w' := by
      intro neg w T wx hK
      have T' := T.keep hK (fun _ _ h => h)
      exact hpg neg wx T'.p (by have := T'.G19; have := T'.GW; omega)
    by_cases heq : (Ieee.double.order B1 B2 == some .eq) = true
    · exact ⟨B1, E1, hA1, fun neg s w hs hz T => at_near s d n.exp neg n.rf.tr hz hdl (hsp neg s hs hz) (hrf neg s hs hz) w T.o h0 (by omega) (by omega) ht B1 E1 (pf1 neg w T) B2 E2 (pf2 neg w T)
        (by rw [sgN_eq neg hA1.lt hA2.lt]; exact heq)⟩
    · have hb := fbRes_bd (n.dc false)
      refine ⟨(fbRes (n.dc false)).1.toNat, (fbRes (n.dc false)).2, ⟨?_, ?_⟩, ?_⟩
      · have := hb.2.1; unfold infB at this; omega
      · intro h; have := hb.2.2 h; unfold infB at this; unfold infN; omega
      · intro neg s w hs hz T
        refine at_slow s d n.exp neg n.rf.tr hz hdl (hsp neg s hs hz) (hrf neg s hs hz) w T.o h0 (by omega) (by omega) ht B1 E1 (pf1 neg w T) B2 E2 (pf2 neg w T)
          (by rw [sgN_eq neg hA1.lt hA2.lt]; simpa using heq) (n.dc neg) _ _ ?_ ?_
        · intro wx hK
          refine (set_calls wx.heap.size n neg s _ ok hs hz (dc_fresh wx)).mono ?_
          rintro e w' ⟨rfl, hI, hk⟩
          exact ⟨rfl, hI, ((Keep.refl (fun _ => False) wx).alloc _).trans' hk (by intro i hi h; simp only [At1] at h; omega)⟩
        · intro wx b hI hK hb2
          have T' := T.keep hK (fun _ _ h => h)
          refine (fb_calls b (n.dc neg) wx hI (n.dc_good ok neg) T'.fb (Nat.le_trans T.GW hb2)).mono ?_
          rintro e w' ⟨rfl, hk⟩
          have hneg : (n.dc neg).neg = neg := by rw [n.dc_sg neg]; rfl
          have hr : fbRes (n.dc neg) = fbRes (n.dc false) := by rw [n.dc_sg neg, fbRes_sg]
          rw [hneg, hr, sgB_N neg hb.1]
          exact ⟨rfl, hk⟩
  · have ht' : n.rf.tr = false := by simpa using ht
    obtain ⟨V, hV, hex⟩ := ex_calls d n.exp g ft fok
    cases V with
    | some B =>
      have hB := hV B rfl
      refine ⟨B, false, ⟨by unfold infN at hB; omega, fun _ => hB⟩, fun neg s w hs hz T => at_exact s d n.exp neg n.rf.tr hz hdl (hsp neg s hs hz) (hrf neg s hs hz) w T.o h0 (by omega) (by omega) ht' B ?_⟩
      exact (hex neg w T.f).mono fun e w' h => h
    | none =>
      refine ⟨B1, E1, hA1, fun neg s w hs hz T => at_fast s d n.exp neg n.rf.tr hz hdl (hsp neg s hs hz) (hrf neg s hs hz) w T.o h0 (by omega) (by omega) ht' ?_ B1 E1 (pf1 neg w T)⟩
      exact (hex neg w T.f).mono fun e w' h => h

end Go.Proofs.YtlckfiflfkbofaaGreatDoor
