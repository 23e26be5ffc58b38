/- strconv.ParseFloat, at decimals and at what is no decimal. math.IsNaN, IsInf, Abs. Part 19 of 51 of the proof that FnMultiPointBody returns true for every text and every type of coordinates, where the listed variables hold what the text of the program lays. -/
import Derived.Test.YtlckfiflfkbofaaGreatDoorM17
import Derived.Test.YtlckfiflfkbofaaGreatDoorM18
set_option linter.all false

/- strconv.ParseFloat, at decimals and at what is no decimal. -/
namespace Go.Proofs.YtlckfiflfkbofaaGreatDoor
open Go.RowKit

def synV : Value := .iface 167 (.int .i64 2)

def JunkA (e : Ending) : Prop := (∃ (x : Nat) (k : Int), Odd x ∧ e = .returned (.tuple #[.float .f64 x, .int .i64 k, .nilIface])) ∨ (∃ k : Int, e = .returned (.tuple #[.float .f64 0, .int .i64 k, .iface 167 (.int .i64 2)]))

set_option maxRecDepth 100000 in
set_option maxHeartbeats 1600000 in
theorem at_junk (s : ByteArray) (w : World) (hj : Junk s) (hz : s.size ≤ 3000) : Calls Tryz.prog 115 #[.string s] w fun e w' => JunkA e ∧ w = w' := by
  have hs := fun w => sp_junk s w hj hz
  have hr := fun w => rf_junk s w hj hz
  go_enter Tryz.func115, Tryz.ntmps115
  go_wp2_with (first | (go_at_call 121; refine (hs _).mono ?_; rintro e w' ⟨⟨x, k, b, rfl, hb⟩, rfl⟩; cases b) | (go_at_call 122; refine (hr _).mono ?_; rintro e w' ⟨⟨n, b1, b2, rfl⟩, rfl⟩))
  · go_ret3
    exact ⟨Or.inr ⟨_, rfl⟩, rfl⟩
  · go_ret3
    exact ⟨Or.inl ⟨_, _, by simpa using hb, rfl⟩, rfl⟩

set_option maxRecDepth 100000 in
theorem pre_dec (s : ByteArray) (w : World) (B : Nat) (E : Bool) (n : Bool) (h : Calls Tryz.prog 115 #[.string s] w fun e w' => AtV B E n s.size e ∧ Keep (fun _ => False) w w') :
    Calls Tryz.prog 104 #[.string s, .int .i64 64] w fun e w' => AtV B E n s.size e ∧ Keep (fun _ => False) w w' := by
  go_enter Tryz.func104, Tryz.ntmps104
  go_wp2_with (go_at_call 115; refine h.mono ?_; rintro e w' ⟨rfl, hK⟩)
  go_ret3
  exact ⟨rfl, hK⟩

set_option maxRecDepth 100000 in
theorem pre_junk (s : ByteArray) (w : World) (hj : Junk s) (hz : s.size ≤ 3000) : Calls Tryz.prog 104 #[.string s, .int .i64 64] w fun e w' => JunkA e ∧ w = w' := by
  have h := at_junk s w hj hz
  go_enter Tryz.func104, Tryz.ntmps104
  go_wp2_with (go_at_call 115; refine h.mono ?_; rintro e w' ⟨(⟨x, k, hx, rfl⟩ | ⟨k, rfl⟩), rfl⟩)
  · go_ret3
    exact ⟨Or.inl ⟨_, _, hx, rfl⟩, rfl⟩
  · go_ret3
    exact ⟨Or.inr ⟨_, rfl⟩, rfl⟩

set_option maxRecDepth 100000 in
theorem ipf_dec (s : ByteArray) (w : World) (B : Nat) (E : Bool) (n : Bool) (h : Calls Tryz.prog 115 #[.string s] w fun e w' => AtV B E n s.size e ∧ Keep (fun _ => False) w w') :
    Calls Tryz.prog 90 #[.string s, .int .i64 64] w fun e w' => e = .returned (.tuple #[.float .f64 (sgN n B), errV E]) ∧ Keep (fun _ => False) w w' := by
  have h := pre_dec s w B E n h
  go_enter Tryz.func90, Tryz.ntmps90
  go_wp2_with (go_at_call 104; refine h.mono ?_; rintro e w' ⟨rfl, hK⟩)
  go_ret2
  exact ⟨rfl, hK⟩

def JunkP (e : Ending) : Prop := (∃ (x : Nat), Odd x ∧ e = .returned (.tuple #[.float .f64 x, .nilIface])) ∨ e = .returned (.tuple #[.float .f64 0, .iface 167 (.int .i64 2)])

set_option maxRecDepth 100000 in
theorem ipf_junk (s : ByteArray) (w : World) (hj : Junk s) (hz : s.size ≤ 3000) : Calls Tryz.prog 90 #[.string s, .int .i64 64] w fun e w' => JunkP e ∧ w = w' := by
  have h := pre_junk s w hj hz
  go_enter Tryz.func90, Tryz.ntmps90
  go_wp2_with (go_at_call 104; refine h.mono ?_; rintro e w' ⟨(⟨x, k, hx, rfl⟩ | ⟨k, rfl⟩), rfl⟩)
  all_goals go_ret2
  all_goals first | exact ⟨Or.inl ⟨_, hx, rfl⟩, rfl⟩ | exact ⟨Or.inr rfl, rfl⟩

/-- "ParseFloat". -/
def fnPF : ByteArray := ⟨#[80, 97, 114, 115, 101, 70, 108, 111, 97, 116]⟩

/-- An error of strconv's, for s, with one of the library's two sentinels in it. -/
def NumE (w : World) (s : ByteArray) (v : Value) : Prop := ∃ N ev, v = .iface 168 (.pointer (some ⟨N, 0, none⟩)) ∧ w.heap[N]? = some (.cells #[.string fnPF, .string s, ev] 183 (0, 0)) ∧ (w.cell? ⟨6, 0, none⟩ = some ev ∨ w.cell? ⟨7, 0, none⟩ = some ev)

/-- The library's two sentinels hold errors. -/
structure ErrVars (w : World) (e6 e7 : Value) : Prop where
  c6 : w.cell? ⟨6, 0, none⟩ = some e6
  c7 : w.cell? ⟨7, 0, none⟩ = some e7
  i6 : ∃ t p, e6 = .iface t p
  i7 : ∃ t p, e7 = .iface t p

theorem ErrVars.keep {w w' : World} {e6 e7 : Value} (h : ErrVars w e6 e7) {S : Nat → Prop} (k : Keep S w w') (h6 : ¬ S 6) (h7 : ¬ S 7) : ErrVars w' e6 e7 := ⟨k.cell h.c6 h6, k.cell h.c7 h7, h.i6, h.i7⟩

def PflV (B : Nat) (E n : Bool) (s : ByteArray) (e : Ending) (w' : World) : Prop :=
  if E then ∃ (x : Nat) (v : Value), e = .returned (.tuple #[.float .f64 x, v]) ∧ NumE w' s v else e = .returned (.tuple #[.float .f64 (sgN n B), .nilIface])

set_option maxRecDepth 100000 in
set_option maxHeartbeats 800000 in
theorem pfl_dec (s : ByteArray) (w : World) (B : Nat) (E : Bool) (n : Bool) (e6 e7 : Value) (hz : s.size ≤ 3000) (hV : ErrVars w e6 e7) (h : Calls Tryz.prog 115 #[.string s] w fun e w' => AtV B E n s.size e ∧ Keep (fun _ => False) w w') :
    Calls Tryz.prog 73 #[.string s, .int .i64 64] w fun e w' => PflV B E n s e w' ∧ Keep (fun _ => False) w w' := by
  have h := ipf_dec s w B E n h
  cases E with
  | false =>
    go_enter Tryz.func73, Tryz.ntmps73
    simp only [errV] at h
    go_wp2_with (go_at_call 90; refine h.mono ?_; rintro e w' ⟨rfl, hK⟩)
    go_ret2
    exact ⟨rfl, hK⟩
  | true =>
    have ht := fun (w' : World) (hK : Keep (fun _ => False) w w') => Tryz.strconv_toError_range fnPF s 0 64 e7 w' (by omega) (hV.keep hK (fun h => h) (fun h => h)).c7 (Or.inr hV.i7)
    go_enter Tryz.func73, Tryz.ntmps73
    simp only [errV] at h
    simp only [fnPF] at ht
    go_wp2_with (first | (go_at_call 90; refine h.mono ?_; rintro e w1 ⟨rfl, hK⟩) | (go_at_call 91; refine (ht _ hK).mono ?_; rintro e w2 ⟨N, rfl, hN, hcell, hbel⟩))
    go_ret2
    have hK2 := hK.trans (Keep.of_below hbel)
    exact ⟨⟨_, _, rfl, N, e7, rfl, hcell, Or.inr (hV.keep hK2 (fun h => h) (fun h => h)).c7⟩, hK2⟩

def JunkV (s : ByteArray) (e : Ending) (w' : World) : Prop :=
  (∃ x : Nat, Odd x ∧ e = .returned (.tuple #[.float .f64 x, .nilIface])) ∨ ∃ (x : Nat) (v : Value), e = .returned (.tuple #[.float .f64 x, v]) ∧ NumE w' s v

set_option maxRecDepth 100000 in
set_option maxHeartbeats 800000 in
theorem pfl_junk (s : ByteArray) (w : World) (e6 e7 : Value) (hj : Junk s) (hz : s.size ≤ 3000) (hV : ErrVars w e6 e7) :
    Calls Tryz.prog 73 #[.string s, .int .i64 64] w fun e w' => JunkV s e w' ∧ Keep (fun _ => False) w w' := by
  have h := ipf_junk s w hj hz
  have ht := Tryz.strconv_toError_syntax fnPF s 0 64 e6 w (by omega) hV.c6 (Or.inr hV.i6)
  go_enter Tryz.func73, Tryz.ntmps73
  simp only [fnPF] at ht
  go_wp2_with (first | (go_at_call 90; refine h.mono ?_; rintro e w1 ⟨(⟨x, hx, rfl⟩ | rfl), rfl⟩) | (go_at_call 91; refine ht.mono ?_; rintro e w2 ⟨N, rfl, hN, hcell, hbel⟩))
  · go_ret2
    exact ⟨Or.inl ⟨_, hx, rfl⟩, Keep.refl _ _⟩
  · go_ret2
    have hK2 : Keep (fun _ => False) w w2 := Keep.of_below hbel
    exact ⟨Or.inr ⟨_, _, rfl, N, e6, rfl, hcell, Or.inl (hV.keep hK2 (fun h => h) (fun h => h)).c6⟩, hK2⟩

end Go.Proofs.YtlckfiflfkbofaaGreatDoor

/- math.IsNaN, IsInf, Abs. -/
namespace Go.Proofs.YtlckfiflfkbofaaGreatDoor
open Go.RowKit

theorem f64bits_run (x : Nat) (w : World) : (callFunc 41 #[.float .f64 x]).run Tryz.prog w = .ok (.value (.int .u64 (x : Int))) w := by
  rw [run_callFunc_extern Tryz.func41 (by kernel_rfl) (by kernel_rfl) (by kernel_rfl) (e := Extern.MathFloatBits.float64bits) (by kernel_rfl)]
  rfl
theorem mfrombits_run (n : Int) (w : World) : (callFunc 113 #[.int .u64 n]).run Tryz.prog w = .ok (.value (.float .f64 n.toNat)) w := by
  rw [run_callFunc_extern Tryz.func113 (by kernel_rfl) (by kernel_rfl) (by kernel_rfl) (e := Extern.MathFloatBits.float64frombits) (by kernel_rfl)]
  rfl

set_option maxRecDepth 100000 in
theorem isnan_calls (x : Nat) (w : World) (b : Bool) (h : (FloatKind.f64.format.order x x != some .eq) = b) : Calls Tryz.prog 88 #[.float .f64 x] w fun e w' => e = .returned (.bool b) ∧ ∃ n, w' = w.drewN n := by
  go_enter Tryz.func88, Tryz.ntmps88
  go_wp2_with (fail)
  go_ret
  exact ⟨rfl, 0, rfl⟩

set_option maxRecDepth 100000 in
theorem abs_calls (x y : Nat) (w : World) (h : Go.bits .andNot .u64 (x : Int) 9223372036854775808 = (y : Int)) : Calls Tryz.prog 103 #[.float .f64 x] w fun e w' => e = .returned (.float .f64 y) ∧ w = w' := by
  have h1 := f64bits_run x
  have h2 := mfrombits_run (y : Int)
  go_enter Tryz.func103, Tryz.ntmps103
  go_wp2_with (fail)
  go_ret
  exact ⟨rfl, rfl⟩

set_option maxRecDepth 100000 in
theorem isinf_calls (x y : Nat) (w : World) (b : Bool) (h : Go.bits .andNot .u64 (x : Int) 9223372036854775808 = (y : Int)) (hg : (FloatKind.f64.format.order y 9218868437227405311 == some .gt) = b) :
    Calls Tryz.prog 89 #[.float .f64 x, .int .i64 0] w fun e w' => e = .returned (.bool b) ∧ w = w' := by
  have ha := abs_calls x y
  go_enter Tryz.func89, Tryz.ntmps89
  go_wp2_with (go_at_call 103; refine (ha _ h).mono ?_; rintro e w' ⟨rfl, rfl⟩)
  go_ret
  exact ⟨rfl, rfl⟩

/-! ### Which float is which -/
theorem order_self {x : Nat} (hx : x < infN) : Ieee.double.order x x = some .eq := by
  unfold infN at hx
  obtain ⟨m, p, hr, _⟩ := Fl.read_fin (x := x) (by omega) (by unfold Fl.fin; rw [Nat.mod_eq_of_lt (by omega)]; omega)
  unfold Ieee.Format.order
  rw [hr]
  simp [Ieee.Datum.order, compare, compareOfLessAndEq]

theorem read_maxN : Ieee.double.read 9218868437227405311 = .number false 9007199254740991 971 := by decide

theorem cmp_le {a b : Int} (h : a ≤ b) : (some (compare a b) == some Ordering.gt) = false := by
  have h2 : compare a b ≠ .gt := by
    intro hg
    have := Int.compare_eq_gt.1 hg
    omega
  revert h2
  cases compare a b <;> simp

theorem order_max {x : Nat} (hx : x < infN) : (Ieee.double.order x 9218868437227405311 == some .gt) = false := by
  unfold infN at hx
  have hm : x % 2 ^ 63 = x := Nat.mod_eq_of_lt (by omega)
  obtain ⟨m, p, hr, h⟩ := Fl.read_fin (x := x) (by omega) (by unfold Fl.fin; rw [hm]; omega)
  rw [hm] at h
  rw [show (x / 2 ^ 63 % 2 == 1) = false by rw [Nat.div_eq_of_lt (by omega)]; rfl] at hr
  have hp : -1074 ≤ p ∧ p ≤ 971 := by omega
  have hmm : m ≤ 9007199254740991 := by omega
  unfold Ieee.Format.order
  rw [hr, read_maxN]
  refine cmp_le ?_
  rw [show min p 971 = p by omega, Int.sub_self]
  show ((m <<< 0 : Nat) : Int) ≤ ((9007199254740991 <<< (971 - p).toNat : Nat) : Int)
  rw [Nat.shiftLeft_zero, Nat.shiftLeft_eq]
  have h1 := Nat.one_le_two_pow (n := (971 - p).toNat)
  have : m ≤ 9007199254740991 * 2 ^ (971 - p).toNat := Nat.le_trans hmm (Nat.le_mul_of_pos_right _ (by omega))
  exact Int.ofNat_le.2 this

theorem not_nan {x : Nat} (hx : x < infN) : (FloatKind.f64.format.order x x != some .eq) = false := by
  show (Ieee.double.order x x != some .eq) = false
  rw [order_self hx]; rfl
theorem abs_pos {x : Nat} (hx : x < 9223372036854775808) : Go.bits .andNot .u64 (x : Int) 9223372036854775808 = (x : Int) := by
  have h := u64_andNot_nat x 9223372036854775808 (by omega) (by decide)
  have e : x &&& 9223372036854775807 = x := by
    have := Nat.and_two_pow_sub_one_eq_mod x 63
    rw [show (2 : Nat) ^ 63 - 1 = 9223372036854775807 by decide] at this
    rw [this]; exact Nat.mod_eq_of_lt hx
  rw [show (18446744073709551615 - 9223372036854775808 : Nat) = 9223372036854775807 by decide, e] at h
  exact h

/-- What ParseFloat may give at what is no decimal is told by IsNaN or IsInf. -/
theorem odd_told {x : Nat} (h : Odd x) : (FloatKind.f64.format.order x x != some .eq) = true ∨
    ((FloatKind.f64.format.order x x != some .eq) = false ∧ ∃ y : Nat, Go.bits .andNot .u64 (x : Int) 9223372036854775808 = (y : Int) ∧ (FloatKind.f64.format.order y 9218868437227405311 == some .gt) = true) := by
  rcases h with rfl | rfl | rfl
  · exact Or.inr ⟨by decide +kernel, 9218868437227405312, by decide +kernel, by decide +kernel⟩
  · exact Or.inr ⟨by decide +kernel, 9218868437227405312, by decide +kernel, by decide +kernel⟩
  · exact Or.inl (by decide +kernel)

end Go.Proofs.YtlckfiflfkbofaaGreatDoor
