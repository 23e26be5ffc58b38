/- The reference's ReadNumber. The reference's place: the numbers of a point. Small functions: Leaf, KidOf, kindName, dimName, pKind, xTag, dimOf, and the like. SameNums, SameGeom, SameGeoms, of equal data. Part 38 of 51 of the proof that FnMultiPointBody returns true for every text and every type of coordinates, where the listed variables hold what the text of the program lays. -/
import Derived.Test.YtlckfiflfkbofaaGreatDoorM28
import Derived.Test.YtlckfiflfkbofaaGreatDoorM32
import Derived.Test.YtlckfiflfkbofaaGreatDoorM36
import Derived.Test.YtlckfiflfkbofaaGreatDoorM37
set_option linter.all false

/- The reference's ReadNumber. -/
namespace Go.Proofs.YtlckfiflfkbofaaGreatDoor
open Go.RowKit

/-- ParseFloat at a decimal: the value, or an error. -/
theorem pf_numE {P : GP} {w : World} {B : Nat} (hV : Nu P w B) {t : Tok} (hk : t.k = 49) (hn : IsNum t) (neg : Bool) (s : ByteArray) (hs : s.data.toList = (if neg then [45] else []) ++ t.s.data.toList) (hz : s.size ≤ 3000) :
    Calls Tryz.prog 73 #[.string s, .int .i64 64] w fun e w' => (match val P t neg with | some x => e = .returned (.tuple #[.float .f64 x, .nilIface]) | none => ∃ (x : Nat) (v : Value), e = .returned (.tuple #[.float .f64 x, v]) ∧ NumE w' s v) ∧ Keep (fun _ => False) w w' := by
  have h : t.k = 49 ∧ IsNum t := ⟨hk, hn⟩
  have hc := Classical.choose_spec h.2
  have hx := numBE_spec P _ hc.1
  have ha := hx.2 neg s w (hs.trans (congrArg _ hc.2)) hz hV.T
  refine (pfl_dec s w _ _ neg _ _ hz hV.errs ha).mono ?_
  rintro e w' ⟨h1, h2⟩
  refine ⟨?_, h2⟩
  unfold val
  rw [dif_pos h]
  unfold PflV at h1
  split at h1
  · rename_i hE
    rw [if_pos hE]
    exact h1
  · rename_i hE
    rw [if_neg hE]
    exact h1

/-- What ReadNumber answers. -/
def RnR (o : Option Nat) (e : Ending) : Prop :=
  match o with
  | some x => e = .returned (.tuple #[.float .f64 x, .bool true])
  | none => ∃ x : Nat, e = .returned (.tuple #[.float .f64 x, .bool false])

section
variable {P : GP} {w : World} {B : Nat} {t : Tok}
set_option maxRecDepth 100000 in
theorem rn_ok (hV : Nu P w B) (hk : t.k = 49) (hn : IsNum t) (neg : Bool) (s : ByteArray) (hs : s.data.toList = (if neg then [45] else []) ++ t.s.data.toList) (hz : s.size ≤ 3000) {x : Nat} (hx : val P t neg = some x) :
    Calls Tryz.prog 67 #[.string s] w fun e w' => e = .returned (.tuple #[.float .f64 x, .bool true]) ∧ Keep (fun _ => False) w w' := by
  have hp := pf_numE hV hk hn neg s hs hz
  rw [hx] at hp
  go_enter Tryz.func67, Tryz.ntmps67
  go_wp2_with (go_at_call 73; refine hp.mono ?_; rintro e w2 ⟨rfl, hK⟩)
  go_quiet (fail)
  go_wp2_with (fail)
  go_ret2
  exact ⟨rfl, hK.drewN _⟩

set_option maxRecDepth 100000 in
theorem rn_err (s : ByteArray) (hp : Calls Tryz.prog 73 #[.string s, .int .i64 64] w fun e w' => (∃ (x : Nat) (v : Value), e = .returned (.tuple #[.float .f64 x, v]) ∧ NumE w' s v) ∧ Keep (fun _ => False) w w') :
    Calls Tryz.prog 67 #[.string s] w fun e w' => (∃ x : Nat, e = .returned (.tuple #[.float .f64 x, .bool false])) ∧ Keep (fun _ => False) w w' := by
  go_enter Tryz.func67, Tryz.ntmps67
  go_wp2_with (go_at_call 73; refine hp.mono ?_; rintro e w2 ⟨⟨x, v, rfl, N, ev, rfl, hN⟩, hK⟩)
  go_quiet (fail)
  go_wp2_with (fail)
  go_ret2
  exact ⟨⟨x, rfl⟩, hK.drewN _⟩

theorem rn_num (hV : Nu P w B) (hk : t.k = 49) (hn : IsNum t) (neg : Bool) (s : ByteArray) (hs : s.data.toList = (if neg then [45] else []) ++ t.s.data.toList) (hz : s.size ≤ 3000) :
    Calls Tryz.prog 67 #[.string s] w fun e w' => RnR (val P t neg) e ∧ Keep (fun _ => False) w w' := by
  cases hv : val P t neg with
  | some x => exact rn_ok hV hk hn neg s hs hz hv
  | none =>
    have hp := pf_numE hV hk hn neg s hs hz
    rw [hv] at hp
    exact rn_err s hp

set_option maxRecDepth 100000 in
theorem rn_junk (hV : Nu P w B) (s : ByteArray) (hj : Junk s) (hz : s.size ≤ 3000) :
    Calls Tryz.prog 67 #[.string s] w fun e w' => (∃ (x : Nat) (b : Bool), e = .returned (.tuple #[.float .f64 x, .bool b])) ∧ Keep (fun _ => False) w w' := by
  have hp := pf_junk hV s hj hz
  go_enter Tryz.func67, Tryz.ntmps67
  go_wp2_with (go_at_call 73; refine hp.mono ?_; rintro e w2 ⟨(⟨x, hO, rfl⟩ | ⟨x, v, rfl, N, ev, rfl, hN⟩), hK⟩)
  · go_quiet (fail)
    go_wp2_with (fail)
    go_ret2
    exact ⟨⟨x, _, rfl⟩, hK.drewN _⟩
  · go_quiet (fail)
    go_wp2_with (fail)
    go_ret2
    exact ⟨⟨x, _, rfl⟩, hK.drewN _⟩
end

end Go.Proofs.YtlckfiflfkbofaaGreatDoor

/- The reference's place: the numbers of a point. -/
namespace Go.Proofs.YtlckfiflfkbofaaGreatDoor
open Go.RowKit

def fl (xs : List Nat) : List Value := xs.map (Value.float .f64 ·)
theorem fl_snoc (xs : List Nat) (x : Nat) : fl (xs ++ [x]) = fl xs ++ [.float .f64 x] := by simp [fl]

/-- The reading of a place under way: the numbers xs in the row v, the reader ahead of l. -/
structure PlS (P : GP) (B p g : Nat) (w0 w : World) (v : Value) (xs : List Nat) (l : List Tok) (bad : Bool) : Prop where
  own : w.ownsRow w0.heap.size 65 1 v xs.length (fl xs)
  rd : RdS w p g l bad
  kp : Keep (At1 p) w0 w
  tg : ∀ k ∈ l, Tg k ∧ k.s.size < 3000
  nu : Nu P w B
  pB : B ≤ p
  pl : p < w0.heap.size

section
variable {P : GP} {B p g : Nat} {w0 w : World} {v : Value} {xs : List Nat} {l : List Tok} {k : Tok} {bad : Bool}
theorem PlS.step {w' : World} {l' : List Tok} {b' : Bool} (h : PlS P B p g w0 w v xs l bad) (q : Keep (At1 p) w w') (hr : RdS w' p g l' b') (hl : ∀ k ∈ l', k ∈ l) : PlS P B p g w0 w' v xs l' b' :=
  ⟨own_keep h.own q (fun i hi => by have := (h.own.lt i hi).1; have := h.pl; show i ≠ p; omega), hr, h.kp.trans q, fun k hk => h.tg k (hl k hk), h.nu.keepS q (fun i hi => by have := h.pB; show i ≠ p; omega), h.pB, h.pl⟩
theorem PlS.stepF {w' : World} (h : PlS P B p g w0 w v xs l bad) (q : Keep (fun _ => False) w w') : PlS P B p g w0 w' v xs l bad :=
  h.step (q.mono fun _ _ h => h.elim) (h.rd.keep q (fun h => h) (fun h => h)) fun _ h => h
theorem PlS.setBad (h : PlS P B p g w0 w v xs l bad) : PlS P B p g w0 (w.setCell ⟨p, 1, none⟩ (.bool true)) v xs l true :=
  h.step ((Keep.refl (At1 p) w).setCell (Or.inr rfl) _) (h.rd.setBad true) fun _ h => h
theorem PlS.app {w' : World} {v' : Value} {x : Nat} (h : PlS P B p g w0 w v xs l bad) (hg : g < w0.heap.size) (ho : w'.ownsRow w0.heap.size 65 1 v' (xs.length + 1) (fl xs ++ [.float .f64 x])) (q : w.grownBy w' v.ownBlock) : PlS P B p g w0 w' v' (xs ++ [x]) l bad := by
  have hb : ∀ k, k < w0.heap.size → w'.heap[k]? = w.heap[k]? := by
    intro k hk
    refine q.block k (Nat.lt_of_lt_of_le hk h.kp.size) ?_
    intro e
    have := (h.own.lt k e.symm).1
    omega
  refine ⟨by rw [fl_snoc, List.length_append]; exact ho, ?_, h.kp.grown h.own q, h.tg, ?_, h.pB, h.pl⟩
  · have kk : Keep (fun k => w0.heap.size ≤ k) w w' := ⟨q.os, q.tape, q.output, q.size, fun k _ hs => hb k (by omega)⟩
    exact h.rd.keep kk (by have := h.pl; omega) (by omega)
  · have kk : Keep (fun k => w0.heap.size ≤ k) w w' := ⟨q.os, q.tape, q.output, q.size, fun k _ hs => hb k (by omega)⟩
    exact h.nu.keepS kk (fun i hi => by have := h.pB; have := h.pl; omega)
theorem PlS.nxt (h : PlS P B p g w0 w v xs l bad) : Calls Tryz.prog 57 #[.pointer (some ⟨p, 0, none⟩)] w fun e w' => e = .returned (.int .u8 (nx l bad : Nat)) ∧ w = w' := nx_calls57 h.rd
theorem PlS.take_ok (h : PlS P B p g w0 w v xs (k :: l) false) : Calls Tryz.prog 36 #[.pointer (some ⟨p, 0, none⟩), .int .u8 (k.k : Int)] w fun e w' => e = .returned (.string k.s) ∧ PlS P B p g w0 w' v xs l false := by
  refine (tk_ok h.rd).mono ?_
  rintro e w' ⟨h1, h2, h3⟩
  exact ⟨h1, h.step h3 h2 fun _ hk => List.mem_cons_of_mem _ hk⟩
theorem PlS.take_bad (h : PlS P B p g w0 w v xs l bad) (c : Nat) (hc : ¬ nx l bad = c) : Calls Tryz.prog 36 #[.pointer (some ⟨p, 0, none⟩), .int .u8 (c : Int)] w fun e w' => e = .returned (.string ⟨#[]⟩) ∧ PlS P B p g w0 w' v xs l true := by
  refine (tk_bad h.rd c hc).mono ?_
  rintro e w' ⟨h1, h2, h3⟩
  exact ⟨h1, h.step h3 h2 fun _ hk => hk⟩
theorem PlS.junk (h : PlS P B p g w0 w v xs l bad) (s : ByteArray) (hj : Junk s) (hz : s.size ≤ 3000) : Calls Tryz.prog 67 #[.string s] w fun e w' => (∃ (x : Nat) (b : Bool), e = .returned (.tuple #[.float .f64 x, .bool b])) ∧ PlS P B p g w0 w' v xs l bad := by
  refine (rn_junk h.nu s hj hz).mono ?_
  rintro e w' ⟨h1, h2⟩
  exact ⟨h1, h.stepF h2⟩
theorem PlS.num (h : PlS P B p g w0 w v xs l bad) {t : Tok} (hk : t.k = 49) (hn : IsNum t) (neg : Bool) (s : ByteArray) (hs : s.data.toList = (if neg then [45] else []) ++ t.s.data.toList) (hz : s.size ≤ 3000) :
    Calls Tryz.prog 67 #[.string s] w fun e w' => RnR (val P t neg) e ∧ PlS P B p g w0 w' v xs l bad := by
  refine (rn_num h.nu hk hn neg s hs hz).mono ?_
  rintro e w' ⟨h1, h2⟩
  exact ⟨h1, h.stepF h2⟩
theorem PlS.cells (h : PlS P B p g w0 w v xs l bad) : ∃ b' : Bool, w.cell? ⟨p, 1, none⟩ = some (.bool b') ∧ w.frozen? ⟨p, 1, none⟩ = false := by
  obtain ⟨v, h1, h2, h3, h4, h5⟩ := h.rd.facts
  exact ⟨_, h3, h5⟩

/-- The reading of so many numbers. -/
noncomputable def plR (P : GP) (n : Nat) (l : List Tok) (bad : Bool) : Option (List Nat × List Tok) := if bad then none else pNums (val P) n l
/-- The rest of the reading. -/
def plC (xs : List Nat) (o : Option (List Nat × List Tok)) : Option (List Nat × List Tok) := o.map fun y => (xs ++ y.1, y.2)
theorem plC_nil (o : Option (List Nat × List Tok)) : plC [] o = o := by cases o <;> simp [plC]
theorem plR_bad (n : Nat) (l : List Tok) : plR P n l true = none := rfl
theorem plR_some {n x : Nat} {q : List Tok} (h : pNum (val P) l = some (x, q)) : plC xs (plR P (n + 1) l false) = plC (xs ++ [x]) (plR P n q false) := by
  simp only [plR, Bool.false_eq_true, if_false, pNums, h, plC]
  cases pNums (val P) n q <;> simp
theorem plR_none {n : Nat} (h : pNum (val P) l = none) : plR P (n + 1) l false = none := by
  simp only [plR, Bool.false_eq_true, if_false, pNums, h]

end
theorem wd33_0 (w : World) : Calls Tryz.prog 33 #[.int .i64 0] w fun e w' => e = .returned (.int .i64 2) ∧ w = w' := by
  go_enter Tryz.func33, Tryz.ntmps33
  go_wp2_with (fail)
  go_ret
  refine ⟨congrArg Ending.returned (int_eq ?_), rfl⟩
  decide +kernel
theorem wd33_1 (w : World) : Calls Tryz.prog 33 #[.int .i64 1] w fun e w' => e = .returned (.int .i64 3) ∧ w = w' := by
  go_enter Tryz.func33, Tryz.ntmps33
  go_wp2_with (fail)
  go_ret
  refine ⟨congrArg Ending.returned (int_eq ?_), rfl⟩
  decide +kernel
theorem wd33_2 (w : World) : Calls Tryz.prog 33 #[.int .i64 2] w fun e w' => e = .returned (.int .i64 3) ∧ w = w' := by
  go_enter Tryz.func33, Tryz.ntmps33
  go_wp2_with (fail)
  go_ret
  refine ⟨congrArg Ending.returned (int_eq ?_), rfl⟩
  decide +kernel
theorem wd33_3 (w : World) : Calls Tryz.prog 33 #[.int .i64 3] w fun e w' => e = .returned (.int .i64 4) ∧ w = w' := by
  go_enter Tryz.func33, Tryz.ntmps33
  go_wp2_with (fail)
  go_ret
  refine ⟨congrArg Ending.returned (int_eq ?_), rfl⟩
  decide +kernel
theorem wd_calls (ct : Nat) (h : ct < 4) (w : World) : Calls Tryz.prog 33 #[.int .i64 (ct : Int)] w fun e w' => e = .returned (.int .i64 (wd ct : Nat)) ∧ w = w' := by
  have : ct = 0 ∨ ct = 1 ∨ ct = 2 ∨ ct = 3 := by omega
  rcases this with rfl | rfl | rfl | rfl
  · exact wd33_0 w
  · exact wd33_1 w
  · exact wd33_2 w
  · exact wd33_3 w


/-- What place answers. -/
def PlcP (P : GP) (B p g : Nat) (w0 : World) (ct : Nat) (l : List Tok) (bad : Bool) (e : Ending) (w' : World) : Prop :=
  ∃ v xs l' bad', e = .returned v ∧ xs.length = wd ct ∧ PlS P B p g w0 w' v xs l' bad' ∧ plR P (wd ct) l bad = plC xs (plR P 0 l' bad')

set_option maxRecDepth 100000 in
set_option maxHeartbeats 8000000 in
theorem plc_calls {P : GP} {B p g : Nat} {w : World} {l : List Tok} {bad : Bool} (ct : Nat) (hct : ct < 4) (h : RdS w p g l bad) (hg : g < w.heap.size) (htg : ∀ k ∈ l, Tg k ∧ k.s.size < 3000) (hV : Nu P w B) (hpB : B ≤ p) (hpl : p < w.heap.size) :
    Calls Tryz.prog 58 #[.pointer (some ⟨p, 0, none⟩), .int .i64 (ct : Int)] w fun e w' => PlcP P B p g w ct l bad e w' := by
  obtain ⟨i0, hi, hz0, hz1, hz2⟩ := info_parts fltInfo
  have hW := fun w => wd_calls ct hct w
  obtain ⟨W, hWe⟩ : ∃ W, W = wd ct := ⟨_, rfl⟩
  have hW4 : W ≤ 4 := by rw [hWe]; unfold wd; omega
  have hP : ∀ e w', (∃ v xs l' bad', e = .returned v ∧ xs.length = W ∧ PlS P B p g w w' v xs l' bad' ∧ plR P W l bad = plC xs (plR P 0 l' bad')) → PlcP P B p g w ct l bad e w' := by
    intro e w' h; unfold PlcP; rw [← hWe]; exact h
  rw [← hWe] at hW
  have HP := Lib.hid hP
  clear hP
  have hS0 : PlS P B p g w w (.slice none 0 0) [] l bad := ⟨World.ownsRow_nil _ _ _ _, h, Keep.refl _ _, htg, hV, hpB, hpl⟩
  have HS0 := Lib.hid hS0
  clear hS0 hWe h htg hV
  go_enter Tryz.func58, Tryz.ntmps58
  go_wp2_with (go_at_call 33; refine (hW _).mono ?_; rintro e w2 ⟨rfl, rfl⟩)
  go_loopw [5, 11] (fun v5 v11 wr => ∃ (i : Nat) (xs : List Nat) (l' : List Tok) (bad' : Bool), i ≤ W ∧ v11 = .int .i64 (i : Int) ∧ xs.length = i ∧ Hid (PlS P B p g w wr v5 xs l' bad') ∧ Hid (plR P W l bad = plC xs (plR P (W - i) l' bad'))) (fun _ v11 _ => W - (match v11 with | .int _ i => i.toNat | _ => 0))
  case atStart => exact ⟨0, [], l, bad, Nat.zero_le _, rfl, rfl, HS0, Lib.hid (plC_nil _).symm⟩
  case round =>
    obtain ⟨i, xs, l', bad', hiW, rfl, hxl, hS, hq⟩ := hrel
    by_cases hlt : i < W
    · have hlt' : (i : Int) < W := by omega
      obtain ⟨n, hn1⟩ : ∃ n, W - i = n + 1 := ⟨W - i - 1, by omega⟩
      have hq' := hq.out
      rw [hn1] at hq'
      have hWn : W - (i + 1) = n := by omega
      have hS' := hS.out
      by_cases hz : nx l' bad' = 45 ∨ nx l' bad' = 49
      · have hb : bad' = false := by
          cases bad' with
          | false => rfl
          | true => rcases hz with h | h <;> cases h
        subst hb
        cases l' with
        | nil => rcases hz with h | h <;> cases h
        | cons k l2 =>
          have htk := hS'.tg k (by simp)
          by_cases h45 : k.k = 45
          · have hks : k.s.data.toList = [45] := by have := htk.1.sign (x := 45) (by omega) h45; rw [Lib.toList_data] at this; exact this
            have hn : Calls Tryz.prog 57 #[.pointer (some ⟨p, 0, none⟩)] wr fun e w' => e = .returned (.int .u8 45) ∧ wr = w' := by
              have := hS'.nxt
              rw [show nx (k :: l2) false = 45 from h45] at this
              exact this
            have ht : Calls Tryz.prog 36 #[.pointer (some ⟨p, 0, none⟩), .int .u8 45] wr fun e w' => e = .returned (.string k.s) ∧ Hid (PlS P B p g w w' u5 xs l2 false) := by
              have := hS'.take_ok
              rw [h45] at this
              exact this
            by_cases h49 : nx l2 false = 49
            · cases l2 with
              | nil => cases h49
              | cons u l3 =>
                have hu : u.k = 49 := h49
                have htu := hS'.tg u (by simp)
                have hun : IsNum u := by
                  rcases htu.1.cls with ⟨_, hn⟩ | ⟨hk', _⟩ | ⟨hk', _⟩
                  · exact hn
                  · omega
                  · omega
                have hsl : (k.s ++ u.s).data.toList = [45] ++ u.s.data.toList := by rw [← hks]; simp [ByteArray.data_append]
                have hsz : (k.s ++ u.s).size ≤ 3000 := by
                  have h1 : (k.s ++ u.s).size = k.s.size + u.s.size := ByteArray.size_append
                  have h2 : k.s.size = 1 := by rw [← data_size, hks]; rfl
                  have := htu.2
                  omega
                have hlen : ¬ 9223372036854775807 < k.s.size + u.s.size := by have h1 : k.s.size + u.s.size = (k.s ++ u.s).size := ByteArray.size_append.symm; omega
                have ht1 : ∀ w', PlS P B p g w w' u5 xs (u :: l3) false → Calls Tryz.prog 36 #[.pointer (some ⟨p, 0, none⟩), .int .u8 49] w' fun e w2 => e = .returned (.string u.s) ∧ Hid (PlS P B p g w w2 u5 xs l3 false) := by
                  intro w' h
                  have := h.take_ok
                  rw [hu] at this
                  exact this
                have hpn : pNum (val P) (k :: u :: l3) = (val P u true).map fun x => (x, l3) := by simp only [pNum, h45, if_true]
                cases hv : val P u true with
                | some x0 =>
                  have hR1 : ∀ w', PlS P B p g w w' u5 xs l3 false → Calls Tryz.prog 67 #[.string (k.s ++ u.s)] w' fun e w2 => e = .returned (.tuple #[.float .f64 x0, .bool true]) ∧ Hid (PlS P B p g w w2 u5 xs l3 false) := by
                    intro w' h
                    have := h.num hu hun true _ (by simpa using hsl) hsz
                    rw [hv] at this
                    exact this
                  rw [hv] at hpn
                  have hQ := Lib.hid (hq'.trans (plR_some hpn))
                  rw [← hWn] at hQ
                  clear hq hq' hS' hS HP HS0 hz htk hsl hsz htu hun hpn hv hks hu h45 h49
                  go_wp2_with (first | (go_at_call 57; refine hn.mono ?_; rintro e w2 ⟨rfl, rfl⟩; clear hn) | (go_at_call 36; refine ht.mono ?_; rintro e w3 ⟨rfl, hS1⟩; clear ht; have ht2 := ht1 _ hS1.out; clear hS1) | (go_at_call 36; refine ht2.mono ?_; rintro e w4 ⟨rfl, hS2⟩; clear ht2; have hR := hR1 _ hS2.out; clear hS2) | (go_at_call 67; refine hR.mono ?_; rintro e w5 ⟨rfl, hS3⟩; clear hR; have hS4 := hS3.out) | (at_builtin; refine wpList_append_one rfl _ _ 30 rfl w.heap.size 65 i0 _ 1 8 Tryz.underlying30 hi hz0 hz1 hz2 rfl (by omega) (by omega) _ _ _ _ _ (by rfl) (by exact hS4.own) (by first | rfl | (simp only [World.size_setCell]; rfl)) rfl (by intro u hu; simp at hu; subst hu; rfl) (by omega) hS4.kp.size ?_; intro v6 w6 ho6 hg6))
                  all_goals (
                    go_roundw
                    case rel => exact ⟨i + 1, xs ++ [_], l3, false, by omega, int_eq (by omega), by simp; omega, Lib.hid (hS4.app hg ho6 hg6), hQ⟩
                    case measure => simp only []; omega)
                | none =>
                  have hR1 : ∀ w', PlS P B p g w w' u5 xs l3 false → Calls Tryz.prog 67 #[.string (k.s ++ u.s)] w' fun e w2 => (∃ x : Nat, e = .returned (.tuple #[.float .f64 x, .bool false])) ∧ Hid (PlS P B p g w w2 u5 xs l3 false) := by
                    intro w' h
                    have := h.num hu hun true _ (by simpa using hsl) hsz
                    rw [hv] at this
                    exact this
                  rw [hv] at hpn
                  have hQ : Hid (plR P W l bad = none) := Lib.hid (hq'.trans (by rw [plR_none hpn]; rfl))
                  clear hq hq' hS' hS HP HS0 hz htk hsl hsz htu hun hpn hv hks hu h45 h49
                  go_wp2_with (first | (go_at_call 57; refine hn.mono ?_; rintro e w2 ⟨rfl, rfl⟩; clear hn) | (go_at_call 36; refine ht.mono ?_; rintro e w3 ⟨rfl, hS1⟩; clear ht; have ht2 := ht1 _ hS1.out; clear hS1) | (go_at_call 36; refine ht2.mono ?_; rintro e w4 ⟨rfl, hS2⟩; clear ht2; have hR := hR1 _ hS2.out; clear hS2) | (go_at_call 67; refine hR.mono ?_; rintro e w5 ⟨⟨x, rfl⟩, hS3⟩; clear hR; obtain ⟨b3, c3, f3⟩ := hS3.out.cells; have hS4 := hS3.out.setBad) | (at_builtin; refine wpList_append_one rfl _ _ 30 rfl w.heap.size 65 i0 _ 1 8 Tryz.underlying30 hi hz0 hz1 hz2 rfl (by omega) (by omega) _ _ _ _ _ (by rfl) (by exact hS4.own) (by first | rfl | (simp only [World.size_setCell]; rfl)) rfl (by intro u hu; simp at hu; subst hu; rfl) (by omega) hS4.kp.size ?_; intro v6 w6 ho6 hg6))
                  all_goals (
                    go_roundw
                    case rel => exact ⟨i + 1, xs ++ [_], l3, true, by omega, int_eq (by omega), by simp; omega, Lib.hid (hS4.app hg ho6 hg6), hQ⟩
                    case measure => simp only []; omega)
            · have hlen1 : ¬ 9223372036854775807 < k.s.size := by have := htk.2; omega
              have hlen2 : ¬ 9223372036854775807 < k.s.size + (⟨#[]⟩ : ByteArray).size := by have h2 : (⟨#[]⟩ : ByteArray).size = 0 := rfl; omega
              have hlen3 : ¬ 9223372036854775807 < (⟨#[]⟩ : ByteArray).size + k.s.size := by have h2 : (⟨#[]⟩ : ByteArray).size = 0 := rfl; omega
              have ht1 : ∀ w', PlS P B p g w w' u5 xs l2 false → Calls Tryz.prog 36 #[.pointer (some ⟨p, 0, none⟩), .int .u8 49] w' fun e w2 => e = .returned (.string ⟨#[]⟩) ∧ Hid (PlS P B p g w w2 u5 xs l2 true) := fun w' h => h.take_bad 49 h49
              have hsl : (k.s ++ (⟨#[]⟩ : ByteArray)).data.toList = [45] := by rw [← hks]; simp [ByteArray.data_append]
              have hjk : Junk (k.s ++ (⟨#[]⟩ : ByteArray)) := by
                have hz1 : (k.s ++ (⟨#[]⟩ : ByteArray)).size = 1 := by rw [← data_size, hsl]; rfl
                refine Or.inr (Or.inl ⟨by omega, ?_, hz1⟩)
                have : (k.s ++ (⟨#[]⟩ : ByteArray)).data.toList[0]'(by rw [hsl]; simp) = 45 := by simp only [hsl]; rfl
                have h2 : (k.s ++ (⟨#[]⟩ : ByteArray))[0] = 45 := this
                rw [h2]; rfl
              have hsz : (k.s ++ (⟨#[]⟩ : ByteArray)).size ≤ 3000 := by rw [← data_size, hsl]; decide
              have hR1 : ∀ w', PlS P B p g w w' u5 xs l2 true → Calls Tryz.prog 67 #[.string (k.s ++ (⟨#[]⟩ : ByteArray))] w' fun e w2 => (∃ (x : Nat) (b : Bool), e = .returned (.tuple #[.float .f64 x, .bool b])) ∧ PlS P B p g w w2 u5 xs l2 true := fun w' h => h.junk _ hjk hsz
              have hpn : pNum (val P) (k :: l2) = none := by
                simp only [pNum, h45, if_true]
                cases l2 with
                | nil => rfl
                | cons u l3 =>
                  cases hv : val P u true with
                  | none => simp only [hv]; rfl
                  | some x => exact absurd (val_kind P _ _ _ hv) h49
              have hQ : Hid (plR P W l bad = none) := Lib.hid (hq'.trans (by rw [plR_none hpn]; rfl))
              clear hq hq' hS' hS HP HS0 hz htk hsl hsz hjk hpn hks h45 h49
              go_wp2_with (first | (go_at_call 57; refine hn.mono ?_; rintro e w2 ⟨rfl, rfl⟩; clear hn) | (go_at_call 36; refine ht.mono ?_; rintro e w3 ⟨rfl, hS1⟩; clear ht; have ht2 := ht1 _ hS1.out; clear hS1) | (go_at_call 36; refine ht2.mono ?_; rintro e w4 ⟨rfl, hS2⟩; clear ht2; have hR := hR1 _ hS2.out; clear hS2) | (go_at_call 67; refine hR.mono ?_; rintro e w4 ⟨⟨x, b, rfl⟩, hS3⟩; obtain ⟨b3, c3, f3⟩ := hS3.cells; cases b; (have hS4 := hS3.setBad); rotate_left; (have hS4 := hS3); rotate_left) | (at_builtin; refine wpList_append_one rfl _ _ 30 rfl w.heap.size 65 i0 _ 1 8 Tryz.underlying30 hi hz0 hz1 hz2 rfl (by omega) (by omega) _ _ _ _ _ (by rfl) (by exact hS4.own) (by first | rfl | (simp only [World.size_setCell]; rfl)) rfl (by intro u hu; simp at hu; subst hu; rfl) (by omega) hS4.kp.size ?_; intro v6 w6 ho6 hg6))
              all_goals (
                go_roundw
                case rel => exact ⟨i + 1, xs ++ [_], _, true, by omega, int_eq (by omega), by simp; omega, Lib.hid (hS4.app hg ho6 hg6), hQ⟩
                case measure => simp only []; omega)
          · have hk49 : k.k = 49 := by
              rcases hz with h | h
              · exact absurd h h45
              · exact h
            have hlen1 : ¬ 9223372036854775807 < k.s.size := by have := htk.2; omega
            have hlen2 : ¬ 9223372036854775807 < k.s.size + (⟨#[]⟩ : ByteArray).size := by have h2 : (⟨#[]⟩ : ByteArray).size = 0 := rfl; omega
            have hlen3 : ¬ 9223372036854775807 < (⟨#[]⟩ : ByteArray).size + k.s.size := by have h2 : (⟨#[]⟩ : ByteArray).size = 0 := rfl; omega
            have hkn : IsNum k := by
              rcases htk.1.cls with ⟨_, hn⟩ | ⟨hk', _⟩ | ⟨hk', _⟩
              · exact hn
              · omega
              · omega
            have hn : Calls Tryz.prog 57 #[.pointer (some ⟨p, 0, none⟩)] wr fun e w' => e = .returned (.int .u8 49) ∧ wr = w' := by
              have := hS'.nxt
              rw [show nx (k :: l2) false = 49 from hk49] at this
              exact this
            have ht2 : Calls Tryz.prog 36 #[.pointer (some ⟨p, 0, none⟩), .int .u8 49] wr fun e w' => e = .returned (.string k.s) ∧ Hid (PlS P B p g w w' u5 xs l2 false) := by
              have := hS'.take_ok
              rw [hk49] at this
              exact this
            have hsl : ((⟨#[]⟩ : ByteArray) ++ k.s).data.toList = k.s.data.toList := by simp [ByteArray.data_append]
            have hsz : ((⟨#[]⟩ : ByteArray) ++ k.s).size ≤ 3000 := by
              have h1 : ((⟨#[]⟩ : ByteArray) ++ k.s).size = (⟨#[]⟩ : ByteArray).size + k.s.size := ByteArray.size_append
              have h2 : (⟨#[]⟩ : ByteArray).size = 0 := rfl
              have := htk.2
              omega
            have hpn : pNum (val P) (k :: l2) = (val P k false).map fun x => (x, l2) := by simp only [pNum, if_neg h45]
            cases hv : val P k false with
            | some x0 =>
              have hR1 : ∀ w', PlS P B p g w w' u5 xs l2 false → Calls Tryz.prog 67 #[.string ((⟨#[]⟩ : ByteArray) ++ k.s)] w' fun e w2 => e = .returned (.tuple #[.float .f64 x0, .bool true]) ∧ Hid (PlS P B p g w w2 u5 xs l2 false) := by
                intro w' h
                have := h.num hk49 hkn false _ (by simpa using hsl) hsz
                rw [hv] at this
                exact this
              rw [hv] at hpn
              have hQ := Lib.hid (hq'.trans (plR_some hpn))
              rw [← hWn] at hQ
              clear hq hq' hS' hS HP HS0 hz htk hsl hsz hkn hpn hv h45 hk49
              go_wp2_with (first | (go_at_call 57; refine hn.mono ?_; rintro e w2 ⟨rfl, rfl⟩; clear hn) | (go_at_call 36; refine ht2.mono ?_; rintro e w4 ⟨rfl, hS2⟩; clear ht2; have hR := hR1 _ hS2.out; clear hS2) | (go_at_call 67; refine hR.mono ?_; rintro e w5 ⟨rfl, hS3⟩; clear hR; have hS4 := hS3.out) | (at_builtin; refine wpList_append_one rfl _ _ 30 rfl w.heap.size 65 i0 _ 1 8 Tryz.underlying30 hi hz0 hz1 hz2 rfl (by omega) (by omega) _ _ _ _ _ (by rfl) (by exact hS4.own) (by first | rfl | (simp only [World.size_setCell]; rfl)) rfl (by intro u hu; simp at hu; subst hu; rfl) (by omega) hS4.kp.size ?_; intro v6 w6 ho6 hg6))
              all_goals (
                go_roundw
                case rel => exact ⟨i + 1, xs ++ [_], l2, false, by omega, int_eq (by omega), by simp; omega, Lib.hid (hS4.app hg ho6 hg6), hQ⟩
                case measure => simp only []; omega)
            | none =>
              have hR1 : ∀ w', PlS P B p g w w' u5 xs l2 false → Calls Tryz.prog 67 #[.string ((⟨#[]⟩ : ByteArray) ++ k.s)] w' fun e w2 => (∃ x : Nat, e = .returned (.tuple #[.float .f64 x, .bool false])) ∧ Hid (PlS P B p g w w2 u5 xs l2 false) := by
                intro w' h
                have := h.num hk49 hkn false _ (by simpa using hsl) hsz
                rw [hv] at this
                exact this
              rw [hv] at hpn
              have hQ : Hid (plR P W l bad = none) := Lib.hid (hq'.trans (by rw [plR_none hpn]; rfl))
              clear hq hq' hS' hS HP HS0 hz htk hsl hsz hkn hpn hv h45 hk49
              go_wp2_with (first | (go_at_call 57; refine hn.mono ?_; rintro e w2 ⟨rfl, rfl⟩; clear hn) | (go_at_call 36; refine ht2.mono ?_; rintro e w4 ⟨rfl, hS2⟩; clear ht2; have hR := hR1 _ hS2.out; clear hS2) | (go_at_call 67; refine hR.mono ?_; rintro e w5 ⟨⟨x, rfl⟩, hS3⟩; clear hR; obtain ⟨b3, c3, f3⟩ := hS3.out.cells; have hS4 := hS3.out.setBad) | (at_builtin; refine wpList_append_one rfl _ _ 30 rfl w.heap.size 65 i0 _ 1 8 Tryz.underlying30 hi hz0 hz1 hz2 rfl (by omega) (by omega) _ _ _ _ _ (by rfl) (by exact hS4.own) (by first | rfl | (simp only [World.size_setCell]; rfl)) rfl (by intro u hu; simp at hu; subst hu; rfl) (by omega) hS4.kp.size ?_; intro v6 w6 ho6 hg6))
              all_goals (
                go_roundw
                case rel => exact ⟨i + 1, xs ++ [_], l2, true, by omega, int_eq (by omega), by simp; omega, Lib.hid (hS4.app hg ho6 hg6), hQ⟩
                case measure => simp only []; omega)
      · have hqn : plR P W l bad = none := by
          rw [hq']
          cases bad' with
          | true => rfl
          | false =>
            cases l' with
            | nil => rw [plR_none rfl]; rfl
            | cons k l2 =>
              have h1 : ¬ k.k = 45 := fun h => hz (Or.inl h)
              have h2 : ¬ k.k = 49 := fun h => hz (Or.inr h)
              rw [plR_none]
              · rfl
              · simp only [pNum, if_neg h1]
                cases hv : val P k false with
                | none => rfl
                | some x => exact absurd (val_kind P _ _ _ hv) h2
        have hn := hS'.nxt
        have hz45 : (((nx l' bad' : Nat) : Int) == 45) = false := by simp; omega
        have ht := hS'.take_bad 49 (fun h => hz (Or.inr h))
        have hQ := Lib.hid hqn
        clear hq hq' hqn hz hS' hS HP HS0
        generalize nx l' bad' = N at hn hz45
        go_wp2_with (first | (go_at_call 57; refine hn.mono ?_; rintro e w2 ⟨rfl, rfl⟩; clear hn) | (go_at_call 36; refine ht.mono ?_; rintro e w3 ⟨rfl, hS2⟩; clear ht) | (go_at_call 67; refine (hS2.junk _ (Or.inl rfl) (by show 0 ≤ 3000; omega)).mono ?_; rintro e w4 ⟨⟨x, b, rfl⟩, hS3⟩; obtain ⟨b3, c3, f3⟩ := hS3.cells; cases b; (have hS4 := hS3.setBad); rotate_left; (have hS4 := hS3); rotate_left) | (at_builtin; refine wpList_append_one rfl _ _ 30 rfl w.heap.size 65 i0 _ 1 8 Tryz.underlying30 hi hz0 hz1 hz2 rfl (by omega) (by omega) _ _ _ _ _ (by rfl) (by exact hS4.own) (by first | rfl | (simp only [World.size_setCell]; rfl)) rfl (by intro u hu; simp at hu; subst hu; rfl) (by omega) hS4.kp.size ?_; intro v6 w6 ho6 hg6))
        all_goals (
          go_roundw
          case rel => exact ⟨i + 1, xs ++ [_], _, true, by omega, int_eq (by omega), by simp; omega, Lib.hid (hS4.app hg ho6 hg6), hQ⟩
          case measure => simp only []; omega)
    · have hlt' : ¬ (i : Int) < W := by omega
      have hiW' : i = W := by omega
      have hq' := hq.out
      rw [hiW', Nat.sub_self] at hq'
      have hq2 := Lib.hid hq'
      clear hq' hq
      go_wp2_with (fail)
      go_ret
      exact HP.out _ _ ⟨_, xs, l', bad', rfl, by omega, hS.out, hq2.out⟩
end Go.Proofs.YtlckfiflfkbofaaGreatDoor

/- Small functions: Leaf, KidOf, kindName, dimName, pKind, xTag, dimOf, and the like. -/
namespace Go.Proofs.YtlckfiflfkbofaaGreatDoor
open Go.RowKit

set_option maxRecDepth 100000 in
theorem kn_0 (w : World) : Calls Tryz.prog 37 #[.int .i64 0] w fun e w' => e = .returned (.string ⟨#[71, 69, 79, 77, 69, 84, 82, 89, 67, 79, 76, 76, 69, 67, 84, 73, 79, 78]⟩) ∧ w = w' := by
  go_enter Tryz.func37, Tryz.ntmps37
  go_wp2_with (fail)
  go_ret
  exact ⟨rfl, rfl⟩
set_option maxRecDepth 100000 in
theorem kn_1 (w : World) : Calls Tryz.prog 37 #[.int .i64 1] w fun e w' => e = .returned (.string ⟨#[80, 79, 73, 78, 84]⟩) ∧ w = w' := by
  go_enter Tryz.func37, Tryz.ntmps37
  go_wp2_with (fail)
  go_ret
  exact ⟨rfl, rfl⟩
set_option maxRecDepth 100000 in
theorem kn_2 (w : World) : Calls Tryz.prog 37 #[.int .i64 2] w fun e w' => e = .returned (.string ⟨#[76, 73, 78, 69, 83, 84, 82, 73, 78, 71]⟩) ∧ w = w' := by
  go_enter Tryz.func37, Tryz.ntmps37
  go_wp2_with (fail)
  go_ret
  exact ⟨rfl, rfl⟩
set_option maxRecDepth 100000 in
theorem kn_3 (w : World) : Calls Tryz.prog 37 #[.int .i64 3] w fun e w' => e = .returned (.string ⟨#[80, 79, 76, 89, 71, 79, 78]⟩) ∧ w = w' := by
  go_enter Tryz.func37, Tryz.ntmps37
  go_wp2_with (fail)
  go_ret
  exact ⟨rfl, rfl⟩
set_option maxRecDepth 100000 in
theorem kn_4 (w : World) : Calls Tryz.prog 37 #[.int .i64 4] w fun e w' => e = .returned (.string ⟨#[77, 85, 76, 84, 73, 80, 79, 73, 78, 84]⟩) ∧ w = w' := by
  go_enter Tryz.func37, Tryz.ntmps37
  go_wp2_with (fail)
  go_ret
  exact ⟨rfl, rfl⟩
set_option maxRecDepth 100000 in
theorem kn_5 (w : World) : Calls Tryz.prog 37 #[.int .i64 5] w fun e w' => e = .returned (.string ⟨#[77, 85, 76, 84, 73, 76, 73, 78, 69, 83, 84, 82, 73, 78, 71]⟩) ∧ w = w' := by
  go_enter Tryz.func37, Tryz.ntmps37
  go_wp2_with (fail)
  go_ret
  exact ⟨rfl, rfl⟩
set_option maxRecDepth 100000 in
theorem kn_6 (w : World) : Calls Tryz.prog 37 #[.int .i64 6] w fun e w' => e = .returned (.string ⟨#[77, 85, 76, 84, 73, 80, 79, 76, 89, 71, 79, 78]⟩) ∧ w = w' := by
  go_enter Tryz.func37, Tryz.ntmps37
  go_wp2_with (fail)
  go_ret
  exact ⟨rfl, rfl⟩
set_option maxRecDepth 100000 in
theorem dn_0 (w : World) : Calls Tryz.prog 39 #[.int .i64 0] w fun e w' => e = .returned (.string ⟨#[]⟩) ∧ w = w' := by
  go_enter Tryz.func39, Tryz.ntmps39
  go_wp2_with (fail)
  go_ret
  exact ⟨rfl, rfl⟩
set_option maxRecDepth 100000 in
theorem dn_1 (w : World) : Calls Tryz.prog 39 #[.int .i64 1] w fun e w' => e = .returned (.string ⟨#[90]⟩) ∧ w = w' := by
  go_enter Tryz.func39, Tryz.ntmps39
  go_wp2_with (fail)
  go_ret
  exact ⟨rfl, rfl⟩
set_option maxRecDepth 100000 in
theorem dn_2 (w : World) : Calls Tryz.prog 39 #[.int .i64 2] w fun e w' => e = .returned (.string ⟨#[77]⟩) ∧ w = w' := by
  go_enter Tryz.func39, Tryz.ntmps39
  go_wp2_with (fail)
  go_ret
  exact ⟨rfl, rfl⟩
set_option maxRecDepth 100000 in
theorem dn_3 (w : World) : Calls Tryz.prog 39 #[.int .i64 3] w fun e w' => e = .returned (.string ⟨#[90, 77]⟩) ∧ w = w' := by
  go_enter Tryz.func39, Tryz.ntmps39
  go_wp2_with (fail)
  go_ret
  exact ⟨rfl, rfl⟩
set_option maxRecDepth 100000 in
theorem lf_1 (w : World) : Calls Tryz.prog 32 #[.int .i64 1] w fun e w' => e = .returned (.bool true) ∧ w = w' := by
  go_enter Tryz.func32, Tryz.ntmps32
  go_wp2_with (fail)
  go_ret
  exact ⟨rfl, rfl⟩
set_option maxRecDepth 100000 in
theorem lf_4 (w : World) : Calls Tryz.prog 32 #[.int .i64 4] w fun e w' => e = .returned (.bool false) ∧ w = w' := by
  go_enter Tryz.func32, Tryz.ntmps32
  go_wp2_with (fail)
  go_ret
  exact ⟨rfl, rfl⟩
set_option maxRecDepth 100000 in
theorem ko_4 (w : World) : Calls Tryz.prog 34 #[.int .i64 4] w fun e w' => e = .returned (.int .i64 1) ∧ w = w' := by
  go_enter Tryz.func34, Tryz.ntmps34
  go_wp2_with (fail)
  go_ret
  exact ⟨rfl, rfl⟩
set_option maxRecDepth 100000 in
theorem ko_1 (w : World) : Calls Tryz.prog 34 #[.int .i64 1] w fun e w' => e = .returned (.int .i64 (-1)) ∧ w = w' := by
  go_enter Tryz.func34, Tryz.ntmps34
  go_wp2_with (fail)
  go_ret
  exact ⟨rfl, rfl⟩
set_option maxRecDepth 100000 in
theorem pk_4 (w : World) : Calls Tryz.prog 9 #[.int .i64 4] w fun e w' => e = .returned (.string ⟨#[77, 85, 76, 84, 73, 80, 79, 73, 78, 84]⟩) ∧ w = w' := by
  go_enter Tryz.func9, Tryz.ntmps9
  go_wp2_with (fail)
  go_ret
  exact ⟨rfl, rfl⟩
set_option maxRecDepth 100000 in
theorem do_0 (w : World) : Calls Tryz.prog 13 #[.int .i64 0] w fun e w' => e = .returned (.int .u8 0) ∧ w = w' := by
  go_enter Tryz.func13, Tryz.ntmps13
  go_wp2_with (fail)
  go_ret
  refine ⟨congrArg Ending.returned (int_eq ?_), rfl⟩
  decide +kernel
set_option maxRecDepth 100000 in
theorem do_1 (w : World) : Calls Tryz.prog 13 #[.int .i64 1] w fun e w' => e = .returned (.int .u8 1) ∧ w = w' := by
  go_enter Tryz.func13, Tryz.ntmps13
  go_wp2_with (fail)
  go_ret
  refine ⟨congrArg Ending.returned (int_eq ?_), rfl⟩
  decide +kernel
set_option maxRecDepth 100000 in
theorem do_2 (w : World) : Calls Tryz.prog 13 #[.int .i64 2] w fun e w' => e = .returned (.int .u8 2) ∧ w = w' := by
  go_enter Tryz.func13, Tryz.ntmps13
  go_wp2_with (fail)
  go_ret
  refine ⟨congrArg Ending.returned (int_eq ?_), rfl⟩
  decide +kernel
set_option maxRecDepth 100000 in
theorem do_3 (w : World) : Calls Tryz.prog 13 #[.int .i64 3] w fun e w' => e = .returned (.int .u8 3) ∧ w = w' := by
  go_enter Tryz.func13, Tryz.ntmps13
  go_wp2_with (fail)
  go_ret
  refine ⟨congrArg Ending.returned (int_eq ?_), rfl⟩
  decide +kernel
set_option maxRecDepth 100000 in
theorem xt_0 (w : World) : Calls Tryz.prog 10 #[.int .i64 0] w fun e w' => e = .returned (.string ⟨#[]⟩) ∧ Below w.heap.size w w' := by
  have ha : Go.bits .and .i64 0 3 = 0 := by decide +kernel
  go_enter Tryz.func10, Tryz.ntmps10
  go_wp2_with (fail)
  go_ret
  exact ⟨rfl, (Below.refl _ w).alloc (Nat.le_refl _) _⟩
set_option maxRecDepth 100000 in
theorem xt_1 (w : World) : Calls Tryz.prog 10 #[.int .i64 1] w fun e w' => e = .returned (.string ⟨#[32, 90, 32]⟩) ∧ Below w.heap.size w w' := by
  have ha : Go.bits .and .i64 1 3 = 1 := by decide +kernel
  go_enter Tryz.func10, Tryz.ntmps10
  go_wp2_with (fail)
  go_ret
  exact ⟨rfl, (Below.refl _ w).alloc (Nat.le_refl _) _⟩
set_option maxRecDepth 100000 in
theorem xt_2 (w : World) : Calls Tryz.prog 10 #[.int .i64 2] w fun e w' => e = .returned (.string ⟨#[32, 77, 32]⟩) ∧ Below w.heap.size w w' := by
  have ha : Go.bits .and .i64 2 3 = 2 := by decide +kernel
  go_enter Tryz.func10, Tryz.ntmps10
  go_wp2_with (fail)
  go_ret
  exact ⟨rfl, (Below.refl _ w).alloc (Nat.le_refl _) _⟩
set_option maxRecDepth 100000 in
theorem xt_3 (w : World) : Calls Tryz.prog 10 #[.int .i64 3] w fun e w' => e = .returned (.string ⟨#[32, 90, 77, 32]⟩) ∧ Below w.heap.size w w' := by
  have ha : Go.bits .and .i64 3 3 = 3 := by decide +kernel
  go_enter Tryz.func10, Tryz.ntmps10
  go_wp2_with (fail)
  go_ret
  exact ⟨rfl, (Below.refl _ w).alloc (Nat.le_refl _) _⟩
end Go.Proofs.YtlckfiflfkbofaaGreatDoor

/- SameNums, SameGeom, SameGeoms, of equal data. -/
namespace Go.Proofs.YtlckfiflfkbofaaGreatDoor
open Go.RowKit

/-- The slice v shows the numbers xs. -/
def NumV (w : World) (v : Value) (xs : List Nat) : Prop := ∃ a cap, v = .slice a xs.length cap ∧ ∀ i x, xs[i]? = some x → ∃ g, a = some ⟨g, 0, none⟩ ∧ g < w.heap.size ∧ w.cell? ⟨g, i, none⟩ = some (.float .f64 x)
theorem NumV.keep {w w' : World} {v : Value} {xs : List Nat} (h : NumV w v xs) (k : Keep (fun _ => False) w w') : NumV w' v xs := by
  obtain ⟨a, cap, h1, h2⟩ := h
  refine ⟨a, cap, h1, fun i x hx => ?_⟩
  obtain ⟨g, e, hg, hc⟩ := h2 i x hx
  exact ⟨g, e, Nat.lt_of_lt_of_le hg k.size, k.cell hc (fun h => h)⟩
theorem own_num {w : World} {B : Nat} {v : Value} {xs : List Nat} (h : w.ownsRow B 65 1 v xs.length (fl xs)) : NumV w v xs := by
  rcases h.2 with ⟨rfl, h0⟩ | ⟨g, cap, cur, rfl, hb, hg, _⟩
  · have : xs = [] := List.eq_nil_of_length_eq_zero h0
    subst this
    exact ⟨none, 0, rfl, fun i p hp => by cases hp⟩
  · refine ⟨_, cap, rfl, fun i x hx => ⟨g, rfl, (Array.getElem?_eq_some_iff.1 hg).1, ?_⟩⟩
    have hadd : ∀ j, (⟨g, 0, none⟩ : Addr).add j = ⟨g, j, none⟩ := by intro j; unfold Addr.add; split <;> simp_all
    have := h.cells (g := g) rfl i (.float .f64 x) (by simp [fl, hx])
    rwa [hadd] at this

set_option maxRecDepth 100000 in
set_option maxHeartbeats 3200000 in
theorem sn_calls20 (w : World) (u v : Value) (xs : List Nat) (hu : NumV w u xs) (hv : NumV w v xs) (hl : xs.length ≤ 100000) : Calls Tryz.prog 20 #[u, v] w fun e w' => e = .returned (.bool true) ∧ Keep (fun _ => False) w w' := by
  obtain ⟨a, cap, rfl, hca⟩ := hu
  obtain ⟨b, cap', rfl, hcb⟩ := hv
  have hbit := f64bits_run
  obtain ⟨n, hn⟩ : ∃ n, n = xs.length := ⟨_, rfl⟩
  rw [← hn] at hl ⊢
  have HN := Lib.hid hn
  clear hn
  go_enter Tryz.func20, Tryz.ntmps20
  go_wp2_with (fail)
  go_loopw [14] (fun v14 wr => ∃ i : Nat, i ≤ n ∧ v14 = .int .i64 (i : Int) ∧ Hid (∃ m, wr = w.drewN m)) (fun v14 _ => n - (match v14 with | .int _ i => i.toNat | _ => 0))
  case atStart => exact ⟨0, Nat.zero_le _, rfl, Lib.hid ⟨0, rfl⟩⟩
  case round =>
    obtain ⟨i, hin, rfl, hm⟩ := hrel
    obtain ⟨m, rfl⟩ := hm.out
    by_cases hlt : i < n
    · have hlt' : (i : Int) < n := by omega
      have hltp : i < xs.length := by have := HN.out; omega
      obtain ⟨x, hx⟩ : ∃ x, xs[i]? = some x := ⟨_, List.getElem?_eq_getElem hltp⟩
      obtain ⟨g, rfl, hg, hc⟩ := hca i x hx
      obtain ⟨g', rfl, hg', hc'⟩ := hcb i x hx
      clear hca hcb hx
      go_wp2_with (fail)
      go_quiet (fail)
      go_wp2_with (fail)
      go_roundw
      case rel => exact ⟨i + 1, by omega, int_eq (by omega), Lib.hid ⟨_, rfl⟩⟩
      case measure => simp only []; omega
    · have hlt' : ¬ (i : Int) < n := by omega
      clear hca hcb
      go_wp2_with (fail)
      go_ret
      exact ⟨rfl, (Keep.refl _ w).drewN m⟩

end Go.Proofs.YtlckfiflfkbofaaGreatDoor
