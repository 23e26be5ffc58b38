/- strconv.Quote at printable bytes of ASCII: no table is read. Part 20 of 51 of the proof that FnMultiPointBody returns true for every text and every type of coordinates, where the listed variables hold what the text of the program lays. -/
import Derived.Shelf.Strconv.Quoted
import Derived.Shelf.Strconv.Quote
import Derived.Test.YtlckfiflfkbofaaGreatDoorM19
set_option linter.all false

/- strconv.Quote at printable bytes of ASCII: no table is read. -/
namespace Go.Proofs.YtlckfiflfkbofaaGreatDoor
open Go.RowKit

/-- Printable ASCII, neither the quote nor a backslash. -/
def prB (c : UInt8) : Bool := decide (32 ≤ c.toNat) && decide (c.toNat ≤ 126) && decide (c.toNat ≠ 34) && decide (c.toNat ≠ 92)
def Pr (s : ByteArray) : Prop := ∀ (i : Nat) (h : i < s.size), prB s[i] = true

theorem byteInfo : (Tryz.prog.info? 5).map (fun i => (i.zero, i.size, i.bytes)) = some (some (.int .u8 0), 1, 1) := by kernel_rfl

theorem ne_empty {s : ByteArray} (h0 : 0 < s.size) : (!s.toList.isEmpty) = true := by
  rw [Lib.toList_data]
  cases hl : s.data.toList with
  | nil => have : s.data.toList.length = s.size := by simp
           rw [hl] at this; simp at this; omega
  | cons _ _ => rfl

set_option maxRecDepth 100000 in
theorem dris_calls (s : ByteArray) (w : World) (h0 : 0 < s.size) (h : s[0].toNat < 128) : Calls Tryz.prog 198 #[.string s] w fun e w' => e = .returned (.tuple #[.int .i32 s[0].toNat, .int .i64 1]) ∧ Below w.heap.size w w' := by
  have hne := ne_empty h0
  go_enter Tryz.func198, Tryz.ntmps198
  go_wp2_with (fail)
  go_ret2
  exact ⟨rfl, Below.refl _ _⟩

set_option maxHeartbeats 4000000 in
set_option maxRecDepth 1000000 in
theorem esc_calls (B : Nat) (v : Value) (n : Nat) (xs : List Value) (r : Nat) (W0 w : World) (hb : Lib.OwnBuf B 5 v n xs W0 w) (hlen : n + 10 ≤ 140737488355328) (h1 : 32 ≤ r) (h2 : r ≤ 126) (hq1 : r ≠ 34) (hq2 : r ≠ 92) :
    Calls Tryz.prog 199 #[v, .int .i32 r, .int .u8 34, .bool false, .bool false] w fun e w' => ∃ v', e = .returned v' ∧ Lib.OwnBuf B 5 v' (n + 1) (xs ++ Lib.intCells [(r : Int)]) W0 w' := by
  have hq1' : ¬ (r : Int) = 34 := by omega
  have hq2' : ¬ (r : Int) = 92 := by omega
  have cP : ∀ W, Calls Tryz.prog 201 #[.int .i32 r] W fun e w' => e = .returned (.bool true) ∧ w' = W := by
    intro W
    have := Tryz.strconv_IsPrint_latin (r : Int) W (by omega)
    rwa [show Lib.isPrintLatin (r : Int) = true by simp only [Lib.isPrintLatin, Bool.or_eq_true, Bool.and_eq_true, decide_eq_true_eq]; omega] at this
  have cA : ∀ q, Calls Tryz.prog 203 #[v, .int .i32 r] (w.drewN q) fun e w' => ∃ v', e = .returned v' ∧ Lib.OwnBuf B 5 v' (n + 1) (xs ++ Lib.intCells [(r : Int)]) W0 w' := fun q => by
    have := Tryz.utf8_AppendRune_row B v n xs r (by omega) (by omega) _ (hb.drewN q).1 (by omega) (hb.drewN q).2.2
    refine this.mono fun e w' ⟨v', h1', h2', o, h3⟩ => ⟨v', h1', ?_⟩
    have hc : Lib.runeCells (r : Int) = Lib.intCells [(r : Int)] := by simp only [Lib.runeCells, Lib.intCells]; rw [Lib.encodeRuneZ_one (by omega) (by omega)]
    rw [hc] at h2'
    exact ((hb.drewN q).alloc o).grown h2' h3
  have cA0 := cA 0
  go_enter Tryz.func199, Tryz.ntmps199
  go_wp2_with (first | (go_at_call 201; refine (cP _).mono ?_; rintro e w1 ⟨rfl, rfl⟩) | (go_at_call 203; refine cA0.mono ?_; rintro e w2 ⟨v2, rfl, hb2⟩))
  go_ret
  exact ⟨_, rfl, hb2⟩

def numsL (s : ByteArray) : List Int := s.data.toList.map fun c => (c.toNat : Int)
theorem numsL_step {s : ByteArray} (h : 0 < s.size) : numsL s = (s[0].toNat : Int) :: numsL (s.extract 1 s.size) := by
  unfold numsL
  rw [Lib.extract_to_end]
  have hl : 0 < s.data.toList.length := by simpa using h
  have := List.drop_eq_getElem_cons (l := s.data.toList) (i := 0) hl
  rw [List.drop_zero] at this
  rw [this]
  rfl
theorem numsL_nil {s : ByteArray} (h : ¬ 0 < s.size) : numsL s = [] := by
  have : s.data.toList.length = s.size := by simp
  have h0 : s.data.toList = [] := List.eq_nil_of_length_eq_zero (by omega)
  simp [numsL, h0]

/-- What Quote makes. -/
def quoted (s : ByteArray) : List Int := 34 :: (numsL s ++ [34])
def AqP (s : ByteArray) (B : Nat) (W0 : World) (e : Ending) (w' : World) : Prop := ∃ v', e = .returned v' ∧ Lib.OwnBuf B 5 v' (quoted s).length (Lib.intCells (quoted s)) W0 w'

set_option maxHeartbeats 4000000 in
set_option maxRecDepth 1000000 in
theorem aqw_calls (a : Option Addr) (c : Nat) (s : ByteArray) (W0 w : World) (hs : Pr s) (hz : s.size ≤ 3000)
    (hb : Lib.OwnBuf W0.heap.size 5 (.slice a 0 c) 0 [] W0 w) (hroom : s.size ≤ c) (hc : c ≤ 9223372036854775807) :
    Calls Tryz.prog 197 #[.slice a 0 c, .string s, .int .u8 34, .bool false, .bool false] w fun e w' => AqP s W0.heap.size W0 e w' := by
  obtain ⟨i0, hi, hz0, hz1, hz2⟩ := info_parts byteInfo
  obtain ⟨B, hB⟩ : ∃ B, B = W0.heap.size := ⟨_, rfl⟩
  rw [← hB] at hb ⊢
  clear hB
  have hwc : wrap64 ((c : Int) - ((0 : Nat) : Int)) = (c : Int) := by unfold wrap64; omega
  have hwc' : wrap64 ((c : Int) - 0) = (c : Int) := by unfold wrap64; omega
  have hroom' : ¬ ((c : Int) < (s.size : Int)) := by omega
  go_enter Tryz.func197, Tryz.ntmps197
  go_wp2_with (at_builtin; (refine Lib.wpList_append_byte rfl _ _ 88 rfl B 5 i0 Tryz.underlying88 hi hz0 hz1 hz2 _ _ _ rfl W0 _ _ (by assumption) rfl (by omega) ?_; intro _ _ hb))
  have Hb0 := hb
  go_loopw [0, 1, 12, 13] (fun vb vs _ _ wr => ∃ (rest : ByteArray) (acc : List Int), vs = .string rest ∧ Pr rest ∧ Hid (Lib.OwnBuf B 5 vb (1 + acc.length) ([.int .u8 34] ++ Lib.intCells acc) W0 wr) ∧ Hid (acc ++ numsL rest = numsL s) ∧ acc.length + rest.size ≤ s.size)
    (fun _ vs _ _ _ => match vs with | .string r => r.size | _ => 0)
  case atStart => exact ⟨s, [], rfl, hs, by simpa [Hid, Lib.intCells] using Hb0, by simp [Hid], by simp⟩
  case round =>
    obtain ⟨rest, acc, rfl, hP, hbr, hq, hl⟩ := hrel
    by_cases h0 : 0 < rest.size
    · have h0' : (0 : Int) < (rest.size : Int) := by omega
      have hp0 := hP 0 h0
      simp only [prB, Bool.and_eq_true, decide_eq_true_eq] at hp0
      obtain ⟨R, hR⟩ : ∃ R, R = rest[0].toNat := ⟨_, rfl⟩
      rw [← hR] at hp0
      have cD := dris_calls rest wr h0 (by omega)
      rw [← hR] at cD
      have hP' : Pr (rest.extract 1 rest.size) := by
        intro i h
        rw [Lib.size_rest] at h
        have := hP (1 + i) (by omega)
        simpa [ByteArray.getElem_extract] using this
      have hsz : (rest.extract 1 rest.size).size = rest.size - 1 := Lib.size_rest rest 1
      have hR' : ¬ (R : Int) = 65533 := by omega
      have hK2 : (1 : Int) ≤ (rest.size : Int) := by omega
      have hq' : Hid ((acc ++ [(R : Int)]) ++ numsL (rest.extract 1 rest.size) = numsL s) := by
        have := hq.out
        rw [numsL_step h0, ← hR] at this
        show (acc ++ [(R : Int)]) ++ numsL (rest.extract 1 rest.size) = numsL s
        rw [← this]; simp
      clear hR
      go_wp2_with (fail)
      refine cD.mono ?_
      rintro e w1 ⟨rfl, hbl⟩
      have hb1 := buf_below hbr.out hbl
      have cE : Calls Tryz.prog 199 #[u0, .int .i32 R, .int .u8 34, .bool false, .bool false] w1 fun e w' => ∃ v', e = .returned v' ∧ Lib.OwnBuf B 5 v' (1 + acc.length + 1) ([.int .u8 34] ++ Lib.intCells acc ++ Lib.intCells [(R : Int)]) W0 w' := esc_calls B _ _ _ R W0 w1 hb1 (by omega) (by omega) (by omega) (by omega) (by omega)
      go_wp2_with (go_at_call 199; refine cE.mono ?_; rintro e w2 ⟨v2, rfl, hb2⟩)
      all_goals (
        go_roundw
        case rel =>
          refine ⟨_, acc ++ [(R : Int)], rfl, hP', ?_, hq', ?_⟩
          · simpa [Hid, Lib.intCells, List.append_assoc, Nat.add_assoc] using hb2
          · simp only [List.length_append, List.length_cons, List.length_nil]; omega
        case measure => simp only []; omega)
    · have h0' : ¬ (0 : Int) < (rest.size : Int) := by omega
      have hbx := hbr.out
      go_wp2_with (at_builtin; (refine Lib.wpList_append_byte rfl _ _ 88 rfl B 5 i0 Tryz.underlying88 hi hz0 hz1 hz2 _ _ _ rfl W0 _ _ (by assumption) rfl (by omega) ?_; intro _ _ hb))
      go_ret
      have hqe := hq.out
      rw [numsL_nil h0, List.append_nil] at hqe
      refine ⟨_, rfl, ?_⟩
      have e1 : Lib.intCells (quoted s) = [.int .u8 34] ++ Lib.intCells acc ++ [.int .u8 34] := by simp [quoted, ← hqe, Lib.intCells]
      have e2 : (quoted s).length = 1 + acc.length + 1 := by simp [quoted, ← hqe]; omega
      rw [e1, e2]
      exact hb

theorem acc_cells {B : Nat} {v : Value} {l : List Int} {W0 w : World} (h : Lib.OwnBuf B 5 v l.length (Lib.intCells l) W0 w) (hl : 0 < l.length) :
    ∃ g cap, v = .slice (some ⟨g, 0, none⟩) l.length cap ∧ ∀ i, i < l.length → w.cell? ⟨g, 0 + i, none⟩ = some (.int .u8 (l.getD i 0)) := by
  have := buf_cells (l := l) (v := v) (B := B) (e := 5) (W0 := W0) (w := w) (by simpa using h) hl
  exact this

set_option maxHeartbeats 4000000 in
set_option maxRecDepth 1000000 in
theorem qw_calls (s : ByteArray) (w : World) (hs : Pr s) (hz : s.size ≤ 3000) :
    Calls Tryz.prog 196 #[.string s, .int .u8 34, .bool false, .bool false] w fun e w' => e = .returned (.string (strOfNums (quoted s))) ∧ Below w.heap.size w w' := by
  obtain ⟨i0, hi, hz0, hz1, hz2⟩ := info_parts byteInfo
  obtain ⟨c, hc⟩ : ∃ c, c = 3 * s.size / 2 := ⟨_, rfl⟩
  have hcI : 3 * (s.size : Int) / 2 = (c : Int) := by omega
  have hc1 : s.size ≤ c := by omega
  have hc2 : c ≤ 10000 := by omega
  have cQ : ∀ w1, Lib.OwnBuf w.heap.size 5 (.slice (some ⟨w.heap.size, 0, none⟩) 0 c) 0 [] w w1 → Calls Tryz.prog 197 #[.slice (some ⟨w.heap.size, 0, none⟩) 0 c, .string s, .int .u8 34, .bool false, .bool false] w1 fun e w' => AqP s w.heap.size w e w' :=
    fun w1 hb => aqw_calls _ c s w w1 hs hz hb hc1 (by omega)
  have Hc : Hid (c = 3 * s.size / 2) := hc
  clear hc
  go_enter Tryz.func196, Tryz.ntmps196
  go_wp2_with (first
    | (at_make; refine wpList_make_own _ rfl _ _ 88 rfl w.heap.size 5 i0 (.int .u8 0) 1 Tryz.underlying88 hi hz0 hz1 _ _ _ c rfl rfl (by first | rfl | assumption) (by rw [hz2]; omega) (by unfold maxLen; omega) (Nat.le_refl _) ?_; intro w1 hown hg)
    | (go_at_call 197; refine (cQ _ ⟨World.ownsRowF_of hown, (Below.refl _ _).grown hg (Nat.le_refl _) (by intro k hk; cases hk), hg.size⟩).mono ?_; rintro e w2 ⟨v2, rfl, hb2⟩))
  obtain ⟨g, cap, rfl, hcells⟩ := acc_cells hb2 (by simp [quoted])
  have hcv := run_convert_bytes_arg w2 88 5 Tryz.underlying88 Tryz.underlying5 g 0 _ cap (quoted s) rfl hcells 9 Tryz.underlying9
  rw [hcv]
  go_wp2_with (fail)
  go_ret
  exact ⟨rfl, hb2.2.1⟩

set_option maxRecDepth 100000 in
theorem quote_calls (s : ByteArray) (w : World) (hs : Pr s) (hz : s.size ≤ 3000) :
    Calls Tryz.prog 195 #[.string s] w fun e w' => e = .returned (.string (strOfNums (quoted s))) ∧ Below w.heap.size w w' := by
  have h := qw_calls s w hs hz
  go_enter Tryz.func195, Tryz.ntmps195
  go_wp2_with (go_at_call 196; refine h.mono ?_; rintro e w1 ⟨rfl, hb⟩)
  go_ret
  exact ⟨rfl, hb⟩

theorem quoted_size (s : ByteArray) : (strOfNums (quoted s)).size = s.size + 2 := by
  have : (strOfNums (quoted s)).size = (quoted s).length := by simp [strOfNums, ByteArray.size]
  rw [this]; simp [quoted, numsL]

/-- An error of errors.New. -/
def NewE (w : World) (v : Value) (txt : ByteArray) : Prop := ∃ q, v = .iface 209 (.pointer (some ⟨q, 0, none⟩)) ∧ w.cell? ⟨q, 0, none⟩ = some (.string txt) ∧ q < w.heap.size

set_option maxRecDepth 100000 in
theorem spot_none {w : World} {a : Addr} {v : Value} (h : w.cell? a = some v) : a = ⟨a.block, a.off, none⟩ := by
  obtain ⟨b, o, sp⟩ := a
  cases sp with
  | none => rfl
  | some x =>
    exfalso
    unfold World.cell? at h
    split at h <;> simp at h
set_option maxRecDepth 100000 in
theorem es_error (q : Addr) (w : World) (txt : ByteArray) (h : w.cell? q = some (.string txt)) :
    Calls Tryz.prog 208 #[.pointer (some q)] w fun e w' => e = .returned (.string txt) ∧ Below w.heap.size w w' := by
  obtain ⟨qb, qo, qs⟩ := q
  obtain rfl : qs = none := by have := congrArg Addr.spot (spot_none h); exact this
  go_enter Tryz.func208, Tryz.ntmps208
  go_wp2_with (fail)
  go_ret
  exact ⟨rfl, Below.refl _ _⟩

theorem es_method (w : World) (p : Value) : (method (Tryz.prog.types.size + 100) 209 p "Error").run Tryz.prog w = .ok (208, p) w := by kernel_rfl

end Go.Proofs.YtlckfiflfkbofaaGreatDoor
