/- newWKTLexer, newParser. DoorMultiPointBody. Part 48 of 51 of the proof that FnMultiPointBody returns true for every text and every type of coordinates, where the listed variables hold what the text of the program lays. -/
import Derived.Test.YtlckfiflfkbofaaGreatDoorM30
import Derived.Test.YtlckfiflfkbofaaGreatDoorM37
import Derived.Test.YtlckfiflfkbofaaGreatDoorM41
import Derived.Test.YtlckfiflfkbofaaGreatDoorM47
set_option linter.all false

/- newWKTLexer, newParser. -/
namespace Go.Proofs.YtlckfiflfkbofaaGreatDoor
open Go.RowKit

theorem info99 : (Tryz.prog.info? 99).map (·.size) = some 1048 := by kernel_rfl
theorem info101 : (Tryz.prog.info? 101).map (·.size) = some 1049 := by kernel_rfl
theorem info104 : (Tryz.prog.info? 104).map (·.size) = some 1049 := by kernel_rfl

theorem wpList_build_x {ops : Array Oper} {rest : List Oper} {o : Oper} {a : Act} {w : World} {Q : Exit → Act → World → Prop} (hg : o.guard = none) (t : TypeId) (x : Operand) (ho : o.op = .build t #[(0, x)]) (C X : Array Value)
    (hx : a.eval x = .agg C) (hb : Tryz.prog.built t [(0, .agg C)] = some X)
    (h : wpList Tryz.prog ops Q rest (a.put o.dst (.agg X)) w) : wpList Tryz.prog ops Q (o :: rest) a w := by
  have e : (Array.map (fun (i, x) => (i, a.eval x)) #[((0 : Nat), x)]).toList = [(0, .agg C)] := by simp [hx]
  exact wpList_build hg t #[(0, x)] ho (by rw [e, hb]; rfl) (by rw [e, hb]; exact h)

/-- The lexer's cells, made. -/
def lexF (r : Nat) (j : Nat) : Value := if j = 1041 then .int .u64 28 else iniF r j
theorem ite_one {c : Prop} [Decidable c] {a b : Value} (h1 : a.oneCell' = true) (h2 : b.oneCell' = true) : (if c then a else b).oneCell' = true := by
  split <;> assumption
theorem zf_one (j : Nat) : (zf j).oneCell' = true := by
  unfold zf
  repeat' (first | rfl | apply ite_one)
theorem lexF_one (r j : Nat) : (lexF r j).oneCell' = true := by
  unfold lexF iniF
  repeat' (first | rfl | exact zf_one j | apply ite_one)

theorem all_one {X : Array Value} {n : Nat} {f : Nat → Value} (hs : X.size = n) (hX : ∀ i, i < n → X[i]? = some (f i)) (hf : ∀ i, (f i).oneCell' = true) : X.all (·.oneCell') = true := by
  rw [Array.all_eq_true_iff_forall_mem]
  intro v hv
  obtain ⟨i, hi, rfl⟩ := Array.getElem_of_mem hv
  have := hX i (by omega)
  rw [Array.getElem?_eq_getElem hi] at this
  rw [Option.some.inj this]
  exact hf i

set_option maxRecDepth 100000 in
set_option maxHeartbeats 3200000 in
theorem nl_calls (s : ByteArray) (w : World) : Calls Tryz.prog 42 #[.string s] w fun e w' => ∃ X, e = .returned (.agg X) ∧ X.size = 1049 ∧ (∀ i, i < 1049 → X[i]? = some (lexF (w.heap.size + 1 + 1) i)) ∧ w'.heap[w.heap.size + 1 + 1]? = some (.cells #[.string s, .int .i64 0, .int .i64 (-1)] 135 (0, 0)) ∧ Keep (fun _ => False) w w' := by
  have hz101 := (zero_of_info z101).1
  have hz99 := (zero_of_info z99).1
  have h60 := fun W => nr_calls s W
  go_enter Tryz.func42, Tryz.ntmps42
  go_wp2_with (go_at_call 60; refine (h60 _).mono ?_; rintro e w2 ⟨rfl, rfl⟩)
  have hBF : BF (((w.alloc (.cells (zA 1049) 101)).alloc (.cells (zA 1048) 99)).alloc (.cells #[.string s, .int .i64 0, .int .i64 (-1)] 135)) (w.heap.size + 1) 1048 99 zf :=
    ⟨zA 1048, (Below.heap_alloc _ _ _ (by simp)).trans (heap_alloc2_new w _ _), zA_size _, fun i hi => zA_get hi⟩
  have hr0 : (((w.alloc (.cells (zA 1049) 101)).alloc (.cells (zA 1048) 99)).alloc (.cells #[.string s, .int .i64 0, .int .i64 (-1)] 135)).heap[w.heap.size]? = some (.cells (zA 1049) 101 (0, 0)) :=
    (Below.heap_alloc _ _ _ (by simp; omega)).trans (heap_alloc2_old w _ _)
  have hr2 : (((w.alloc (.cells (zA 1049) 101)).alloc (.cells (zA 1048) 99)).alloc (.cells #[.string s, .int .i64 0, .int .i64 (-1)] 135)).heap[w.heap.size + 1 + 1]? = some (.cells #[.string s, .int .i64 0, .int .i64 (-1)] 135 (0, 0)) := by
    have := heap_alloc_new ((w.alloc (.cells (zA 1049) 101)).alloc (.cells (zA 1048) 99)) (.cells #[.string s, .int .i64 0, .int .i64 (-1)] 135)
    simpa using this
  have hK0 := (((Keep.refl (fun _ => False) w).alloc (.cells (zA 1049) 101)).alloc (.cells (zA 1048) 99)).alloc (.cells #[.string s, .int .i64 0, .int .i64 (-1)] 135)
  refine (ini_calls _ _ _ hBF).mono ?_
  rintro e w3 ⟨rfl, hB3, hK3⟩
  have hr0' := (hK3.block _ (Array.getElem?_eq_some_iff.1 hr0).1 (by show ¬ _ = _; omega)).trans hr0
  have hr2' := (hK3.block _ (Array.getElem?_eq_some_iff.1 hr2).1 (by show ¬ _ = _; omega)).trans hr2
  have hK4 : Keep (fun _ => False) w w3 := hK0.trans' hK3 (fun i hi e => by have : i = w.heap.size + 1 := e; omega)
  obtain ⟨c0, f0⟩ := hB3.cell (i := 1041) (by omega)
  have hB4 := hB3.set 1041 (.int .u64 28)
  obtain ⟨C, hC, hCs, hCf⟩ := hB4
  obtain ⟨X, hX, hXs, hXf⟩ := built_one (zA 1049) z101 pl101 C hCs (by rw [zA_size]; omega)
  have hXv : ∀ i, i < 1049 → X[i]? = some (lexF (w.heap.size + 1 + 1) i) := by
    intro i hi
    rw [hXf i]
    by_cases h : i < 1048
    · rw [if_pos h, hCf i h]; rfl
    · rw [if_neg h, zA_get hi]
      have : i = 1048 := by omega
      subst this
      rfl
  have hXs' : X.size = 1049 := by rw [hXs, zA_size]
  have hr0'' : (w3.setCell ⟨w.heap.size + 1, 1041, none⟩ (.int .u64 28)).heap[w.heap.size]? = some (.cells (zA 1049) 101 (0, 0)) := (Below.heap_setCell _ _ _ _ (show w.heap.size ≠ w.heap.size + 1 by omega)).trans hr0'
  have HX := Lib.hid hXv
  clear hBF hr0 hr2 hK0 hz101 hz99 h60 hXv hXf hXs
  go_wp2_with (first
    | (refine wpList_load_row rfl 99 _ rfl (w.heap.size + 1) (by rfl) 99 C (0, 0) _ hC Tryz.underlying99 rfl (by rw [hCs]; exact info99) ?_)
    | (refine wpList_build_x rfl 101 _ rfl C X (by rfl) hX ?_)
    | (refine wpList_store_row rfl 101 _ _ rfl w.heap.size X (by rfl) (by rfl) 101 (zA 1049) hr0'' (by rw [hXs']; exact info101) (by rw [hXs', zA_size]) (all_one hXs' HX.out (lexF_one _)) ?_))
  (try simp only [Exit.inBlock, Exit.then]); refine bodyPost_ret (results_one rfl _ _ _ _ _ _ _ rfl (setRow_heap _ _ _ _ _ _ hr0'') Tryz.underlying101 (by rw [hXs']; exact info101)) rfl ?_
  refine ⟨X, rfl, hXs', HX.out, ?_, ?_⟩
  · rw [setRow_other _ _ _ _ (by omega), Below.heap_setCell _ _ _ _ (show w.heap.size + 1 + 1 ≠ w.heap.size + 1 by omega)]
    exact hr2'
  · have hK5 := hK4.setCell (p := ⟨w.heap.size + 1, 1041, none⟩) (Or.inl (Nat.le_succ _)) (.int .u64 28)
    refine ⟨hK5.os, hK5.tape, hK5.output, by rw [setRow_size]; exact hK5.size, fun k hk hs => ?_⟩
    rw [setRow_other _ _ _ _ (by omega)]
    exact hK5.block k hk hs

set_option maxRecDepth 100000 in
set_option maxHeartbeats 3200000 in
theorem npr_calls (s : ByteArray) (w : World) : Calls Tryz.prog 22 #[.string s] w fun e w' => ∃ (b : Nat) (Y : Array Value), e = .returned (.pointer (some ⟨b, 0, none⟩)) ∧ w'.heap[b]? = some (.cells Y 104 (0, 0)) ∧ Y.size = 1049 ∧ (∀ i, i < 1049 → Y[i]? = some (lexF (w.heap.size + 1 + 1) i)) ∧ w'.heap[w.heap.size + 1 + 1]? = some (.cells #[.string s, .int .i64 0, .int .i64 (-1)] 135 (0, 0)) ∧ w.heap.size + 1 + 1 < b ∧ Keep (fun _ => False) w w' := by
  have h42 := nl_calls s w
  go_enter Tryz.func22, Tryz.ntmps22
  go_wp2_with (fail)
  refine h42.mono ?_
  rintro e w2 ⟨X, rfl, hXs, hX, hr, hK⟩
  obtain ⟨Y, hY, hYs, hYf⟩ := built_one (zA 1049) z104 pl104 X hXs (by rw [zA_size]; omega)
  have hYs' : Y.size = 1049 := by rw [hYs, zA_size]
  have hYv : ∀ i, i < 1049 → Y[i]? = some (lexF (w.heap.size + 1 + 1) i) := fun i hi => by rw [hYf i, if_pos hi]; exact hX i hi
  have HY := Lib.hid hYv
  have HX := Lib.hid hX
  clear hYf hYv hX h42
  go_wp2_with (first | (refine wpList_build_x rfl 104 _ rfl X Y (by rfl) hY ?_))
  go_ret
  have hlt := (Array.getElem?_eq_some_iff.1 hr).1
  exact ⟨w2.heap.size, Y, rfl, heap_alloc_new w2 _, hYs', HY.out, (Below.heap_alloc _ _ _ hlt).trans hr, hlt, hK.alloc _⟩

/-- The new scanner's state. -/
def s0 (r : Nat) : SS := ⟨r, fun j => if j = 0 then 128 else 0, 0, 0, 0, 1, 0, 0, 0, -1, 0, -2, .nilFunc, 0, ⟨#[]⟩, 0, 0, 0, ⟨#[]⟩, [], 0, -1⟩
theorem s0_f (r j : Nat) (h : j < 1033 ∨ 1036 ≤ j) (h2 : j < 1049) : lexF r j = (s0 r).f j := by
  by_cases e0 : j = 0
  · subst e0; rfl
  by_cases e1 : j = 1
  · subst e1; rfl
  by_cases l1 : j ≤ 1025
  · have : (s0 r).f j = .int .u8 0 := by
      unfold SS.f
      rw [if_neg e0, if_pos l1]
      show Value.int .u8 (if j - 1 = 0 then 128 else 0) = _
      rw [if_neg (by omega)]
    rw [this]
    unfold lexF iniF zf
    rw [if_neg (by omega), if_neg e0, if_neg e1, if_neg (by omega), if_neg (by omega), if_neg (by omega), if_neg (by omega), if_neg (by omega), if_neg e0, if_pos l1]
  · have hj : j = 1026 ∨ j = 1027 ∨ j = 1028 ∨ j = 1029 ∨ j = 1030 ∨ j = 1031 ∨ j = 1032 ∨ j = 1036 ∨ j = 1037 ∨ j = 1038 ∨ j = 1039 ∨ j = 1040 ∨ j = 1041 ∨ j = 1042 ∨ j = 1043 ∨ j = 1044 ∨ j = 1045 ∨ j = 1046 ∨ j = 1047 ∨ j = 1048 := by omega
    rcases hj with rfl | rfl | rfl | rfl | rfl | rfl | rfl | rfl | rfl | rfl | rfl | rfl | rfl | rfl | rfl | rfl | rfl | rfl | rfl | rfl <;> simp [lexF, iniF, zf, SS.f, s0]

/-- The lexer at the text's beginning. -/
theorem lx_start {w : World} {B b r : Nat} {t : ByteArray} {Y : Array Value} (hb : w.heap[b]? = some (.cells Y 104 (0, 0))) (hs : Y.size = 1049) (hY : ∀ i, i < 1049 → Y[i]? = some (lexF r i))
    (hr : w.heap[r]? = some (.cells #[.string t, .int .i64 0, .int .i64 (-1)] 135 (0, 0))) (hBb : B ≤ b) (hBr : B ≤ r) : Lx w B b r t 0 sE := by
  refine ⟨.nilFunc, Or.inl ⟨rfl, s0 r, ?_⟩⟩
  have hBW : B ≤ w.heap.size := by have := (Array.getElem?_eq_some_iff.1 hb).1; omega
  refine ⟨⟨LibA.zero_isBuffer (lr := 0) hBb ⟨Y, hb, ?_, ?_, ?_, ?_⟩, hr, hBr, hBW⟩, ?_, rfl, rfl, rfl, ?_, rfl, rfl, rfl, rfl⟩
  · rw [hY _ (by omega)]; rfl
  · rw [hY _ (by omega)]; rfl
  · rw [hY _ (by omega)]; rfl
  · intro i hi
    by_cases h : i < 1049
    · rw [hY i h, s0_f r i (by omega) h]
      unfold SS.R
      rw [if_pos h]
    · unfold SS.R
      rw [if_neg h, Array.getElem?_eq_none (by omega)]
  · refine ⟨⟨by show 0 ≤ 1024; omega, Nat.le_refl _, rfl, by show 0 + 0 ≤ t.size; omega, fun j hj => by exact absurd hj (Nat.not_lt_zero j), rfl⟩, by show 0 ≤ 1; omega, Nat.le_refl _⟩
  · intro e he; cases he

end Go.Proofs.YtlckfiflfkbofaaGreatDoor

/- DoorMultiPointBody. -/
namespace Go.Proofs.YtlckfiflfkbofaaGreatDoor
open Go.RowKit

/-- What the door answers. -/
def DorP (ct : Nat) (o : Option (List (List Nat) × List Tok)) (en : Ending) (w' : World) : Prop :=
  match o with
  | some (xss, _) => ∃ v, en = .returned (.tuple #[.agg #[v, .int .u8 (ct : Int)], .nilIface]) ∧ MpV w' v ct (xss.map (pgOf ct))
  | none => ∃ v, en = .returned (.tuple #[.agg #[.slice none 0 0, .int .u8 0], .iface 138 v])

theorem keep_bel {w w2 w3 : World} (k : Keep (fun _ => False) w w2) (h : Below w.heap.size w2 w3) : Keep (fun _ => False) w w3 :=
  ⟨h.os.trans k.os, h.tape.trans k.tape, h.output.trans k.output, Nat.le_trans k.size h.size, fun i hi hs => (h.block i hi).trans (k.block i hi hs)⟩
theorem asc_of {t : ByteArray} (h : ∀ n, 0 ≤ n → n < t.size → 0 < chA t n ∧ chA t n < 128) : Asc t := fun i hi => h i (Nat.zero_le _) hi

set_option maxRecDepth 100000 in
set_option maxHeartbeats 3200000 in
theorem door_calls {P : GP} (w : World) (t : ByteArray) (ct : Nat) (hct : ct < 4) (hV : Ev P w w.heap.size t) {l : List Tok} (hR : Rem t 0 l) (hg : ∀ k ∈ l, Tg k) (hll : l.length ≤ 3000) :
    Calls Tryz.prog 12 #[.string t, .int .u8 (ct : Int)] w fun e w' => DorP ct (pAll (val P) (wd ct) l) e w' ∧ Keep (fun _ => False) w w' := by
  have h22 := npr_calls t (w.alloc (.cells #[.slice none 0 0, .int .u8 0] 41))
  have hm : ∀ (b : Nat) (w2 : World), Keep (fun _ => False) (w.alloc (.cells #[.slice none 0 0, .int .u8 0] 41)) w2 → w.heap.size < b → (∃ Y : Array Value, w2.heap[b]? = some (.cells Y 104 (0, 0)) ∧ Y.size = 1049 ∧ (∀ i, i < 1049 → Y[i]? = some (lexF (w.heap.size + 1 + 1 + 1) i)) ∧ w2.heap[w.heap.size + 1 + 1 + 1]? = some (.cells #[.string t, .int .i64 0, .int .i64 (-1)] 135 (0, 0))) →
      Calls Tryz.prog 23 #[.pointer (some ⟨b, 0, none⟩), .int .u8 (ct : Int)] w2 fun e w' => MptR P w.heap.size b (w.heap.size + 1 + 1 + 1) ct (pAll (val P) (wd ct) l) w2 e w' := by
    rintro b w2 hK hb ⟨Y, h1, h2, h3, h4⟩
    have hL := lx_start (B := w.heap.size) h1 h2 h3 h4 (by omega) (by omega)
    have hE : Ev P w2 w.heap.size t := hV.keep ((((Keep.refl _ w).alloc _).trans (hK.mono fun _ _ h => h.elim)))
    exact mpt_calls hE (Or.inl ⟨0, hL, hR⟩) hg hll ct hct
  have HM := Lib.hid hm
  clear hm hV hR hg hll
  go_enter Tryz.func12, Tryz.ntmps12
  go_wp2_with (fail)
  refine h22.mono ?_
  rintro e w2 ⟨b, Y, rfl, hb, hYs, hY, hr, hlt, hK⟩
  have h23 := HM.out b w2 hK (by simp only [World.size_alloc] at hlt; omega) ⟨Y, hb, hYs, by simpa only [World.size_alloc] using hY, by simpa only [World.size_alloc] using hr⟩
  have hres := (hK.block w.heap.size (by simp) (fun h => h)).trans (heap_alloc_new w _)
  have HR := Lib.hid hres
  have hbw : w.heap.size ≠ b := by simp only [World.size_alloc] at hlt; omega
  have HK := Lib.hid hK
  clear HM hb hYs hY hr hK hres h22
  cases hp : pAll (val P) (wd ct) l with
  | none =>
    rw [hp] at h23
    go_wp2_with (go_at_call 23; refine h23.mono ?_; clear h23; rintro e w3 ⟨⟨v, rfl⟩, hF⟩; have hr3 := hF.oth _ _ HR.out hbw (by omega) (by intro c fz e; cases e); have r0 : w3.cell? ⟨w.heap.size, 0, none⟩ = some (.slice none 0 0) := (by simp [World.cell?, hr3]); have r1 : w3.cell? ⟨w.heap.size, 1, none⟩ = some (.int .u8 0) := (by simp [World.cell?, hr3]); have r2 := Lib.frozen_of_heap hr3 0; have r3 := Lib.frozen_of_heap hr3 1; have HR3 := Lib.hid hr3; clear hr3)
    (try simp only [Exit.inBlock, Exit.then]); refine bodyPost_ret (results_two rfl _ _ _ _ _ _ _ rfl (Lib.heap_setCell_same (i := 1) (Lib.heap_setCell_same (i := 0) HR3.out _) _) Tryz.underlying41 info41) rfl ?_
    exact ⟨by rw [hp]; exact ⟨_, rfl⟩, (((keep_bel (((Keep.refl _ w).alloc _).trans HK.out) hF.bel).setCell (Or.inl (Nat.le_refl _)) _).setCell (Or.inl (Nat.le_refl _)) _)⟩
  | some q =>
    obtain ⟨xss, q⟩ := q
    rw [hp] at h23
    go_wp2_with (go_at_call 23; refine h23.mono ?_; clear h23; rintro e w3 ⟨⟨v, rfl, hv⟩, hF⟩; have HV := Lib.hid hv; obtain ⟨av, cv, rfl, _⟩ := hv; have hr3 := hF.oth _ _ HR.out hbw (by omega) (by intro c fz e; cases e); have r0 : w3.cell? ⟨w.heap.size, 0, none⟩ = some (.slice none 0 0) := (by simp [World.cell?, hr3]); have r1 : w3.cell? ⟨w.heap.size, 1, none⟩ = some (.int .u8 0) := (by simp [World.cell?, hr3]); have r2 := Lib.frozen_of_heap hr3 0; have r3 := Lib.frozen_of_heap hr3 1; have HR3 := Lib.hid hr3; clear hr3)
    (try simp only [Exit.inBlock, Exit.then]); refine bodyPost_ret (results_two rfl _ _ _ _ _ _ _ rfl (Lib.heap_setCell_same (i := 1) (Lib.heap_setCell_same (i := 0) HR3.out _) _) Tryz.underlying41 info41) rfl ?_
    have hv9 := HV.out
    rw [List.length_map] at hv9
    exact ⟨by rw [hp]; exact ⟨_, rfl, hv9.but HR3.out (keep2 _ _ _ _)⟩, (((keep_bel (((Keep.refl _ w).alloc _).trans HK.out) hF.bel).setCell (Or.inl (Nat.le_refl _)) _).setCell (Or.inl (Nat.le_refl _)) _)⟩

end Go.Proofs.YtlckfiflfkbofaaGreatDoor
