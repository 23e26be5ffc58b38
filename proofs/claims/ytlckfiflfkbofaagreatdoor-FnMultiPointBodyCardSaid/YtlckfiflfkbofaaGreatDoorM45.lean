/- The reference's body of a text: its state, its steps. The reference's body: EMPTY; a point. The reference's body of several points. The reference's tagged, at MULTIPOINT. Part 45 of 51 of the proof that FnMultiPointBody returns true for every text and every type of coordinates, where the listed variables hold what the text of the program lays. -/
import Derived.Deep.RegionLaw
import Derived.Test.YtlckfiflfkbofaaGreatDoorM30
import Derived.Test.YtlckfiflfkbofaaGreatDoorM31
import Derived.Test.YtlckfiflfkbofaaGreatDoorM38
import Derived.Test.YtlckfiflfkbofaaGreatDoorM39
import Derived.Test.YtlckfiflfkbofaaGreatDoorM40
import Derived.Test.YtlckfiflfkbofaaGreatDoorM44
set_option linter.all false

/- The reference's body of a text: its state, its steps. -/
namespace Go.Proofs.YtlckfiflfkbofaaGreatDoor
open Go.RowKit

/-- The body under way: the result's block at w0's end, the geometry's behind it, the reader ahead of l. -/
structure BdS (P : GP) (B p g : Nat) (w0 w : World) (kd ct : Nat) (nv kv : Value) (l : List Tok) (bad : Bool) : Prop where
  rd : RdS w p g l bad
  kp : Keep (At1 p) w0 w
  tg : ∀ k ∈ l, Tg k ∧ k.s.size < 3000
  nu : Nu P w B
  pB : B ≤ p
  pl : p < w0.heap.size
  gl : g < w0.heap.size
  r : w.heap[w0.heap.size]? = some (.cells #[.int .i64 0, .int .i64 0, .slice none 0 0, .slice none 0 0] 33 (0, 0))
  b : w.heap[w0.heap.size + 1]? = some (.cells #[.int .i64 (kd : Int), .int .i64 (ct : Int), nv, kv] 33 (0, 0))

/-- What a reader may be asked with. -/
structure RdQ (P : GP) (B p g : Nat) (w : World) (l : List Tok) (bad : Bool) : Prop where
  rd : RdS w p g l bad
  tg : ∀ k ∈ l, Tg k ∧ k.s.size < 3000
  nu : Nu P w B
  pB : B ≤ p
  pl : p < w.heap.size
  gl : g < w.heap.size

section
variable {P : GP} {B p g : Nat} {w0 w w' : World} {kd ct : Nat} {nv kv : Value} {l l' : List Tok} {k : Tok} {bad b' : Bool}
theorem RdQ.step (h : RdQ P B p g w l bad) (q : Keep (At1 p) w w') (hr : RdS w' p g l' b') (hl : ∀ k ∈ l', k ∈ l) : RdQ P B p g w' l' b' :=
  ⟨hr, fun k hk => h.tg k (hl k hk), h.nu.keepS q (fun i hi => by have := h.pB; show i ≠ p; omega), h.pB, Nat.lt_of_lt_of_le h.pl q.size, Nat.lt_of_lt_of_le h.gl q.size⟩
theorem RdQ.keep (h : RdQ P B p g w l bad) (q : Keep (fun _ => False) w w') : RdQ P B p g w' l bad :=
  h.step (q.mono fun _ _ h => h.elim) (h.rd.keep q (fun h => h) (fun h => h)) fun _ h => h
theorem BdS.rq (h : BdS P B p g w0 w kd ct nv kv l bad) : RdQ P B p g w l bad :=
  ⟨h.rd, h.tg, h.nu, h.pB, Nat.lt_of_lt_of_le h.pl h.kp.size, Nat.lt_of_lt_of_le h.gl h.kp.size⟩
theorem BdS.step (h : BdS P B p g w0 w kd ct nv kv l bad) (q : Keep (At1 p) w w') (hr : RdS w' p g l' b') (hl : ∀ k ∈ l', k ∈ l) : BdS P B p g w0 w' kd ct nv kv l' b' :=
  ⟨hr, h.kp.trans q, fun k hk => h.tg k (hl k hk), h.nu.keepS q (fun i hi => by have := h.pB; show i ≠ p; omega), h.pB, h.pl, h.gl,
    (q.block _ (Array.getElem?_eq_some_iff.1 h.r).1 (by have := h.pl; show w0.heap.size ≠ p; omega)).trans h.r,
    (q.block _ (Array.getElem?_eq_some_iff.1 h.b).1 (by have := h.pl; show w0.heap.size + 1 ≠ p; omega)).trans h.b⟩
theorem BdS.stepF (h : BdS P B p g w0 w kd ct nv kv l bad) (q : Keep (fun _ => False) w w') : BdS P B p g w0 w' kd ct nv kv l bad :=
  h.step (q.mono fun _ _ h => h.elim) (h.rd.keep q (fun h => h) (fun h => h)) fun _ h => h
theorem BdS.start (h : RdQ P B p g w l bad) (kd ct : Nat) : BdS P B p g w ((w.alloc (.cells #[.int .i64 0, .int .i64 0, .slice none 0 0, .slice none 0 0] 33)).alloc (.cells #[.int .i64 (kd : Int), .int .i64 (ct : Int), .slice none 0 0, .slice none 0 0] 33)) kd ct (.slice none 0 0) (.slice none 0 0) l bad := by
  have hK := ((Keep.refl (fun _ => False) w).alloc (.cells #[.int .i64 0, .int .i64 0, .slice none 0 0, .slice none 0 0] 33)).alloc (.cells #[.int .i64 (kd : Int), .int .i64 (ct : Int), .slice none 0 0, .slice none 0 0] 33)
  have hq := h.keep hK
  exact ⟨hq.rd, hK.mono fun _ _ h => h.elim, hq.tg, hq.nu, h.pB, h.pl, h.gl, heap_alloc2_old w _ _, heap_alloc2_new w _ _⟩
theorem BdS.nxt (h : BdS P B p g w0 w kd ct nv kv l bad) : Calls Tryz.prog 57 #[.pointer (some ⟨p, 0, none⟩)] w fun e w' => e = .returned (.int .u8 (nx l bad : Nat)) ∧ w = w' := nx_calls57 h.rd
theorem BdS.take_ok (h : BdS P B p g w0 w kd ct nv kv (k :: l) false) : Calls Tryz.prog 36 #[.pointer (some ⟨p, 0, none⟩), .int .u8 (k.k : Int)] w fun e w' => e = .returned (.string k.s) ∧ BdS P B p g w0 w' kd ct nv kv l false := by
  refine (tk_ok h.rd).mono ?_
  rintro e w' ⟨h1, h2, h3⟩
  exact ⟨h1, h.step h3 h2 fun _ hk => List.mem_cons_of_mem _ hk⟩
theorem BdS.take_bad (h : BdS P B p g w0 w kd ct nv kv l bad) (c : Nat) (hc : ¬ nx l bad = c) : Calls Tryz.prog 36 #[.pointer (some ⟨p, 0, none⟩), .int .u8 (c : Int)] w fun e w' => e = .returned (.string ⟨#[]⟩) ∧ BdS P B p g w0 w' kd ct nv kv l true := by
  refine (tk_bad h.rd c hc).mono ?_
  rintro e w' ⟨h1, h2, h3⟩
  exact ⟨h1, h.step h3 h2 fun _ hk => hk⟩
/-- Taking a sign, be it there or not. -/
theorem BdS.take (h : BdS P B p g w0 w kd ct nv kv l bad) (c : Nat) (hc0 : c ≠ 0) : Calls Tryz.prog 36 #[.pointer (some ⟨p, 0, none⟩), .int .u8 (c : Int)] w fun e w' => (∃ s, e = .returned (.string s)) ∧ BdS P B p g w0 w' kd ct nv kv (if nx l bad = c then l.tail else l) (if nx l bad = c then false else true) := by
  by_cases hc : nx l bad = c
  · rw [if_pos hc, if_pos hc]
    cases bad with
    | true => exact absurd hc.symm hc0
    | false =>
      cases l with
      | nil => exact absurd hc.symm hc0
      | cons k l =>
        have hk : k.k = c := hc
        subst hk
        exact h.take_ok.mono fun e w' q => ⟨⟨_, q.1⟩, q.2⟩
  · rw [if_neg hc, if_neg hc]
    exact (h.take_bad c hc).mono fun e w' q => ⟨⟨_, q.1⟩, q.2⟩
theorem BdS.plc (h : BdS P B p g w0 w kd ct nv kv l bad) (c : Nat) (hct : c < 4) : Calls Tryz.prog 58 #[.pointer (some ⟨p, 0, none⟩), .int .i64 (c : Int)] w fun e w' => ∃ v xs l' bad', e = .returned v ∧ xs.length = wd c ∧ BdS P B p g w0 w' kd ct nv kv l' bad' ∧ w'.ownsRow w.heap.size 65 1 v xs.length (fl xs) ∧ plR P (wd c) l bad = byBad bad' xs l' := by
  have hq := h.rq
  refine (plc_calls c hct h.rd hq.gl h.tg h.nu h.pB hq.pl).mono ?_
  rintro e w' ⟨v, xs, l', bad', h1, h2, h3, h4⟩
  refine ⟨v, xs, l', bad', h1, h2, ?_, h3.own, h4.trans (plR_zero _ _)⟩
  exact ⟨h3.rd, h.kp.trans h3.kp, h3.tg, h3.nu, h.pB, h.pl, h.gl,
    (h3.kp.block _ (Array.getElem?_eq_some_iff.1 h.r).1 (by have := h.pl; show w0.heap.size ≠ p; omega)).trans h.r,
    (h3.kp.block _ (Array.getElem?_eq_some_iff.1 h.b).1 (by have := h.pl; show w0.heap.size + 1 ≠ p; omega)).trans h.b⟩
theorem BdS.wd_no (h : BdS P B p g w0 w kd ct nv kv l bad) (x : ByteArray) (hc : ¬ nx l bad = 97) : Calls Tryz.prog 38 #[.pointer (some ⟨p, 0, none⟩), .string x] w fun e w' => e = .returned (.bool false) ∧ BdS P B p g w0 w' kd ct nv kv l bad := by
  refine (Go.Proofs.YtlckfiflfkbofaaGreatDoor.wd_no h.rd x hc).mono ?_
  rintro e w' ⟨h1, rfl⟩
  exact ⟨h1, h⟩
theorem isE_list {t : Tok} (hk : t.k = 97) : isE t = (t.s.toList == [69, 77, 80, 84, 89]) := by
  rw [Lib.toList_data]; simp [isE, hk]
/-- The word EMPTY, be it there or not. -/
theorem BdS.empty (h : BdS P B p g w0 w kd ct nv kv l bad) : Calls Tryz.prog 38 #[.pointer (some ⟨p, 0, none⟩), .string ⟨#[69, 77, 80, 84, 89]⟩] w fun e w' =>
    (∃ k r, l = k :: r ∧ bad = false ∧ isE k = true ∧ e = .returned (.bool true) ∧ BdS P B p g w0 w' kd ct nv kv r false) ∨ ((bad = false → ∀ k r, l = k :: r → isE k = false) ∧ e = .returned (.bool false) ∧ BdS P B p g w0 w' kd ct nv kv l bad) := by
  by_cases hc : nx l bad = 97
  · cases bad with
    | true => cases hc
    | false =>
      cases l with
      | nil => cases hc
      | cons k r =>
        have hk : k.k = 97 := hc
        cases hE : isE k with
        | true =>
          have hs : k.s = ⟨#[69, 77, 80, 84, 89]⟩ := by
            simp only [isE, Bool.and_eq_true, beq_iff_eq] at hE
            have h2 := hE.2
            have : k.s.data = #[69, 77, 80, 84, 89] := by rw [← Array.toArray_toList (xs := k.s.data), h2]
            cases hs : k.s
            rw [hs] at this
            simp only at this
            rw [this]
          refine (wd_eq h.rd hk _ hs).mono ?_
          rintro e w' ⟨h1, h2, h3⟩
          exact Or.inl ⟨k, r, rfl, rfl, hE, h1, h.step h3 h2 fun _ hk => List.mem_cons_of_mem _ hk⟩
        | false =>
          have hx : (k.s.toList == (⟨#[69, 77, 80, 84, 89]⟩ : ByteArray).toList) = false := by
            rw [isE_list hk] at hE
            rw [← hE, Lib.toList_data ⟨#[69, 77, 80, 84, 89]⟩]
          refine (wd_ne h.rd hk _ hx).mono ?_
          rintro e w' ⟨h1, rfl⟩
          refine Or.inr ⟨?_, h1, h⟩
          intro _ k' r' e'
          cases e'
          exact hE
  · refine (h.wd_no _ hc).mono ?_
    rintro e w' ⟨h1, h2⟩
    refine Or.inr ⟨?_, h1, h2⟩
    intro hb k r hl
    subst hb
    subst hl
    have : ¬ k.k = 97 := hc
    simp [isE, this]
theorem BdS.setNums (h : BdS P B p g w0 w kd ct nv kv l bad) (v : Value) : BdS P B p g w0 (w.setCell ⟨w0.heap.size + 1, 2, none⟩ v) kd ct v kv l bad := by
  have hpl := h.pl
  have hgl := h.gl
  have hk : Keep (fun k => k = w0.heap.size + 1) w (w.setCell ⟨w0.heap.size + 1, 2, none⟩ v) := (Keep.refl (fun k => k = w0.heap.size + 1) w).setCell (p := ⟨w0.heap.size + 1, 2, none⟩) (Or.inr rfl) v
  exact ⟨h.rd.keep hk (by show ¬ _ = _; omega) (by show ¬ _ = _; omega), h.kp.setCell (Or.inl (Nat.le_succ _)) _, h.tg, h.nu.keepS hk (fun i hi => by have := h.pB; show i ≠ _; omega), h.pB, h.pl, h.gl,
    (Below.heap_setCell _ _ _ _ (show w0.heap.size ≠ w0.heap.size + 1 by omega)).trans h.r, Lib.heap_setCell_same (i := 2) h.b v⟩
end
end Go.Proofs.YtlckfiflfkbofaaGreatDoor

/- The reference's body: EMPTY; a point. -/
namespace Go.Proofs.YtlckfiflfkbofaaGreatDoor
open Go.RowKit

theorem keep_grown {w w' : World} (q : w.grownBy w' none) : Keep (fun _ => False) w w' := ⟨q.os, q.tape, q.output, q.size, fun k hk _ => q.block k hk (by simp)⟩

/-- The append of a row's numbers to none, a step of a region that draws. -/
theorem step_append_nums {ops : Array Oper} {o : Oper} {a : Act} {K : Act → World → Prop} {Q : Exit → Act → World → Prop} {E : Prop} (hgd : o.guard = none) (s x : Operand)
    (ho : o.op = .call { callee := .builtin .append, args := #[s, x], argTypes := #[30, 30] })
    (w : World) (base b' : Nat) (xs : List Nat) (v : Value) (hn : w.ownsRow b' 65 1 v xs.length (fl xs)) (hs : a.eval s = .slice none 0 0) (hx : a.eval x = v) (h0 : 0 < xs.length) (hl : xs.length ≤ 100000) (hb : base ≤ w.heap.size)
    (h : ∀ g cap w', w'.ownsRow base 65 1 (.slice (some ⟨g, 0, none⟩) xs.length cap) xs.length (fl xs) → Keep (fun _ => False) w w' → K (a.put o.dst (.slice (some ⟨g, 0, none⟩) xs.length cap)) w') :
    if Region.wanted o (yielded ops a.tmps) = true then Oper.wp Tryz.prog o a w K Q else E := by
  obtain ⟨i0, hi, hz0, hz1, hz2⟩ := info_parts fltInfo
  rcases hn.2 with ⟨_, h00⟩ | ⟨g, cap, cur, rfl, hbg, hg, hnc, _⟩
  · omega
  have hcc := hn.cells (g := g) rfl
  refine step_append_lies w hgd s x 30 ho base 65 i0 _ 1 8 Tryz.underlying30 hi hz0 hz1 hz2 rfl (by omega) (.slice none 0 0) 0 [] hs (World.ownsRow_nil _ _ _ _) ⟨g, 0, none⟩ xs.length cap (fl xs) hx (by simp [fl]) hcc ?_ h0 (by unfold maxLen; omega) (by omega) hb _ rfl ?_
  · intro u hu
    simp only [fl, List.mem_map] at hu
    obtain ⟨q, _, rfl⟩ := hu
    rfl
  · intro g2 cap2 w' h1 h2 _ _
    simp only [Nat.zero_add, List.nil_append] at h1 ⊢
    exact h g2 cap2 w' h1 (keep_grown h2)

section
variable {P : GP} {B p g : Nat} {w0 w w' : World} {kd ct : Nat} {nv kv : Value} {l l' : List Tok} {k : Tok} {bad b' : Bool}
theorem BdS.fin (h : BdS P B p g w0 w kd ct nv kv l bad) (v0 v1 v2 v3 : Value) :
    RdQ P B p g ((((w.setCell ⟨w0.heap.size, 0, none⟩ v0).setCell ⟨w0.heap.size, 1, none⟩ v1).setCell ⟨w0.heap.size, 2, none⟩ v2).setCell ⟨w0.heap.size, 3, none⟩ v3) l bad ∧
    Keep (At1 p) w0 ((((w.setCell ⟨w0.heap.size, 0, none⟩ v0).setCell ⟨w0.heap.size, 1, none⟩ v1).setCell ⟨w0.heap.size, 2, none⟩ v2).setCell ⟨w0.heap.size, 3, none⟩ v3) ∧
    Keep (At1 w0.heap.size) w ((((w.setCell ⟨w0.heap.size, 0, none⟩ v0).setCell ⟨w0.heap.size, 1, none⟩ v1).setCell ⟨w0.heap.size, 2, none⟩ v2).setCell ⟨w0.heap.size, 3, none⟩ v3) := by
  have hpl := h.pl
  have hgl := h.gl
  have hpB := h.pB
  have hk : Keep (At1 w0.heap.size) w ((((w.setCell ⟨w0.heap.size, 0, none⟩ v0).setCell ⟨w0.heap.size, 1, none⟩ v1).setCell ⟨w0.heap.size, 2, none⟩ v2).setCell ⟨w0.heap.size, 3, none⟩ v3) :=
    ((((Keep.refl (At1 w0.heap.size) w).setCell (Or.inr rfl) v0).setCell (Or.inr rfl) v1).setCell (Or.inr rfl) v2).setCell (Or.inr rfl) v3
  have hk0 := h.kp.trans' hk (fun i hi e => by have : i = w0.heap.size := e; omega)
  exact ⟨⟨h.rd.keep hk (by show ¬ _ = _; omega) (by show ¬ _ = _; omega), h.tg, h.nu.keepS hk (fun i hi => by show i ≠ _; omega), h.pB, Nat.lt_of_lt_of_le h.pl hk0.size, Nat.lt_of_lt_of_le h.gl hk0.size⟩, hk0, hk⟩

theorem BdS.takeK (h : BdS P B p g w0 w kd ct nv kv l bad) (c : Nat) (hc0 : c ≠ 0) : Calls Tryz.prog 36 #[.pointer (some ⟨p, 0, none⟩), .int .u8 (c : Int)] w fun e w' => (∃ s, e = .returned (.string s)) ∧ BdS P B p g w0 w' kd ct nv kv (if nx l bad = c then l.tail else l) (if nx l bad = c then false else true) ∧ Keep (At1 p) w w' := by
  by_cases hc : nx l bad = c
  · rw [if_pos hc, if_pos hc]
    cases bad with
    | true => exact absurd hc.symm hc0
    | false =>
      cases l with
      | nil => exact absurd hc.symm hc0
      | cons k l =>
        have hk : k.k = c := hc
        subst hk
        refine (tk_ok h.rd).mono ?_
        rintro e w' ⟨h1, h2, h3⟩
        exact ⟨⟨_, h1⟩, h.step h3 h2 fun _ hk => List.mem_cons_of_mem _ hk, h3⟩
  · rw [if_neg hc, if_neg hc]
    refine (tk_bad h.rd c hc).mono ?_
    rintro e w' ⟨h1, h2, h3⟩
    exact ⟨⟨_, h1⟩, h.step h3 h2 fun _ hk => hk, h3⟩

set_option maxRecDepth 100000 in
set_option maxHeartbeats 3200000 in
theorem bd_emp (h : RdQ P B p g w (k :: l) false) (hE : isE k = true) (kd ct : Nat) : Calls Tryz.prog 40 #[.pointer (some ⟨p, 0, none⟩), .int .i64 (kd : Int), .int .i64 (ct : Int)] w fun e w' => e = .returned (.agg #[.int .i64 (kd : Int), .int .i64 (ct : Int), .slice none 0 0, .slice none 0 0]) ∧ RdQ P B p g w' l false ∧ Keep (At1 p) w w' := by
  have hS := BdS.start h kd ct
  have h38 : Calls Tryz.prog 38 #[.pointer (some ⟨p, 0, none⟩), .string ⟨#[69, 77, 80, 84, 89]⟩] ((w.alloc (.cells #[.int .i64 0, .int .i64 0, .slice none 0 0, .slice none 0 0] 33)).alloc (.cells #[.int .i64 (kd : Int), .int .i64 (ct : Int), .slice none 0 0, .slice none 0 0] 33)) fun e w' => e = .returned (.bool true) ∧ BdS P B p g w w' kd ct (.slice none 0 0) (.slice none 0 0) l false := by
    refine hS.empty.mono ?_
    rintro e w' (⟨k', r', hl, _, _, h1, h2⟩ | ⟨hno, _⟩)
    · cases hl; exact ⟨h1, h2⟩
    · rw [hno rfl _ _ rfl] at hE; cases hE
  clear hS h hE
  go_enter Tryz.func40, Tryz.ntmps40
  go_wp2_with (go_at_call 38; refine h38.mono ?_; rintro e w2 ⟨rfl, h2⟩; obtain ⟨d0, d1, d2, d3, d4, d5, d6, d7⟩ := cells4 h2.r; obtain ⟨e0, e1, e2, e3, e4, e5, e6, e7⟩ := cells4 h2.b; have H2 := Lib.hid h2; clear h2)
  (try simp only [Exit.inBlock, Exit.then]); refine bodyPost_ret (results_one rfl _ _ _ _ _ _ _ rfl (blk4 H2.out.r _ _ _ _) Tryz.underlying33 info33) rfl ?_
  exact ⟨rfl, (H2.out.fin _ _ _ _).1, (H2.out.fin _ _ _ _).2.1⟩

/-- What the body of a point answers. -/
def BdP (P : GP) (B p g : Nat) (w0 : World) (ct : Nat) (l : List Tok) (bad : Bool) (e : Ending) (w' : World) : Prop :=
  ∃ nv xs l' bad', e = .returned (.agg #[.int .i64 1, .int .i64 (ct : Int), nv, .slice none 0 0]) ∧ w'.ownsRow w0.heap.size 65 1 nv xs.length (fl xs) ∧ (xs = [] ∨ xs.length = wd ct) ∧ RdQ P B p g w' l' bad' ∧ Keep (At1 p) w0 w' ∧ ptR P (wd ct) l bad = byBad bad' xs l'

set_option maxRecDepth 100000 in
set_option maxHeartbeats 8000000 in
theorem bd_rest (l2 : List Tok) (b2 : Bool) (h : RdQ P B p g w l bad) (ct : Nat) (hct : ct < 4)
    (h38 : Calls Tryz.prog 38 #[.pointer (some ⟨p, 0, none⟩), .string ⟨#[69, 77, 80, 84, 89]⟩] ((w.alloc (.cells #[.int .i64 0, .int .i64 0, .slice none 0 0, .slice none 0 0] 33)).alloc (.cells #[.int .i64 1, .int .i64 (ct : Int), .slice none 0 0, .slice none 0 0] 33)) fun e w' => e = .returned (.bool false) ∧ BdS P B p g w w' 1 ct (.slice none 0 0) (.slice none 0 0) l bad)
    (h36 : ∀ W, BdS P B p g w W 1 ct (.slice none 0 0) (.slice none 0 0) l bad → Calls Tryz.prog 36 #[.pointer (some ⟨p, 0, none⟩), .int .u8 40] W fun e w' => (∃ s, e = .returned (.string s)) ∧ BdS P B p g w w' 1 ct (.slice none 0 0) (.slice none 0 0) l2 b2) :
    Calls Tryz.prog 40 #[.pointer (some ⟨p, 0, none⟩), .int .i64 1, .int .i64 (ct : Int)] w fun e w' => ∃ nv xs l3 b3, e = .returned (.agg #[.int .i64 1, .int .i64 (ct : Int), nv, .slice none 0 0]) ∧ w'.ownsRow w.heap.size 65 1 nv xs.length (fl xs) ∧ xs.length = wd ct ∧ RdQ P B p g w' (if nx l3 b3 = 41 then l3.tail else l3) (if nx l3 b3 = 41 then false else true) ∧ Keep (At1 p) w w' ∧ plR P (wd ct) l2 b2 = byBad b3 xs l3 := by
  have H36 := Lib.hid h36
  clear h36 h
  go_enter Tryz.func40, Tryz.ntmps40
  go_wp2_with (first | (go_at_call 38; refine h38.mono ?_; rintro e w2 ⟨rfl, h2⟩; have t36 := H36.out _ h2; clear h2) | (go_at_call 36; refine t36.mono ?_; rintro e w3 ⟨⟨s, rfl⟩, h3⟩; have H3 := Lib.hid h3; clear h3 t36))
  go_loopw [] (fun wr => Hid (BdS P B p g w wr 1 ct (.slice none 0 0) (.slice none 0 0) l2 b2)) (fun _ => 0)
  case atStart => exact H3
  case round =>
    have h3 := hrel.out
    have hs3 : w.heap.size + 2 ≤ wr.heap.size := by have := (Array.getElem?_eq_some_iff.1 h3.b).1; omega
    obtain ⟨e0, e1, e2, e3, e4, e5, e6, e7⟩ := cells4 h3.b
    have H58 := Lib.hid (fun W (k : Keep (fun _ => False) wr W) => (h3.stepF k).plc ct hct)
    have hszk := fun W (k : Keep (fun _ => False) wr W) => k.size
    have HSZ := Lib.hid hszk
    clear h3 hszk
    go_wp2_with (go_at_call 32; refine (lf_1 _).mono ?_; rintro e w9 ⟨rfl, rfl⟩)
    go_region_law (first
      | (refine step_append_nums (by rfl) (.tmp 30) (.tmp 33) (by rfl) w4 (w.heap.size + 2) _ xs _ hn4 (by rfl) (by rfl) (by rw [HXL.out]; unfold wd; omega) (by rw [HXL.out]; unfold wd; omega) hsz4 ?_; intro g5 cap5 w5 ho5 hK5; have h5 := hS4.stepF hK5; obtain ⟨e0, e1, e2, e3, e4, e5, e6, e7⟩ := cells4 h5.b; have H5 := Lib.hid (h5.setNums (.slice (some ⟨g5, 0, none⟩) xs.length cap5)); have ho6 := own_keep ho5 ((Keep.refl (At1 (w.heap.size + 1)) w5).setCell (p := ⟨w.heap.size + 1, 2, none⟩) (Or.inr rfl) (.slice (some ⟨g5, 0, none⟩) xs.length cap5)) (by intro g hg hs; have := (ho5.lt g hg).1; have : g = w.heap.size + 1 := hs; omega); have HO5 := Lib.hid ho6; clear h5 hK5 ho5 ho6 hS4 hn4)
      | (go_simp; go_at_call 58; refine (H58.out _ (by repeat (first | exact Keep.refl _ _ | refine Keep.drew ?_ | refine Keep.alloc ?_ _))).mono ?_; rintro e w4 ⟨v, xs, l4, b4, rfl, hxl, hS4, hn4, hp4⟩; obtain ⟨av, cv, hv⟩ := own_form hn4; subst hv; have HP4 := Lib.hid hp4; have HXL := Lib.hid hxl; clear hxl; have hsz4 : w.heap.size + 2 ≤ w4.heap.size := (Array.getElem?_eq_some_iff.1 hS4.b).1; obtain ⟨e0, e1, e2, e3, e4, e5, e6, e7⟩ := cells4 hS4.b; clear hp4))
    all_goals (
      have t41 := H5.out.takeK 41 (by decide)
      go_wp2_with (go_at_call 36; refine t41.mono ?_; clear t41; rintro e w7 ⟨⟨s7, rfl⟩, h7, k7⟩; obtain ⟨d0, d1, d2, d3, d4, d5, d6, d7⟩ := cells4 h7.r; obtain ⟨e0, e1, e2, e3, e4, e5, e6, e7⟩ := cells4 h7.b; have H7 := Lib.hid h7; have HK7 := Lib.hid k7; clear h7 k7)
      (try simp only [Exit.inBlock, Exit.then]); refine bodyPost_ret (results_one rfl _ _ _ _ _ _ _ rfl (blk4 H7.out.r _ _ _ _) Tryz.underlying33 info33) rfl ?_
      have hf := H7.out.fin
      have hpl := H7.out.pl
      have ho7 := own_keep HO5.out HK7.out (by intro g hg hs; have := (HO5.out.lt g hg).1; have : g = p := hs; omega)
      refine ⟨_, xs, l4, b4, rfl, own_mono (own_keep ho7 (hf _ _ _ _).2.2 (by intro g hg hs; have := (ho7.lt g hg).1; have : g = w.heap.size := hs; omega)) (by omega), HXL.out, (hf _ _ _ _).1, (hf _ _ _ _).2.1, HP4.out⟩)

/-- The body of a point. -/
theorem bd_pt (h : RdQ P B p g w l bad) (ct : Nat) (hct : ct < 4) (hn : nx l bad = 40 ∨ nx l bad = 97) : Calls Tryz.prog 40 #[.pointer (some ⟨p, 0, none⟩), .int .i64 1, .int .i64 (ct : Int)] w fun e w' => BdP P B p g w ct l bad e w' := by
  cases bad with
  | true => rcases hn with h | h <;> cases h
  | false =>
    cases l with
    | nil => rcases hn with h | h <;> cases h
    | cons k l =>
      have hS := BdS.start h 1 ct
      have h38 : isE k = false → Calls Tryz.prog 38 #[.pointer (some ⟨p, 0, none⟩), .string ⟨#[69, 77, 80, 84, 89]⟩] ((w.alloc (.cells #[.int .i64 0, .int .i64 0, .slice none 0 0, .slice none 0 0] 33)).alloc (.cells #[.int .i64 1, .int .i64 (ct : Int), .slice none 0 0, .slice none 0 0] 33)) fun e w' => e = .returned (.bool false) ∧ BdS P B p g w w' 1 ct (.slice none 0 0) (.slice none 0 0) (k :: l) false := by
        intro hE
        refine hS.empty.mono ?_
        rintro e w' (⟨k', r', hl, _, hE', _, _⟩ | ⟨_, h1, h2⟩)
        · cases hl; rw [hE] at hE'; cases hE'
        · exact ⟨h1, h2⟩
      cases hE : isE k with
      | true =>
        refine (bd_emp h hE 1 ct).mono ?_
        rintro e w' ⟨h1, h2, h3⟩
        exact ⟨_, [], l, false, h1, World.ownsRow_nil _ _ _ _, Or.inl rfl, h2, h3, ptR_emp hE⟩
      | false =>
        by_cases hk : k.k = 40
        · refine (bd_rest l false h ct hct (h38 hE) (fun W hW => ?_)).mono ?_
          · have := hW.take_ok
            rw [hk] at this
            exact this.mono fun e w' q => ⟨⟨_, q.1⟩, q.2⟩
          · rintro e w' ⟨nv, xs, l3, b3, h1, h2, h3, h4, h5, h6⟩
            refine ⟨nv, xs, _, _, h1, h2, Or.inr h3, h4, h5, ?_⟩
            rw [ptR_par hk h6]
            cases b3 with
            | true => simp [nx, byBad]
            | false => by_cases h41 : nx l3 false = 41 <;> simp [h41, byBad]
        · have hk97 : k.k = 97 := by
            rcases hn with h | h
            · exact absurd h hk
            · exact h
          refine (bd_rest (k :: l) true h ct hct (h38 hE) (fun W hW => ?_)).mono ?_
          · exact (hW.take_bad 40 (by show ¬ k.k = 40; omega)).mono fun e w' q => ⟨⟨_, q.1⟩, q.2⟩
          · rintro e w' ⟨nv, xs, l3, b3, h1, h2, h3, h4, h5, h6⟩
            refine ⟨nv, xs, _, _, h1, h2, Or.inr h3, h4, h5, ?_⟩
            rw [ptR_word (wd_pos ct) hk97 hE]
            cases b3 with
            | true => simp [nx, byBad]
            | false => cases h6
end
end Go.Proofs.YtlckfiflfkbofaaGreatDoor

/- The reference's body of several points. -/
namespace Go.Proofs.YtlckfiflfkbofaaGreatDoor
open Go.RowKit

/-- The parts, where they lie behind B. -/
structure KidB (w : World) (B ct : Nat) (kv : Value) (kn : List (Value × List Nat)) : Prop where
  own : w.ownsRow B 33 4 kv kn.length (rowK ct kn)
  nums : ∀ q ∈ kn, w.ownsRow B 65 1 q.1 q.2.length (fl q.2)
theorem KidB.keep {S : Nat → Prop} {w w' : World} {B ct : Nat} {kv : Value} {kn : List (Value × List Nat)} (h : KidB w B ct kv kn) (k : Keep S w w') (hS : ∀ i, S i → i < B) : KidB w' B ct kv kn :=
  ⟨own_keep h.own k (fun g hg hs => by have := (h.own.lt g hg).1; have := hS _ hs; omega), fun q hq => own_keep (h.nums q hq) k (fun g hg hs => by have := ((h.nums q hq).lt g hg).1; have := hS _ hs; omega)⟩
theorem KidB.kidC {w : World} {B ct : Nat} {kv : Value} {kn : List (Value × List Nat)} (h : KidB w B ct kv kn) : KidC w kv ct (kn.map (·.2)) := by
  rcases h.own.2 with ⟨hv, h0⟩ | ⟨g, cap, cur, hv, hb, hg, hn, hc, _⟩
  · have : kn = [] := List.eq_nil_of_length_eq_zero h0
    subst this
    exact ⟨none, 0, hv, fun i p hp => by cases hp⟩
  · have hcc := h.own.cells (g := g) (by rw [hv]; rfl)
    refine ⟨_, cap, by rw [hv, List.length_map], fun i xs hx => ?_⟩
    rw [List.getElem?_map, Option.map_eq_some_iff] at hx
    obtain ⟨q, hq, rfl⟩ := hx
    have hadd : ∀ j, (⟨g, 0, none⟩ : Addr).add j = ⟨g, j, none⟩ := by intro j; unfold Addr.add; split <;> simp_all
    obtain ⟨r0, r1, r2, r3⟩ := rowK_get (ct := ct) hq
    have c0 := hcc _ _ r0
    have c1 := hcc _ _ r1
    have c2 := hcc _ _ r2
    have c3 := hcc _ _ r3
    rw [hadd] at c0 c1 c2 c3
    exact ⟨g, q.1, rfl, (Array.getElem?_eq_some_iff.1 hg).1, own_nmC (h.nums q (List.mem_of_getElem? hq)), c0, c1, c2, c3⟩

/-- The body of several points under way. -/
structure BmS (P : GP) (B p g : Nat) (w0 w : World) (ct : Nat) (kv : Value) (kn : List (Value × List Nat)) (l : List Tok) (bad : Bool) : Prop where
  s : BdS P B p g w0 w 4 ct (.slice none 0 0) kv l bad
  a : Acc w (w0.heap.size + 1) ct kv kn

section
variable {P : GP} {B p g : Nat} {w0 w w' : World} {ct : Nat} {kv nv : Value} {kn : List (Value × List Nat)} {l l' : List Tok} {k : Tok} {bad b' : Bool} {xs : List Nat}
theorem BdS.stepQ {kd : Nat} (h : BdS P B p g w0 w kd ct nv kv l bad) (q : Keep (At1 p) w w') (hr : RdQ P B p g w' l' b') : BdS P B p g w0 w' kd ct nv kv l' b' :=
  ⟨hr.rd, h.kp.trans q, hr.tg, hr.nu, h.pB, h.pl, h.gl,
    (q.block _ (Array.getElem?_eq_some_iff.1 h.r).1 (by have := h.pl; show w0.heap.size ≠ p; omega)).trans h.r,
    (q.block _ (Array.getElem?_eq_some_iff.1 h.b).1 (by have := h.pl; show w0.heap.size + 1 ≠ p; omega)).trans h.b⟩
theorem BmS.stepQ (h : BmS P B p g w0 w ct kv kn l bad) (q : Keep (At1 p) w w') (hr : RdQ P B p g w' l' b') : BmS P B p g w0 w' ct kv kn l' b' :=
  ⟨h.s.stepQ q hr, h.a.keep q (fun i hi => by have := h.s.pl; have : i = p := hi; omega)⟩
theorem BmS.keep (h : BmS P B p g w0 w ct kv kn l bad) (q : Keep (fun _ => False) w w') : BmS P B p g w0 w' ct kv kn l bad :=
  ⟨h.s.stepF q, h.a.keep q (fun _ h => h.elim)⟩

/-- What gives one point more. -/
def OneP (P : GP) (B p g : Nat) (w0 : World) (ct : Nat) (kv : Value) (kn : List (Value × List Nat)) (l : List Tok) (bad : Bool) (f : Value → Value) (e : Ending) (w' : World) : Prop :=
  ∃ a cap xs l' b', e = .returned (f (.slice a (xs.length : Nat) cap)) ∧ Hid (BmS P B p g w0 w' ct kv kn l' b') ∧ Hid (w'.ownsRow (w0.heap.size + 1 + 1) 65 1 (.slice a xs.length cap) xs.length (fl xs)) ∧ Hid (xs = [] ∨ xs.length = wd ct) ∧ Hid (ptR P (wd ct) l bad = byBad b' xs l')
theorem BmS.big (h : BmS P B p g w0 w ct kv kn l bad) : w0.heap.size + 1 + 1 ≤ w.heap.size := (Array.getElem?_eq_some_iff.1 h.a.blk).1
theorem BmS.pt (h : BmS P B p g w0 w ct kv kn l bad) (hct : ct < 4) (hz : nx l bad = 40 ∨ nx l bad = 97) :
    Calls Tryz.prog 40 #[.pointer (some ⟨p, 0, none⟩), .int .i64 1, .int .i64 (ct : Int)] w fun e w' => OneP P B p g w0 ct kv kn l bad (fun nv => .agg #[.int .i64 1, .int .i64 (ct : Int), nv, .slice none 0 0]) e w' := by
  refine (bd_pt h.s.rq ct hct hz).mono ?_
  rintro e w' ⟨nv, xs, l', b', h1, h2, h3, h4, h5, h6⟩
  obtain ⟨a, cap, rfl⟩ := own_form h2
  exact ⟨a, cap, xs, l', b', h1, Lib.hid (h.stepQ h5 h4), Lib.hid (own_mono h2 h.big), Lib.hid h3, Lib.hid h6⟩
theorem BmS.pl (h : BmS P B p g w0 w ct kv kn l bad) (hct : ct < 4) (h40 : ¬ nx l bad = 40) (h97 : ¬ nx l bad = 97) :
    Calls Tryz.prog 58 #[.pointer (some ⟨p, 0, none⟩), .int .i64 (ct : Int)] w fun e w' => OneP P B p g w0 ct kv kn l bad id e w' := by
  have hq := h.s.rq
  refine (plc_calls ct hct hq.rd hq.gl hq.tg hq.nu hq.pB hq.pl).mono ?_
  rintro e w' ⟨v, xs, l', bad', h1, h2, h3, h4⟩
  obtain ⟨a, cap, rfl⟩ := own_form h3.own
  have hq' : RdQ P B p g w' l' bad' := ⟨h3.rd, h3.tg, h3.nu, h3.pB, Nat.lt_of_lt_of_le h3.pl h3.kp.size, Nat.lt_of_lt_of_le hq.gl h3.kp.size⟩
  exact ⟨a, cap, xs, l', bad', h1, Lib.hid (h.stepQ h3.kp hq'), Lib.hid (own_mono h3.own h.big), Lib.hid (Or.inr h2), Lib.hid ((ptR_place (wd_pos ct) h40 h97).trans (h4.trans (plR_zero _ _)))⟩
theorem BmS.app (h : BmS P B p g w0 w ct kv kn l bad) (q : w.grownBy w' kv.ownBlock) {v' : Value} {kn' : List (Value × List Nat)} (hA : Acc (w'.setCell ⟨w0.heap.size + 1, 3, none⟩ v') (w0.heap.size + 1) ct v' kn') : BmS P B p g w0 (w'.setCell ⟨w0.heap.size + 1, 3, none⟩ v') ct v' kn' l bad := by
  have hpl := h.s.pl
  have hgl := h.s.gl
  have hpB := h.s.pB
  have hown := h.a.own
  have kk : Keep (fun i => w0.heap.size + 1 ≤ i) w (w'.setCell ⟨w0.heap.size + 1, 3, none⟩ v') := by
    have k1 : Keep (fun i => w0.heap.size + 1 ≤ i) w w' := ⟨q.os, q.tape, q.output, q.size, fun i hi hs => q.block i hi (by intro e; have := (hown.lt i e.symm).1; omega)⟩
    exact k1.setCell (p := ⟨w0.heap.size + 1, 3, none⟩) (Or.inr (Nat.le_refl _)) v'
  refine ⟨⟨h.s.rd.keep kk (by omega) (by omega), h.s.kp.trans' kk (fun i hi hs => by omega), h.s.tg, h.s.nu.keepS kk (fun i hi => by omega), h.s.pB, h.s.pl, h.s.gl, (kk.block _ (Array.getElem?_eq_some_iff.1 h.s.r).1 (by omega)).trans h.s.r, hA.blk⟩, hA⟩
theorem BmS.nxt (h : BmS P B p g w0 w ct kv kn l bad) : Calls Tryz.prog 57 #[.pointer (some ⟨p, 0, none⟩)] w fun e w' => e = .returned (.int .u8 (nx l bad : Nat)) ∧ w = w' := nx_calls57 h.s.rd
theorem BmS.take (h : BmS P B p g w0 w ct kv kn l bad) (c : Nat) (hc0 : c ≠ 0) : Calls Tryz.prog 36 #[.pointer (some ⟨p, 0, none⟩), .int .u8 (c : Int)] w fun e w' => (∃ s, e = .returned (.string s)) ∧ Hid (BmS P B p g w0 w' ct kv kn (if nx l bad = c then l.tail else l) (if nx l bad = c then false else true)) := by
  refine (h.s.takeK c hc0).mono ?_
  rintro e w' ⟨h1, h2, h3⟩
  exact ⟨h1, Lib.hid ⟨h2, h.a.keep h3 (fun i hi => by have := h.s.pl; have : i = p := hi; omega)⟩⟩
theorem ptR_len {n : Nat} (hn : n ≠ 0) (h : ptR P n l bad = some (xs, l')) : l'.length + 1 ≤ l.length := by
  obtain rfl := ptR_ff h
  obtain ⟨c, rfl, ⟨_, hc⟩, _⟩ := pPoint_eats (val_kind P) hn l xs l' h
  have : 0 < c.length := List.length_pos_iff.2 hc
  simp; omega
/-- The end of the reading. -/
theorem mpR_fin {n : Nat} {xss : List (List Nat)} (hp : ptR P n l bad = byBad b' xs l') (h44 : ¬ nx l' b' = 44) : mpC xss (mpR P n l bad) = byBad (if nx l' b' = 41 then false else true) (xss ++ [xs]) (if nx l' b' = 41 then l'.tail else l') := by
  cases b' with
  | true =>
    rw [mpR_bad hp]
    simp [nx, byBad, mpC]
  | false =>
    rw [mpR_end (r := l') hp h44]
    by_cases h : nx l' false = 41 <;> simp [h, byBad]

/-- What the body of several points answers. -/
def BmP (P : GP) (B p g : Nat) (w0 : World) (ct : Nat) (c : List Tok) (e : Ending) (w' : World) : Prop :=
  ∃ kv kn l' bad', e = .returned (.agg #[.int .i64 4, .int .i64 (ct : Int), .slice none 0 0, kv]) ∧ KidB w' (w0.heap.size + 1) ct kv kn ∧ kn.length ≤ 100000 ∧ (∀ q ∈ kn, q.2 = [] ∨ q.2.length = wd ct) ∧ RdQ P B p g w' l' bad' ∧ Keep (At1 p) w0 w' ∧ pAll (val P) (wd ct) c = byBad bad' (kn.map (·.2)) l'

set_option maxRecDepth 100000 in
set_option maxHeartbeats 16000000 in
theorem bm_rest (c l2 : List Tok) (b2 : Bool) (ct : Nat) (hct : ct < 4) (hl2 : l2.length ≤ 50000)
    (h38 : Calls Tryz.prog 38 #[.pointer (some ⟨p, 0, none⟩), .string ⟨#[69, 77, 80, 84, 89]⟩] ((w.alloc (.cells #[.int .i64 0, .int .i64 0, .slice none 0 0, .slice none 0 0] 33)).alloc (.cells #[.int .i64 4, .int .i64 (ct : Int), .slice none 0 0, .slice none 0 0] 33)) fun e w' => e = .returned (.bool false) ∧ BmS P B p g w w' ct (.slice none 0 0) [] l bad)
    (h36 : ∀ W, BmS P B p g w W ct (.slice none 0 0) [] l bad → Calls Tryz.prog 36 #[.pointer (some ⟨p, 0, none⟩), .int .u8 40] W fun e w' => (∃ s, e = .returned (.string s)) ∧ BmS P B p g w w' ct (.slice none 0 0) [] l2 b2)
    (hA : pAll (val P) (wd ct) c = mpR P (wd ct) l2 b2) :
    Calls Tryz.prog 40 #[.pointer (some ⟨p, 0, none⟩), .int .i64 4, .int .i64 (ct : Int)] w fun e w' => BmP P B p g w ct c e w' := by
  have H36 := Lib.hid h36
  have HA := Lib.hid hA
  clear h36 hA
  go_enter Tryz.func40, Tryz.ntmps40
  go_wp2_with (first | (go_at_call 38; refine h38.mono ?_; rintro e w2 ⟨rfl, h2⟩; have t36 := H36.out _ h2; clear h2) | (go_at_call 36; refine t36.mono ?_; rintro e w3 ⟨⟨s, rfl⟩, h3⟩; have H3 := Lib.hid h3; clear h3 t36))
  go_loopg [] l2.length (fun kq wx => ∃ (kv : Value) (kn : List (Value × List Nat)) (l' : List Tok) (b' : Bool), l'.length ≤ kq ∧ kn.length + kq ≤ l2.length ∧ Hid (BmS P B p g w wx ct kv kn l' b') ∧ Hid (∀ q ∈ kn, q.2 = [] ∨ q.2.length = wd ct) ∧ Hid (pAll (val P) (wd ct) c = mpC (kn.map (·.2)) (mpR P (wd ct) l' b')))
  case atStart => exact ⟨_, [], l2, b2, Nat.le_refl _, by simp, H3, Lib.hid (fun _ h => by cases h), Lib.hid (HA.out.trans (mpC_nil _).symm)⟩
  case round =>
    obtain ⟨kv, kn, l', b', hlk, hkk, hM, hX, hq⟩ := hrel
    have hM0 := hM.out
    obtain ⟨ak, ck, hkv⟩ := hM0.a.form
    subst hkv
    obtain ⟨e0, e1, e2, e3, e4, e5, e6, e7⟩ := cells4 hM0.a.blk
    have hkl : kn.length ≤ 100000 := by omega
    have hn := hM0.nxt
    by_cases h40 : nx l' b' = 40
    · have H40 := Lib.hid (fun W (k : Keep (fun _ => False) wr W) => (hM0.keep k).pt hct (Or.inl h40))
      rw [h40] at hn
      clear hM0
      go_wp2_with (first | (go_at_call 32; refine (lf_4 _).mono ?_; rintro e w9 ⟨rfl, rfl⟩) | (go_at_call 57; refine hn.mono ?_; rintro e w9 ⟨rfl, rfl⟩))
      clear hn
      go_region_law (first
        | (refine step_append_kid (by rfl) (.tmp 17) (.tmp 23) (by rfl) w4 (w.heap.size + 1) ct _ kn _ xs hM4.out.a hn4.out (by rfl) (by rfl) hkl ?_; intro g6 cap6 w6 hb6 hA6 hg6; obtain ⟨e0, e1, e2, e3, e4, e5, e6, e7⟩ := cells4 hb6; have HM6 := Lib.hid (hM4.out.app hg6 hA6); clear hb6 hA6 hg6)
        | (go_simp; go_at_call 40; refine (H40.out _ (by repeat (first | exact Keep.refl _ _ | refine Keep.drew ?_ | refine Keep.alloc ?_ _))).mono ?_; rintro e w4 ⟨a4, c4, xs, l4, b4, rfl, hM4, hn4, hx4, hp4⟩; have hlt4 : w.heap.size + 1 < w4.heap.size := (Array.getElem?_eq_some_iff.1 hM4.out.a.blk).1; obtain ⟨e0, e1, e2, e3, e4, e5, e6, e7⟩ := cells4 hM4.out.a.blk) | (go_simp; go_at_call 34; refine (ko_4 _).mono ?_; rintro e w9 ⟨rfl, rfl⟩))
      all_goals (
        by_cases h44 : nx l4 b4 = 44
        · have hn6 := HM6.out.nxt
          have t44 := HM6.out.take 44 (by decide)
          rw [h44] at hn6
          rw [if_pos h44, if_pos h44] at t44
          have hlen : l4.tail.length ≤ gk - 1 ∧ 1 ≤ gk ∧ Hid (pAll (val P) (wd ct) c = mpC ((kn ++ [(Value.slice a4 xs.length c4, xs)]).map (·.2)) (mpR P (wd ct) l4.tail false)) := by
            cases b4 with
            | true => cases h44
            | false =>
              cases l4 with
              | nil => cases h44
              | cons k4 l5 =>
                have hp5 : ptR P (wd ct) l' b' = some (xs, k4 :: l5) := hp4.out
                have := ptR_len (wd_pos ct) hp5
                simp only [List.length_cons, List.tail_cons] at this ⊢
                refine ⟨by omega, by omega, ?_⟩
                show _ = _
                rw [hq.out, mpR_more (wd_pos ct) hp5 h44, List.map_append]
                rfl
          obtain ⟨hlen1, hlen2, hR⟩ := hlen
          have hX6 : Hid (∀ q ∈ kn ++ [(Value.slice a4 xs.length c4, xs)], q.2 = [] ∨ q.2.length = wd ct) := by
            intro q hq
            rcases List.mem_append.1 hq with hq | hq
            · exact hX.out q hq
            · simp only [List.mem_cons, List.not_mem_nil, or_false] at hq
              subst hq
              exact hx4.out
          clear hp4 hq hX hx4 h44
          go_wp2_with (first | (go_at_call 57; refine hn6.mono ?_; clear hn6; rintro e w7 ⟨rfl, rfl⟩) | (go_at_call 36; refine t44.mono ?_; clear t44; rintro e w8 ⟨⟨s8, rfl⟩, h8⟩))
          go_roundg (gk - 1)
          case measure => omega
          case rel => exact ⟨_, _, _, _, hlen1, by simp only [List.length_append, List.length_cons, List.length_nil]; omega, h8, hX6, hR⟩
        · have hn6 := HM6.out.nxt
          have t41 := HM6.out.take 41 (by decide)
          have hR := Lib.hid (hq.out.trans (mpR_fin hp4.out h44))
          have hz44 : (((nx l4 b4 : Nat) : Int) == 44) = false := by simp; omega
          have hz44' : ¬ ((nx l4 b4 : Nat) : Int) = 44 := by omega
          generalize (if nx l4 b4 = 41 then l4.tail else l4) = l9 at t41 hR
          generalize (if nx l4 b4 = 41 then false else true) = b9 at t41 hR
          generalize nx l4 b4 = NM at hn6 hz44 hz44'
          clear hp4 hq h44
          go_wp2_with (first | (go_at_call 57; refine hn6.mono ?_; clear hn6; rintro e w7 ⟨rfl, rfl⟩) | (go_at_call 36; refine t41.mono ?_; clear t41; rintro e w8 ⟨⟨s8, rfl⟩, h8⟩; obtain ⟨d0, d1, d2, d3, d4, d5, d6, d7⟩ := cells4 h8.out.s.r; obtain ⟨e0, e1, e2, e3, e4, e5, e6, e7⟩ := cells4 h8.out.a.blk))
          (try simp only [Exit.inBlock, Exit.then]); refine bodyPost_ret (results_one rfl _ _ _ _ _ _ _ rfl (blk4 h8.out.s.r _ _ _ _) Tryz.underlying33 info33) rfl ?_
          have hf := h8.out.s.fin
          have hpl := h8.out.s.pl
          refine ⟨_, kn ++ [(Value.slice a4 xs.length c4, xs)], l9, b9, rfl, KidB.keep (S := At1 w.heap.size) ⟨own_mono h8.out.a.own (by omega), fun q hq => own_mono (h8.out.a.nums q hq) (by omega)⟩ (hf _ _ _ _).2.2 (fun i hi => by have : i = w.heap.size := hi; omega), by simp; omega, ?_, (hf _ _ _ _).1, (hf _ _ _ _).2.1, ?_⟩
          · intro q hq
            rcases List.mem_append.1 hq with hq | hq
            · exact hX.out q hq
            · simp only [List.mem_cons, List.not_mem_nil, or_false] at hq
              subst hq
              exact hx4.out
          · rw [List.map_append]; exact hR.out)
    · by_cases h97 : nx l' b' = 97
      · have H40 := Lib.hid (fun W (k : Keep (fun _ => False) wr W) => (hM0.keep k).pt hct (Or.inr h97))
        rw [h97] at hn
        clear hM0
        go_wp2_with (first | (go_at_call 32; refine (lf_4 _).mono ?_; rintro e w9 ⟨rfl, rfl⟩) | (go_at_call 57; refine hn.mono ?_; rintro e w9 ⟨rfl, rfl⟩))
        clear hn
        go_region_law (first
          | (refine step_append_kid (by rfl) (.tmp 17) (.tmp 23) (by rfl) w4 (w.heap.size + 1) ct _ kn _ xs hM4.out.a hn4.out (by rfl) (by rfl) hkl ?_; intro g6 cap6 w6 hb6 hA6 hg6; obtain ⟨e0, e1, e2, e3, e4, e5, e6, e7⟩ := cells4 hb6; have HM6 := Lib.hid (hM4.out.app hg6 hA6); clear hb6 hA6 hg6)
          | (go_simp; go_at_call 40; refine (H40.out _ (by repeat (first | exact Keep.refl _ _ | refine Keep.drew ?_ | refine Keep.alloc ?_ _))).mono ?_; rintro e w4 ⟨a4, c4, xs, l4, b4, rfl, hM4, hn4, hx4, hp4⟩; have hlt4 : w.heap.size + 1 < w4.heap.size := (Array.getElem?_eq_some_iff.1 hM4.out.a.blk).1; obtain ⟨e0, e1, e2, e3, e4, e5, e6, e7⟩ := cells4 hM4.out.a.blk) | (go_simp; go_at_call 34; refine (ko_4 _).mono ?_; rintro e w9 ⟨rfl, rfl⟩))
        all_goals (
          by_cases h44 : nx l4 b4 = 44
          · have hn6 := HM6.out.nxt
            have t44 := HM6.out.take 44 (by decide)
            rw [h44] at hn6
            rw [if_pos h44, if_pos h44] at t44
            have hlen : l4.tail.length ≤ gk - 1 ∧ 1 ≤ gk ∧ Hid (pAll (val P) (wd ct) c = mpC ((kn ++ [(Value.slice a4 xs.length c4, xs)]).map (·.2)) (mpR P (wd ct) l4.tail false)) := by
              cases b4 with
              | true => cases h44
              | false =>
                cases l4 with
                | nil => cases h44
                | cons k4 l5 =>
                  have hp5 : ptR P (wd ct) l' b' = some (xs, k4 :: l5) := hp4.out
                  have := ptR_len (wd_pos ct) hp5
                  simp only [List.length_cons, List.tail_cons] at this ⊢
                  refine ⟨by omega, by omega, ?_⟩
                  show _ = _
                  rw [hq.out, mpR_more (wd_pos ct) hp5 h44, List.map_append]
                  rfl
            obtain ⟨hlen1, hlen2, hR⟩ := hlen
            have hX6 : Hid (∀ q ∈ kn ++ [(Value.slice a4 xs.length c4, xs)], q.2 = [] ∨ q.2.length = wd ct) := by
              intro q hq
              rcases List.mem_append.1 hq with hq | hq
              · exact hX.out q hq
              · simp only [List.mem_cons, List.not_mem_nil, or_false] at hq
                subst hq
                exact hx4.out
            clear hp4 hq hX hx4 h44
            go_wp2_with (first | (go_at_call 57; refine hn6.mono ?_; clear hn6; rintro e w7 ⟨rfl, rfl⟩) | (go_at_call 36; refine t44.mono ?_; clear t44; rintro e w8 ⟨⟨s8, rfl⟩, h8⟩))
            go_roundg (gk - 1)
            case measure => omega
            case rel => exact ⟨_, _, _, _, hlen1, by simp only [List.length_append, List.length_cons, List.length_nil]; omega, h8, hX6, hR⟩
          · have hn6 := HM6.out.nxt
            have t41 := HM6.out.take 41 (by decide)
            have hR := Lib.hid (hq.out.trans (mpR_fin hp4.out h44))
            have hz44 : (((nx l4 b4 : Nat) : Int) == 44) = false := by simp; omega
            have hz44' : ¬ ((nx l4 b4 : Nat) : Int) = 44 := by omega
            generalize (if nx l4 b4 = 41 then l4.tail else l4) = l9 at t41 hR
            generalize (if nx l4 b4 = 41 then false else true) = b9 at t41 hR
            generalize nx l4 b4 = NM at hn6 hz44 hz44'
            clear hp4 hq h44
            go_wp2_with (first | (go_at_call 57; refine hn6.mono ?_; clear hn6; rintro e w7 ⟨rfl, rfl⟩) | (go_at_call 36; refine t41.mono ?_; clear t41; rintro e w8 ⟨⟨s8, rfl⟩, h8⟩; obtain ⟨d0, d1, d2, d3, d4, d5, d6, d7⟩ := cells4 h8.out.s.r; obtain ⟨e0, e1, e2, e3, e4, e5, e6, e7⟩ := cells4 h8.out.a.blk))
            (try simp only [Exit.inBlock, Exit.then]); refine bodyPost_ret (results_one rfl _ _ _ _ _ _ _ rfl (blk4 h8.out.s.r _ _ _ _) Tryz.underlying33 info33) rfl ?_
            have hf := h8.out.s.fin
            have hpl := h8.out.s.pl
            refine ⟨_, kn ++ [(Value.slice a4 xs.length c4, xs)], l9, b9, rfl, KidB.keep (S := At1 w.heap.size) ⟨own_mono h8.out.a.own (by omega), fun q hq => own_mono (h8.out.a.nums q hq) (by omega)⟩ (hf _ _ _ _).2.2 (fun i hi => by have : i = w.heap.size := hi; omega), by simp; omega, ?_, (hf _ _ _ _).1, (hf _ _ _ _).2.1, ?_⟩
            · intro q hq
              rcases List.mem_append.1 hq with hq | hq
              · exact hX.out q hq
              · simp only [List.mem_cons, List.not_mem_nil, or_false] at hq
                subst hq
                exact hx4.out
            · rw [List.map_append]; exact hR.out)
      · have H58 := Lib.hid (fun W (k : Keep (fun _ => False) wr W) => (hM0.keep k).pl hct h40 h97)
        have hz40 : (((nx l' b' : Nat) : Int) == 40) = false := by simp; omega
        have hz97 : (((nx l' b' : Nat) : Int) == 97) = false := by simp; omega
        have hz40' : ¬ ((nx l' b' : Nat) : Int) = 40 := by omega
        have hz97' : ¬ ((nx l' b' : Nat) : Int) = 97 := by omega
        generalize nx l' b' = NN at hn hz40 hz97 hz40' hz97'
        clear hM0
        go_wp2_with (first | (go_at_call 32; refine (lf_4 _).mono ?_; rintro e w9 ⟨rfl, rfl⟩) | (go_at_call 57; refine hn.mono ?_; rintro e w9 ⟨rfl, rfl⟩))
        clear hn
        go_region_law (first
          | (refine step_append_kid (by rfl) (.tmp 60) (.tmp 66) (by rfl) w4 (w.heap.size + 1) ct _ kn _ xs hM4.out.a hn4.out (by rfl) (by rfl) hkl ?_; intro g6 cap6 w6 hb6 hA6 hg6; obtain ⟨e0, e1, e2, e3, e4, e5, e6, e7⟩ := cells4 hb6; have HM6 := Lib.hid (hM4.out.app hg6 hA6); clear hb6 hA6 hg6)
          | (go_simp; go_at_call 58; refine (H58.out _ (by repeat (first | exact Keep.refl _ _ | refine Keep.drew ?_ | refine Keep.alloc ?_ _))).mono ?_; rintro e w4 ⟨a4, c4, xs, l4, b4, rfl, hM4, hn4, hx4, hp4⟩; have hlt4 : w.heap.size + 1 < w4.heap.size := (Array.getElem?_eq_some_iff.1 hM4.out.a.blk).1; obtain ⟨e0, e1, e2, e3, e4, e5, e6, e7⟩ := cells4 hM4.out.a.blk))
        all_goals (
          by_cases h44 : nx l4 b4 = 44
          · have hn6 := HM6.out.nxt
            have t44 := HM6.out.take 44 (by decide)
            rw [h44] at hn6
            rw [if_pos h44, if_pos h44] at t44
            have hlen : l4.tail.length ≤ gk - 1 ∧ 1 ≤ gk ∧ Hid (pAll (val P) (wd ct) c = mpC ((kn ++ [(Value.slice a4 xs.length c4, xs)]).map (·.2)) (mpR P (wd ct) l4.tail false)) := by
              cases b4 with
              | true => cases h44
              | false =>
                cases l4 with
                | nil => cases h44
                | cons k4 l5 =>
                  have hp5 : ptR P (wd ct) l' b' = some (xs, k4 :: l5) := hp4.out
                  have := ptR_len (wd_pos ct) hp5
                  simp only [List.length_cons, List.tail_cons] at this ⊢
                  refine ⟨by omega, by omega, ?_⟩
                  show _ = _
                  rw [hq.out, mpR_more (wd_pos ct) hp5 h44, List.map_append]
                  rfl
            obtain ⟨hlen1, hlen2, hR⟩ := hlen
            have hX6 : Hid (∀ q ∈ kn ++ [(Value.slice a4 xs.length c4, xs)], q.2 = [] ∨ q.2.length = wd ct) := by
              intro q hq
              rcases List.mem_append.1 hq with hq | hq
              · exact hX.out q hq
              · simp only [List.mem_cons, List.not_mem_nil, or_false] at hq
                subst hq
                exact hx4.out
            clear hp4 hq hX hx4 h44
            go_wp2_with (first | (go_at_call 57; refine hn6.mono ?_; clear hn6; rintro e w7 ⟨rfl, rfl⟩) | (go_at_call 36; refine t44.mono ?_; clear t44; rintro e w8 ⟨⟨s8, rfl⟩, h8⟩))
            go_roundg (gk - 1)
            case measure => omega
            case rel => exact ⟨_, _, _, _, hlen1, by simp only [List.length_append, List.length_cons, List.length_nil]; omega, h8, hX6, hR⟩
          · have hn6 := HM6.out.nxt
            have t41 := HM6.out.take 41 (by decide)
            have hR := Lib.hid (hq.out.trans (mpR_fin hp4.out h44))
            have hz44 : (((nx l4 b4 : Nat) : Int) == 44) = false := by simp; omega
            have hz44' : ¬ ((nx l4 b4 : Nat) : Int) = 44 := by omega
            generalize (if nx l4 b4 = 41 then l4.tail else l4) = l9 at t41 hR
            generalize (if nx l4 b4 = 41 then false else true) = b9 at t41 hR
            generalize nx l4 b4 = NM at hn6 hz44 hz44'
            clear hp4 hq h44
            go_wp2_with (first | (go_at_call 57; refine hn6.mono ?_; clear hn6; rintro e w7 ⟨rfl, rfl⟩) | (go_at_call 36; refine t41.mono ?_; clear t41; rintro e w8 ⟨⟨s8, rfl⟩, h8⟩; obtain ⟨d0, d1, d2, d3, d4, d5, d6, d7⟩ := cells4 h8.out.s.r; obtain ⟨e0, e1, e2, e3, e4, e5, e6, e7⟩ := cells4 h8.out.a.blk))
            (try simp only [Exit.inBlock, Exit.then]); refine bodyPost_ret (results_one rfl _ _ _ _ _ _ _ rfl (blk4 h8.out.s.r _ _ _ _) Tryz.underlying33 info33) rfl ?_
            have hf := h8.out.s.fin
            have hpl := h8.out.s.pl
            refine ⟨_, kn ++ [(Value.slice a4 xs.length c4, xs)], l9, b9, rfl, KidB.keep (S := At1 w.heap.size) ⟨own_mono h8.out.a.own (by omega), fun q hq => own_mono (h8.out.a.nums q hq) (by omega)⟩ (hf _ _ _ _).2.2 (fun i hi => by have : i = w.heap.size := hi; omega), by simp; omega, ?_, (hf _ _ _ _).1, (hf _ _ _ _).2.1, ?_⟩
            · intro q hq
              rcases List.mem_append.1 hq with hq | hq
              · exact hX.out q hq
              · simp only [List.mem_cons, List.not_mem_nil, or_false] at hq
                subst hq
                exact hx4.out
            · rw [List.map_append]; exact hR.out)

/-- The body of several points. -/
theorem bm_calls {c : List Tok} (h : RdQ P B p g w c false) (ct : Nat) (hct : ct < 4) (hl : c.length ≤ 50000) :
    Calls Tryz.prog 40 #[.pointer (some ⟨p, 0, none⟩), .int .i64 4, .int .i64 (ct : Int)] w fun e w' => BmP P B p g w ct c e w' := by
  by_cases hE : ∃ k r, c = k :: r ∧ isE k = true
  · obtain ⟨k, r, rfl, hE⟩ := hE
    refine (bd_emp h hE 4 ct).mono ?_
    rintro e w' ⟨h1, h2, h3⟩
    exact ⟨_, [], r, false, h1, ⟨World.ownsRow_nil _ _ _ _, fun q hq => by cases hq⟩, by simp, (fun q hq => by cases hq), h2, h3, pAll_emp hE⟩
  · have hS := BdS.start h 4 ct
    have h38 : Calls Tryz.prog 38 #[.pointer (some ⟨p, 0, none⟩), .string ⟨#[69, 77, 80, 84, 89]⟩] ((w.alloc (.cells #[.int .i64 0, .int .i64 0, .slice none 0 0, .slice none 0 0] 33)).alloc (.cells #[.int .i64 4, .int .i64 (ct : Int), .slice none 0 0, .slice none 0 0] 33)) fun e w' => e = .returned (.bool false) ∧ BmS P B p g w w' ct (.slice none 0 0) [] c false := by
      refine hS.empty.mono ?_
      rintro e w' (⟨k', r', hl, _, hE', _, _⟩ | ⟨_, h1, h2⟩)
      · exact absurd ⟨k', r', hl, hE'⟩ hE
      · exact ⟨h1, h2, Acc.start h2.b⟩
    by_cases h40 : nx c false = 40
    · cases c with
      | nil => cases h40
      | cons k r =>
        have hk : k.k = 40 := h40
        refine bm_rest (k :: r) r false ct hct (by simp only [List.length_cons] at hl; omega) h38 (fun W hW => ?_) (pAll_par hk)
        have := hW.s.take_ok
        rw [hk] at this
        exact this.mono fun e w' q => ⟨⟨_, q.1⟩, q.2, Acc.start q.2.b⟩
    · refine bm_rest c c true ct hct hl h38 (fun W hW => ?_) (pAll_no h40 fun k r hk => by cases hE' : isE k with | false => rfl | true => exact absurd ⟨k, r, hk, hE'⟩ hE)
      exact (hW.s.take_bad 40 h40).mono fun e w' q => ⟨⟨_, q.1⟩, q.2, Acc.start q.2.b⟩
end
end Go.Proofs.YtlckfiflfkbofaaGreatDoor

/- The reference's tagged, at MULTIPOINT. -/
namespace Go.Proofs.YtlckfiflfkbofaaGreatDoor
open Go.RowKit

/-- tagged under way. -/
structure TgS (P : GP) (B p g : Nat) (w0 w : World) (l : List Tok) : Prop where
  rq : RdQ P B p g w l false
  kp : Keep (At1 p) w0 w
  r : w.heap[w0.heap.size]? = some (.cells #[.int .i64 0, .int .i64 0, .slice none 0 0, .slice none 0 0] 33 (0, 0))
  pl : p < w0.heap.size
  gl : g < w0.heap.size

section
variable {P : GP} {B p g : Nat} {w0 w w' : World} {l l' : List Tok} {k : Tok} {ct : Nat}
theorem TgS.step (h : TgS P B p g w0 w l) (q : Keep (At1 p) w w') (hr : RdS w' p g l' false) (hl : ∀ k ∈ l', k ∈ l) : TgS P B p g w0 w' l' :=
  ⟨h.rq.step q hr hl, h.kp.trans q, (q.block _ (Array.getElem?_eq_some_iff.1 h.r).1 (by have := h.pl; show w0.heap.size ≠ p; omega)).trans h.r, h.pl, h.gl⟩
theorem TgS.keep (h : TgS P B p g w0 w l) (q : Keep (fun _ => False) w w') : TgS P B p g w0 w' l :=
  h.step (q.mono fun _ _ h => h.elim) (h.rq.rd.keep q (fun h => h) (fun h => h)) fun _ h => h
theorem TgS.start (h : RdQ P B p g w l false) : TgS P B p g w (w.alloc (.cells #[.int .i64 0, .int .i64 0, .slice none 0 0, .slice none 0 0] 33)) l := by
  have hK := (Keep.refl (fun _ => False) w).alloc (.cells #[.int .i64 0, .int .i64 0, .slice none 0 0, .slice none 0 0] 33)
  exact ⟨h.keep hK, hK.mono fun _ _ h => h.elim, heap_alloc_new w _, h.pl, h.gl⟩

/-- What stands ahead of the body: no word, but for EMPTY. -/
def Hd (c : List Tok) : Prop := ∃ k r, c = k :: r ∧ (k.k ≠ 97 ∨ isE k = true)
/-- The tokens ahead of the d-th question. -/
def LL (ct d : Nat) (c : List Tok) : List Tok := if d ≤ ct then tagT ct ++ c else c
def dimAt (ct d : Nat) : Nat := if d ≤ ct then 0 else ct

theorem TgS.ask (h : TgS P B p g w0 w (k :: l)) (x : ByteArray) (hk : k.k = 97 → (k.s.toList == x.toList) = false) : Calls Tryz.prog 38 #[.pointer (some ⟨p, 0, none⟩), .string x] w fun e w' => e = .returned (.bool false) ∧ TgS P B p g w0 w' (k :: l) := by
  by_cases hc : k.k = 97
  · refine (wd_ne h.rq.rd hc x (hk hc)).mono ?_
    rintro e w' ⟨h1, rfl⟩
    exact ⟨h1, h⟩
  · refine (Go.Proofs.YtlckfiflfkbofaaGreatDoor.wd_no h.rq.rd x hc).mono ?_
    rintro e w' ⟨h1, rfl⟩
    exact ⟨h1, h⟩
theorem TgS.yes (h : TgS P B p g w0 w (k :: l)) (hk : k.k = 97) : Calls Tryz.prog 38 #[.pointer (some ⟨p, 0, none⟩), .string k.s] w fun e w' => e = .returned (.bool true) ∧ TgS P B p g w0 w' l := by
  refine (wd_eq h.rq.rd hk k.s rfl).mono ?_
  rintro e w' ⟨h1, h2, h3⟩
  exact ⟨h1, h.step h3 h2 fun _ hk => List.mem_cons_of_mem _ hk⟩

def dnS (d : Nat) : ByteArray := if d = 1 then ⟨#[90]⟩ else if d = 2 then ⟨#[77]⟩ else ⟨#[90, 77]⟩
theorem dn_any (d : Nat) (h : d = 1 ∨ d = 2 ∨ d = 3) (w : World) : Calls Tryz.prog 39 #[.int .i64 (d : Int)] w fun e w' => e = .returned (.string (dnS d)) ∧ w = w' := by
  rcases h with rfl | rfl | rfl
  · exact dn_1 w
  · exact dn_2 w
  · exact dn_3 w

/-- The d-th question, asked where no type is known yet. -/
theorem TgS.quest {c : List Tok} (hc : Hd c) (hct : ct < 4) (d : Nat) (hd : d = 1 ∨ d = 2 ∨ d = 3) (h0 : dimAt ct d = 0) (h : TgS P B p g w0 w (LL ct d c)) :
    Calls Tryz.prog 38 #[.pointer (some ⟨p, 0, none⟩), .string (dnS d)] w fun e w' => e = .returned (.bool (decide (d = ct))) ∧ TgS P B p g w0 w' (LL ct (d + 1) c) := by
  by_cases hdc : d = ct
  · subst hdc
    have e1 : LL d d c = tagT d ++ c := by simp [LL]
    have e2 : LL d (d + 1) c = c := by unfold LL; rw [if_neg (by omega)]
    rw [e1] at h
    rw [e2, decide_eq_true rfl]
    rcases hd with rfl | rfl | rfl
    · exact h.yes (k := tZ) rfl
    · exact h.yes (k := tMm) rfl
    · exact h.yes (k := tZM) rfl
  · rw [decide_eq_false hdc]
    by_cases hlt : d ≤ ct
    · have e1 : LL ct d c = tagT ct ++ c := by simp [LL, hlt]
      have e2 : LL ct (d + 1) c = tagT ct ++ c := by unfold LL; rw [if_pos (by omega)]
      rw [e1] at h
      rw [e2]
      have : (d = 1 ∧ ct = 2) ∨ (d = 1 ∧ ct = 3) ∨ (d = 2 ∧ ct = 3) := by omega
      rcases this with ⟨rfl, rfl⟩ | ⟨rfl, rfl⟩ | ⟨rfl, rfl⟩
      · exact h.ask (k := tMm) _ (fun _ => by decide +kernel)
      · exact h.ask (k := tZM) _ (fun _ => by decide +kernel)
      · exact h.ask (k := tZM) _ (fun _ => by decide +kernel)
    · have hc0 : ct = 0 := by unfold dimAt at h0; rw [if_neg hlt] at h0; exact h0
      subst hc0
      have e1 : LL 0 d c = c := by unfold LL; rw [if_neg (by omega)]
      have e2 : LL 0 (d + 1) c = c := by unfold LL; rw [if_neg (by omega)]
      rw [e1] at h
      rw [e2]
      obtain ⟨k, r, rfl, hk⟩ := hc
      refine h.ask (dnS d) (fun h97 => ?_)
      rcases hk with hk | hE
      · exact absurd h97 hk
      · rw [isE_list h97] at hE
        have : k.s.toList = [69, 77, 80, 84, 89] := by simpa using hE
        rw [this]
        rcases hd with rfl | rfl | rfl <;> decide +kernel
end

theorem up_tM : upS tM.s = tM.s := by decide +kernel
def knS (i : Nat) : ByteArray := if i = 0 then ⟨#[71, 69, 79, 77, 69, 84, 82, 89, 67, 79, 76, 76, 69, 67, 84, 73, 79, 78]⟩ else if i = 1 then ⟨#[80, 79, 73, 78, 84]⟩ else if i = 2 then ⟨#[76, 73, 78, 69, 83, 84, 82, 73, 78, 71]⟩ else if i = 3 then ⟨#[80, 79, 76, 89, 71, 79, 78]⟩ else if i = 4 then ⟨#[77, 85, 76, 84, 73, 80, 79, 73, 78, 84]⟩ else if i = 5 then ⟨#[77, 85, 76, 84, 73, 76, 73, 78, 69, 83, 84, 82, 73, 78, 71]⟩ else ⟨#[77, 85, 76, 84, 73, 80, 79, 76, 89, 71, 79, 78]⟩
theorem kn_any (i : Nat) (h : i < 7) (w : World) : Calls Tryz.prog 37 #[.int .i64 (i : Int)] w fun e w' => e = .returned (.string (knS i)) ∧ w = w' := by
  have : i = 0 ∨ i = 1 ∨ i = 2 ∨ i = 3 ∨ i = 4 ∨ i = 5 ∨ i = 6 := by omega
  rcases this with rfl | rfl | rfl | rfl | rfl | rfl | rfl
  · exact kn_0 w
  · exact kn_1 w
  · exact kn_2 w
  · exact kn_3 w
  · exact kn_4 w
  · exact kn_5 w
  · exact kn_6 w
theorem kn_eq (i : Nat) (h : i < 7) : ((knS i).toList == tM.s.toList) = decide (i = 4) := by
  have : i = 0 ∨ i = 1 ∨ i = 2 ∨ i = 3 ∨ i = 4 ∨ i = 5 ∨ i = 6 := by omega
  rcases this with rfl | rfl | rfl | rfl | rfl | rfl | rfl <;> decide +kernel

set_option maxRecDepth 100000 in
set_option maxHeartbeats 3200000 in
theorem tag_calls {P : GP} {B p g : Nat} {w : World} {c : List Tok} (ct : Nat) (hct : ct < 4) (hc : Hd c) (hcl : c.length ≤ 50000) (h : RdQ P B p g w (tM :: (tagT ct ++ c)) false) :
    Calls Tryz.prog 19 #[.pointer (some ⟨p, 0, none⟩)] w fun e w' => BmP P B p g w ct c e w' := by
  have hS := TgS.start h
  have h36 : Calls Tryz.prog 36 #[.pointer (some ⟨p, 0, none⟩), .int .u8 97] (w.alloc (.cells #[.int .i64 0, .int .i64 0, .slice none 0 0, .slice none 0 0] 33)) fun e w' => e = .returned (.string tM.s) ∧ TgS P B p g w w' (tagT ct ++ c) := by
    refine (tk_ok hS.rq.rd).mono ?_
    rintro e w' ⟨h1, h2, h3⟩
    exact ⟨h1, hS.step h3 h2 fun _ hk => List.mem_cons_of_mem _ hk⟩
  have h28 : ∀ W, Calls Tryz.prog 28 #[.string tM.s] W fun e w' => e = .returned (.string tM.s) ∧ Keep (fun _ => False) W w' := by
    intro W
    have := up_calls tM.s W (by decide)
    rw [up_tM] at this
    exact this
  have H37 := Lib.hid kn_any
  have HEQ := Lib.hid kn_eq
  generalize hM : tM.s = nm at h36 h28 HEQ
  clear hS h hM
  go_enter Tryz.func19, Tryz.ntmps19
  go_wp2_with (first | (go_at_call 36; refine h36.mono ?_; rintro e w2 ⟨rfl, h2⟩) | (go_at_call 28; refine (h28 _).mono ?_; rintro e w3 ⟨rfl, hK3⟩; have H3 := Lib.hid (h2.keep hK3); clear h2 hK3))
  go_loopw [4, 11] (fun v4 v11 wr => ∃ i : Nat, i ≤ 7 ∧ v11 = .int .i64 (i : Int) ∧ Hid (v4 = .int .i64 (if i ≤ 4 then -1 else 4)) ∧ wr = w3) (fun _ v11 _ => 7 - (match v11 with | .int _ i => i.toNat | _ => 0))
  case atStart => exact ⟨0, by omega, rfl, Lib.hid rfl, rfl⟩
  case round =>
    obtain ⟨i, hi7, rfl, hv4, rfl⟩ := hrel
    obtain ⟨kk, hkk⟩ : ∃ kk : Int, kk = (if i ≤ 4 then -1 else 4) := ⟨_, rfl⟩
    have hv4' := hv4.out
    rw [← hkk] at hv4'
    subst hv4'
    have HKK := Lib.hid hkk
    clear hv4 hkk
    by_cases hlt : i < 7
    · have hlt' : (i : Int) < 7 := by omega
      have h37 := H37.out i hlt wr
      have heq := HEQ.out i hlt
      have hb1 : IntKind.i64.wrap ((i : Int) + 1) = (i : Int) + 1 := IntWalk.i64_in _ (by omega)
      by_cases h4 : i = 4
      · rw [decide_eq_true h4] at heq
        have H4 := Lib.hid h4
        clear h4
        go_wp2_with (go_at_call 37; refine h37.mono ?_; rintro e w9 ⟨rfl, rfl⟩)
        go_roundw
        case rel => exact ⟨i + 1, by omega, int_eq (by omega), Lib.hid (int_eq (by have := H4.out; rw [if_neg (by omega)]; omega)), by first | rfl | trivial⟩
        case measure => simp only []; omega
      · rw [decide_eq_false h4] at heq
        go_wp2_with (go_at_call 37; refine h37.mono ?_; rintro e w9 ⟨rfl, rfl⟩)
        go_roundw
        case rel =>
          refine ⟨i + 1, by omega, int_eq (by omega), Lib.hid (int_eq ?_), by first | rfl | trivial⟩
          rw [HKK.out]
          by_cases h5 : i < 4
          · rw [if_pos (by omega), if_pos (by omega)]
          · rw [if_neg (by omega), if_neg (by omega)]
        case measure => simp only []; omega
    · have hlt' : ¬ (i : Int) < 7 := by omega
      obtain rfl : kk = 4 := by rw [HKK.out, if_neg (by omega)]
      clear HKK
      go_wp2_with (fail)
      go_loopw [6, 7] (fun v6 v7 wq => ∃ d : Nat, 1 ≤ d ∧ d ≤ 4 ∧ v7 = .int .i64 (d : Int) ∧ v6 = .int .i64 (dimAt ct d : Int) ∧ Hid (TgS P B p g w wq (LL ct d c))) (fun _ v7 _ => 4 - (match v7 with | .int _ i => i.toNat | _ => 0))
      case atStart =>
        refine ⟨1, by omega, by omega, rfl, int_eq (by unfold dimAt; split <;> omega), ?_⟩
        have : LL ct 1 c = tagT ct ++ c := by
          unfold LL tagT
          by_cases h0 : ct = 0
          · rw [if_neg (by omega), if_pos h0]; rfl
          · rw [if_pos (by omega)]
        rw [this]
        exact H3
      case round =>
        obtain ⟨d, hd1, hd4, rfl, rfl, hT⟩ := hrel
        by_cases hlt4 : d < 4
        · have hlt4' : (d : Int) < 4 := by omega
          have hd3 : d = 1 ∨ d = 2 ∨ d = 3 := by omega
          have hb1 : IntKind.i64.wrap ((d : Int) + 1) = (d : Int) + 1 := IntWalk.i64_in _ (by omega)
          have h39 := dn_any d hd3 wr
          by_cases h0 : dimAt ct d = 0
          · have h38 := hT.out.quest hc hct d hd3 h0
            have hnx : (dimAt ct (d + 1) : Int) = if d = ct then (d : Int) else 0 := by
              unfold dimAt at h0 ⊢
              by_cases hdc : d = ct
              · rw [if_neg (by omega), if_pos hdc, hdc]
              · rw [if_neg hdc]
                by_cases hle : d ≤ ct
                · rw [if_pos (by omega)]; rfl
                · rw [if_neg hle] at h0
                  rw [if_neg (by omega), h0]; rfl
            rw [h0]
            generalize dnS d = nn at h39 h38
            clear hT h0
            by_cases hdc : d = ct
            · rw [decide_eq_true hdc] at h38
              rw [if_pos hdc] at hnx
              clear hdc
              go_wp2_with (first | (go_at_call 39; refine h39.mono ?_; clear h39; rintro e w9 ⟨rfl, rfl⟩) | (go_at_call 38; refine h38.mono ?_; clear h38; rintro e w8 ⟨rfl, h8⟩; have H8 := Lib.hid h8; clear h8))
              go_roundw
              case rel => exact ⟨d + 1, by omega, by omega, int_eq (by omega), int_eq hnx.symm, H8⟩
              case measure => simp only []; omega
            · rw [decide_eq_false hdc] at h38
              rw [if_neg hdc] at hnx
              go_wp2_with (first | (go_at_call 39; refine h39.mono ?_; clear h39; rintro e w9 ⟨rfl, rfl⟩) | (go_at_call 38; refine h38.mono ?_; clear h38; rintro e w8 ⟨rfl, h8⟩; have H8 := Lib.hid h8; clear h8))
              go_roundw
              case rel => exact ⟨d + 1, by omega, by omega, int_eq (by omega), int_eq hnx.symm, H8⟩
              case measure => simp only []; omega
          · have hz : ¬ ((dimAt ct d : Nat) : Int) = 0 := by omega
            have hz' : (((dimAt ct d : Nat) : Int) == 0) = false := by simp; omega
            have hnx : (dimAt ct (d + 1) : Int) = (dimAt ct d : Int) := by
              unfold dimAt at h0 ⊢
              by_cases hle : d ≤ ct
              · rw [if_pos hle] at h0; exact absurd rfl h0
              · rw [if_neg (by omega), if_neg hle]
            have hLL : Hid (TgS P B p g w wr (LL ct (d + 1) c)) := by
              have : LL ct (d + 1) c = LL ct d c := by
                unfold dimAt at h0
                unfold LL
                by_cases hle : d ≤ ct
                · rw [if_pos hle] at h0; exact absurd rfl h0
                · rw [if_neg (by omega), if_neg hle]
              rw [this]
              exact hT
            clear hT h0
            generalize ((dimAt ct d : Nat) : Int) = dd at hz hz' hnx
            go_wp2_with (fail)
            go_roundw
            case rel => exact ⟨d + 1, by omega, by omega, int_eq (by omega), int_eq hnx.symm, hLL⟩
            case measure => simp only []; omega
        · have hlt4' : ¬ (d : Int) < 4 := by omega
          have hd : d = 4 := by omega
          have hT0 := hT.out
          have e1 : LL ct d c = c := by unfold LL; rw [if_neg (by omega)]
          have e2 : dimAt ct d = ct := by unfold dimAt; rw [if_neg (by omega)]
          rw [e1] at hT0
          rw [e2]
          have h40 := bm_calls hT0.rq ct hct hcl
          have HT := Lib.hid hT0
          clear hT hT0 e1 e2
          go_wp2_with (go_at_call 40; refine h40.mono ?_; clear h40; rintro e w5 ⟨kv, kn, l', bad', rfl, hkb, hkn, hkx, hq5, hk5, hp5⟩; have hb5 := (hk5.block _ (Array.getElem?_eq_some_iff.1 HT.out.r).1 (by have := HT.out.pl; show w.heap.size ≠ p; omega)).trans HT.out.r; obtain ⟨d0, d1, d2, d3, d4, d5, d6, d7⟩ := cells4 hb5; have HB5 := Lib.hid hb5; have HKB := Lib.hid hkb; have HQ5 := Lib.hid hq5; have HK5 := Lib.hid hk5; have HP5 := Lib.hid hp5; have HKX := Lib.hid hkx; obtain ⟨a5, c5, hkv⟩ := own_form hkb.own; subst hkv; clear hb5 hkb hq5 hk5 hp5 hkx)
          (try simp only [Exit.inBlock, Exit.then]); refine bodyPost_ret (results_one rfl _ _ _ _ _ _ _ rfl (blk4 HB5.out _ _ _ _) Tryz.underlying33 info33) rfl ?_
          have hpl := HT.out.pl
          have hlt := (Array.getElem?_eq_some_iff.1 HT.out.r).1
          have hk0 := HT.out.kp.trans HK5.out
          have hks := hk0.trans' (keep_set4 w.heap.size w5 (.int .i64 4) (.int .i64 (ct : Int)) (.slice none 0 0) (.slice a5 kn.length c5)) (fun i hi e => by have : i = w.heap.size := e; omega)
          refine ⟨_, kn, l', bad', rfl, KidB.keep (S := At1 w.heap.size) ⟨own_mono HKB.out.own (by omega), fun q hq => own_mono (HKB.out.nums q hq) (by omega)⟩ (keep_set4 _ _ _ _ _ _) (fun i hi => by have : i = w.heap.size := hi; omega), hkn, HKX.out, ?_, hks, HP5.out⟩
          have kS := keep_set4 w.heap.size w5 (.int .i64 4) (.int .i64 (ct : Int)) (.slice none 0 0) (.slice a5 kn.length c5)
          have hq := HQ5.out
          have hgl := HT.out.gl
          have hpB := hq.pB
          exact ⟨hq.rd.keep kS (by show ¬ _ = _; omega) (by show ¬ _ = _; omega), hq.tg, hq.nu.keepS kS (fun i hi => by show i ≠ _; omega), hq.pB, Nat.lt_of_lt_of_le hq.pl kS.size, Nat.lt_of_lt_of_le hq.gl kS.size⟩
end Go.Proofs.YtlckfiflfkbofaaGreatDoor
