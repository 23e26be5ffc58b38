/- Points gathered as plain data: the geometry in block c, its parts in a row, their numbers in rows. The reference's Nums, at no place and at one. Part 43 of 51 of the proof that FnMultiPointBody returns true for every text and every type of coordinates, where the listed variables hold what the text of the program lays. -/
import Derived.Deep.AppendLies
import Derived.Test.YtlckfiflfkbofaaGreatDoorM39
import Derived.Test.YtlckfiflfkbofaaGreatDoorM42
set_option linter.all false

/- Points gathered as plain data: the geometry in block c, its parts in a row, their numbers in rows. -/
namespace Go.Proofs.YtlckfiflfkbofaaGreatDoor
open Go.RowKit

def rowK (ct : Nat) (kn : List (Value × List Nat)) : List Value := kn.flatMap fun q => [.int .i64 1, .int .i64 (ct : Int), q.1, .slice none 0 0]
theorem rowK_snoc (ct : Nat) (kn : List (Value × List Nat)) (q : Value × List Nat) : rowK ct (kn ++ [q]) = rowK ct kn ++ [.int .i64 1, .int .i64 (ct : Int), q.1, .slice none 0 0] := by simp [rowK]
theorem rowK_get {ct : Nat} {kn : List (Value × List Nat)} {i : Nat} {q : Value × List Nat} (h : kn[i]? = some q) : (rowK ct kn)[i * 4]? = some (.int .i64 1) ∧ (rowK ct kn)[i * 4 + 1]? = some (.int .i64 (ct : Int)) ∧ (rowK ct kn)[i * 4 + 2]? = some q.1 ∧ (rowK ct kn)[i * 4 + 3]? = some (.slice none 0 0) := by
  induction kn generalizing i with
  | nil => cases h
  | cons a l ih =>
    have e : rowK ct (a :: l) = .int .i64 1 :: .int .i64 (ct : Int) :: a.1 :: .slice none 0 0 :: rowK ct l := rfl
    cases i with
    | zero => cases h; rw [e]; exact ⟨rfl, rfl, rfl, rfl⟩
    | succ i =>
      have := ih (i := i) (by simpa using h)
      rw [e, show (i + 1) * 4 = i * 4 + 1 + 1 + 1 + 1 by omega]
      exact this

structure Acc (w : World) (c ct : Nat) (kv : Value) (kn : List (Value × List Nat)) : Prop where
  blk : w.heap[c]? = some (.cells #[.int .i64 4, .int .i64 (ct : Int), .slice none 0 0, kv] 33 (0, 0))
  own : w.ownsRow (c + 1) 33 4 kv kn.length (rowK ct kn)
  nums : ∀ q ∈ kn, w.ownsRow (c + 1) 65 1 q.1 q.2.length (fl q.2)

section
variable {w w' : World} {c ct : Nat} {kv : Value} {kn : List (Value × List Nat)} {xs : List Nat} {nv : Value}
theorem own_blk {bs n size : Nat} {e : TypeId} {v : Value} {us : List Value} (h : w.ownsRow bs e size v n us) {g : Nat} (hg : v.ownBlock = some g) : ∃ cur, w.heap[g]? = some (.cells cur e (0, 0)) := by
  rcases h.2 with ⟨rfl, _⟩ | ⟨g', cap, cur, rfl, hb, hgg, _⟩
  · cases hg
  · cases hg; exact ⟨cur, hgg⟩
theorem own_far {bs bs' n n' size size' : Nat} {e e' : TypeId} {v u : Value} {us us' : List Value} (h : w.ownsRow bs e size v n us) (h2 : w.ownsRow bs' e' size' u n' us') (hne : e ≠ e') (q : w.grownBy w' u.ownBlock) : w'.ownsRow bs e size v n us := by
  refine ⟨h.1, ?_⟩
  rcases h.2 with hn | ⟨g, cap, cur, rfl, hb, hgg, rest⟩
  · exact .inl hn
  · refine .inr ⟨g, cap, cur, rfl, hb, ?_, rest⟩
    rw [q.block g (Array.getElem?_eq_some_iff.1 hgg).1 ?_]
    · exact hgg
    · intro eq
      obtain ⟨cur', h3⟩ := own_blk h2 eq.symm
      rw [hgg] at h3
      cases h3
      exact hne rfl
theorem Acc.keep {S : Nat → Prop} (h : Acc w c ct kv kn) (k : Keep S w w') (hS : ∀ i, S i → i < c) : Acc w' c ct kv kn := by
  have hcl := (Array.getElem?_eq_some_iff.1 h.blk).1
  refine ⟨(k.block c hcl fun h => Nat.lt_irrefl _ (hS _ h)).trans h.blk, own_keep h.own k ?_, fun q hq => own_keep (h.nums q hq) k ?_⟩
  · intro g hg hs; have := (h.own.lt g hg).1; have := hS _ hs; omega
  · intro g hg hs; have := ((h.nums q hq).lt g hg).1; have := hS _ hs; omega
theorem Acc.start (h : w.heap[c]? = some (.cells #[.int .i64 4, .int .i64 (ct : Int), .slice none 0 0, .slice none 0 0] 33 (0, 0))) : Acc w c ct (.slice none 0 0) [] :=
  ⟨h, World.ownsRow_nil _ _ _ _, fun q hq => by cases hq⟩
theorem Acc.far (h : Acc w c ct kv kn) (q : w.grownBy w' kv.ownBlock) : w'.heap[c]? = some (.cells #[.int .i64 4, .int .i64 (ct : Int), .slice none 0 0, kv] 33 (0, 0)) := by
  rw [q.block c (Array.getElem?_eq_some_iff.1 h.blk).1 ?_]
  · exact h.blk
  · intro e; have := (h.own.lt c e.symm).1; omega
theorem Acc.app (h : Acc w c ct kv kn) (hn : w.ownsRow (c + 1) 65 1 nv xs.length (fl xs)) (q : w.grownBy w' kv.ownBlock) {v' : Value} (ho : w'.ownsRow (c + 1) 33 4 v' (kn.length + 1) (rowK ct kn ++ [.int .i64 1, .int .i64 (ct : Int), nv, .slice none 0 0])) : Acc (w'.setCell ⟨c, 3, none⟩ v') c ct v' (kn ++ [(nv, xs)]) := by
  have hk : Keep (fun k => k = c) w' (w'.setCell ⟨c, 3, none⟩ v') := (Keep.refl (fun k => k = c) w').setCell (p := ⟨c, 3, none⟩) (Or.inr rfl) v'
  refine ⟨Lib.heap_setCell_same (i := 3) (h.far q) v', ?_, ?_⟩
  · rw [rowK_snoc, List.length_append]
    refine own_keep ho hk ?_
    intro g hg e; have := (ho.lt g hg).1; omega
  · intro p hp
    have hp' : w'.ownsRow (c + 1) 65 1 p.1 p.2.length (fl p.2) := by
      rcases List.mem_append.1 hp with hp | hp
      · exact own_far (h.nums p hp) h.own (by decide) q
      · simp only [List.mem_cons, List.not_mem_nil, or_false] at hp
        subst hp
        exact own_far hn h.own (by decide) q
    refine own_keep hp' hk ?_
    intro g hg e; have := (hp'.lt g hg).1; omega
theorem Acc.kids (h : Acc w c ct kv kn) : KidV w kv ct (kn.map (·.2)) := by
  rcases h.own.2 with ⟨hv, h0⟩ | ⟨g, cap, cur, hv, hb, hg, hn, hc, _⟩
  · have : kn = [] := List.eq_nil_of_length_eq_zero h0
    subst this
    exact ⟨none, 0, hv, fun i p hp => by cases hp⟩
  · have hcc := h.own.cells (g := g) (by rw [hv]; rfl)
    refine ⟨_, cap, by rw [hv, List.length_map], fun i xs hx => ?_⟩
    rw [List.getElem?_map, Option.map_eq_some_iff] at hx
    obtain ⟨q, hq, rfl⟩ := hx
    have hadd : ∀ j, (⟨g, 0, none⟩ : Addr).add j = ⟨g, j, none⟩ := by intro j; unfold Addr.add; split <;> simp_all
    obtain ⟨r0, r1, r2, r3⟩ := rowK_get (ct := ct) hq
    have c0 := hcc _ _ r0
    have c1 := hcc _ _ r1
    have c2 := hcc _ _ r2
    have c3 := hcc _ _ r3
    rw [hadd] at c0 c1 c2 c3
    exact ⟨g, q.1, rfl, (Array.getElem?_eq_some_iff.1 hg).1, own_num (h.nums q (List.mem_of_getElem? hq)), c0, c1, c2, c3⟩
theorem Acc.form (h : Acc w c ct kv kn) : ∃ a cap, kv = .slice a kn.length cap := by
  rcases h.own.2 with ⟨hv, h0⟩ | ⟨g, cap, cur, hv, _⟩
  · exact ⟨none, 0, by rw [hv, h0]⟩
  · exact ⟨_, _, hv⟩
end

/-- The append of a point to the parts, a step of a region that draws. -/
theorem step_append_kid {ops : Array Oper} {o : Oper} {a : Act} {K : Act → World → Prop} {Q : Exit → Act → World → Prop} {E : Prop} (hgd : o.guard = none) (s x : Operand)
    (ho : o.op = .call { callee := .builtin .append, args := #[s, x], argTypes := #[31, 31] })
    (w : World) (c ct : Nat) (kv : Value) (kn : List (Value × List Nat)) (nv : Value) (xs : List Nat) (hA : Acc w c ct kv kn) (hn : w.ownsRow (c + 1) 65 1 nv xs.length (fl xs))
    (hs : a.eval s = kv) (hx : a.eval x = .slice (some ⟨w.heap.size, 0, none⟩) 1 1) (hl : kn.length ≤ 100000)
    (h : ∀ g cap w', w'.heap[c]? = some (.cells #[.int .i64 4, .int .i64 (ct : Int), .slice none 0 0, kv] 33 (0, 0)) → Acc (w'.setCell ⟨c, 3, none⟩ (.slice (some ⟨g, 0, none⟩) (kn.length + 1) cap)) c ct (.slice (some ⟨g, 0, none⟩) (kn.length + 1) cap) (kn ++ [(nv, xs)]) → w.grownBy w' kv.ownBlock → K (a.put o.dst (.slice (some ⟨g, 0, none⟩) (kn.length + 1) cap)) w') :
    if Region.wanted o (yielded ops a.tmps) = true then Oper.wp Tryz.prog o a (w.alloc (.cells #[.int .i64 1, .int .i64 (ct : Int), nv, .slice none 0 0] 33)) K Q else E := by
  obtain ⟨i0, hi, hz0, hz1, hz2⟩ := info_parts geoInfo
  have hcl := (Array.getElem?_eq_some_iff.1 hA.blk).1
  refine step_append_lies _ hgd s x 31 ho (c + 1) 33 i0 _ 4 64 Tryz.underlying31 hi hz0 hz1 hz2 rfl (by omega) kv kn.length (rowK ct kn) hs (hA.own.alloc _) ⟨w.heap.size, 0, none⟩ 1 1 [.int .i64 1, .int .i64 (ct : Int), nv, .slice none 0 0] hx (by simp) (World.news_of_block (heap_alloc_new w _)) ?_ (by omega) (by unfold maxLen; omega) (by omega) (by simp only [World.size_alloc]; omega) _ rfl ?_
  · intro u hu
    simp only [List.mem_cons, List.not_mem_nil, or_false] at hu
    rcases hu with rfl | rfl | rfl | rfl
    · rfl
    · rfl
    · rcases hn.2 with ⟨rfl, _⟩ | ⟨g, cap, cur, rfl, _⟩ <;> rfl
    · rfl
  · intro g cap w' h1 h2 _ _
    have h4 := World.grownBy_alloc w (.cells #[.int .i64 1, .int .i64 (ct : Int), nv, .slice none 0 0] 33) kv.ownBlock
    have h5 : w.grownBy w' kv.ownBlock := ⟨h2.os.trans h4.os, h2.tape.trans h4.tape, h2.output.trans h4.output, Nat.le_trans h4.size h2.size, fun k hk hne => (h2.block k (Nat.lt_of_lt_of_le hk h4.size) hne).trans (h4.block k hk hne)⟩
    exact h g cap w' (hA.far h5) (hA.app hn h5 h1) h5

end Go.Proofs.YtlckfiflfkbofaaGreatDoor

/- The reference's Nums, at no place and at one. -/
namespace Go.Proofs.YtlckfiflfkbofaaGreatDoor
open Go.RowKit

/-- The numbers under way, of the place in the block that the round makes. -/
structure Nuq (w0 w : World) (nv : Value) (x y z m : Nat) (ns : List Nat) : Prop where
  blk : w.heap[w0.heap.size]? = some (.cells #[.float .f64 x, .float .f64 y, .float .f64 z, .float .f64 m] 131 (0, 0))
  own : w.ownsRow w0.heap.size 65 1 nv ns.length (fl ns)
  k : Keep (fun _ => False) w0 w
theorem Nuq.grow {w0 w w' : World} {nv v' : Value} {x y z m : Nat} {ns u : List Nat} (h : Nuq w0 w nv x y z m ns) (ho : w'.ownsRow w0.heap.size 65 1 v' (ns.length + u.length) (fl ns ++ fl u)) (q : w.grownBy w' nv.ownBlock) : Nuq w0 w' v' x y z m (ns ++ u) := by
  refine ⟨?_, ?_, h.k.grown h.own q⟩
  · rw [q.block _ (Array.getElem?_eq_some_iff.1 h.blk).1 ?_]
    · exact h.blk
    · intro eq
      obtain ⟨cur, h3⟩ := own_blk h.own eq.symm
      rw [h.blk] at h3
      cases h3
  · rw [List.length_append, show fl (ns ++ u) = fl ns ++ fl u by simp [fl]]; exact ho
theorem Nuq.start (w0 : World) (x y z m : Nat) : Nuq w0 (w0.alloc (.cells #[.float .f64 x, .float .f64 y, .float .f64 z, .float .f64 m] 131)) (.slice none 0 0) x y z m [] :=
  ⟨heap_alloc_new _ _, World.ownsRow_nil _ _ _ _, (Keep.refl _ w0).alloc _⟩

set_option maxRecDepth 100000 in
theorem nu_nil (w : World) (a : Option Addr) (cap : Nat) (ct : Nat) : Calls Tryz.prog 55 #[.slice a 0 cap, .int .i64 (ct : Int)] w fun e w' => e = .returned (.slice none 0 0) ∧ Keep (fun _ => False) w w' := by
  go_enter Tryz.func55, Tryz.ntmps55
  go_wp2_with (fail)
  go_loopw [5, 10] (fun v5 v10 wr => v5 = .slice none 0 0 ∧ v10 = .int .i64 0 ∧ wr = w) (fun _ _ _ => 0)
  case atStart => exact ⟨rfl, rfl, rfl⟩
  case round =>
    obtain ⟨rfl, rfl, rfl⟩ := hrel
    go_wp2_with (fail)
    go_ret
    exact ⟨rfl, Keep.refl _ _⟩

set_option maxRecDepth 100000 in
set_option maxHeartbeats 3200000 in
theorem nu_0 (w : World) (B : Nat) (v : Value) (x y z m : Nat) (hv : w.ownsRow B 131 4 v 1 (fl [x, y, z, m])) : Calls Tryz.prog 55 #[v, .int .i64 0] w fun e w' => ∃ nv, e = .returned nv ∧ w'.ownsRow w.heap.size 65 1 nv ([x, y]).length (fl ([x, y])) ∧ Keep (fun _ => False) w w' := by
  obtain ⟨i0, hi, hz0, hz1, hz2⟩ := info_parts fltInfo
  have hst := run_store_flt
  have hcc := fun g h => hv.cells (g := g) h
  rcases hv.2 with ⟨_, h0⟩ | ⟨g, cap, cur, rfl, hb, hg, _⟩
  · omega
  have hg := (Array.getElem?_eq_some_iff.1 hg).1
  have hadd : ∀ j, (⟨g, 0, none⟩ : Addr).add j = ⟨g, j, none⟩ := by intro j; unfold Addr.add; split <;> simp_all
  have c0 := hcc g rfl 0 (.float .f64 x) rfl
  have c1 := hcc g rfl 1 (.float .f64 y) rfl
  have c2 := hcc g rfl 2 (.float .f64 z) rfl
  have c3 := hcc g rfl 3 (.float .f64 m) rfl
  rw [hadd] at c0 c1 c2 c3
  clear hcc hadd hv hb
  go_enter Tryz.func55, Tryz.ntmps55
  go_wp2_with (fail)
  go_loopw [5, 10] (fun v5 v10 wr => (v5 = .slice none 0 0 ∧ v10 = .int .i64 0 ∧ wr = w) ∨ (v10 = .int .i64 1 ∧ Hid (wr.ownsRow w.heap.size 65 1 v5 ([x, y]).length (fl ([x, y]))) ∧ Hid (Keep (fun _ => False) w wr))) (fun _ v10 _ => match v10 with | .int _ 0 => 1 | _ => 0)
  case atStart => exact Or.inl ⟨rfl, rfl, rfl⟩
  case round =>
    rcases hrel with ⟨rfl, rfl, rfl⟩ | ⟨rfl, ho, hK⟩
    · have hQ := Nuq.start wr x y z m
      go_wp2_with (first | (at_builtin; refine wpList_append_m rfl _ _ 30 rfl wr.heap.size 65 i0 _ 1 8 Tryz.underlying30 hi hz0 hz1 hz2 rfl (by omega) (by omega) _ _ _ _ 2 _ (by rfl) (by exact hQ.own) (by first | rfl | (simp only [World.size_alloc]; rfl)) rfl (by intro u hu; simp at hu; rcases hu with rfl | rfl <;> rfl) (by omega) (by simp) hQ.k.size ?_; intro v6 w6 ho6 hg6; have hQ2 := hQ.grow (u := [x, y]) ho6 hg6; clear hQ ho6 hg6; obtain ⟨d0, d1, d2, d3, _⟩ := cells4 hQ2.blk; have hQ := hQ2; clear hQ2))
      all_goals (
        go_roundw
        case rel => exact Or.inr ⟨rfl, Lib.hid hQ.own, Lib.hid hQ.k⟩
        case measure => simp only []; omega)
    · go_wp2_with (fail)
      go_ret
      exact ⟨_, rfl, ho.out, hK.out⟩

set_option maxRecDepth 100000 in
set_option maxHeartbeats 3200000 in
theorem nu_1 (w : World) (B : Nat) (v : Value) (x y z m : Nat) (hv : w.ownsRow B 131 4 v 1 (fl [x, y, z, m])) : Calls Tryz.prog 55 #[v, .int .i64 1] w fun e w' => ∃ nv, e = .returned nv ∧ w'.ownsRow w.heap.size 65 1 nv ([x, y] ++ [z]).length (fl ([x, y] ++ [z])) ∧ Keep (fun _ => False) w w' := by
  obtain ⟨i0, hi, hz0, hz1, hz2⟩ := info_parts fltInfo
  have hst := run_store_flt
  have hcc := fun g h => hv.cells (g := g) h
  rcases hv.2 with ⟨_, h0⟩ | ⟨g, cap, cur, rfl, hb, hg, _⟩
  · omega
  have hg := (Array.getElem?_eq_some_iff.1 hg).1
  have hadd : ∀ j, (⟨g, 0, none⟩ : Addr).add j = ⟨g, j, none⟩ := by intro j; unfold Addr.add; split <;> simp_all
  have c0 := hcc g rfl 0 (.float .f64 x) rfl
  have c1 := hcc g rfl 1 (.float .f64 y) rfl
  have c2 := hcc g rfl 2 (.float .f64 z) rfl
  have c3 := hcc g rfl 3 (.float .f64 m) rfl
  rw [hadd] at c0 c1 c2 c3
  clear hcc hadd hv hb
  go_enter Tryz.func55, Tryz.ntmps55
  go_wp2_with (fail)
  go_loopw [5, 10] (fun v5 v10 wr => (v5 = .slice none 0 0 ∧ v10 = .int .i64 0 ∧ wr = w) ∨ (v10 = .int .i64 1 ∧ Hid (wr.ownsRow w.heap.size 65 1 v5 ([x, y] ++ [z]).length (fl ([x, y] ++ [z]))) ∧ Hid (Keep (fun _ => False) w wr))) (fun _ v10 _ => match v10 with | .int _ 0 => 1 | _ => 0)
  case atStart => exact Or.inl ⟨rfl, rfl, rfl⟩
  case round =>
    rcases hrel with ⟨rfl, rfl, rfl⟩ | ⟨rfl, ho, hK⟩
    · have hQ := Nuq.start wr x y z m
      go_wp2_with (first | (at_builtin; refine wpList_append_m rfl _ _ 30 rfl wr.heap.size 65 i0 _ 1 8 Tryz.underlying30 hi hz0 hz1 hz2 rfl (by omega) (by omega) _ _ _ _ 2 _ (by rfl) (by exact hQ.own) (by first | rfl | (simp only [World.size_alloc]; rfl)) rfl (by intro u hu; simp at hu; rcases hu with rfl | rfl <;> rfl) (by omega) (by simp) hQ.k.size ?_; intro v6 w6 ho6 hg6; have hQ2 := hQ.grow (u := [x, y]) ho6 hg6; clear hQ ho6 hg6; obtain ⟨d0, d1, d2, d3, _⟩ := cells4 hQ2.blk; have hQ := hQ2; clear hQ2) | (at_builtin; refine wpList_append_m rfl _ _ 30 rfl wr.heap.size 65 i0 _ 1 8 Tryz.underlying30 hi hz0 hz1 hz2 rfl (by omega) (by omega) _ _ _ _ 1 _ (by rfl) (by exact hQ.own) (by first | rfl | (simp only [World.size_alloc]; rfl)) rfl (by intro u hu; simp at hu; subst hu; rfl) (by omega) (by simp) hQ.k.size ?_; intro v6 w6 ho6 hg6; have hQ2 := hQ.grow (u := [z]) ho6 hg6; clear hQ ho6 hg6; obtain ⟨d0, d1, d2, d3, _⟩ := cells4 hQ2.blk; have hQ := hQ2; clear hQ2))
      all_goals (
        go_roundw
        case rel => exact Or.inr ⟨rfl, Lib.hid hQ.own, Lib.hid hQ.k⟩
        case measure => simp only []; omega)
    · go_wp2_with (fail)
      go_ret
      exact ⟨_, rfl, ho.out, hK.out⟩

set_option maxRecDepth 100000 in
set_option maxHeartbeats 3200000 in
theorem nu_2 (w : World) (B : Nat) (v : Value) (x y z m : Nat) (hv : w.ownsRow B 131 4 v 1 (fl [x, y, z, m])) : Calls Tryz.prog 55 #[v, .int .i64 2] w fun e w' => ∃ nv, e = .returned nv ∧ w'.ownsRow w.heap.size 65 1 nv ([x, y] ++ [m]).length (fl ([x, y] ++ [m])) ∧ Keep (fun _ => False) w w' := by
  obtain ⟨i0, hi, hz0, hz1, hz2⟩ := info_parts fltInfo
  have hst := run_store_flt
  have hcc := fun g h => hv.cells (g := g) h
  rcases hv.2 with ⟨_, h0⟩ | ⟨g, cap, cur, rfl, hb, hg, _⟩
  · omega
  have hg := (Array.getElem?_eq_some_iff.1 hg).1
  have hadd : ∀ j, (⟨g, 0, none⟩ : Addr).add j = ⟨g, j, none⟩ := by intro j; unfold Addr.add; split <;> simp_all
  have c0 := hcc g rfl 0 (.float .f64 x) rfl
  have c1 := hcc g rfl 1 (.float .f64 y) rfl
  have c2 := hcc g rfl 2 (.float .f64 z) rfl
  have c3 := hcc g rfl 3 (.float .f64 m) rfl
  rw [hadd] at c0 c1 c2 c3
  clear hcc hadd hv hb
  go_enter Tryz.func55, Tryz.ntmps55
  go_wp2_with (fail)
  go_loopw [5, 10] (fun v5 v10 wr => (v5 = .slice none 0 0 ∧ v10 = .int .i64 0 ∧ wr = w) ∨ (v10 = .int .i64 1 ∧ Hid (wr.ownsRow w.heap.size 65 1 v5 ([x, y] ++ [m]).length (fl ([x, y] ++ [m]))) ∧ Hid (Keep (fun _ => False) w wr))) (fun _ v10 _ => match v10 with | .int _ 0 => 1 | _ => 0)
  case atStart => exact Or.inl ⟨rfl, rfl, rfl⟩
  case round =>
    rcases hrel with ⟨rfl, rfl, rfl⟩ | ⟨rfl, ho, hK⟩
    · have hQ := Nuq.start wr x y z m
      go_wp2_with (first | (at_builtin; refine wpList_append_m rfl _ _ 30 rfl wr.heap.size 65 i0 _ 1 8 Tryz.underlying30 hi hz0 hz1 hz2 rfl (by omega) (by omega) _ _ _ _ 2 _ (by rfl) (by exact hQ.own) (by first | rfl | (simp only [World.size_alloc]; rfl)) rfl (by intro u hu; simp at hu; rcases hu with rfl | rfl <;> rfl) (by omega) (by simp) hQ.k.size ?_; intro v6 w6 ho6 hg6; have hQ2 := hQ.grow (u := [x, y]) ho6 hg6; clear hQ ho6 hg6; obtain ⟨d0, d1, d2, d3, _⟩ := cells4 hQ2.blk; have hQ := hQ2; clear hQ2) | (at_builtin; refine wpList_append_m rfl _ _ 30 rfl wr.heap.size 65 i0 _ 1 8 Tryz.underlying30 hi hz0 hz1 hz2 rfl (by omega) (by omega) _ _ _ _ 1 _ (by rfl) (by exact hQ.own) (by first | rfl | (simp only [World.size_alloc]; rfl)) rfl (by intro u hu; simp at hu; subst hu; rfl) (by omega) (by simp) hQ.k.size ?_; intro v6 w6 ho6 hg6; have hQ2 := hQ.grow (u := [m]) ho6 hg6; clear hQ ho6 hg6; obtain ⟨d0, d1, d2, d3, _⟩ := cells4 hQ2.blk; have hQ := hQ2; clear hQ2))
      all_goals (
        go_roundw
        case rel => exact Or.inr ⟨rfl, Lib.hid hQ.own, Lib.hid hQ.k⟩
        case measure => simp only []; omega)
    · go_wp2_with (fail)
      go_ret
      exact ⟨_, rfl, ho.out, hK.out⟩

set_option maxRecDepth 100000 in
set_option maxHeartbeats 3200000 in
theorem nu_3 (w : World) (B : Nat) (v : Value) (x y z m : Nat) (hv : w.ownsRow B 131 4 v 1 (fl [x, y, z, m])) : Calls Tryz.prog 55 #[v, .int .i64 3] w fun e w' => ∃ nv, e = .returned nv ∧ w'.ownsRow w.heap.size 65 1 nv ([x, y] ++ [z] ++ [m]).length (fl ([x, y] ++ [z] ++ [m])) ∧ Keep (fun _ => False) w w' := by
  obtain ⟨i0, hi, hz0, hz1, hz2⟩ := info_parts fltInfo
  have hst := run_store_flt
  have hcc := fun g h => hv.cells (g := g) h
  rcases hv.2 with ⟨_, h0⟩ | ⟨g, cap, cur, rfl, hb, hg, _⟩
  · omega
  have hg := (Array.getElem?_eq_some_iff.1 hg).1
  have hadd : ∀ j, (⟨g, 0, none⟩ : Addr).add j = ⟨g, j, none⟩ := by intro j; unfold Addr.add; split <;> simp_all
  have c0 := hcc g rfl 0 (.float .f64 x) rfl
  have c1 := hcc g rfl 1 (.float .f64 y) rfl
  have c2 := hcc g rfl 2 (.float .f64 z) rfl
  have c3 := hcc g rfl 3 (.float .f64 m) rfl
  rw [hadd] at c0 c1 c2 c3
  clear hcc hadd hv hb
  go_enter Tryz.func55, Tryz.ntmps55
  go_wp2_with (fail)
  go_loopw [5, 10] (fun v5 v10 wr => (v5 = .slice none 0 0 ∧ v10 = .int .i64 0 ∧ wr = w) ∨ (v10 = .int .i64 1 ∧ Hid (wr.ownsRow w.heap.size 65 1 v5 ([x, y] ++ [z] ++ [m]).length (fl ([x, y] ++ [z] ++ [m]))) ∧ Hid (Keep (fun _ => False) w wr))) (fun _ v10 _ => match v10 with | .int _ 0 => 1 | _ => 0)
  case atStart => exact Or.inl ⟨rfl, rfl, rfl⟩
  case round =>
    rcases hrel with ⟨rfl, rfl, rfl⟩ | ⟨rfl, ho, hK⟩
    · have hQ := Nuq.start wr x y z m
      go_wp2_with (first | (at_builtin; refine wpList_append_m rfl _ _ 30 rfl wr.heap.size 65 i0 _ 1 8 Tryz.underlying30 hi hz0 hz1 hz2 rfl (by omega) (by omega) _ _ _ _ 2 _ (by rfl) (by exact hQ.own) (by first | rfl | (simp only [World.size_alloc]; rfl)) rfl (by intro u hu; simp at hu; rcases hu with rfl | rfl <;> rfl) (by omega) (by simp) hQ.k.size ?_; intro v6 w6 ho6 hg6; have hQ2 := hQ.grow (u := [x, y]) ho6 hg6; clear hQ ho6 hg6; obtain ⟨d0, d1, d2, d3, _⟩ := cells4 hQ2.blk; have hQ := hQ2; clear hQ2) | (at_builtin; refine wpList_append_m rfl _ _ 30 rfl wr.heap.size 65 i0 _ 1 8 Tryz.underlying30 hi hz0 hz1 hz2 rfl (by omega) (by omega) _ _ _ _ 1 _ (by rfl) (by exact hQ.own) (by first | rfl | (simp only [World.size_alloc]; rfl)) rfl (by intro u hu; simp at hu; subst hu; rfl) (by omega) (by simp) hQ.k.size ?_; intro v6 w6 ho6 hg6; have hQ2 := hQ.grow (u := [z]) ho6 hg6; clear hQ ho6 hg6; obtain ⟨d0, d1, d2, d3, _⟩ := cells4 hQ2.blk; have hQ := hQ2; clear hQ2) | (at_builtin; refine wpList_append_m rfl _ _ 30 rfl wr.heap.size 65 i0 _ 1 8 Tryz.underlying30 hi hz0 hz1 hz2 rfl (by omega) (by omega) _ _ _ _ 1 _ (by rfl) (by exact hQ.own) (by first | rfl | (simp only [World.size_alloc]; rfl)) rfl (by intro u hu; simp at hu; subst hu; rfl) (by omega) (by simp) hQ.k.size ?_; intro v6 w6 ho6 hg6; have hQ2 := hQ.grow (u := [m]) ho6 hg6; clear hQ ho6 hg6; obtain ⟨d0, d1, d2, d3, _⟩ := cells4 hQ2.blk; have hQ := hQ2; clear hQ2))
      all_goals (
        go_roundw
        case rel => exact Or.inr ⟨rfl, Lib.hid hQ.own, Lib.hid hQ.k⟩
        case measure => simp only []; omega)
    · go_wp2_with (fail)
      go_ret
      exact ⟨_, rfl, ho.out, hK.out⟩

end Go.Proofs.YtlckfiflfkbofaaGreatDoor
