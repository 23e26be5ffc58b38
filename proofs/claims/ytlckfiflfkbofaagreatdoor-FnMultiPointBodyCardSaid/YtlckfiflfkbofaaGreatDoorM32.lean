/- Appends of one element to a row that the call owns. Part 32 of 51 of the proof that FnMultiPointBody returns true for every text and every type of coordinates, where the listed variables hold what the text of the program lays. -/
import Derived.OwnWalk
import Derived.Laws.AppendOwn
import Derived.Test.YtlckfiflfkbofaaGreatDoorM01
import Derived.Test.YtlckfiflfkbofaaGreatDoorM04
set_option linter.all false

/- Appends of one element to a row that the call owns. -/
namespace Go.Proofs.YtlckfiflfkbofaaGreatDoor
open Go.RowKit

theorem Keep.grown {S : Nat → Prop} {W0 w w' : World} {e : TypeId} {size n : Nat} {v : Value} {xs : List Value} (k : Keep S W0 w) (ho : w.ownsRow W0.heap.size e size v n xs) (g : w.grownBy w' v.ownBlock) : Keep S W0 w' := by
  refine ⟨g.os.trans k.os, g.tape.trans k.tape, g.output.trans k.output, Nat.le_trans k.size g.size, fun i hi hs => ?_⟩
  rw [g.block i (Nat.lt_of_lt_of_le hi k.size) ?_]
  · exact k.block i hi hs
  · intro e
    have := (ho.lt i e.symm).1
    omega
theorem own_keep {S : Nat → Prop} {w w' : World} {b : Nat} {e : TypeId} {size n : Nat} {v : Value} {xs : List Value} (h : w.ownsRow b e size v n xs) (k : Keep S w w') (hS : ∀ g, v.ownBlock = some g → ¬ S g) : w'.ownsRow b e size v n xs := by
  refine ⟨h.1, ?_⟩
  rcases h.2 with hn | ⟨g, cap, cur, rfl, hb, hgg, rest⟩
  · exact .inl hn
  · refine .inr ⟨g, cap, cur, rfl, hb, ?_, rest⟩
    rw [k.block g (Array.getElem?_eq_some_iff.1 hgg).1 (hS g rfl)]
    exact hgg

theorem wpList_append_one {ops : Array Oper} {rest : List Oper} {o : Oper} {a : Act} {Q : Exit → Act → World → Prop} (hgd : o.guard = none) (s x : Operand) (t : TypeId)
    (ho : o.op = .call { callee := .builtin .append, args := #[s, x], argTypes := #[t, t] })
    (base : Nat) (e : TypeId) (i : TypeInfo) (z : Value) (size bytes : Nat) (ht : Tryz.prog.underlying t = some (.slice e)) (hi : Tryz.prog.info? e = some i) (hz : i.zero = some z)
    (hsize : i.size = size) (hby : i.bytes = bytes) (hzs : z.cells.size = size) (hsz : 0 < size) (hb : bytes ≤ 1000)
    (w : World) (v : Value) (n : Nat) (xs : List Value) (cs : Array Value) (hs : a.eval s = v) (hown : w.ownsRow base e size v n xs)
    (hx : a.eval x = .slice (some ⟨w.heap.size, 0, none⟩) 1 1) (hl : cs.size = size) (h1 : ∀ u ∈ cs.toList, u.oneCell' = true) (hn : n ≤ 1000000) (hbase : base ≤ w.heap.size)
    (h : ∀ v' w', w'.ownsRow base e size v' (n + 1) (xs ++ cs.toList) → w.grownBy w' v.ownBlock → wpList Tryz.prog ops Q rest (a.put o.dst v') w') : wpList Tryz.prog ops Q (o :: rest) a (w.alloc (.cells cs e)) := by
  refine wpList_append_own (P := Tryz.prog) (w := w.alloc (.cells cs e)) hgd s x t ho base e i z size bytes ht hi hz hsize hby hzs hsz v n xs hs (hown.alloc _) ⟨w.heap.size, 0, none⟩ 1 1 cs.toList hx (by simp [hl]) ?_ h1 ?_ ?_ ?_ ?_
  · intro j u hu
    have hadd : (⟨w.heap.size, 0, none⟩ : Addr).add j = ⟨w.heap.size, j, none⟩ := by unfold Addr.add; split <;> simp_all
    rw [hadd, World.cell?_alloc_new]
    simpa using hu
  · unfold maxLen; omega
  · have : (n + 1) * bytes ≤ 1000001 * 1000 := Nat.mul_le_mul (by omega) hb
    omega
  · simp; omega
  · intro v' w' h2 h3 _
    refine h v' w' h2 ?_
    have h4 := World.grownBy_alloc w (.cells cs e) v.ownBlock
    exact ⟨h3.os.trans h4.os, h3.tape.trans h4.tape, h3.output.trans h4.output, Nat.le_trans h4.size h3.size, fun k hk hne => (h3.block k (Nat.lt_of_lt_of_le hk h4.size) hne).trans (h4.block k hk hne)⟩

theorem tokInfo : (Tryz.prog.info? 74).map (fun i => (i.zero, i.size, i.bytes)) = some (some (.agg #[.int .u8 0, .string ⟨#[]⟩]), 2, 24) := by kernel_rfl
theorem fltInfo : (Tryz.prog.info? 65).map (fun i => (i.zero, i.size, i.bytes)) = some (some (.float .f64 0), 1, 8) := by kernel_rfl
theorem strInfo : (Tryz.prog.info? 9).map (fun i => (i.zero, i.size, i.bytes)) = some (some (.string ⟨#[]⟩), 1, 16) := by kernel_rfl
theorem geoInfo : (Tryz.prog.info? 33).map (fun i => (i.zero, i.size, i.bytes)) = some (some (.agg #[.int .i64 0, .int .i64 0, .slice none 0 0, .slice none 0 0]), 4, 64) := by kernel_rfl
theorem ptInfo : (Tryz.prog.info? 71).map (fun i => (i.zero, i.size, i.bytes)) = some (some (.agg #[.float .f64 0, .float .f64 0, .float .f64 0, .float .f64 0, .int .u8 0, .bool false]), 6, 48) := by kernel_rfl

end Go.Proofs.YtlckfiflfkbofaaGreatDoor
