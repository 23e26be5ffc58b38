/- The reference's reader of tokens: next, take, word. Part 36 of 51 of the proof that FnMultiPointBody returns true for every text and every type of coordinates, where the listed variables hold what the text of the program lays. -/
import Derived.OwnWalk
import Derived.Lib.BufferMore
import Derived.Test.YtlckfiflfkbofaaGreatDoorM01
import Derived.Test.YtlckfiflfkbofaaGreatDoorM04
import Derived.Test.YtlckfiflfkbofaaGreatDoorM21
set_option linter.all false

/- The reference's reader of tokens: next, take, word. -/
namespace Go.Proofs.YtlckfiflfkbofaaGreatDoor
open Go.RowKit

/-- The slice v shows the tokens l, which lie in block g. -/
def TkS (w : World) (g : Nat) (v : Value) (l : List Tok) : Prop :=
  match l with
  | [] => ∃ a cap, v = .slice a 0 cap
  | _ => ∃ o cap, v = .slice (some ⟨g, o, none⟩) l.length cap ∧ l.length ≤ cap ∧ cap ≤ 9223372036854775807 ∧ ∀ i k, l[i]? = some k → w.cell? ⟨g, o + 2 * i, none⟩ = some (.int .u8 (k.k : Int)) ∧ w.cell? ⟨g, o + 2 * i + 1, none⟩ = some (.string k.s)

theorem TkS.keep {S : Nat → Prop} {w w' : World} {g : Nat} {v : Value} {l : List Tok} (h : TkS w g v l) (k : Keep S w w') (hg : ¬ S g) : TkS w' g v l := by
  cases l with
  | nil => exact h
  | cons a l =>
    obtain ⟨o, cap, h1, h2, h3, h4⟩ := h
    exact ⟨o, cap, h1, h2, h3, fun i x hx => ⟨k.cell (h4 i x hx).1 hg, k.cell (h4 i x hx).2 hg⟩⟩

/-- The reader in block p, the tokens l ahead of it. -/
structure RdS (w : World) (p g : Nat) (l : List Tok) (bad : Bool) : Prop where
  ex : ∃ v, w.heap[p]? = some (.cells #[v, .bool bad] 54 (0, 0)) ∧ TkS w g v l
  ne : g ≠ p
  le : l.length ≤ 100000

def nx (l : List Tok) (bad : Bool) : Nat := if bad then 0 else match l with
  | [] => 0
  | k :: _ => k.k

section
variable {w : World} {p g : Nat} {l : List Tok} {k : Tok} {bad : Bool}
theorem RdS.keep {S : Nat → Prop} {w' : World} (h : RdS w p g l bad) (q : Keep S w w') (hp : ¬ S p) (hg : ¬ S g) : RdS w' p g l bad := by
  obtain ⟨⟨v, h1, h2⟩, h3, h4⟩ := h
  exact ⟨⟨v, (q.block p (Array.getElem?_eq_some_iff.1 h1).1 hp).trans h1, h2.keep q hg⟩, h3, h4⟩
theorem RdS.setBad (h : RdS w p g l bad) (b : Bool) : RdS (w.setCell ⟨p, 1, none⟩ (.bool b)) p g l b := by
  obtain ⟨⟨v, h1, h2⟩, h3, h4⟩ := h
  refine ⟨⟨v, Lib.heap_setCell_same (i := 1) h1 (.bool b), h2.keep ((Keep.refl (At1 p) w).setCell (Or.inr rfl) _) h3⟩, h3, h4⟩
theorem RdS.setL {r : List Tok} {v : Value} (h : RdS w p g l bad) (hv : TkS w g v r) (hl : r.length ≤ 100000) : RdS (w.setCell ⟨p, 0, none⟩ v) p g r bad := by
  obtain ⟨⟨v0, h1, h2⟩, h3, h4⟩ := h
  exact ⟨⟨v, Lib.heap_setCell_same (i := 0) h1 v, hv.keep ((Keep.refl (At1 p) w).setCell (Or.inr rfl) _) h3⟩, h3, hl⟩
theorem RdS.facts (h : RdS w p g l bad) : ∃ v, TkS w g v l ∧ w.cell? ⟨p, 0, none⟩ = some v ∧ w.cell? ⟨p, 1, none⟩ = some (.bool bad) ∧ w.frozen? ⟨p, 0, none⟩ = false ∧ w.frozen? ⟨p, 1, none⟩ = false := by
  obtain ⟨⟨v, h1, h2⟩, h3, h4⟩ := h
  exact ⟨v, h2, by simp [World.cell?, h1], by simp [World.cell?, h1], Lib.frozen_of_heap h1 0, Lib.frozen_of_heap h1 1⟩
theorem TkS.hd {v : Value} (h : TkS w g v (k :: l)) : ∃ o cap, v = .slice (some ⟨g, o, none⟩) (l.length + 1) cap ∧ l.length + 1 ≤ cap ∧ cap ≤ 9223372036854775807 ∧ w.cell? ⟨g, o, none⟩ = some (.int .u8 (k.k : Int)) ∧ w.cell? ⟨g, o + 1, none⟩ = some (.string k.s) := by
  obtain ⟨o, cap, h1, h2, h3, h4⟩ := h
  exact ⟨o, cap, h1, h2, h3, (h4 0 k rfl).1, (h4 0 k rfl).2⟩

set_option maxRecDepth 100000 in
theorem nx_calls57 (h : RdS w p g l bad) : Calls Tryz.prog 57 #[.pointer (some ⟨p, 0, none⟩)] w fun e w' => e = .returned (.int .u8 (nx l bad : Nat)) ∧ w = w' := by
  have hle := h.le
  obtain ⟨v, hv, c0, c1, f0, f1⟩ := h.facts
  cases l with
  | nil =>
    obtain ⟨a, cap, rfl⟩ := hv
    go_enter Tryz.func57, Tryz.ntmps57
    go_wp2_with (fail)
    go_ret
    exact ⟨by cases bad <;> rfl, rfl⟩
  | cons k l =>
    obtain ⟨o, cap, rfl, h1, h2, d0, d1⟩ := hv.hd
    simp only [List.length_cons] at hle
    have hz : ¬ ((l.length + 1 : Nat) : Int) = 0 := by omega
    have hz' : (((l.length + 1 : Nat) : Int) == 0) = false := by simpa using hz
    cases bad with
    | true =>
      go_enter Tryz.func57, Tryz.ntmps57
      go_wp2_with (fail)
      go_ret
      exact ⟨rfl, rfl⟩
    | false =>
      go_enter Tryz.func57, Tryz.ntmps57
      go_wp2_with (fail)
      go_ret
      exact ⟨rfl, rfl⟩

theorem TkS.tl {o cap : Nat} (h : TkS w g (.slice (some ⟨g, o, none⟩) (l.length + 1) cap) (k :: l)) : TkS w g (.slice (some ⟨g, o + 2, none⟩) l.length (cap - 1)) l := by
  obtain ⟨o', cap', h1, h2, h3, h4⟩ := h
  cases h1
  cases l with
  | nil => exact ⟨_, _, rfl⟩
  | cons a l =>
    refine ⟨o + 2, cap - 1, rfl, by simp only [List.length_cons] at h2 ⊢; omega, by omega, fun i x hx => ?_⟩
    have := h4 (i + 1) x (by simpa using hx)
    rwa [show o + 2 * (i + 1) = o + 2 + 2 * i by omega] at this

set_option maxRecDepth 100000 in
theorem tk_bad (h : RdS w p g l bad) (c : Nat) (hc : ¬ nx l bad = c) : Calls Tryz.prog 36 #[.pointer (some ⟨p, 0, none⟩), .int .u8 (c : Int)] w fun e w' => e = .returned (.string ⟨#[]⟩) ∧ RdS w' p g l true ∧ Keep (At1 p) w w' := by
  have hn := nx_calls57 h
  obtain ⟨v, hv, c0, c1, f0, f1⟩ := h.facts
  have hc' : ¬ ((nx l bad : Nat) : Int) = c := by omega
  have hcb : (((nx l bad : Nat) : Int) != c) = true := by simpa using hc'
  go_enter Tryz.func36, Tryz.ntmps36
  go_wp2_with (go_at_call 57; refine hn.mono ?_; rintro e w2 ⟨rfl, rfl⟩)
  go_ret
  exact ⟨rfl, h.setBad true, (Keep.refl (At1 p) w).setCell (Or.inr rfl) _⟩

theorem TkS.tl1 {o : Nat} {v : Value} (hl : l.length = 0) (hv : v = .slice (some ⟨g, o, none⟩) l.length 0) : TkS w g v l := by
  cases l with
  | nil => exact ⟨_, _, hv⟩
  | cons a l => simp at hl

set_option maxRecDepth 100000 in
theorem tk_ok (h : RdS w p g (k :: l) false) : Calls Tryz.prog 36 #[.pointer (some ⟨p, 0, none⟩), .int .u8 (k.k : Int)] w fun e w' => e = .returned (.string k.s) ∧ RdS w' p g l false ∧ Keep (At1 p) w w' := by
  have hn : Calls Tryz.prog 57 #[.pointer (some ⟨p, 0, none⟩)] w fun e w' => e = .returned (.int .u8 (k.k : Int)) ∧ w = w' := nx_calls57 h
  have hle := h.le
  have hR := h
  obtain ⟨v, hv, c0, c1, f0, f1⟩ := h.facts
  obtain ⟨o, cap, rfl, h1, h2, d0, d1⟩ := hv.hd
  simp only [List.length_cons] at hle
  go_enter Tryz.func36, Tryz.ntmps36
  go_wp2_with (go_at_call 57; refine hn.mono ?_; rintro e w2 ⟨rfl, rfl⟩)
  · go_ret
    exact ⟨rfl, hR.setL (TkS.tl1 (by omega) rfl) (by omega), (Keep.refl (At1 p) w).setCell (Or.inr rfl) _⟩
  · go_ret
    exact ⟨rfl, hR.setL hv.tl (by omega), (Keep.refl (At1 p) w).setCell (Or.inr rfl) _⟩

set_option maxRecDepth 100000 in
theorem wd_no (h : RdS w p g l bad) (x : ByteArray) (hc : ¬ nx l bad = 97) : Calls Tryz.prog 38 #[.pointer (some ⟨p, 0, none⟩), .string x] w fun e w' => e = .returned (.bool false) ∧ w = w' := by
  have hn := nx_calls57 h
  have hc' : (((nx l bad : Nat) : Int) == 97) = false := by simp; omega
  have hc2 : ¬ ((nx l bad : Nat) : Int) = 97 := by omega
  go_enter Tryz.func38, Tryz.ntmps38
  go_wp2_with (go_at_call 57; refine hn.mono ?_; rintro e w2 ⟨rfl, rfl⟩)
  go_ret
  exact ⟨rfl, rfl⟩

set_option maxRecDepth 100000 in
theorem wd_ne (h : RdS w p g (k :: l) false) (hk : k.k = 97) (x : ByteArray) (hx : (k.s.toList == x.toList) = false) : Calls Tryz.prog 38 #[.pointer (some ⟨p, 0, none⟩), .string x] w fun e w' => e = .returned (.bool false) ∧ w = w' := by
  have hn : Calls Tryz.prog 57 #[.pointer (some ⟨p, 0, none⟩)] w fun e w' => e = .returned (.int .u8 97) ∧ w = w' := by
    have := nx_calls57 h
    rw [show nx (k :: l) false = 97 from hk] at this
    exact this
  have hle := h.le
  have hR := h
  obtain ⟨v, hv, c0, c1, f0, f1⟩ := h.facts
  obtain ⟨o, cap, rfl, h1, h2, d0, d1⟩ := hv.hd
  simp only [List.length_cons] at hle
  go_enter Tryz.func38, Tryz.ntmps38
  go_wp2_with (go_at_call 57; refine hn.mono ?_; rintro e w2 ⟨rfl, rfl⟩)
  go_ret
  exact ⟨rfl, rfl⟩

set_option maxRecDepth 100000 in
theorem wd_eq (h : RdS w p g (k :: l) false) (hk : k.k = 97) (x : ByteArray) (hx : k.s = x) : Calls Tryz.prog 38 #[.pointer (some ⟨p, 0, none⟩), .string x] w fun e w' => e = .returned (.bool true) ∧ RdS w' p g l false ∧ Keep (At1 p) w w' := by
  have hn : Calls Tryz.prog 57 #[.pointer (some ⟨p, 0, none⟩)] w fun e w' => e = .returned (.int .u8 97) ∧ w = w' := by
    have := nx_calls57 h
    rw [show nx (k :: l) false = 97 from hk] at this
    exact this
  have hle := h.le
  have hR := h
  obtain ⟨v, hv, c0, c1, f0, f1⟩ := h.facts
  obtain ⟨o, cap, rfl, h1, h2, d0, d1⟩ := hv.hd
  rw [hx] at d1
  clear hx
  simp only [List.length_cons] at hle
  go_enter Tryz.func38, Tryz.ntmps38
  go_wp2_with (go_at_call 57; refine hn.mono ?_; rintro e w2 ⟨rfl, rfl⟩)
  · go_ret
    exact ⟨rfl, hR.setL (TkS.tl1 (by omega) rfl) (by omega), (Keep.refl (At1 p) w).setCell (Or.inr rfl) _⟩
  · go_ret
    exact ⟨rfl, hR.setL hv.tl (by omega), (Keep.refl (At1 p) w).setCell (Or.inr rfl) _⟩
end

end Go.Proofs.YtlckfiflfkbofaaGreatDoor
