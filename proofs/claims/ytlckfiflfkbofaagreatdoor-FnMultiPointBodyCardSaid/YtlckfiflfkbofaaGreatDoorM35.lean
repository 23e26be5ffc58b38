/- pTokens. Part 35 of 51 of the proof that FnMultiPointBody returns true for every text and every type of coordinates, where the listed variables hold what the text of the program lays. -/
import Derived.Test.YtlckfiflfkbofaaGreatDoorM33
set_option linter.all false

/- pTokens. -/
namespace Go.Proofs.YtlckfiflfkbofaaGreatDoor
open Go.RowKit

/-- What pTokens answers. -/
def PtkP (s : ByteArray) (w : World) (e : Ending) (w' : World) : Prop :=
  (∃ l v, tkA false s.data.toList = some l ∧ Unp l ∧ s.size ≤ 2000 ∧ e = .returned (.tuple #[v, .bool true]) ∧ w'.ownsRow w.heap.size 9 1 v l.length (strs l)) ∨ ∃ v, e = .returned (.tuple #[v, .bool false])

set_option maxRecDepth 100000 in
set_option maxHeartbeats 1600000 in
theorem ptk_calls (s : ByteArray) (w : World) : Calls Tryz.prog 6 #[.string s] w fun e w' => PtkP s w e w' ∧ Keep (fun _ => False) w w' := by
  by_cases hs : 2000 < s.size
  · have hd : decide ((s.size : Int) > 2000) = true := decide_eq_true (by omega)
    have hd' : 2000 < (s.size : Int) := by omega
    go_enter Tryz.func6, Tryz.ntmps6
    go_wp2_with (fail)
    go_ret2
    exact ⟨Or.inr ⟨_, rfl⟩, Keep.refl _ _⟩
  · have hA := ask_calls s w (by omega)
    have hT := fun W => tkz_calls s W (by omega)
    have hd : decide ((s.size : Int) > 2000) = false := decide_eq_false (by omega)
    have hd' : ¬ 2000 < (s.size : Int) := by omega
    have HS := Lib.hid hs
    clear hs
    go_enter Tryz.func6, Tryz.ntmps6
    go_wp2_with (first | (go_at_call 15; refine hA.mono ?_; rintro e w2 ⟨⟨b, rfl, hb⟩, hK⟩; have HB := Lib.hid hb; clear hb; cases b) | (go_at_call 16; refine (hT _).mono ?_; rintro e w3 ⟨h1, hK3⟩; obtain ⟨l, hl, hu⟩ := HB.out (by first | rfl | trivial); rw [hl] at h1; obtain ⟨v, rfl, ho⟩ := h1))
    · go_ret2
      exact ⟨Or.inr ⟨_, rfl⟩, hK⟩
    · go_ret2
      exact ⟨Or.inl ⟨l, _, hl, hu, Nat.le_of_not_lt HS.out, rfl, own_mono ho hK.size⟩, hK.trans hK3⟩
end Go.Proofs.YtlckfiflfkbofaaGreatDoor
