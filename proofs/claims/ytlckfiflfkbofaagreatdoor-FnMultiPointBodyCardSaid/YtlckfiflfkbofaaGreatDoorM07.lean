/- A scope with several labels, jumped to forwards only; no function of the program in sight. Part 7 of 51 of the proof that FnMultiPointBody returns true for every text and every type of coordinates, where the listed variables hold what the text of the program lays. -/
import Derived.WalkMore
import Derived.Test.YtlckfiflfkbofaaGreatDoorM01
set_option linter.all false

/- A scope with several labels, jumped to forwards only; no function of the program in sight. -/
namespace Go.Proofs.YtlckfiflfkbofaaGreatDoor

/-- As Q; by a goto to label l: J l. -/
def jumpTo (J : Nat → Act → World → Prop) (Q : Exit → Act → World → Prop) : Exit → Act → World → Prop
  | .goto l, a, w => J l a w
  | e, a, w => Q e a w

section
variable {J : Nat → Act → World → Prop} {Q : Exit → Act → World → Prop} {a : Act} {w : World}
@[go_sem] theorem jumpTo_normal : jumpTo J Q .normal a w = Q .normal a w := rfl
@[go_sem] theorem jumpTo_exit (id : Nat) : jumpTo J Q (.exit id) a w = Q (.exit id) a w := rfl
@[go_sem] theorem jumpTo_ret : jumpTo J Q .ret a w = Q .ret a w := rfl
@[go_sem] theorem jumpTo_panic (ch : List PanicEntry) : jumpTo J Q (.panic ch) a w = Q (.panic ch) a w := rfl
@[go_sem] theorem jumpTo_goto (l : Nat) : jumpTo J Q (.goto l) a w = J l a w := rfl
end

theorem wp_scope_labels {P : Program} {Q : Exit → Act → World → Prop} {a : Act} {w : World} {c : Code} (m : Nat → Nat) (J : Nat → Act → World → Prop) (R : Nat → Code)
    (hf : ∀ l a w, J l a w → findLabel c l = some (R l)) (first : c.wp P (jumpTo J Q) a w)
    (pass : ∀ l a w, J l a w → (R l).wp P (jumpTo (fun l' a' w' => m l' < m l ∧ J l' a' w') Q) a w) : (Code.scope c).wp P Q a w := by
  intro b k cs
  have hg : ∀ l a w, J l a w → gotoIn l (.inScope c :: k) = some (.code (R l) :: .inScope c :: k) := by intro l a w h; simp [gotoIn, hf l a w h]
  have key : ∀ n l a w, m l = n → J l a w → ∃ e a' w', Q e a' w' ∧ Arrives P (lone (b.at a (.code (R l) :: .inScope c :: k)) cs w) b k cs e a' w' := by
    intro n
    induction n using Nat.strongRecOn with
    | _ n ih =>
      intro l a w hn hJ
      obtain ⟨e, a₁, w₁, hq, harr⟩ := pass l a w hJ b (.inScope c :: k) cs
      cases e with
      | normal => exact ⟨.normal, a₁, w₁, hq, Steps.trans harr (.one step_inScope)⟩
      | exit id => exact ⟨.exit id, a₁, w₁, hq, fun k' hk => harr k' (by simp [exitTo, hk])⟩
      | goto l' =>
        obtain ⟨hlt, hJ'⟩ := hq
        obtain ⟨e₂, a₂, w₂, hq₂, harr₂⟩ := ih _ (by omega) l' a₁ w₁ rfl hJ'
        exact ⟨e₂, a₂, w₂, hq₂, .of_steps (harr _ (hg l' a₁ w₁ hJ')) harr₂⟩
      | ret => exact ⟨_, a₁, w₁, hq, harr⟩
      | panic ch => exact ⟨_, a₁, w₁, hq, harr⟩
      | outgrown => exact ⟨_, a₁, w₁, hq, harr⟩
  obtain ⟨e, a₁, w₁, hq, harr⟩ := first b (.inScope c :: k) cs
  cases e with
  | normal => exact ⟨.normal, a₁, w₁, hq, .head step_scope (Steps.trans harr (.one step_inScope))⟩
  | exit id => exact ⟨.exit id, a₁, w₁, hq, fun k' hk => .head step_scope (harr k' (by simp [exitTo, hk]))⟩
  | goto l' =>
    obtain ⟨e₂, a₂, w₂, hq₂, harr₂⟩ := key _ l' a₁ w₁ rfl hq
    exact ⟨e₂, a₂, w₂, hq₂, .of_steps (.head step_scope (harr _ (hg l' a₁ w₁ hq))) harr₂⟩
  | ret => exact ⟨_, a₁, w₁, hq, .of_steps (.one step_scope) harr⟩
  | panic ch => exact ⟨_, a₁, w₁, hq, .of_steps (.one step_scope) harr⟩
  | outgrown => exact ⟨_, a₁, w₁, hq, .of_steps (.one step_scope) harr⟩

/-- Two labels, 1 ahead of 0; what stands behind a label is walked at each jump. -/
theorem wp_scope_two {P : Program} {Q : Exit → Act → World → Prop} {a : Act} {w : World} {c r0 r1 : Code} (h0 : findLabel c 0 = some r0) (h1 : findLabel c 1 = some r1)
    (first : c.wp P (jumpTo (fun l a w => (l = 0 ∧ r0.wp P (Exit.noGoto Q) a w) ∨ (l = 1 ∧ r1.wp P (Exit.noGoto Q) a w)) Q) a w) : (Code.scope c).wp P Q a w := by
  refine wp_scope_labels (fun l => l) (fun l a w => (l = 0 ∧ r0.wp P (Exit.noGoto Q) a w) ∨ (l = 1 ∧ r1.wp P (Exit.noGoto Q) a w)) (fun l => if l = 0 then r0 else r1) ?_ first ?_
  · intro l a w h
    rcases h with ⟨rfl, _⟩ | ⟨rfl, _⟩
    · exact h0
    · exact h1
  · have weak : ∀ (J : Nat → Act → World → Prop) (e : Exit) (a : Act) (w : World), Exit.noGoto Q e a w → jumpTo J Q e a w := by
      intro J e a w h
      cases e <;> first | exact h | exact absurd h (by intro x; exact x)
    intro l a w h
    rcases h with ⟨rfl, h⟩ | ⟨rfl, h⟩
    · exact wp_mono h (weak _)
    · exact wp_mono h (weak _)

end Go.Proofs.YtlckfiflfkbofaaGreatDoor
