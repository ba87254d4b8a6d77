/- A scope in which the run jumps forward to three labels. -/
import Derived.Test.YtpopiaahdanpeaaGreatDoorMerge
namespace Go.Proofs.YtpopiaahdanpeaaGreatDoor
open Go Go.RowKit
set_option linter.unusedVariables false

/-- As Q; by a goto to 0, 1, 2: what is given for it; by any other goto: no way out. -/
def fwd (J0 J1 J2 : Act → World → Prop) (Q : Exit → Act → World → Prop) : Exit → Act → World → Prop
  | .goto 0, a, w => J0 a w
  | .goto 1, a, w => J1 a w
  | .goto 2, a, w => J2 a w
  | .goto _, _, _ => False
  | e, a, w => Q e a w
section
variable {J0 J1 J2 : Act → World → Prop} {Q : Exit → Act → World → Prop} {a : Act} {w : World}
@[go_sem] theorem fwd_goto0 : fwd J0 J1 J2 Q (.goto 0) a w = J0 a w := rfl
@[go_sem] theorem fwd_goto1 : fwd J0 J1 J2 Q (.goto 1) a w = J1 a w := rfl
@[go_sem] theorem fwd_goto2 : fwd J0 J1 J2 Q (.goto 2) a w = J2 a w := rfl
@[go_sem] theorem fwd_normal : fwd J0 J1 J2 Q .normal a w = Q .normal a w := rfl
@[go_sem] theorem fwd_exit (id : Nat) : fwd J0 J1 J2 Q (.exit id) a w = Q (.exit id) a w := rfl
@[go_sem] theorem fwd_ret : fwd J0 J1 J2 Q .ret a w = Q .ret a w := rfl
@[go_sem] theorem fwd_panic (ch : List PanicEntry) : fwd J0 J1 J2 Q (.panic ch) a w = Q (.panic ch) a w := rfl
end

def noWay : Act → World → Prop := fun _ _ => False

section
variable {P : Program} {Q : Exit → Act → World → Prop}

/-- What a piece of code inside a scope comes to. -/
def InScope (P : Program) (c : Code) (Q : Exit → Act → World → Prop) (rest : Code) (a : Act) (w : World) : Prop :=
  ∀ (b : Frame) (k : List Item) (cs : List Frame), ∃ e a' w', Q e a' w' ∧ Arrives P (lone (b.at a (.code rest :: .inScope c :: k)) cs w) b k cs e a' w'

theorem inScope_of {c rest : Code} {J : Nat → Act → World → Prop} {a : Act} {w : World} {Q' : Exit → Act → World → Prop} (h : rest.wp P Q' a w)
    (hg : ∀ l a w, Q' (.goto l) a w → ∃ r, findLabel c l = some r ∧ InScope P c Q r a w)
    (hq : ∀ e a w, (∀ l, e ≠ .goto l) → Q' e a w → Q e a w) : InScope P c Q rest a w := by
  intro b k cs
  obtain ⟨e, a₁, w₁, hq1, harr⟩ := h b (.inScope c :: k) cs
  cases e with
  | normal => exact ⟨.normal, a₁, w₁, hq _ _ _ (by simp) hq1, Steps.trans harr (.one step_inScope)⟩
  | exit id => exact ⟨.exit id, a₁, w₁, hq _ _ _ (by simp) hq1, fun k' hk => harr k' (by simp [exitTo, hk])⟩
  | goto l =>
    obtain ⟨r, hr, hin⟩ := hg l a₁ w₁ hq1
    obtain ⟨e₂, a₂, w₂, hq₂, harr₂⟩ := hin b k cs
    have hgi : gotoIn l (.inScope c :: k) = some (.code r :: .inScope c :: k) := by simp [gotoIn, hr]
    exact ⟨e₂, a₂, w₂, hq₂, .of_steps (harr _ hgi) harr₂⟩
  | ret => exact ⟨_, a₁, w₁, hq _ _ _ (by simp) hq1, harr⟩
  | panic ch => exact ⟨_, a₁, w₁, hq _ _ _ (by simp) hq1, harr⟩
  | outgrown => exact ⟨_, a₁, w₁, hq _ _ _ (by simp) hq1, harr⟩

theorem fwd_other {J0 J1 J2 : Act → World → Prop} {Q : Exit → Act → World → Prop} (e : Exit) (a : Act) (w : World) (h : ∀ l, e ≠ .goto l) (hq : fwd J0 J1 J2 Q e a w) : Q e a w := by
  cases e with
  | goto l => exact (h l rfl).elim
  | _ => exact hq

theorem wp_scope_fwd {c r0 r1 r2 : Code} {a : Act} {w : World} (h0 : findLabel c 0 = some r0) (h1 : findLabel c 1 = some r1) (h2 : findLabel c 2 = some r2)
    (h : ∀ J0 J1 J2 : Act → World → Prop, (∀ a w, r0.wp P (fwd noWay noWay noWay Q) a w → J0 a w) → (∀ a w, r1.wp P (fwd J0 noWay noWay Q) a w → J1 a w) →
      (∀ a w, r2.wp P (fwd J0 J1 noWay Q) a w → J2 a w) → c.wp P (fwd J0 J1 J2 Q) a w) : (Code.scope c).wp P Q a w := by
  have hI : InScope P c Q c a w := by
    refine inScope_of (J := fun _ _ _ => True) (h (InScope P c Q r0) (InScope P c Q r1) (InScope P c Q r2) ?_ ?_ ?_) ?_ fwd_other
    · intro a w hw
      refine inScope_of (J := fun _ _ _ => True) hw ?_ fwd_other
      intro l a w hl
      rcases l with _ | _ | _ | l <;> exact hl.elim
    · intro a w hw
      refine inScope_of (J := fun _ _ _ => True) hw ?_ fwd_other
      intro l a w hl
      rcases l with _ | _ | _ | l
      · exact ⟨r0, h0, hl⟩
      · exact hl.elim
      · exact hl.elim
      · exact hl.elim
    · intro a w hw
      refine inScope_of (J := fun _ _ _ => True) hw ?_ fwd_other
      intro l a w hl
      rcases l with _ | _ | _ | l
      · exact ⟨r0, h0, hl⟩
      · exact ⟨r1, h1, hl⟩
      · exact hl.elim
      · exact hl.elim
    · intro l a w hl
      rcases l with _ | _ | _ | l
      · exact ⟨r0, h0, hl⟩
      · exact ⟨r1, h1, hl⟩
      · exact ⟨r2, h2, hl⟩
      · exact hl.elim
  intro b k cs
  obtain ⟨e, a', w', hq, harr⟩ := hI b k cs
  exact ⟨e, a', w', hq, .of_steps (.one step_scope) harr⟩
end
end Go.Proofs.YtpopiaahdanpeaaGreatDoor
