/- What becomes of a trie as a set of nodes: a node changed, a leaf more, a node split, a node and its child made one, a subtree cut off. No memory here. -/
import Derived.Test.YtpopiaahdanpeaaGreatDoorPut1
namespace Go.Proofs.YtpopiaahdanpeaaGreatDoor
open Go Go.RowKit
set_option linter.unusedVariables false

/-- A in the place of X. -/
def swapN (D : Node → Prop) (X A : Node) : Node → Prop := fun Y => (D Y ∧ Y ≠ X) ∨ Y = A
/-- V besides. -/
def addN (D : Node → Prop) (V : Node) : Node → Prop := fun Y => D Y ∨ Y = V
/-- A in the place of X and Z. -/
def mergeN (D : Node → Prop) (X Z A : Node) : Node → Prop := fun Y => (D Y ∧ Y ≠ X ∧ Y ≠ Z) ∨ Y = A
/-- All but what begins with s. -/
def cutN (D : Node → Prop) (s : List UInt8) : Node → Prop := fun Y => D Y ∧ ¬ s <+: Y.word

section
variable {t : Nat} {D : Node → Prop} {X : Node}

theorem Node.par_of {X Y : Node} (h : X.word = Y.word) (h2 : X.plen = Y.plen) : X.par = Y.par := by simp [Node.par, h, h2]
theorem Node.pre_of {X Y : Node} (h : X.word = Y.word) (h2 : X.plen = Y.plen) : X.pre = Y.pre := by simp [Node.pre, h, h2]

/-- A node changed in what is no matter of the trie's shape. -/
theorem WF.swap (h : WF t D) (hX : D X) {A : Node} (hw : A.word = X.word) (hp : A.plen = X.plen) (hb : A.blk = X.blk) (hl : ∀ Y, D Y → Y ≠ X → Y.lb ≠ A.lb) (ha : ∀ Y, D Y → Y ≠ X → Y.ab ≠ A.ab)
    (hg : A.g = X.g) (ho : A.off = X.off) : WF t (swapN D X A) := by
  have hpar := Node.par_of hw hp
  have hpre := Node.pre_of hw hp
  -- each node of the new set stands for one of the old
  have key : ∀ Y, swapN D X A Y → ∃ Y0, D Y0 ∧ Y0.word = Y.word ∧ Y0.plen = Y.plen ∧ Y0.blk = Y.blk ∧ Y0.g = Y.g ∧ Y0.off = Y.off ∧ ((Y = A ∧ Y0 = X) ∨ (Y0 = Y ∧ Y ≠ X)) := by
    rintro Y (⟨h1, h2⟩ | rfl)
    · exact ⟨Y, h1, rfl, rfl, rfl, rfl, rfl, .inr ⟨rfl, h2⟩⟩
    · exact ⟨X, hX, hw.symm, hp.symm, hb.symm, hg.symm, ho.symm, .inl ⟨rfl, rfl⟩⟩
  have uni : ∀ Y Z, swapN D X A Y → swapN D X A Z → ∀ Y0 Z0, ((Y = A ∧ Y0 = X) ∨ (Y0 = Y ∧ Y ≠ X)) → ((Z = A ∧ Z0 = X) ∨ (Z0 = Z ∧ Z ≠ X)) → Y0 = Z0 → Y = Z := by
    rintro Y Z hY hZ Y0 Z0 (⟨a1, a2⟩ | ⟨a1, a2⟩) (⟨b1, b2⟩ | ⟨b1, b2⟩) e
    · rw [a1, b1]
    · exact (b2 (by rw [← b1, ← e, a2])).elim
    · exact (a2 (by rw [← a1, e, b2])).elim
    · rw [← a1, ← b1, e]
  have back : ∀ Y0, D Y0 → ∃ Y, swapN D X A Y ∧ Y.word = Y0.word := by
    intro Y0 h0
    by_cases e : Y0 = X
    · subst e; exact ⟨A, .inr rfl, hw⟩
    · exact ⟨Y0, .inl ⟨h0, e⟩, rfl⟩
  refine ⟨?_, ?_, ?_, ?_, ?_, ?_, ?_, ?_, ?_⟩
  · obtain ⟨R, hR, h1, h2⟩ := h.root
    by_cases e : R = X
    · subst e; exact ⟨A, .inr rfl, by rw [hb, h1], by rw [hw, hp, h2]⟩
    · exact ⟨R, .inl ⟨hR, e⟩, h1, h2⟩
  · intro Y hY hne
    obtain ⟨Y0, h0, e1, e2, e3, _⟩ := key Y hY
    obtain ⟨u1, u2, P, hP, u3⟩ := h.up Y0 h0 (by rw [e3]; exact hne)
    obtain ⟨P', hP', e'⟩ := back P hP
    exact ⟨by rw [← e2]; exact u1, by rw [← e2, ← e1]; exact u2, P', hP', by rw [e', u3, Node.par_of e1 e2]⟩
  · intro Y Z hY hZ hp' hne
    obtain ⟨Y0, h0, e1, e2, _⟩ := key Y hY
    obtain ⟨Z0, h0', e1', e2', _⟩ := key Z hZ
    have := h.gap Y0 Z0 h0 h0' (by rw [e1, e1']; exact hp') (by rw [e1, e1']; exact hne)
    rw [e1, e1', e2] at this; exact this
  · intro Y Z hY hZ n1 n2 p1 p2
    obtain ⟨Y0, h0, e1, e2, e3, _, _, c⟩ := key Y hY
    obtain ⟨Z0, h0', e1', e2', e3', _, _, c'⟩ := key Z hZ
    exact uni Y Z hY hZ Y0 Z0 c c' (h.sib Y0 Z0 h0 h0' (by rw [e3]; exact n1) (by rw [e3']; exact n2) (by rw [Node.par_of e1 e2, Node.par_of e1' e2', p1]) (by rw [Node.pre_of e1 e2, Node.pre_of e1' e2', p2]))
  · intro Y Z hY hZ e
    obtain ⟨Y0, h0, e1, e2, e3, _, _, c⟩ := key Y hY
    obtain ⟨Z0, h0', e1', e2', e3', _, _, c'⟩ := key Z hZ
    exact uni Y Z hY hZ Y0 Z0 c c' (h.winj Y0 Z0 h0 h0' (by rw [e1, e1', e]))
  · intro Y Z hY hZ e
    obtain ⟨Y0, h0, e1, e2, e3, _, _, c⟩ := key Y hY
    obtain ⟨Z0, h0', e1', e2', e3', _, _, c'⟩ := key Z hZ
    exact uni Y Z hY hZ Y0 Z0 c c' (h.binj Y0 Z0 h0 h0' (by rw [e3, e3', e]))
  · rintro Y Z (⟨y1, y2⟩ | rfl) (⟨z1, z2⟩ | rfl) e
    · exact h.linj Y Z y1 z1 e
    · exact (hl Y y1 y2 e).elim
    · exact (hl Z z1 z2 e.symm).elim
    · rfl
  · rintro Y Z (⟨y1, y2⟩ | rfl) (⟨z1, z2⟩ | rfl) e
    · exact h.ainj Y Z y1 z1 e
    · exact (ha Y y1 y2 e).elim
    · exact (ha Z z1 z2 e.symm).elim
    · rfl
  · intro Y Z hY hZ hne e
    obtain ⟨Y0, h0, e1, e2, e3, e4, e5, c⟩ := key Y hY
    obtain ⟨Z0, h0', e1', e2', e3', e4', e5', c'⟩ := key Z hZ
    have := h.alias Y0 Z0 h0 h0' (fun e => hne (uni Y Z hY hZ Y0 Z0 c c' e)) (by rw [e4, e4', e])
    rw [e1, e1', e5, e5', Node.par_of e1 e2, Node.par_of e1' e2'] at this
    exact this

/-- What the children of a node are does not hang on such a change elsewhere or in it. -/
theorem kid_swap (hX : D X) {A : Node} (hw : A.word = X.word) (hp : A.plen = X.plen) (hb : A.blk = X.blk) {Y Y' : Node} (hY : Y'.word = Y.word) (b : UInt8) (c : Nat) :
    (∃ V, Kid t (swapN D X A) Y' b V ∧ V.blk = c) ↔ (∃ V, Kid t D Y b V ∧ V.blk = c) := by
  constructor
  · rintro ⟨V, ⟨hV, h1, h2, h3⟩, h4⟩
    rcases hV with ⟨hV, _⟩ | rfl
    · exact ⟨V, ⟨hV, h1, by rw [h2, hY], h3⟩, h4⟩
    · exact ⟨X, ⟨hX, by rw [← hb]; exact h1, by rw [← Node.par_of hw hp, h2, hY], by rw [← Node.pre_of hw hp]; exact h3⟩, by rw [← hb]; exact h4⟩
  · rintro ⟨V, ⟨hV, h1, h2, h3⟩, h4⟩
    by_cases e : V = X
    · subst e
      exact ⟨A, ⟨.inr rfl, by rw [hb]; exact h1, by rw [Node.par_of hw hp, h2, hY], by rw [Node.pre_of hw hp]; exact h3⟩, by rw [hb]; exact h4⟩
    · exact ⟨V, ⟨.inl ⟨hV, e⟩, h1, by rw [h2, hY], h3⟩, h4⟩

/-- A leaf more, below X. -/
theorem WF.leaf (h : WF t D) (hX : D X) {V : Node} (hpar : V.par = X.word) (hpos : 0 < V.plen) (hle : V.plen ≤ V.word.length) (hno : ∀ b, V.pre[0]? = some b → ¬ ∃ Z, Kid t D X b Z)
    (hbt : V.blk ≠ t) (hb : ∀ Y, D Y → Y.blk ≠ V.blk) (hl : ∀ Y, D Y → Y.lb ≠ V.lb) (ha : ∀ Y, D Y → Y.ab ≠ V.ab) (hg : ∀ Y, D Y → Y.g ≠ V.g) : WF t (addN D V) := by
  have hVp := V.pre_len hle
  obtain ⟨b, hbb⟩ : ∃ b, V.pre[0]? = some b := ⟨V.pre[0]'(by omega), by rw [List.getElem?_eq_getElem]⟩
  have hVx : X.word <+: V.word := by rw [← hpar]; exact V.par_prefix
  have hlen : X.word.length + V.plen = V.word.length := by rw [← hpar, V.par_len]; omega
  have hVb : V.word[X.word.length]? = some b := by
    have : X.word.length = V.par.length := by rw [hpar]
    rw [this]
    conv => lhs; rw [← V.par_pre]
    rw [List.getElem?_append_right (Nat.le_refl _), Nat.sub_self]; exact hbb
  -- no old node agrees with V beyond X
  have hnone : ∀ Y, D Y → X.word <+: Y.word → Y.word[X.word.length]? = some b → False := by
    intro Y hY hp hy
    have hne : X.word ≠ Y.word := by intro e; rw [e, List.getElem?_eq_none (Nat.le_refl _)] at hy; cases hy
    obtain ⟨Z, b', hZ, _, hb'⟩ := h.kid_on_path hX _ Y (Nat.le_refl _) hY hp hne
    rw [hy] at hb'; cases hb'
    exact hno b hbb ⟨Z, hZ⟩
  have hlow : ∀ Y, D Y → Y.word <+: V.word → Y.word.length ≤ X.word.length := by
    intro Y hY hp
    rcases Nat.lt_or_ge X.word.length Y.word.length with hlt | hge
    · exfalso
      refine hnone Y hY (List.prefix_of_prefix_length_le hVx hp (by omega)) ?_
      obtain ⟨s, hs⟩ := hp
      rw [← hs, List.getElem?_append_left hlt] at hVb; exact hVb
    · exact hge
  have hhigh : ∀ Y, D Y → V.word <+: Y.word → False := by
    intro Y hY hp
    refine hnone Y hY (hVx.trans hp) ?_
    obtain ⟨s, hs⟩ := hp
    rw [← hs, List.getElem?_append_left (by omega)]; exact hVb
  refine ⟨?_, ?_, ?_, ?_, ?_, ?_, ?_, ?_, ?_⟩
  · obtain ⟨R, hR, r⟩ := h.root; exact ⟨R, .inl hR, r⟩
  · rintro Y (hY | rfl) hne
    · obtain ⟨a, b, P, hP, c⟩ := h.up Y hY hne; exact ⟨a, b, P, .inl hP, c⟩
    · exact ⟨hpos, hle, X, .inl hX, hpar.symm⟩
  · rintro Y Z (hY | rfl) (hZ | rfl) hp hne
    · exact h.gap Y Z hY hZ hp hne
    · exact (hhigh Y hY hp).elim
    · have := hlow Z hZ hp; omega
    · exact (hne rfl).elim
  · rintro Y Z (hY | rfl) (hZ | rfl) n1 n2 p1 p2
    · exact h.sib Y Z hY hZ n1 n2 p1 p2
    · exact (hno b hbb ⟨Y, hY, n1, by rw [p1, hpar], by rw [p2]; exact hbb⟩).elim
    · exact (hno b hbb ⟨Z, hZ, n2, by rw [← p1, hpar], by rw [← p2]; exact hbb⟩).elim
    · rfl
  · rintro Y Z (hY | rfl) (hZ | rfl) e
    · exact h.winj Y Z hY hZ e
    · exact (hhigh Y hY (by rw [e]; exact List.prefix_rfl)).elim
    · exact (hhigh Z hZ (by rw [e]; exact List.prefix_rfl)).elim
    · rfl
  · rintro Y Z (hY | rfl) (hZ | rfl) e
    · exact h.binj Y Z hY hZ e
    · exact (hb Y hY e).elim
    · exact (hb Z hZ e.symm).elim
    · rfl
  · rintro Y Z (hY | rfl) (hZ | rfl) e
    · exact h.linj Y Z hY hZ e
    · exact (hl Y hY e).elim
    · exact (hl Z hZ e.symm).elim
    · rfl
  · rintro Y Z (hY | rfl) (hZ | rfl) e
    · exact h.ainj Y Z hY hZ e
    · exact (ha Y hY e).elim
    · exact (ha Z hZ e.symm).elim
    · rfl
  · rintro Y Z (hY | rfl) (hZ | rfl) hne e
    · exact h.alias Y Z hY hZ hne e
    · exact (hg Y hY e).elim
    · exact (hg Z hZ e.symm).elim
    · exact (hne rfl).elim

/-- The children with a leaf more. -/
theorem kid_leaf {V : Node} (hbt : V.blk ≠ t) {Y : Node} (b : UInt8) (c : Nat) :
    (∃ Z, Kid t (addN D V) Y b Z ∧ Z.blk = c) ↔ (∃ Z, Kid t D Y b Z ∧ Z.blk = c) ∨ (V.par = Y.word ∧ V.pre[0]? = some b ∧ V.blk = c) := by
  constructor
  · rintro ⟨Z, ⟨hZ, h1, h2, h3⟩, h4⟩
    rcases hZ with hZ | rfl
    · exact .inl ⟨Z, ⟨hZ, h1, h2, h3⟩, h4⟩
    · exact .inr ⟨h2, h3, h4⟩
  · rintro (⟨Z, ⟨hZ, h1, h2, h3⟩, h4⟩ | ⟨h2, h3, h4⟩)
    · exact ⟨Z, ⟨.inl hZ, h1, h2, h3⟩, h4⟩
    · exact ⟨V, ⟨.inr rfl, hbt, h2, h3⟩, h4⟩

/-- A subtree cut off. -/
theorem WF.cut (h : WF t D) {N : Node} (hN : D N) (hNt : N.blk ≠ t) : WF t (cutN D N.word) := by
  refine ⟨?_, ?_, fun Y Z hY hZ => h.gap Y Z hY.1 hZ.1, fun Y Z hY hZ => h.sib Y Z hY.1 hZ.1, fun Y Z hY hZ => h.winj Y Z hY.1 hZ.1, fun Y Z hY hZ => h.binj Y Z hY.1 hZ.1,
    fun Y Z hY hZ => h.linj Y Z hY.1 hZ.1, fun Y Z hY hZ => h.ainj Y Z hY.1 hZ.1, fun Y Z hY hZ => h.alias Y Z hY.1 hZ.1⟩
  · obtain ⟨R, hR, h1, h2⟩ := h.root
    refine ⟨R, ⟨hR, fun hp => ?_⟩, h1, h2⟩
    have hp2 := h.root_prefix hR h1 _ N (Nat.le_refl _) hN
    have e : N.word = R.word := hp.eq_of_length (by have := hp.length_le; have := hp2.length_le; omega)
    exact hNt (by rw [h.winj N R hN hR e, h1])
  · intro Y hY hne
    obtain ⟨a, b, P, hP, c⟩ := h.up Y hY.1 hne
    exact ⟨a, b, P, ⟨hP, fun hp => hY.2 (hp.trans (by rw [c]; exact Y.par_prefix))⟩, c⟩
end
end Go.Proofs.YtpopiaahdanpeaaGreatDoor
