/- A step from trie to trie, and its composition; an item cleared; a node that takes another block. -/
import Derived.Test.YtpopiaahdanpeaaGreatDoorCut
namespace Go.Proofs.YtpopiaahdanpeaaGreatDoor
open Go Go.RowKit
set_option linter.unusedVariables false

/-- From the trie D to the trie D', whose items H tells. -/
structure Next (w w' : World) (t : Nat) (D D' : Node → Prop) (H : List UInt8 → Int → Prop) : Prop where
  trie : TrieAt w' t D'
  low : Low t D'
  top : ∀ X, D' X → X.blk = t → X.word = [] ∧ X.mp = 10
  has : ∀ k v, Has D' k v ↔ H k v
  kept : Kept (TB D) w w'
  blocks : ∀ Y, D' Y → ∀ k, NB Y k → TB D k ∨ w.heap.size ≤ k

section
variable {w w1 w' : World} {t : Nat} {D D1 D' : Node → Prop} {H H1 : List UInt8 → Int → Prop}

theorem Next.refl (h : TrieAt w t D) (hl : Low t D) (ht : ∀ X, D X → X.blk = t → X.word = [] ∧ X.mp = 10) (hd : Drawn w w') : Next w w' t D D (Has D) :=
  ⟨hd.trie h, hl, ht, fun _ _ => Iff.rfl, hd.kept _, fun Y hY k hk => .inl ⟨Y, hY, hk⟩⟩
theorem Next.trans (a : Next w w1 t D D1 H1) (b : Next w1 w' t D1 D' H) : Next w w' t D D' H := by
  have hs := a.kept.size
  have hTB : ∀ k, TB D1 k → TB D k ∨ w.heap.size ≤ k := by rintro k ⟨Y, hY, hk⟩; exact a.blocks Y hY k hk
  refine ⟨b.trie, b.low, b.top, b.has, ?_, fun Y hY k hk => ?_⟩
  · have k1 : Kept (fun k => TB D k ∨ w.heap.size ≤ k) w w' := (a.kept.mono fun _ _ => .inl).trans (b.kept.mono fun k _ h => hTB k h)
    exact k1.mono fun k hk h => by rcases h with h | h; exact h; omega
  · rcases b.blocks Y hY k hk with h | h
    · exact hTB k h
    · exact .inr (by omega)
theorem Next.to (a : Next w w' t D D' H) (h : ∀ k v, H k v ↔ H1 k v) : Next w w' t D D' H1 := ⟨a.trie, a.low, a.top, fun k v => (a.has k v).trans (h k v), a.kept, a.blocks⟩
theorem CutOut.next {s : List UInt8} (a : CutOut w w' t D D' s) : Next w w' t D D' (fun k v => Has D k v ∧ ¬ s <+: k) := ⟨a.trie, a.low, a.top, a.has, a.kept, a.blocks⟩
theorem Next.more (a : Next w w1 t D D1 H) (hd : Drawn w1 w') : Next w w' t D D1 H :=
  ⟨hd.trie a.trie, a.low, a.top, a.has, a.kept.trans (hd.kept _), a.blocks⟩
theorem Drawn.next (hd : Drawn w w1) (a : Next w1 w' t D D1 H) : Next w w' t D D1 H :=
  ⟨a.trie, a.low, a.top, a.has, (hd.kept _).trans a.kept, fun Y hY k hk => by have := a.blocks Y hY k hk; rwa [hd.heap] at this⟩

/-- An item cleared. -/
theorem clear_next {X : Node} (h : TrieAt w t D) (hl : Low t D) (ht : ∀ X, D X → X.blk = t → X.word = [] ∧ X.mp = 10) (hX : D X) :
    Next w (w.setCell ⟨X.blk, 1, none⟩ .nilIface) t D (swapN D X { X with item := none }) (fun k v => k ≠ X.word ∧ Has D k v) := by
  have hk : Kept (fun k => k = X.blk) w (w.setCell ⟨X.blk, 1, none⟩ .nilIface) := (Kept.refl (fun k => k = X.blk) w).setCell (Or.inl rfl) _
  have hNX := h.at_ X hX
  have hs : ∀ Y, swapN D X { X with item := none } Y → ∃ Z, D Z ∧ Y.word = Z.word ∧ Y.d = Z.d ∧ Y.cc = Z.cc ∧ Y.mp = Z.mp ∧ Y.blk = Z.blk ∧ Y.lb = Z.lb ∧ Y.ab = Z.ab ∧ Y.g = Z.g := by
    rintro Y (⟨hY, _⟩ | rfl)
    · exact ⟨Y, hY, rfl, rfl, rfl, rfl, rfl, rfl, rfl, rfl⟩
    · exact ⟨X, hX, rfl, rfl, rfl, rfl, rfl, rfl, rfl, rfl⟩
  refine ⟨⟨h.wf.swap hX rfl rfl rfl (fun Y hY hne e => hne (h.wf.linj Y X hY hX e)) (fun Y hY hne e => hne (h.wf.ainj Y X hY hX e)) rfl rfl, ?_⟩, ⟨fun Y hY => ?_, fun Y hY hb => ?_⟩, fun Y hY hb => ?_, fun k v => ?_, hk.mono fun k _ e => ⟨X, hX, .inl e⟩, fun Y hY k hk => ?_⟩
  · rintro Y (⟨hY, hne⟩ | rfl)
    · have hNY := h.at_ Y hY
      obtain ⟨a, b, c, _⟩ := hNX.blk_ne hNY
      obtain ⟨q1, q2, q3, q4, K, hK, hi⟩ := hNY.kept hk (fun e => hne (h.wf.binj Y X hY hX e)) (Ne.symm a) (Ne.symm b) (Ne.symm c)
      exact ⟨q1, q2, q3, q4, K, hK, fun b c => (hi b c).trans (kid_swap (X := X) (A := { X with item := none }) hX rfl rfl rfl (Y := Y) (Y' := Y) rfl b c).symm⟩
    · obtain ⟨a, b, c, _⟩ := hNX.blk_ne hNX
      obtain ⟨K, hK, hi⟩ := hNX.kids
      refine ⟨?_, hNX.bytes.kept hk (Ne.symm c), hNX.arr.kept hk (Ne.symm c), hNX.room, K, kids_kept hK hk (Ne.symm a) (Ne.symm b), fun b c => (hi b c).trans (kid_swap (X := X) (A := { X with item := none }) hX rfl rfl rfl (Y := X) (Y' := { X with item := none }) rfl b c).symm⟩
      rw [heap_setCell_at hNX.node]; rfl
  · obtain ⟨Z, hZ, e1, _⟩ := hs Y hY; rw [e1]; exact hl.good Z hZ
  · obtain ⟨Z, hZ, e1, e2, e3, e4, e5, _⟩ := hs Y hY; rw [e1, e2, e3]; exact hl.low Z hZ (by rw [← e5]; exact hb)
  · obtain ⟨Z, hZ, e1, e2, e3, e4, e5, _⟩ := hs Y hY; rw [e1, e4]; exact ht Z hZ (by rw [← e5]; exact hb)
  · constructor
    · rintro ⟨Y, ⟨hY, hne⟩ | rfl, e1, e2⟩
      · exact ⟨fun e => hne (h.wf.winj Y X hY hX (e1.trans e)), Y, hY, e1, e2⟩
      · cases e2
    · rintro ⟨hne, Y, hY, e1, e2⟩
      exact ⟨Y, .inl ⟨hY, fun e => hne (by rw [← e1, e])⟩, e1, e2⟩
  · obtain ⟨Z, hZ, e1, e2, e3, e4, e5, e6, e7, e8⟩ := hs Y hY
    refine .inl ⟨Z, hZ, ?_⟩
    rcases hk with e | e | e | e
    · exact .inl (e.trans e5)
    · exact .inr (.inl (e.trans e6))
    · exact .inr (.inr (.inl (e.trans e7)))
    · exact .inr (.inr (.inr (e.trans e8)))

/-- A node that takes another block. -/
theorem WF.reblk (h : WF t D) {X : Node} (hX : D X) (hXt : X.blk ≠ t) {b' : Nat} (hbt : b' ≠ t) (hb : ∀ Y, D Y → Y ≠ X → Y.blk ≠ b') : WF t (swapN D X { X with blk := b' }) := by
  have hs : ∀ Y, swapN D X { X with blk := b' } Y → (D Y ∧ Y ≠ X) ∨ Y = { X with blk := b' } := fun Y h => h
  have old : ∀ Y, swapN D X { X with blk := b' } Y → ∃ Z, D Z ∧ Z.word = Y.word ∧ Z.plen = Y.plen ∧ Z.lb = Y.lb ∧ Z.ab = Y.ab ∧ Z.g = Y.g ∧ Z.off = Y.off ∧ (Z.blk = t ↔ Y.blk = t) ∧ ((Z = Y ∧ Y ≠ X) ∨ (Z = X ∧ Y = { X with blk := b' })) := by
    rintro Y (⟨h1, h2⟩ | rfl)
    · exact ⟨Y, h1, rfl, rfl, rfl, rfl, rfl, rfl, Iff.rfl, .inl ⟨rfl, h2⟩⟩
    · exact ⟨X, hX, rfl, rfl, rfl, rfl, rfl, rfl, ⟨fun e => (hXt e).elim, fun e => (hbt e).elim⟩, .inr ⟨rfl, rfl⟩⟩
  have uni : ∀ Y Z Y0 Z0 : Node, ((Y0 = Y ∧ Y ≠ X) ∨ (Y0 = X ∧ Y = { X with blk := b' })) → ((Z0 = Z ∧ Z ≠ X) ∨ (Z0 = X ∧ Z = { X with blk := b' })) → Y0 = Z0 → Y = Z := by
    rintro Y Z Y0 Z0 (⟨a1, a2⟩ | ⟨a1, a2⟩) (⟨b1, b2⟩ | ⟨b1, b2⟩) e
    · rw [← a1, ← b1, e]
    · exact (a2 (by rw [← a1, e, b1])).elim
    · exact (b2 (by rw [← b1, ← e, a1])).elim
    · rw [a2, b2]
  have back : ∀ Y0, D Y0 → ∃ Y, swapN D X { X with blk := b' } Y ∧ Y.word = Y0.word := by
    intro Y0 h0
    by_cases e : Y0 = X
    · subst e; exact ⟨_, .inr rfl, rfl⟩
    · exact ⟨Y0, .inl ⟨h0, e⟩, rfl⟩
  refine ⟨?_, ?_, ?_, ?_, ?_, ?_, ?_, ?_, ?_⟩
  · obtain ⟨R, hR, h1, h2⟩ := h.root
    exact ⟨R, .inl ⟨hR, fun e => hXt (by rw [← e, h1])⟩, h1, h2⟩
  · intro Y hY hne
    obtain ⟨Z, hZ, e1, e2, _, _, _, _, e7, _⟩ := old Y hY
    obtain ⟨u1, u2, P, hP, u3⟩ := h.up Z hZ (fun e => hne (e7.1 e))
    obtain ⟨P', hP', e'⟩ := back P hP
    exact ⟨by rw [← e2]; exact u1, by rw [← e2, ← e1]; exact u2, P', hP', by rw [e', u3, Node.par_of e1 e2]⟩
  · intro Y Z hY hZ hp hne
    obtain ⟨Y0, h0, e1, e2, _⟩ := old Y hY
    obtain ⟨Z0, h0', e1', e2', _⟩ := old Z hZ
    have := h.gap Y0 Z0 h0 h0' (by rw [e1, e1']; exact hp) (by rw [e1, e1']; exact hne)
    rw [e1, e1', e2] at this; exact this
  · intro Y Z hY hZ n1 n2 p1 p2
    obtain ⟨Y0, h0, e1, e2, _, _, _, _, e7, c⟩ := old Y hY
    obtain ⟨Z0, h0', e1', e2', _, _, _, _, e7', c'⟩ := old Z hZ
    exact uni Y Z Y0 Z0 c c' (h.sib Y0 Z0 h0 h0' (fun e => n1 (e7.1 e)) (fun e => n2 (e7'.1 e)) (by rw [Node.par_of e1 e2, Node.par_of e1' e2', p1]) (by rw [Node.pre_of e1 e2, Node.pre_of e1' e2', p2]))
  · intro Y Z hY hZ e
    obtain ⟨Y0, h0, e1, _, _, _, _, _, _, c⟩ := old Y hY
    obtain ⟨Z0, h0', e1', _, _, _, _, _, _, c'⟩ := old Z hZ
    exact uni Y Z Y0 Z0 c c' (h.winj Y0 Z0 h0 h0' (by rw [e1, e1', e]))
  · rintro Y Z (⟨hY, n1⟩ | rfl) (⟨hZ, n2⟩ | rfl) e
    · exact h.binj Y Z hY hZ e
    · exact (hb Y hY n1 e).elim
    · exact (hb Z hZ n2 e.symm).elim
    · rfl
  · intro Y Z hY hZ e
    obtain ⟨Y0, h0, _, _, e3, _, _, _, _, c⟩ := old Y hY
    obtain ⟨Z0, h0', _, _, e3', _, _, _, _, c'⟩ := old Z hZ
    exact uni Y Z Y0 Z0 c c' (h.linj Y0 Z0 h0 h0' (by rw [e3, e3', e]))
  · intro Y Z hY hZ e
    obtain ⟨Y0, h0, _, _, _, e3, _, _, _, c⟩ := old Y hY
    obtain ⟨Z0, h0', _, _, _, e3', _, _, _, c'⟩ := old Z hZ
    exact uni Y Z Y0 Z0 c c' (h.ainj Y0 Z0 h0 h0' (by rw [e3, e3', e]))
  · intro Y Z hY hZ hne e
    obtain ⟨Y0, h0, e1, e2, _, _, e5, e6, _, c⟩ := old Y hY
    obtain ⟨Z0, h0', e1', e2', _, _, e5', e6', _, c'⟩ := old Z hZ
    have := h.alias Y0 Z0 h0 h0' (fun e => hne (uni Y Z Y0 Z0 c c' e)) (by rw [e5, e5', e])
    rw [e1, e1', e6, e6', Node.par_of e1 e2, Node.par_of e1' e2'] at this; exact this
end
end Go.Proofs.YtpopiaahdanpeaaGreatDoor
