/- Put's last steps: a leaf more, the item. -/
import Derived.Test.YtpopiaahdanpeaaGreatDoorShape
namespace Go.Proofs.YtpopiaahdanpeaaGreatDoor
open Go Go.RowKit
set_option linter.unusedVariables false

/-- A trie on its way through put. -/
structure Mid (w w1 : World) (t : Nat) (D D1 : Node → Prop) (kg : Nat) : Prop where
  trie : TrieAt w1 t D1
  low : Low t D1
  top : ∀ X, D1 X → X.blk = t → X.word = [] ∧ X.mp = 10
  has : ∀ k v, Has D1 k v ↔ Has D k v
  kept : Kept (TB D) w w1
  blocks : ∀ Y, D1 Y → ∀ k, (k = Y.blk ∨ k = Y.lb ∨ k = Y.ab) → TB D k ∨ w.heap.size ≤ k
  gs : ∀ Y, D1 Y → TB D Y.g ∨ w.heap.size ≤ Y.g ∨ Y.g = kg

structure PutOut (w w' : World) (t : Nat) (D D' : Node → Prop) (key : List UInt8) (x : Int) (kg : Nat) : Prop where
  trie : TrieAt w' t D'
  low : Low t D'
  top : ∀ X, D' X → X.blk = t → X.word = [] ∧ X.mp = 10
  has : ∀ k v, Has D' k v ↔ (k = key ∧ v = x) ∨ (k ≠ key ∧ Has D k v)
  kept : Kept (TB D) w w'
  blocks : ∀ Y, D' Y → ∀ k, NB Y k → TB D k ∨ w.heap.size ≤ k ∨ k = kg

section
variable {w w1 : World} {t kg : Nat} {D D1 : Node → Prop} {key : List UInt8} {X : Node}

theorem Mid.start (h : TrieAt w t D) (hl : Low t D) (ht : ∀ X, D X → X.blk = t → X.word = [] ∧ X.mp = 10) (hd : Drawn w w1) : Mid w w1 t D D kg :=
  ⟨hd.trie h, hl, ht, fun _ _ => Iff.rfl, hd.kept _, fun Y hY k hk => .inl ⟨Y, hY, by rcases hk with h | h | h; exact .inl h; exact .inr (.inl h); exact .inr (.inr (.inl h))⟩,
    fun Y hY => .inl ⟨Y, hY, .inr (.inr (.inr rfl))⟩⟩

theorem Mid.split {wn we : World} {D3 : Node → Prop} {m3 : Node} {L : Nat} {b : UInt8} (hd : Drawn w wn) (s : SplitDone wn we t D D3 X m3 L b) (hX : D X) (hl : Low t D)
    (ht : ∀ R, D R → R.blk = t → (R.word = [] ∧ R.mp = 10) ∨ (R.blk = X.blk ∧ L = 0 ∧ R.word = [65] ∧ R.d = false)) (hw : WF t D) : Mid w we t D D3 kg := by
  have hsz : wn.heap.size = w.heap.size := by rw [hd.heap]
  have hbl : ∀ Y, D3 Y → ∀ k, NB Y k → TB D k ∨ w.heap.size ≤ k := fun Y hY k hk => by rw [← hsz]; exact s.blocks Y hY k hk
  have hpl := hw.plen_le hX
  refine ⟨s.trie, ⟨fun Y hY => ?_, fun Y hY hb => ?_⟩, fun Y hY hb => ?_, s.has, (hd.kept _).trans (s.kept.mono fun _ _ h => h), fun Y hY k hk => hbl Y hY k (by rcases hk with h | h | h; exact .inl h; exact .inr (.inl h); exact .inr (.inr (.inl h))),
    fun Y hY => by rcases hbl Y hY _ (.inr (.inr (.inr rfl))) with h | h; exact .inl h; exact .inr (.inl h)⟩
  · by_cases e : Y = m3
    · rw [e, s.word]; exact (hl.good X hX).part (List.take_prefix _ _)
    · obtain ⟨Z, hZ, e1, _⟩ := s.src Y hY e
      rw [e1]; exact hl.good Z hZ
  · by_cases e : Y = m3
    · rw [e]; exact ⟨s.d, .inl (by rw [s.cc]; exact Nat.le_refl _)⟩
    · obtain ⟨Z, hZ, e1, e2, e3, e4, e5⟩ := s.src Y hY e
      rw [e1, e2, e3]
      by_cases hz : Z.blk = t
      · rcases ht Z hZ hz with ⟨q, _⟩ | ⟨_, _, q, q2⟩
        · exfalso
          obtain ⟨u1, u2, _⟩ := s.trie.wf.up Y hY hb
          rw [e1, q] at u2; simp at u2; omega
        · exact ⟨q2, .inr q⟩
      · exact hl.low Z hZ hz
  · by_cases e : Y = m3
    · have hXt : X.blk = t := by rw [e, s.blk] at hb; exact hb
      rw [e, s.word, s.mp]
      refine ⟨?_, rfl⟩
      have hpw := hw.root_plen hX hXt
      rcases ht X hX hXt with ⟨q, _⟩ | ⟨_, q, _, _⟩
      · rw [q]; simp
      · rw [q, hpw]; simp
    · obtain ⟨Z, hZ, e1, e2, e3, e4, e5⟩ := s.src Y hY e
      obtain ⟨R, hR, hRt, _⟩ := hw.root
      -- the root is m3 if X is the root, and else it stays
      have hZt : Z.blk = t := by
        rcases e5 with e5 | e5
        · rw [← e5]; exact hb
        · exact (e5 hb).elim
      rcases ht Z hZ hZt with ⟨q, q2⟩ | ⟨q, _⟩
      · rw [e1, e4]; exact ⟨q, q2⟩
      · exfalso
        exact e (s.trie.wf.binj Y m3 hY s.mem (by rw [hb, s.blk, ← q, hZt]))

theorem Mid.set (m : Mid w w1 t D D1 kg) (hX : D1 X) (hk : X.word = key) (x : Int) : ∃ D', PutOut w (w1.setCell ⟨X.blk, 1, none⟩ (.iface 3 (.int .i64 x))) t D D' key x kg := by
  have hs : ∀ Y, swapN D1 X { X with item := some x } Y → ∃ Z, D1 Z ∧ Y.word = Z.word ∧ Y.d = Z.d ∧ Y.cc = Z.cc ∧ Y.mp = Z.mp ∧ Y.blk = Z.blk ∧ Y.lb = Z.lb ∧ Y.ab = Z.ab ∧ Y.g = Z.g := by
    rintro Y (⟨hY, _⟩ | rfl)
    · exact ⟨Y, hY, rfl, rfl, rfl, rfl, rfl, rfl, rfl, rfl⟩
    · exact ⟨X, hX, rfl, rfl, rfl, rfl, rfl, rfl, rfl, rfl⟩
  refine ⟨_, m.trie.setItem hX x, ⟨fun Y hY => ?_, fun Y hY hb => ?_⟩, fun Y hY hb => ?_, fun k v => ?_, ?_, fun Y hY k hk => ?_⟩
  · obtain ⟨Z, hZ, e1, _⟩ := hs Y hY; rw [e1]; exact m.low.good Z hZ
  · obtain ⟨Z, hZ, e1, e2, e3, e4, e5, _⟩ := hs Y hY; rw [e1, e2, e3]; exact m.low.low Z hZ (by rw [← e5]; exact hb)
  · obtain ⟨Z, hZ, e1, e2, e3, e4, e5, _⟩ := hs Y hY; rw [e1, e4]; exact m.top Z hZ (by rw [← e5]; exact hb)
  · rw [has_setItem m.trie.wf hX x k v, hk, m.has]
  · refine (m.kept.setCell (a := ⟨X.blk, 1, none⟩) ?_ _)
    rcases m.blocks X hX X.blk (.inl rfl) with h | h
    · exact .inl h
    · exact .inr h
  · obtain ⟨Z, hZ, e1, e2, e3, e4, e5, e6, e7, e8⟩ := hs Y hY
    rcases hk with h | h | h | h
    · rcases m.blocks Z hZ k (.inl (by rw [h, e5])) with h | h; exact .inl h; exact .inr (.inl h)
    · rcases m.blocks Z hZ k (.inr (.inl (by rw [h, e6]))) with h | h; exact .inl h; exact .inr (.inl h)
    · rcases m.blocks Z hZ k (.inr (.inr (by rw [h, e7]))) with h | h; exact .inl h; exact .inr (.inl h)
    · rw [h, e8]; exact m.gs Z hZ

theorem Mid.leaf (m : Mid w w1 t D D1 kg) (hX : D1 X) {w2 w3 w4 w5 : World} {b o c : Nat} {rest : List UInt8} {y : UInt8} {K : UInt8 → Option Nat} {d' : Bool} {lb' ab' : Nat} (hF : Fresh w1 10 8 8 b w2)
    (hkb : BytesAt w1 kg o rest) (hka : ArrAt w1 kg (o + c)) (hc : rest.length ≤ c) (hy : rest[0]? = some y) (hkg : ∀ Y, D1 Y → Y.g ≠ kg) (hkey : key = X.word ++ rest) (hgk : Good key)
    (hKi : ∀ b c, K b = some c ↔ ∃ V, Kid t D1 X b V ∧ V.blk = c) (hKy : K y = none)
    (e3 : w3 = w2.setCell ⟨b, 0, none⟩ (.slice (some ⟨kg, o, none⟩) rest.length c)) (hk4 : Kept (fun k => k = X.lb ∨ k = X.ab) w3 w4) (hK4 : KidsAt w4 d' lb' ab' X.cc (upd K y (some b)))
    (hlb : lb' = X.lb ∨ w3.heap.size ≤ lb') (hab : ab' = X.ab ∨ w3.heap.size ≤ ab') (hd : X.blk ≠ t → d' = false)
    (e5 : w5 = w4.setCell ⟨X.blk, 4, none⟩ (.iface (tyOf d') (ptrV lb'))) :
    ∃ D4 V, Mid w w5 t D D4 kg ∧ D4 V ∧ V.word = key ∧ V.blk = b ∧ V.item = none := by
  have ht := m.trie.addLeaf hX hF hkb hka hc hy hkg hKi hKy e3 hk4 hK4 hlb hab
  rw [← e5] at ht
  have hsz1 := hF.below.size
  have hbs := hF.size
  have hb := hF.at_
  have hsz3 : w3.heap.size = w2.heap.size := by rw [e3]; simp
  have hks := m.kept.size
  have hcase : ∀ Y, addN (swapN D1 X (relist X d' lb' ab')) (leafOf X rest b kg o c) Y → (D1 Y ∧ Y ≠ X) ∨ Y = relist X d' lb' ab' ∨ Y = leafOf X rest b kg o c := by
    rintro Y ((h | h) | h)
    · exact .inl h
    · exact .inr (.inl h)
    · exact .inr (.inr h)
  have hbt : b ≠ t := by
    obtain ⟨R, hR, e, _⟩ := m.trie.wf.root
    have := (m.trie.at_ R hR).lts; omega
  refine ⟨_, leafOf X rest b kg o c, ⟨ht, ⟨fun Y hY => ?_, fun Y hY hbt' => ?_⟩, fun Y hY hYt => ?_, fun k v => ?_, ?_, fun Y hY k hk => ?_, fun Y hY => ?_⟩, .inr rfl, hkey.symm, rfl, rfl⟩
  · rcases hcase Y hY with ⟨h, _⟩ | rfl | rfl
    · exact m.low.good Y h
    · exact m.low.good X hX
    · show Good (X.word ++ rest); rw [← hkey]; exact hgk
  · rcases hcase Y hY with ⟨h, _⟩ | rfl | rfl
    · exact m.low.low Y h hbt'
    · exact ⟨hd hbt', (m.low.low X hX hbt').2⟩
    · exact ⟨rfl, .inl (Nat.le_refl _)⟩
  · rcases hcase Y hY with ⟨h, _⟩ | rfl | rfl
    · exact m.top Y h hYt
    · exact m.top X hX hYt
    · exact (hbt hYt).elim
  · rw [← m.has]
    constructor
    · rintro ⟨Y, hY, a, q⟩
      rcases hcase Y hY with ⟨h, _⟩ | rfl | rfl
      · exact ⟨Y, h, a, q⟩
      · exact ⟨X, hX, a, q⟩
      · cases q
    · rintro ⟨Y, hY, a, q⟩
      by_cases e : Y = X
      · subst e; exact ⟨relist Y d' lb' ab', .inl (.inr rfl), a, q⟩
      · exact ⟨Y, .inl (.inl ⟨hY, e⟩), a, q⟩
  · have k2 : Kept (fun k => TB D k ∨ w.heap.size ≤ k) w w2 := (m.kept.mono fun _ _ h => .inl h).trans ((Kept.of_below hF.below).mono fun k _ h => .inr (by omega))
    have k3 : Kept (fun k => TB D k ∨ w.heap.size ≤ k) w w3 := by rw [e3]; exact k2.setCell (Or.inl (.inr (by show w.heap.size ≤ b; omega))) _
    have k4 : Kept (fun k => TB D k ∨ w.heap.size ≤ k) w w4 := k3.trans (hk4.mono fun k _ h => by
      rcases h with rfl | rfl
      · exact m.blocks X hX _ (.inr (.inl rfl))
      · exact m.blocks X hX _ (.inr (.inr rfl)))
    have k5 : Kept (fun k => TB D k ∨ w.heap.size ≤ k) w w5 := by rw [e5]; exact k4.setCell (Or.inl (m.blocks X hX _ (.inl rfl))) _
    exact k5.mono fun k hk h => by rcases h with h | h; exact h; omega
  · rcases hcase Y hY with ⟨h, _⟩ | rfl | rfl
    · exact m.blocks Y h k hk
    · rcases hk with rfl | rfl | rfl
      · exact m.blocks X hX _ (.inl rfl)
      · rcases hlb with e | e
        · exact m.blocks X hX _ (.inr (.inl e))
        · exact .inr (by omega)
      · rcases hab with e | e
        · exact m.blocks X hX _ (.inr (.inr e))
        · exact .inr (by omega)
    · rcases hk with rfl | rfl | rfl
      · exact .inr (by omega)
      · exact .inr (by show w.heap.size ≤ b + 2; omega)
      · exact .inr (by show w.heap.size ≤ b + 1; omega)
  · rcases hcase Y hY with ⟨h, _⟩ | rfl | rfl
    · exact m.gs Y h
    · exact m.gs X hX
    · exact .inr (.inr rfl)
end
end Go.Proofs.YtpopiaahdanpeaaGreatDoor
