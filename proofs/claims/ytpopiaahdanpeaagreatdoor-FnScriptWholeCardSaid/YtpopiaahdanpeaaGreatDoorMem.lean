/- What writes into a trie's memory make of the trie. -/
import Derived.Test.YtpopiaahdanpeaaGreatDoorMoves2
namespace Go.Proofs.YtpopiaahdanpeaaGreatDoor
open Go Go.RowKit
set_option linter.unusedVariables false

/-- An item of a trie. -/
def Has (D : Node → Prop) (k : List UInt8) (v : Int) : Prop := ∃ X, D X ∧ X.word = k ∧ X.item = some v
/-- A block of a node. -/
def NB (X : Node) (k : Nat) : Prop := k = X.blk ∨ k = X.lb ∨ k = X.ab ∨ k = X.g
/-- A block of a trie. -/
def TB (D : Node → Prop) (k : Nat) : Prop := ∃ X, D X ∧ NB X k

theorem kids_list_type {w : World} {d : Bool} {lb ab cc : Nat} {K : UInt8 → Option Nat} (h : KidsAt w d lb ab cc K) {k : Nat} {cs : Array Value} {fr : Nat × Nat} (hk : w.heap[k]? = some (.cells cs 73 fr) ∨ w.heap[k]? = some (.cells cs 5 fr)) : k ≠ lb ∧ k ≠ ab := by
  cases d with
  | false =>
    obtain ⟨l, s, _⟩ := h
    obtain ⟨j, a, _⟩ := s.arr
    constructor
    · rintro rfl; rw [s.list] at hk; simp at hk
    · rintro rfl; rw [a] at hk; simp at hk
  | true =>
    obtain ⟨mx, T, s, _⟩ := h
    constructor
    · rintro rfl; rw [s.list] at hk; simp at hk
    · rintro rfl; rw [s.arr] at hk; simp at hk
theorem kids_ne {w : World} {d : Bool} {lb ab cc : Nat} {K : UInt8 → Option Nat} (h : KidsAt w d lb ab cc K) : lb ≠ ab := by
  cases d with
  | false =>
    obtain ⟨l, s, _⟩ := h
    obtain ⟨j, a, _⟩ := s.arr
    rintro rfl; rw [s.list] at a; simp at a
  | true => obtain ⟨mx, T, s, _⟩ := h; exact s.ne
/-- A list's block is no array of a list. -/
theorem kids_lb_ab {w : World} {d d' : Bool} {lb ab cc lb' ab' cc' : Nat} {K K' : UInt8 → Option Nat} (h : KidsAt w d lb ab cc K) (h' : KidsAt w d' lb' ab' cc' K') : lb ≠ ab' := by
  have hl : ∃ cs T fr, w.heap[lb]? = some (.cells cs T fr) ∧ (T = 97 ∨ T = 154) := by
    cases d with
    | false => obtain ⟨l, s, _⟩ := h; exact ⟨_, _, _, s.list, .inl rfl⟩
    | true => obtain ⟨mx, T, s, _⟩ := h; exact ⟨_, _, _, s.list, .inr rfl⟩
  have ha : ∃ cs fr, w.heap[ab']? = some (.cells cs 40 fr) := by
    cases d' with
    | false => obtain ⟨l, s, _⟩ := h'; obtain ⟨j, a, _⟩ := s.arr; exact ⟨_, _, a⟩
    | true => obtain ⟨mx, T, s, _⟩ := h'; exact ⟨_, _, s.arr⟩
  rintro rfl
  obtain ⟨cs, T, fr, e, hT⟩ := hl
  obtain ⟨cs', fr', e'⟩ := ha
  rcases hT with rfl | rfl <;> (rw [e] at e'; simp at e')

section
variable {w : World} {t : Nat} {D : Node → Prop} {X Y : Node}

theorem NodeAt.blk_ne (hX : NodeAt w t D X) (hY : NodeAt w t D Y) : X.blk ≠ Y.lb ∧ X.blk ≠ Y.ab ∧ X.blk ≠ Y.g ∧ X.g ≠ Y.lb ∧ X.g ≠ Y.ab ∧ X.lb ≠ Y.ab := by
  obtain ⟨K, hK, _⟩ := hY.kids
  obtain ⟨K', hK', _⟩ := hX.kids
  obtain ⟨cur, fr, e, _⟩ := hY.arr
  obtain ⟨cur', fr', e', _⟩ := hX.arr
  have h1 := kids_list_type hK (.inl hX.node)
  have h2 := kids_list_type hK (.inr e')
  refine ⟨h1.1, h1.2, ?_, h2.1, h2.2, kids_lb_ab hK' hK⟩
  intro h; rw [← h, hX.node] at e; simp at e

/-- An item set. -/
theorem TrieAt.setItem (h : TrieAt w t D) (hX : D X) (x : Int) : TrieAt (w.setCell ⟨X.blk, 1, none⟩ (.iface 3 (.int .i64 x))) t (swapN D X { X with item := some x }) := by
  have hk : Kept (fun k => k = X.blk) w (w.setCell ⟨X.blk, 1, none⟩ (.iface 3 (.int .i64 x))) := (Kept.refl (fun k => k = X.blk) w).setCell (Or.inl rfl) _
  have hNX := h.at_ X hX
  refine ⟨h.wf.swap hX rfl rfl rfl (fun Y hY hne e => hne (h.wf.linj Y X hY hX e)) (fun Y hY hne e => hne (h.wf.ainj Y X hY hX e)) rfl rfl, ?_⟩
  rintro Y (⟨hY, hne⟩ | rfl)
  · have hNY := h.at_ Y hY
    obtain ⟨a, b, c, _⟩ := hNX.blk_ne hNY
    obtain ⟨q1, q2, q3, q4, K, hK, hi⟩ := hNY.kept hk (fun e => hne (h.wf.binj Y X hY hX e)) (Ne.symm a) (Ne.symm b) (Ne.symm c)
    exact ⟨q1, q2, q3, q4, K, hK, fun b c => (hi b c).trans (kid_swap (X := X) (A := { X with item := some x }) hX rfl rfl rfl (Y := Y) (Y' := Y) rfl b c).symm⟩
  · obtain ⟨a, b, c, _⟩ := hNX.blk_ne hNX
    obtain ⟨K, hK, hi⟩ := hNX.kids
    refine ⟨?_, hNX.bytes.kept hk (Ne.symm c), hNX.arr.kept hk (Ne.symm c), hNX.room, K, kids_kept hK hk (Ne.symm a) (Ne.symm b), fun b c => (hi b c).trans (kid_swap (X := X) (A := { X with item := some x }) hX rfl rfl rfl (Y := X) (Y' := { X with item := some x }) rfl b c).symm⟩
    rw [heap_setCell_at hNX.node]; rfl

theorem has_setItem (h : WF t D) (hX : D X) (x : Int) (k : List UInt8) (v : Int) : Has (swapN D X { X with item := some x }) k v ↔ (k = X.word ∧ v = x) ∨ (k ≠ X.word ∧ Has D k v) := by
  constructor
  · rintro ⟨Y, ⟨hY, hne⟩ | rfl, e1, e2⟩
    · exact .inr ⟨fun e => hne (h.winj Y X hY hX (e1.trans e)), Y, hY, e1, e2⟩
    · left; simp at e2; exact ⟨e1.symm, e2.symm⟩
  · rintro (⟨e1, e2⟩ | ⟨hne, Y, hY, e1, e2⟩)
    · exact ⟨_, .inr rfl, e1.symm, by rw [e2]⟩
    · exact ⟨Y, .inl ⟨hY, fun e => hne (by rw [← e1, e])⟩, e1, e2⟩

/-- The leaf that put lays below X. -/
def leafOf (X : Node) (rest : List UInt8) (b kg o c : Nat) : Node :=
  { word := X.word ++ rest, plen := rest.length, item := none, blk := b, lb := b + 2, ab := b + 1, cc := 8, d := false, g := kg, off := o, cap := c, mp := 10, mc := 8 }
theorem leafOf_par (X : Node) (rest : List UInt8) (b kg o c : Nat) : (leafOf X rest b kg o c).par = X.word := by simp [Node.par, leafOf]
theorem leafOf_pre (X : Node) (rest : List UInt8) (b kg o c : Nat) : (leafOf X rest b kg o c).pre = rest := by simp [Node.pre, leafOf]
/-- X with another list of children. -/
def relist (X : Node) (d : Bool) (lb ab : Nat) : Node := { X with d := d, lb := lb, ab := ab }

theorem TrieAt.addLeaf (h : TrieAt w t D) (hX : D X) {w1 w2 w3 : World} {b kg o c : Nat} {rest : List UInt8} {y : UInt8} {K : UInt8 → Option Nat} {d' : Bool} {lb' ab' : Nat} (hF : Fresh w 10 8 8 b w1)
    (hkb : BytesAt w kg o rest) (hka : ArrAt w kg (o + c)) (hc : rest.length ≤ c) (hy : rest[0]? = some y) (hkg : ∀ Y, D Y → Y.g ≠ kg)
    (hKi : ∀ b c, K b = some c ↔ ∃ V, Kid t D X b V ∧ V.blk = c) (hKy : K y = none)
    (e2 : w2 = w1.setCell ⟨b, 0, none⟩ (.slice (some ⟨kg, o, none⟩) rest.length c)) (hk3 : Kept (fun k => k = X.lb ∨ k = X.ab) w2 w3) (hK3 : KidsAt w3 d' lb' ab' X.cc (upd K y (some b)))
    (hlb : lb' = X.lb ∨ w2.heap.size ≤ lb') (hab : ab' = X.ab ∨ w2.heap.size ≤ ab') :
    TrieAt (w3.setCell ⟨X.blk, 4, none⟩ (.iface (tyOf d') (ptrV lb'))) t (addN (swapN D X (relist X d' lb' ab')) (leafOf X rest b kg o c)) := by
  have hNX := h.at_ X hX
  obtain ⟨x1, x2, x3, x4⟩ := hNX.lts
  have hltk : kg < w.heap.size := by obtain ⟨cur, fr, e, _⟩ := hka; exact lt_of_block e
  have hb := hF.at_
  have hsz1 := hF.below.size
  have hbs := hF.size
  have hsz2 : w2.heap.size = w1.heap.size := by rw [e2]; simp
  have hr0 : 0 < rest.length := by
    rcases Nat.eq_zero_or_pos rest.length with h0 | h0
    · rw [List.getElem?_eq_none (by omega)] at hy; cases hy
    · exact h0
  have k2 : Kept (fun k => w.heap.size ≤ k) w w2 := by rw [e2]; exact (Kept.of_below hF.below).setCell (Or.inl hb) _
  have k3 : Kept (fun k => w.heap.size ≤ k ∨ k = X.lb ∨ k = X.ab) w w3 := (k2.mono fun _ _ => .inl).trans (hk3.mono fun _ _ => .inr)
  have k4 : Kept (fun k => w.heap.size ≤ k ∨ k = X.lb ∨ k = X.ab ∨ k = X.blk) w (w3.setCell ⟨X.blk, 4, none⟩ (.iface (tyOf d') (ptrV lb'))) :=
    (k3.mono fun _ _ h => by rcases h with h | h | h; exact .inl h; exact .inr (.inl h); exact .inr (.inr (.inl h))).setCell (Or.inl (.inr (.inr (.inr rfl)))) _
  have hbX : b ≠ X.lb ∧ b ≠ X.ab ∧ b ≠ X.blk := ⟨by omega, by omega, by omega⟩
  have hw := h.wf
  have hpl := hw.plen_le hX
  -- the set of nodes
  have hsw : WF t (swapN D X (relist X d' lb' ab')) := by
    refine hw.swap hX rfl rfl rfl (fun Y hY hne e => ?_) (fun Y hY hne e => ?_) rfl rfl
    · rcases hlb with e' | e'
      · exact hne (hw.linj Y X hY hX (by rw [e]; exact e'))
      · have := (h.at_ Y hY).lts; have e : Y.lb = lb' := e; omega
    · rcases hab with e' | e'
      · exact hne (hw.ainj Y X hY hX (by rw [e]; exact e'))
      · have := (h.at_ Y hY).lts; have e : Y.ab = ab' := e; omega
  have hlt : ∀ Y, swapN D X (relist X d' lb' ab') Y → Y.blk < w.heap.size ∧ Y.g < w.heap.size ∧ Y.g ≠ kg ∧ (Y.lb < w.heap.size ∨ (Y.lb = lb' ∧ w2.heap.size ≤ lb')) ∧ (Y.ab < w.heap.size ∨ (Y.ab = ab' ∧ w2.heap.size ≤ ab')) := by
    rintro Y (⟨hY, hne⟩ | rfl)
    · obtain ⟨a, b, c, d⟩ := (h.at_ Y hY).lts
      exact ⟨a, d, hkg Y hY, .inl b, .inl c⟩
    · refine ⟨x1, x4, hkg X hX, ?_, ?_⟩
      · rcases hlb with e' | e'
        · left; show lb' < _; omega
        · exact .inr ⟨rfl, e'⟩
      · rcases hab with e' | e'
        · left; show ab' < _; omega
        · exact .inr ⟨rfl, e'⟩
  have hbt : b ≠ t := by
    obtain ⟨R, hR, e, _⟩ := hw.root
    have := (h.at_ R hR).lts; omega
  have hkx : ∀ (Y Y' : Node), Y'.word = Y.word → ∀ b c, (∃ V, Kid t (swapN D X (relist X d' lb' ab')) Y' b V ∧ V.blk = c) ↔ (∃ V, Kid t D Y b V ∧ V.blk = c) :=
    fun Y Y' e b c => kid_swap hX (A := relist X d' lb' ab') rfl rfl rfl e b c
  have hpar := leafOf_par X rest b kg o c
  have hpre := leafOf_pre X rest b kg o c
  have hno : ¬ ∃ Z, Kid t (swapN D X (relist X d' lb' ab')) (relist X d' lb' ab') y Z := by
    rintro ⟨Z, hZ⟩
    obtain ⟨V, hV, e⟩ := (hkx X (relist X d' lb' ab') rfl y Z.blk).1 ⟨Z, hZ, rfl⟩
    have := (hKi y Z.blk).2 ⟨V, hV, e⟩
    rw [hKy] at this; cases this
  have hwf : WF t (addN (swapN D X (relist X d' lb' ab')) (leafOf X rest b kg o c)) := by
    refine hsw.leaf (X := relist X d' lb' ab') (.inr rfl) hpar hr0 (by simp [leafOf]) (fun b' hb' => ?_) hbt (fun Y hY e => ?_) (fun Y hY e => ?_) (fun Y hY e => ?_) (fun Y hY e => ?_)
    · rw [hpre, hy] at hb'; cases hb'; exact hno
    · have := (hlt Y hY).1; have e : Y.blk = b := e; omega
    · have := (hlt Y hY).2.2.2.1; have e : Y.lb = b + 2 := e; omega
    · have := (hlt Y hY).2.2.2.2; have e : Y.ab = b + 1 := e; omega
    · exact (hlt Y hY).2.2.1 e
  refine ⟨hwf, ?_⟩
  rintro Y ((⟨hY, hne⟩ | rfl) | rfl)
  · -- an old node
    have hNY := h.at_ Y hY
    obtain ⟨y1, y2, y3, y4⟩ := hNY.lts
    obtain ⟨a, b1, c1, d1, e1, f1⟩ := hNX.blk_ne hNY
    obtain ⟨a', b1', c1', d1', e1', f1'⟩ := hNY.blk_ne hNX
    have n1 : Y.blk ≠ X.blk := fun e => hne (hw.binj Y X hY hX e)
    have n2 : Y.lb ≠ X.lb := fun e => hne (hw.linj Y X hY hX e)
    have n3 : Y.ab ≠ X.ab := fun e => hne (hw.ainj Y X hY hX e)
    obtain ⟨q1, q2, q3, q4, K', hK', hi'⟩ := hNY.kept k4 (by rintro (h | h | h | h); omega; exact a' h; exact b1' h; exact n1 h) (by rintro (h | h | h | h); omega; exact n2 h; exact f1' h; exact a h.symm)
      (by rintro (h | h | h | h); omega; exact f1 h.symm; exact n3 h; exact b1 h.symm) (by rintro (h | h | h | h); omega; exact d1' h; exact e1' h; exact c1 h.symm)
    refine ⟨q1, q2, q3, q4, K', hK', fun b' c' => (hi' b' c').trans ?_⟩
    rw [kid_leaf hbt, hkx Y Y rfl]
    constructor
    · exact .inl
    · rintro (h | ⟨h1, _, _⟩)
      · exact h
      · rw [hpar] at h1
        exact (hne (hw.winj Y X hY hX h1.symm)).elim
  · -- X itself
    obtain ⟨a, b1, c1, d1, e1, f1⟩ := hNX.blk_ne hNX
    have kg4 : ∀ k, k = X.g → ¬ (w.heap.size ≤ k ∨ k = X.lb ∨ k = X.ab ∨ k = X.blk) := by
      rintro k rfl (h | h | h | h)
      · omega
      · exact d1 h
      · exact e1 h
      · exact c1 h.symm
    refine ⟨?_, hNX.bytes.kept k4 (kg4 _ rfl), hNX.arr.kept k4 (kg4 _ rfl), hNX.room, upd K y (some b), ?_, fun b' c' => ?_⟩
    · show (w3.setCell ⟨X.blk, 4, none⟩ _).heap[X.blk]? = _
      rw [heap_setCell_at (k3.lt hNX.node (by rintro (h | h | h); omega; exact a h; exact b1 h))]; rfl
    · have hk5 : Kept (fun k => k = X.blk) w3 (w3.setCell ⟨X.blk, 4, none⟩ (.iface (tyOf d') (ptrV lb'))) := (Kept.refl (fun k => k = X.blk) w3).setCell (Or.inl rfl) _
      have hn3 := k3.lt hNX.node (by rintro (h | h | h); omega; exact a h; exact b1 h)
      have := kids_list_type hK3 (.inl hn3)
      exact kids_kept hK3 hk5 (Ne.symm this.1) (Ne.symm this.2)
    · rw [kid_leaf hbt, hkx X (relist X d' lb' ab') rfl, ← hKi, hpar, hpre, hy]
      unfold upd
      by_cases e : b' = y
      · subst e
        rw [if_pos rfl, hKy]
        constructor
        · intro h; exact .inr ⟨rfl, rfl, by injection h⟩
        · rintro (h | ⟨_, _, h⟩)
          · cases h
          · rw [← h]; rfl
      · rw [if_neg e]
        constructor
        · exact .inl
        · rintro (h | ⟨_, h, _⟩)
          · exact h
          · injection h with h; exact (e h.symm).elim
  · -- the leaf
    have hnode1 : w1.heap[b]? = some (.cells #[.slice none 0 0, .nilIface, .int .i64 10, .int .i64 8, .iface 94 (ptrV (b + 2))] 73 (0, 0)) := hF.node
    have hn2 : w2.heap[b]? = some (.cells #[.slice (some ⟨kg, o, none⟩) rest.length c, .nilIface, .int .i64 10, .int .i64 8, .iface 94 (ptrV (b + 2))] 73 (0, 0)) := by
      rw [e2, heap_setCell_at hnode1]; rfl
    have hn3 := hk3.lt hn2 (by rintro (h | h); exact hbX.1 h; exact hbX.2.1 h)
    have hkids2 : KidsAt w2 false (b + 2) (b + 1) 8 (fun _ => none) := by
      have : KidsAt w1 false (b + 2) (b + 1) 8 (fun _ => none) := ⟨[], hF.list, by simp, fun _ => rfl, by simp [cnt_none]⟩
      rw [e2]
      exact kids_kept this ((Kept.refl (fun k => k = b) w1).setCell (Or.inl rfl) _) (by omega) (by omega)
    have hkids4 : KidsAt (w3.setCell ⟨X.blk, 4, none⟩ (.iface (tyOf d') (ptrV lb'))) false (b + 2) (b + 1) 8 (fun _ => none) := by
      refine kids_kept hkids2 ((hk3.mono (T := fun k => k = X.lb ∨ k = X.ab ∨ k = X.blk) fun _ _ h => by rcases h with h | h; exact .inl h; exact .inr (.inl h)).setCell (Or.inl (.inr (.inr rfl))) _) ?_ ?_
      · rintro (h | h | h) <;> omega
      · rintro (h | h | h) <;> omega
    have hg4 : ¬ (w.heap.size ≤ kg ∨ kg = X.lb ∨ kg = X.ab ∨ kg = X.blk) := by
      obtain ⟨KX, hKX, _⟩ := hNX.kids
      obtain ⟨cur, fr, e, _⟩ := hka
      have := kids_list_type hKX (.inr e)
      rintro (h | h | h | h)
      · omega
      · exact this.1 h
      · exact this.2 h
      · rw [h, hNX.node] at e; simp at e
    refine ⟨?_, by rw [hpre]; exact hkb.kept k4 hg4, hka.kept k4 hg4, hc, fun _ => none, hkids4, fun b' c' => ?_⟩
    · exact hSe hn3 hbX.2.2
    · constructor
      · intro h; cases h
      · rintro ⟨V, ⟨hV, hVt, hVp, hVb⟩, _⟩
        exfalso
        obtain ⟨_, hVle, _⟩ := hwf.up V hV hVt
        -- V's word goes on from the leaf's
        have hlw : (leafOf X rest b kg o c).word <+: V.word := by rw [← hVp]; exact V.par_prefix
        rcases hV with hV | rfl
        · have hV2 : ∃ Z, Kid t (swapN D X (relist X d' lb' ab')) (relist X d' lb' ab') y Z := by
            have hxl : X.word <+: (leafOf X rest b kg o c).word := List.prefix_append _ _
            have hxlen : X.word.length < V.word.length := by have := hlw.length_le; simp [leafOf] at this; omega
            obtain ⟨Z, b'', hZ, _, hb''⟩ := hsw.kid_on_path (W := relist X d' lb' ab') (.inr rfl) _ V (Nat.le_refl _) hV (hxl.trans hlw) (by intro e; have := congrArg List.length e; simp [relist] at this; omega)
            have : V.word[X.word.length]? = some y := by
              obtain ⟨s, hs⟩ := hlw
              rw [← hs]
              show ((X.word ++ rest) ++ s)[X.word.length]? = _
              rw [List.append_assoc, List.getElem?_append_right (Nat.le_refl _), Nat.sub_self, List.getElem?_append_left hr0, hy]
            have e : V.word[(relist X d' lb' ab').word.length]? = some y := this
            rw [e] at hb''; cases hb''
            exact ⟨Z, hZ⟩
          exact hno hV2
        · have := congrArg List.length hVp
          rw [hpar] at this
          have e2 : (leafOf X rest b kg o c).word.length = X.word.length + rest.length := by simp [leafOf]
          omega
end
end Go.Proofs.YtpopiaahdanpeaaGreatDoor
