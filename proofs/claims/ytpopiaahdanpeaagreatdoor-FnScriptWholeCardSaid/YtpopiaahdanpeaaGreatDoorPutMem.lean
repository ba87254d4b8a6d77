/- The memory of put: a node splits in two. -/
import Derived.Test.YtpopiaahdanpeaaGreatDoorComNode
namespace Go.Proofs.YtpopiaahdanpeaaGreatDoor
open Go Go.RowKit
set_option linter.unusedVariables false

def midOf (X : Node) (L B : Nat) : Node :=
  { word := X.word.take (X.word.length - X.plen + L), plen := L, item := none, blk := X.blk, lb := B + 3, ab := B + 2, cc := 8, d := false, g := X.g, off := X.off, cap := X.cap, mp := 10, mc := 8 }
def restOf (X : Node) (L B : Nat) : Node := { X with plen := X.plen - L, blk := B, off := X.off + L, cap := X.cap - L }

section
variable {wn w1 w2 w3 : World} {t : Nat} {D : Node → Prop} {X : Node} {L : Nat}

theorem split_halves (h : TrieAt wn t D) (hX : D X) (hL : L < X.plen) (hpos : X.blk ≠ t → 0 < L) : Halves t D X (midOf X L wn.heap.size) (restOf X L wn.heap.size) L := by
  refine ⟨hL, hpos, rfl, rfl, rfl, fun Y hY e => ?_, fun Y hY e => ?_, rfl, rfl, rfl, rfl, fun Y hY e => ?_, fun e => ?_, rfl, rfl, rfl, rfl⟩
  · have := (h.at_ Y hY).lts; have e : Y.lb = wn.heap.size + 3 := e; omega
  · have := (h.at_ Y hY).lts; have e : Y.ab = wn.heap.size + 2 := e; omega
  · have := (h.at_ Y hY).lts; have e : Y.blk = wn.heap.size := e; omega
  · obtain ⟨R, hR, e2, _⟩ := h.wf.root
    have := (h.at_ R hR).lts; have e : wn.heap.size = t := e; omega

/-- The world behind the two halves' slices. -/
structure SplitAt (wn w3 : World) (X : Node) (L : Nat) : Prop where
  mid : w3.heap[X.blk]? = some (.cells #[.slice (some ⟨X.g, X.off, none⟩) L X.cap, .nilIface, .int .i64 10, .int .i64 8, .iface 94 (ptrV (wn.heap.size + 3))] 73 (0, 0))
  rest : w3.heap[wn.heap.size]? = some (.cells #[.slice (some ⟨X.g, X.off + L, none⟩) (X.plen - L : Nat) (X.cap - L : Nat), itemV X.item, .int .i64 X.mp, .int .i64 X.mc, .iface (tyOf X.d) (ptrV X.lb)] 73 (0, 0))
  kids : SparseAt w3 (wn.heap.size + 3) (wn.heap.size + 2) 8 []
  kept : Kept (fun k => k = X.blk ∨ wn.heap.size ≤ k) wn w3

/-- X's block after the new trie's five values. -/
structure FiveAt (wn w2 : World) (X : Node) : Prop where
  mid : w2.heap[X.blk]? = some (.cells #[.slice none 0 0, .nilIface, .int .i64 10, .int .i64 8, .iface 94 (ptrV (wn.heap.size + 3))] 73 (0, 0))
  rest : w2.heap[wn.heap.size]? = some (.cells #[.slice (some ⟨X.g, X.off, none⟩) X.plen X.cap, itemV X.item, .int .i64 X.mp, .int .i64 X.mc, .iface (tyOf X.d) (ptrV X.lb)] 73 (0, 0))
  kids : SparseAt w2 (wn.heap.size + 3) (wn.heap.size + 2) 8 []
  kept : Kept (fun k => k = X.blk ∨ wn.heap.size ≤ k) wn w2

theorem sparse_kept {w w' : World} {S : Nat → Prop} {lb ab n : Nat} (h : SparseAt w lb ab n []) (k : Kept S w w') (h1 : ¬ S lb) (h2 : ¬ S ab) : SparseAt w' lb ab n [] := by
  obtain ⟨l, ⟨j, a, b⟩, c⟩ := h
  exact ⟨k.lt l h1, ⟨j, k.lt a h2, b⟩, c⟩

theorem five_at {v : Value} (hx : wn.heap[X.blk]? = some (.cells #[.slice (some ⟨X.g, X.off, none⟩) X.plen X.cap, itemV X.item, .int .i64 X.mp, .int .i64 X.mc, .iface (tyOf X.d) (ptrV X.lb)] 73 (0, 0)))
    (hF : Fresh (wn.alloc (.cells #[.slice (some ⟨X.g, X.off, none⟩) X.plen X.cap, itemV X.item, .int .i64 X.mp, .int .i64 X.mc, .iface (tyOf X.d) (ptrV X.lb)] 73)) 10 8 8 (wn.alloc (.cells #[.slice (some ⟨X.g, X.off, none⟩) X.plen X.cap, itemV X.item, .int .i64 X.mp, .int .i64 X.mc, .iface (tyOf X.d) (ptrV X.lb)] 73)).heap.size w1)
    (hv : v = ptrV (wn.heap.size + 3))
    (e2 : w2 = ((((w1.setCell ⟨X.blk, 0, none⟩ (.slice none 0 0)).setCell ⟨X.blk, 1, none⟩ .nilIface).setCell ⟨X.blk, 2, none⟩ (.int .i64 10)).setCell ⟨X.blk, 3, none⟩ (.int .i64 8)).setCell ⟨X.blk, 4, none⟩ (.iface 94 v)) : FiveAt wn w2 X := by
  subst hv
  have hlt := lt_of_block hx
  have hX1 : w1.heap[X.blk]? = _ := (hF.below.block X.blk (by simp; omega)).trans (hAl hx)
  have hc1 : w1.heap[wn.heap.size]? = _ := (hF.below.block _ (by simp)).trans (hNew wn _)
  have k0 : Kept (fun k => wn.heap.size ≤ k) wn w1 := ((Kept.refl _ wn).alloc _).trans ((Kept.of_below hF.below).mono fun k _ h => by simp at h; omega)
  have hsz := hF.size
  have ksz := hF.below.size
  simp at hsz ksz
  have hk1 := hF.list
  simp only [World.alloc, Array.size_push] at hk1
  have k1 : Kept (fun k => k = X.blk) w1 w2 := by
    rw [e2]; exact (((((Kept.refl (fun k => k = X.blk) w1).setCell (Or.inl rfl) _).setCell (Or.inl rfl) _).setCell (Or.inl rfl) _).setCell (Or.inl rfl) _).setCell (Or.inl rfl) _
  refine ⟨?_, k1.lt hc1 (by omega), sparse_kept hk1 k1 (by omega) (by omega), (k0.mono fun _ _ => .inr).trans (k1.mono fun _ _ => .inl)⟩
  rw [e2, heap_setCell_at (heap_setCell_at (heap_setCell_at (heap_setCell_at (heap_setCell_at hX1))))]; rfl

theorem split_at {n c : Nat} (h : FiveAt wn w2 X) (hlt : X.blk < wn.heap.size) (hn : n = X.plen - L) (hc : c = X.cap - L)
    (e3 : w3 = (w2.setCell ⟨X.blk, 0, none⟩ (.slice (some ⟨X.g, X.off, none⟩) L X.cap)).setCell ⟨wn.heap.size, 0, none⟩ (.slice (some ⟨X.g, X.off + L, none⟩) n c)) : SplitAt wn w3 X L := by
  subst hn; subst hc
  have k1 : Kept (fun k => k = X.blk ∨ k = wn.heap.size) w2 w3 := by rw [e3]; exact ((Kept.refl (fun k => k = X.blk ∨ k = wn.heap.size) w2).setCell (Or.inl (.inl rfl)) _).setCell (Or.inl (.inr rfl)) _
  refine ⟨?_, ?_, sparse_kept h.kids k1 (by omega) (by omega), h.kept.trans (k1.mono fun _ _ e => by omega)⟩
  · rw [e3]; refine hSe ?_ (by show X.blk ≠ wn.heap.size; omega); rw [heap_setCell_at h.mid]; rfl
  · rw [e3]; rw [heap_setCell_at (hSe h.rest (by show wn.heap.size ≠ X.blk; omega))]; rfl

/-- What is true behind the split, ahead of compact. -/
structure Ready (w3 : World) (t : Nat) (D' : Node → Prop) (m X2 : Node) (b : UInt8) : Prop where
  wf : WF t D'
  all : AllBut w3 t D' m
  mem : D' m
  mem2 : D' X2
  ne : X2 ≠ m
  raw : Raw w3 m
  kids : KidsAt w3 false m.lb m.ab 8 (fun _ => none)
  kid : ∀ b' V, Kid t D' m b' V ↔ (V = X2 ∧ b' = b)
  hb : X2.pre[0]? = some b
  below : ∀ V b', Kid t D' X2 b' V → V ≠ m

theorem split_ready (h : TrieAt wn t D) (hX : D X) (hL : L < X.plen) (hpos : X.blk ≠ t → 0 < L) (s : SplitAt wn w3 X L) :
    ∃ b, X.pre[L]? = some b ∧ Ready w3 t (splitN D X (midOf X L wn.heap.size) (restOf X L wn.heap.size)) (midOf X L wn.heap.size) (restOf X L wn.heap.size) b := by
  have hs := split_halves h hX hL hpos
  obtain ⟨f1, f2, f3, f4, f5, f6, f7⟩ := hs.facts h.wf hX
  have hpl := X.pre_len f1
  have hb : X.pre[L]? = some (X.pre[L]'(by omega)) := List.getElem?_eq_getElem _
  have hb2 : (restOf X L wn.heap.size).pre[0]? = some (X.pre[L]'(by omega)) := by rw [f7, List.getElem?_drop]; exact hb
  have hall := split_mem h hX hs rfl rfl rfl rfl (Nat.le_refl _) s.kept s.rest
  obtain ⟨g1, g2, g3⟩ := split_bytes (m := midOf X L wn.heap.size) (X2 := restOf X L wn.heap.size) h hX hs s.kept rfl
  have hk : KidsAt w3 false (wn.heap.size + 3) (wn.heap.size + 2) 8 (fun _ => none) := ⟨[], s.kids, by simp, fun _ => rfl, by simp [cnt_none]⟩
  have hne : restOf X L wn.heap.size ≠ midOf X L wn.heap.size := by
    intro e
    have := congrArg Node.blk e
    have h2 := (h.at_ X hX).lts
    have this : wn.heap.size = X.blk := this
    omega
  refine ⟨_, hb, h.wf.split hX hs, hall, .inl (.inr rfl), .inr rfl, hne, ⟨s.mid, g1, g2, g3, _, hk⟩, hk, fun b' V => ?_, hb2, fun V b' hV e => ?_⟩
  · rw [kid_split_m hs h.wf hX, hb2]
    constructor
    · rintro ⟨a, b⟩; exact ⟨a, by injection b with b; exact b.symm⟩
    · rintro ⟨a, b⟩; exact ⟨a, by rw [b]⟩
  · have e1 := hV.2.2.1
    rw [e, f3] at e1
    have := congrArg List.length e1
    rw [X.par_len] at this
    have e2 : (restOf X L wn.heap.size).word.length = X.word.length := rfl
    omega
end
end Go.Proofs.YtpopiaahdanpeaaGreatDoor
