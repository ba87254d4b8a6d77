/- The contracts of compact and of replace in Delete. -/
import Derived.Test.YtpopiaahdanpeaaGreatDoorJoinHere
namespace Go.Proofs.YtpopiaahdanpeaaGreatDoor
open Go Go.RowKit
set_option linter.unusedVariables false

/-- Five values at a block. -/
def put5 (w : World) (b g o p c : Nat) (x : Option Int) (m1 m2 : Int) (d : Bool) (l : Nat) : World :=
  ((((w.setCell ⟨b, 0, none⟩ (.slice (some ⟨g, o, none⟩) p c)).setCell ⟨b, 1, none⟩ (itemV x)).setCell ⟨b, 2, none⟩ (.int .i64 m1)).setCell ⟨b, 3, none⟩ (.int .i64 m2)).setCell ⟨b, 4, none⟩ (.iface (tyOf d) (ptrV l))
def row5 (g o p c : Nat) (x : Option Int) (m1 m2 : Int) (d : Bool) (l : Nat) : Array Value := #[.slice (some ⟨g, o, none⟩) p c, itemV x, .int .i64 m1, .int .i64 m2, .iface (tyOf d) (ptrV l)]

section
variable {w w1 w2 : World} {t : Nat} {D : Node → Prop} {n : Node}

/-- What a trie of the law is, for Delete. -/
structure Good5 (w : World) (t : Nat) (D : Node → Prop) : Prop where
  trie : TrieAt w t D
  low : Low t D
  top : ∀ X, D X → X.blk = t → X.word = [] ∧ X.mp = 10
  a : ∃ v, Has D [65] v
  z : ∃ v, Has D [90] v

theorem Good5.thin (h : Good5 w t D) : ∀ Y, D Y → Y.d = true → Y.blk = t := by
  intro Y hY hd
  by_cases hb : Y.blk = t
  · exact hb
  · rw [(h.low.low Y hY hb).1] at hd; cases hd
theorem Good5.len (h : Good5 w t D) : ∀ Y, D Y → Y.word.length ≤ 100 := fun X hX => by have := (h.low.good X hX).len; omega
theorem Good5.drawn (h : Good5 w t D) (hd : Drawn w w1) : Good5 w1 t D := ⟨hd.trie h.trie, h.low, h.top, h.a, h.z⟩
theorem Next.good5 {D' : Node → Prop} {H : List UInt8 → Int → Prop} (a : Next w w1 t D D' H) (h1 : ∃ v, H [65] v) (h2 : ∃ v, H [90] v) : Good5 w1 t D' :=
  ⟨a.trie, a.low, a.top, by obtain ⟨v, h⟩ := h1; exact ⟨v, (a.has _ _).2 h⟩, by obtain ⟨v, h⟩ := h2; exact ⟨v, (a.has _ _).2 h⟩⟩

theorem kid_one (hw : WF t D) {R : Node} (hR : D R) (hRw : R.word = []) {a : UInt8} {v : Int} (ha : Has D [a] v) : ∃ V, Kid t D R a V := by
  obtain ⟨A, hA, e, _⟩ := ha
  obtain ⟨V, b, hV, _, hb⟩ := hw.kid_on_path hR _ A (Nat.le_refl _) hA (by rw [hRw]; exact List.nil_prefix) (by rw [hRw, e]; simp)
  rw [hRw, e] at hb
  simp at hb; subst hb
  exact ⟨V, hV⟩
theorem Good5.two (h : Good5 w t D) {R : Node} (hR : D R) (hRt : R.blk = t) : (∃ V, Kid t D R 65 V) ∧ ∃ V, Kid t D R 90 V := by
  obtain ⟨v, ha⟩ := h.a
  obtain ⟨u, hz⟩ := h.z
  have hRw := (h.top R hR hRt).1
  exact ⟨kid_one h.trie.wf hR hRw ha, kid_one h.trie.wf hR hRw hz⟩
theorem Good5.cnt (h : Good5 w t D) {R : Node} (hR : D R) (hRt : R.blk = t) {K : UInt8 → Option Nat} (hKi : ∀ b c, K b = some c ↔ ∃ V, Kid t D R b V ∧ V.blk = c) : 2 ≤ cnt K := by
  obtain ⟨⟨V, hV⟩, U, hU⟩ := h.two hR hRt
  refine cnt_two (a := 65) (b := 90) (by decide) ?_ ?_
  · rw [(hKi 65 V.blk).2 ⟨V, hV, rfl⟩]; simp
  · rw [(hKi 90 U.blk).2 ⟨U, hU, rfl⟩]; simp

theorem compact_any (h : Good5 w t D) (hn : D n) : Calls Tryz.prog 43 #[ptrV n.blk] w fun e w' => ComOut w t D n e w' ∧ (n.blk = t → e = .returned (ptrV n.blk) ∧ Drawn w w') := by
  obtain ⟨K, hK, hKi⟩ := (h.trie.at_ n hn).kids
  refine (compact_node h.trie.wf hn (h.trie.at_ n hn).raw hK hKi (fun V b hV => h.trie.at_ V hV.1) (fun hd => ?_) h.len).mono ?_
  · have := h.cnt hn (h.thin n hn hd) hKi; omega
  · intro e w' hc
    refine ⟨hc, fun hb => ?_⟩
    rcases hc with hc | ⟨y, V, g', off', cap', hV, hlone, _⟩
    · exact hc
    · exfalso
      obtain ⟨⟨A, hA⟩, Z, hZ⟩ := h.two hn hb
      have e1 := hlone A 65 hA
      have e2 := hlone Z 90 hZ
      have := hA.2.2.2
      rw [e1, ← e2, hZ.2.2.2] at this
      cases this

theorem store_same (h : TrieAt w t D) (hl : Low t D) (ht : ∀ X, D X → X.blk = t → X.word = [] ∧ X.mp = 10) (hn : D n) (e2 : w2 = put5 w n.blk n.g n.off n.plen n.cap n.item n.mp n.mc n.d n.lb) : Next w w2 t D D (Has D) := by
  have k2 : Kept (fun k => k = n.blk) w w2 := by
    rw [e2]; exact (((((Kept.refl (fun k => k = n.blk) w).setCell (Or.inl rfl) _).setCell (Or.inl rfl) _).setCell (Or.inl rfl) _).setCell (Or.inl rfl) _).setCell (Or.inl rfl) _
  have hN := h.at_ n hn
  have hb : w2.heap[n.blk]? = w.heap[n.blk]? := by
    rw [e2, hN.node]; unfold put5
    rw [heap_setCell_at (heap_setCell_at (heap_setCell_at (heap_setCell_at (heap_setCell_at hN.node))))]; rfl
  refine ⟨⟨h.wf, fun Y hY => ?_⟩, hl, ht, fun _ _ => Iff.rfl, k2.mono fun k _ e => ⟨n, hn, .inl e⟩, fun Y hY k hk => .inl ⟨Y, hY, hk⟩⟩
  have hNY := h.at_ Y hY
  obtain ⟨a, b, c, _⟩ := hN.blk_ne hNY
  obtain ⟨K, hK, hi⟩ := hNY.kids
  refine ⟨?_, hNY.bytes.kept k2 (Ne.symm c), hNY.arr.kept k2 (Ne.symm c), hNY.room, K, kids_kept hK k2 (Ne.symm a) (Ne.symm b), hi⟩
  by_cases e : Y.blk = n.blk
  · rw [e, hb, ← e]; exact hNY.node
  · exact k2.lt hNY.node e

/-- compact, and the store of what it gives into the node. -/
theorem compact_store (h : Good5 w t D) (hn : D n) : Calls Tryz.prog 43 #[ptrV n.blk] w fun e w3 => ∃ b g o p c x m1 m2 d l, e = .returned (ptrV b) ∧ w3.heap[b]? = some (.cells (row5 g o p c x m1 m2 d l) 73 (0, 0)) ∧
    (∃ g o p c x m1 m2 d l, w3.heap[n.blk]? = some (.cells (row5 g o p c x m1 m2 d l) 73 (0, 0))) ∧ ∀ w4, w4 = put5 w3 n.blk g o p c x m1 m2 d l → ∃ D', Next w w4 t D D' (Has D) := by
  refine (compact_any h hn).mono ?_
  rintro e w3 ⟨⟨rfl, hd⟩ | ⟨y, V, g', off', cap', hV, hlone, hni, hVi, rfl, hM⟩, hroot⟩
  · have h3 := hd.trie h.trie
    refine ⟨n.blk, n.g, n.off, n.plen, n.cap, n.item, n.mp, n.mc, n.d, n.lb, rfl, (h3.at_ n hn).node, ⟨n.g, n.off, n.plen, n.cap, n.item, n.mp, n.mc, n.d, n.lb, (h3.at_ n hn).node⟩, fun w4 e4 => ?_⟩
    have a := store_same h3 h.low h.top hn e4
    exact ⟨D, hd.next a⟩
  · have hnt : n.blk ≠ t := by
      intro hb
      obtain ⟨e, _⟩ := hroot hb
      simp only [Ending.returned.injEq, ptrV, Value.pointer.injEq, Option.some.injEq, Addr.mk.injEq] at e
      have := h.trie.wf.binj V n hV.1 hn e.1
      exact hV.2.1 (by rw [this, hb])
    have hN := h.trie.at_ n hn
    have hne := hN.blk_ne hN
    refine ⟨V.blk, g', off', n.plen + V.plen, cap', none, V.mp, V.mc, V.d, V.lb, rfl, hM.node, ⟨n.g, n.off, n.plen, n.cap, n.item, n.mp, n.mc, n.d, n.lb, hM.kept.lt hN.node ?_⟩, fun w4 e4 => join_here h.trie h.low h.top hn hnt hV hlone hni hVi hM e4⟩
    rintro (e | e)
    · have := h.trie.wf.binj n V hn hV.1 e
      subst this
      have := congrArg List.length hV.2.2.1
      obtain ⟨u1, u2, _⟩ := h.trie.wf.up n hn hnt
      rw [Node.par_len] at this; omega
    · exact hne.2.2.1 e

/-- What replace makes of the trie. -/
theorem replace_calls {P C : Node} {D1 : Node → Prop} {b : UInt8} (h : Good5 w t D) (hn : D n) (hnt : n.blk ≠ t) (hP : D P) (hPw : P.word = n.par) (c : Comp w w1 t D D1 P n C b)
    (h0 : w1.cell? ⟨n.blk, 0, none⟩ = some (.slice (some ⟨n.g, n.off, none⟩) n.plen n.cap)) (h1 : w1.cell? ⟨n.g, n.off, none⟩ = some (.int .u8 b.toNat)) :
    Calls Tryz.prog (replaceFn P.d) #[ptrV P.lb, .int .u8 b.toNat, ptrV C.blk] w1 fun e w2 => e = .returned (.tuple #[]) ∧ ∃ D2 P2, Next w w2 t D D2 (Has D) ∧ D2 P2 ∧ P2.blk = P.blk := by
  obtain ⟨K, hK, hKi⟩ := (h.trie.at_ P hP).kids
  have hw := h.trie.wf
  obtain ⟨n1, n2, _⟩ := hw.up n hn hnt
  have hKn : Kid t D P b n := ⟨hn, hnt, hPw.symm, c.hb⟩
  refine (kids_replace (c.kids K hK) (c.fbs hKi hKn hw n1 h0 h1) b C.blk (by rw [(hKi b n.blk).2 ⟨n, hKn, rfl⟩]; simp) c.fb).mono ?_
  rintro e w2 ⟨rfl, ab', q1, q2, q3⟩
  obtain ⟨a1, a2⟩ := replace_next h.low h.top hP c hKi q1 q2 q3
  exact ⟨rfl, _, _, a1, a2, rfl⟩
end
end Go.Proofs.YtpopiaahdanpeaaGreatDoor
