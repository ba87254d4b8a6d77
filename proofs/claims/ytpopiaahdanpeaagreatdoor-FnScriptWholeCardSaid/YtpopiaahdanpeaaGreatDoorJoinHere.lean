/- What compact of a child, replace in the parent's list, and a join into a node's own block make of the trie. -/
import Derived.Test.YtpopiaahdanpeaaGreatDoorNext
namespace Go.Proofs.YtpopiaahdanpeaaGreatDoor
open Go Go.RowKit
set_option linter.unusedVariables false

section
variable {w w1 w2 : World} {t : Nat} {D D1 : Node → Prop} {m n C : Node} {b : UInt8}

theorem comp_two {e : Ending} (hw : WF t D) (hall : AllBut w t D m) (hm : D m) (hn : D n) (hmn : m.word = n.par) (hnt : n.blk ≠ t) (hR : Raw w m) (hc : ComOut w t D n e w1) :
    (e = .returned (ptrV n.blk) ∧ Drawn w w1) ∨
    (∃ D' C b, e = .returned (ptrV C.blk) ∧ Comp w w1 t D D' m n C b ∧ C.blk ≠ n.blk ∧ w1.heap[n.blk]? = some (.cells #[.slice (some ⟨n.g, n.off, none⟩) n.plen n.cap, itemV n.item, .int .i64 n.mp, .int .i64 n.mc, .iface (tyOf n.d) (ptrV n.lb)] 73 (0, 0)) ∧ w1.cell? ⟨n.g, n.off, none⟩ = some (.int .u8 b.toNat)) := by
  obtain ⟨n1, n2, _⟩ := hw.up n hn hnt
  have hml : m.word.length = n.word.length - n.plen := by rw [hmn, n.par_len]
  have hnm : n ≠ m := by rintro rfl; omega
  have hNn := hall n hn hnm
  obtain ⟨b0, hb0, hc0, _⟩ := hNn.first hw hn hnt
  have hc' := hc
  rcases hc' with h | ⟨y, V, g', off', cap', hV, hlone, hni, hVi, rfl, hM⟩
  · exact .inl h
  · obtain ⟨D', C, b, he, hC⟩ := comp_of hw hall hm hn hmn hnt hR hc
    have hCV : C.blk = V.blk := by simp only [Ending.returned.injEq, ptrV, Value.pointer.injEq, Option.some.injEq, Addr.mk.injEq] at he; exact he.1.symm
    have hbb : b = b0 := by have := hC.hb; rw [hb0] at this; injection this with this; exact this.symm
    subst hbb
    have hVn : V.blk ≠ n.blk := by
      intro e
      have := hw.binj V n hV.1 hn e
      subst this
      have := congrArg List.length hV.2.2.1
      rw [Node.par_len] at this; omega
    have hNV : NodeAt w t D V := hall V hV.1 (by rintro rfl; have := congrArg List.length hV.2.2.1; rw [Node.par_len] at this; obtain ⟨u1, u2, _⟩ := hw.up V hV.1 hV.2.1; omega)
    have hne := hNn.blk_ne hNn
    refine .inr ⟨D', C, b, by rw [hCV], hC, by rw [hCV]; exact hVn, hM.kept.lt hNn.node ?_, ?_⟩
    · rintro (e | e)
      · exact hVn e.symm
      · exact hne.2.2.1 e
    · rw [hM.out.cell n.off (.inl (by omega))]; exact hc0

theorem Comp.low (c : Comp w w1 t D D1 m n C b) (hm : D m) (hl : Low t D) : Low t D1 := by
  refine ⟨fun Y hY => ?_, fun Y hY hb => ?_⟩
  · by_cases e : Y = m
    · rw [e]; exact hl.good m hm
    · obtain ⟨Z, hZ, _, e1, _⟩ := c.src Y hY e
      rw [e1]; exact hl.good Z hZ
  · by_cases e : Y = m
    · rw [e] at hb ⊢; exact hl.low m hm hb
    · obtain ⟨Z, hZ, _, e1, e2, e3, _, e5⟩ := c.src Y hY e
      rw [e1, e2, e3]; exact hl.low Z hZ (by rw [← e5]; exact hb)
theorem Comp.top (c : Comp w w1 t D D1 m n C b) (hm : D m) (ht : ∀ X, D X → X.blk = t → X.word = [] ∧ X.mp = 10) : ∀ X, D1 X → X.blk = t → X.word = [] ∧ X.mp = 10 := by
  intro Y hY hb
  by_cases e : Y = m
  · rw [e] at hb ⊢; exact ht m hm hb
  · obtain ⟨Z, hZ, _, e1, e2, e3, e4, e5⟩ := c.src Y hY e
    rw [e1, e4]; exact ht Z hZ (by rw [← e5]; exact hb)

/-- The first bytes of the parent's old children, behind compact. -/
theorem Comp.fbs (c : Comp w w1 t D D1 m n C b) {K : UInt8 → Option Nat} (hKi : ∀ b c, K b = some c ↔ ∃ V, Kid t D m b V ∧ V.blk = c) (hn : Kid t D m b n) (hw : WF t D) (hpl : 0 < n.plen)
    (h0 : w1.cell? ⟨n.blk, 0, none⟩ = some (.slice (some ⟨n.g, n.off, none⟩) n.plen n.cap)) (h1 : w1.cell? ⟨n.g, n.off, none⟩ = some (.int .u8 b.toNat)) : ∀ y c, K y = some c → FB w1 c y := by
  intro y k hk
  by_cases e : y = b
  · subst e
    obtain ⟨V, hV, rfl⟩ := (hKi y k).1 hk
    rw [hw.kid_unique hV hn]
    exact ⟨n.g, n.off, n.plen - 1, n.cap, by rw [show n.plen - 1 + 1 = n.plen by omega]; exact h0, h1⟩
  · obtain ⟨V, hV, rfl⟩ := (c.kid y k).2 (.inr ⟨e, (hKi y k).1 hk⟩)
    have hVm : V ≠ m := by
      rintro rfl
      obtain ⟨u1, u2, _⟩ := c.wf.up V hV.1 hV.2.1
      have := congrArg List.length hV.2.2.1; rw [Node.par_len] at this; omega
    exact (c.all V hV.1 hVm).fb (c.wf.plen_le hV.1) hV.2.2.2

theorem replace_next (hl : Low t D) (ht : ∀ X, D X → X.blk = t → X.word = [] ∧ X.mp = 10) (hm : D m) (c : Comp w w1 t D D1 m n C b) {K : UInt8 → Option Nat} (hKi : ∀ b c, K b = some c ↔ ∃ V, Kid t D m b V ∧ V.blk = c) {ab' : Nat}
    (hK : KidsAt w2 m.d m.lb ab' m.cc (upd K b (some C.blk))) (hk : Kept (fun k => k = m.ab) w1 w2) (hab : ab' = m.ab ∨ w1.heap.size ≤ ab') :
    Next w w2 t D (swapN D1 m (relist m m.d m.lb ab')) (Has D) ∧ swapN D1 m (relist m m.d m.lb ab') (relist m m.d m.lb ab') := by
  have hne := c.raw.ne c.raw
  have hs : ∀ Y, swapN D1 m (relist m m.d m.lb ab') Y → (D1 Y ∧ Y ≠ m) ∨ Y = relist m m.d m.lb ab' := fun Y h => h
  have hs1 := c.kept.size
  have hl1 := c.low hm hl
  have ht1 := c.top hm ht
  refine ⟨⟨relist_mem (m := m) (d' := m.d) (lb' := m.lb) (ab' := ab') c.wf c.all c.mem c.raw (hk.mono fun k _ e => .inr (.inl e)) (hk.lt c.raw.node (fun e => hne.2.1 e)) hK (fun b' k => ?_) (.inl rfl) hab, ⟨fun Y hY => ?_, fun Y hY hb => ?_⟩, fun Y hY hb => ?_, fun k v => ?_, ?_, fun Y hY k hk2 => ?_⟩, .inr rfl⟩
  · rw [c.kid b' k]
    unfold upd
    by_cases e : b' = b
    · subst e
      rw [if_pos rfl]
      constructor
      · intro e2; injection e2 with e2; exact .inl ⟨rfl, e2⟩
      · rintro (⟨_, e2⟩ | ⟨e2, _⟩)
        · rw [e2]
        · exact (e2 rfl).elim
    · rw [if_neg e]
      constructor
      · intro e2; exact .inr ⟨e, (hKi b' k).1 e2⟩
      · rintro (⟨e2, _⟩ | ⟨_, e2⟩)
        · exact (e e2).elim
        · exact (hKi b' k).2 e2
  · rcases hs Y hY with ⟨h, _⟩ | rfl
    · exact hl1.good Y h
    · exact hl.good m hm
  · rcases hs Y hY with ⟨h, _⟩ | rfl
    · exact hl1.low Y h hb
    · exact hl.low m hm hb
  · rcases hs Y hY with ⟨h, _⟩ | rfl
    · exact ht1 Y h hb
    · exact ht m hm hb
  · rw [← c.has]
    constructor
    · rintro ⟨Y, hY, e1, e2⟩
      rcases hs Y hY with ⟨h, _⟩ | rfl
      · exact ⟨Y, h, e1, e2⟩
      · exact ⟨m, c.mem, e1, e2⟩
    · rintro ⟨Y, hY, e1, e2⟩
      by_cases e : Y = m
      · subst e; exact ⟨_, .inr rfl, e1, e2⟩
      · exact ⟨Y, .inl ⟨hY, e⟩, e1, e2⟩
  · exact c.kept.trans (hk.mono fun k _ e => ⟨m, hm, .inr (.inr (.inl e))⟩)
  · rcases hs Y hY with ⟨h, _⟩ | rfl
    · exact c.blocks Y h k hk2
    · rcases hk2 with e | e | e | e
      · exact .inl ⟨m, hm, .inl e⟩
      · exact .inl ⟨m, hm, .inr (.inl e)⟩
      · rcases hab with e2 | e2
        · exact .inl ⟨m, hm, .inr (.inr (.inl (e.trans e2)))⟩
        · have e : k = ab' := e
          exact .inr (by omega)
      · exact .inl ⟨m, hm, .inr (.inr (.inr e))⟩
/-- A node and its only child become one, at the node's own block. -/
theorem join_here {V : Node} {y : UInt8} {g' off' cap' : Nat} (h : TrieAt w t D) (hl : Low t D) (ht : ∀ X, D X → X.blk = t → X.word = [] ∧ X.mp = 10) (hn : D n) (hnt : n.blk ≠ t) (hV : Kid t D n y V) (hlone : ∀ V' b', Kid t D n b' V' → V' = V)
    (hni : n.item = none) (hVi : V.item = none) (hM : Merged w w1 V.blk n.g n.off n.plen n.cap V.plen n.pre V.pre (.int .i64 V.mp) (.int .i64 V.mc) (.iface (tyOf V.d) (ptrV V.lb)) g' off' cap')
    (e2 : w2 = ((((w1.setCell ⟨n.blk, 0, none⟩ (.slice (some ⟨g', off', none⟩) (n.plen + V.plen) cap')).setCell ⟨n.blk, 1, none⟩ .nilIface).setCell ⟨n.blk, 2, none⟩ (.int .i64 V.mp)).setCell ⟨n.blk, 3, none⟩ (.int .i64 V.mc)).setCell ⟨n.blk, 4, none⟩ (.iface (tyOf V.d) (ptrV V.lb))) :
    ∃ D', Next w w2 t D D' (Has D) := by
  have hw := h.wf
  obtain ⟨n1, n2, P, hP, hPw⟩ := hw.up n hn hnt
  have hPl : P.word.length = n.word.length - n.plen := by rw [hPw, n.par_len]
  have hnP : n ≠ P := by rintro rfl; omega
  have hall : AllBut w t D P := fun Y hY _ => h.at_ Y hY
  have hRP := (h.at_ P hP).raw
  obtain ⟨_, _, _, _, hC⟩ := comp_of hw hall hP hn hPw hnt hRP (.inr ⟨y, V, g', off', cap', hV, hlone, hni, hVi, rfl, hM⟩)
  have hRP1 := hC.raw
  have hkids1 := hC.kids
  have hk1 := hC.kept
  clear hC
  have hlts : ∀ Y, D Y → Y.g < w.heap.size := fun Y hY => (h.at_ Y hY).lts.2.2.2
  have hj : Joined t D n V (joinOf n V g' off' cap') := by
    refine ⟨hnt, ⟨y, hV⟩, fun V' b' h' => hlone V' b' h', rfl, rfl, rfl, rfl, rfl, ?_⟩
    rcases hM.where_ with ⟨a, b, _⟩ | ⟨a, _⟩
    · exact .inl ⟨a, b⟩
    · refine .inr fun Y hY e => ?_
      have e : Y.g = g' := e
      have := hlts Y hY; omega
  obtain ⟨hc, hct, hcpar, hcn, hlen, hc0, hnl, hn0, hpar', hpre', hnc⟩ := hj.facts hw hn
  have hVP : V ≠ P := by rintro rfl; omega
  have hall1 := join_mem hw hall hn hP hPw hj hVi hlts hM
  have hwf1 := hw.join hn hj
  generalize hJ : joinOf n V g' off' cap' = J at *
  have jw : J.word = V.word := by rw [← hJ]; rfl
  have jb : J.blk = V.blk := by rw [← hJ]; rfl
  have hJ1 : mergeN D n V J J := .inr rfl
  have hJt : J.blk ≠ t := by rw [jb]; exact hct
  have hJP : J ≠ P := by intro e; rw [← e, jw] at hPl; omega
  have hNJ := hall1 J hJ1 hJP
  have hnn : ∀ Y, mergeN D n V J Y → Y ≠ J → Y.blk ≠ n.blk := by
    rintro Y (⟨hY, h1, h2⟩ | rfl) hne
    · exact fun e => h1 (hw.binj Y n hY hn e)
    · exact (hne rfl).elim
  have hwf2 := hwf1.reblk hJ1 hJt hnt hnn
  have hs : ∀ Y, swapN (mergeN D n V J) J { J with blk := n.blk } Y → (D Y ∧ Y ≠ n ∧ Y ≠ V ∧ Y ≠ J) ∨ Y = { J with blk := n.blk } := by
    rintro Y (⟨⟨h1, h2, h3⟩ | rfl, h4⟩ | e)
    · exact .inl ⟨h1, h2, h3, h4⟩
    · exact (h4 rfl).elim
    · exact .inr e
  -- the node's old block
  have hnb1 : w1.heap[n.blk]? = _ := hM.kept.lt (h.at_ n hn).node (by
    rintro (e | e)
    · exact hcn (hw.binj V n hc hn e.symm)
    · exact ((h.at_ n hn).blk_ne (h.at_ n hn)).2.2.1 e)
  have k2 : Kept (fun k => k = n.blk) w1 w2 := by
    rw [e2]; exact (((((Kept.refl (fun k => k = n.blk) w1).setCell (Or.inl rfl) _).setCell (Or.inl rfl) _).setCell (Or.inl rfl) _).setCell (Or.inl rfl) _).setCell (Or.inl rfl) _
  have hno : ∀ Y, Raw w1 Y → Y.lb ≠ n.blk ∧ Y.ab ≠ n.blk ∧ Y.g ≠ n.blk := fun Y hR => by
    obtain ⟨K, hK⟩ := hR.kids
    have h1 := kids_list_type hK (.inl hnb1)
    obtain ⟨cur, fr, e, _⟩ := hR.arr
    refine ⟨Ne.symm h1.1, Ne.symm h1.2, fun eq => ?_⟩
    rw [eq, hnb1] at e; simp at e
  have hkid : ∀ Y Y' : Node, Y'.word = Y.word → Y.word ≠ n.par → ∀ b k, (∃ Z, Kid t (swapN (mergeN D n V J) J { J with blk := n.blk }) Y' b Z ∧ Z.blk = k) ↔ (∃ Z, Kid t (mergeN D n V J) Y b Z ∧ Z.blk = k) := by
    intro Y Y' hYw hYp b k
    constructor
    · rintro ⟨Z, ⟨(⟨hZ, hne⟩ | rfl), z1, z2, z3⟩, z4⟩
      · exact ⟨Z, ⟨hZ, z1, by rw [z2, hYw], z3⟩, z4⟩
      · exact (hYp (by rw [← hYw, ← z2]; exact hpar')).elim
    · rintro ⟨Z, ⟨hZ, z1, z2, z3⟩, z4⟩
      refine ⟨Z, ⟨.inl ⟨hZ, ?_⟩, z1, by rw [z2, hYw], z3⟩, z4⟩
      rintro rfl
      exact hYp (by rw [← z2, hpar'])
  have hsz := hM.kept.size
  refine ⟨_, ⟨hwf2, ?_⟩, ⟨fun Y hY => ?_, fun Y hY hb => ?_⟩, fun Y hY hb => ?_, fun k v => ?_, ?_, fun Y hY k hk => ?_⟩
  · rintro Y (⟨hY, hne⟩ | rfl)
    · by_cases hYP : Y = P
      · subst hYP
        obtain ⟨a1, a2, a3⟩ := hno Y hRP1
        obtain ⟨K, hK, hi⟩ := (h.at_ Y hP).kids
        refine ⟨k2.lt hRP1.node (hnn Y hY hne), hRP1.bytes.kept k2 a3, hRP1.arr.kept k2 a3, hRP1.room, K, kids_kept (hkids1 K hK) k2 a1 a2, fun b k => ?_⟩
        rw [hi]
        have hm := kid_join_m hj hw hn (Y := Y) (Y' := Y) rfl hPw b k
        constructor
        · rintro ⟨Z, hZ, rfl⟩
          by_cases hZn : Z = n
          · subst hZn
            refine ⟨{ J with blk := Z.blk }, ⟨.inr rfl, hnt, ?_, ?_⟩, rfl⟩
            · show J.par = _; rw [hpar', hZ.2.2.1]
            · show J.pre[0]? = _
              rw [hpre', List.getElem?_append_left (by rw [Z.pre_len n2]; omega)]; exact hZ.2.2.2
          · have hnb : n.pre[0]? ≠ some b := by
              intro e
              exact hZn (hw.kid_unique hZ ⟨hn, hnt, hPw.symm, e⟩)
            obtain ⟨Z', hZ', e'⟩ := hm.2 (.inr ⟨hnb, Z, hZ, rfl⟩)
            refine ⟨Z', ⟨.inl ⟨hZ'.1, ?_⟩, hZ'.2⟩, e'⟩
            rintro rfl
            have := hZ'.2.2.2
            rw [hpre', List.getElem?_append_left (by rw [n.pre_len n2]; omega)] at this
            exact hnb this
        · rintro ⟨Z, ⟨(⟨hZ, hne⟩ | rfl), z1, z2, z3⟩, z4⟩
          · rcases hm.1 ⟨Z, ⟨hZ, z1, z2, z3⟩, z4⟩ with ⟨e1, e3⟩ | ⟨_, e1⟩
            · exfalso
              have := hwf1.binj Z J hZ hJ1 (by rw [z4, jb, e3])
              exact hne this
            · exact e1
          · refine ⟨n, ⟨hn, hnt, hPw.symm, ?_⟩, z4⟩
            have : J.pre[0]? = some b := z3
            rw [hpre', List.getElem?_append_left (by rw [n.pre_len n2]; omega)] at this
            exact this
      · have hNY := hall1 Y hY hYP
        obtain ⟨a1, a2, a3⟩ := hno Y hNY.raw
        obtain ⟨q1, q2, q3, q4, K, hK, hi⟩ := hNY.kept k2 (hnn Y hY hne) a1 a2 a3
        refine ⟨q1, q2, q3, q4, K, hK, fun b k => (hi b k).trans (hkid Y Y rfl ?_ b k).symm⟩
        intro e
        exact hYP (hwf1.winj Y P hY (.inl ⟨hP, Ne.symm hnP, Ne.symm hVP⟩) (by rw [e, hPw]))
    · obtain ⟨a1, a2, a3⟩ := hno J hNJ.raw
      obtain ⟨K, hK, hi⟩ := hNJ.kids
      refine ⟨?_, hNJ.bytes.kept k2 a3, hNJ.arr.kept k2 a3, hNJ.room, K, kids_kept hK k2 a1 a2, fun b k => (hi b k).trans (hkid J { J with blk := n.blk } rfl ?_ b k).symm⟩
      · show w2.heap[n.blk]? = _
        rw [e2, heap_setCell_at (heap_setCell_at (heap_setCell_at (heap_setCell_at (heap_setCell_at hnb1))))]
        subst hJ
        show _ = some (Obj.cells #[_, itemV V.item, _, _, _] 73 (0, 0))
        rw [hVi]; rfl
      · intro e
        have := congrArg List.length e
        rw [jw, n.par_len] at this; omega
  · rcases hs Y hY with ⟨h1, _⟩ | rfl
    · exact hl.good Y h1
    · show Good J.word; rw [jw]; exact hl.good V hc
  · rcases hs Y hY with ⟨h1, _⟩ | rfl
    · exact hl.low Y h1 hb
    · have := hl.low V hc hct
      subst hJ
      exact this
  · rcases hs Y hY with ⟨h1, _⟩ | rfl
    · exact ht Y h1 hb
    · exact (hnt hb).elim
  · constructor
    · rintro ⟨Y, hY, q1, q2⟩
      rcases hs Y hY with ⟨h1, _⟩ | rfl
      · exact ⟨Y, h1, q1, q2⟩
      · subst hJ
        have q2 : V.item = some v := q2
        rw [hVi] at q2; cases q2
    · rintro ⟨Y, hY, q1, q2⟩
      have y1 : Y ≠ n := by rintro rfl; rw [hni] at q2; cases q2
      have y2 : Y ≠ V := by rintro rfl; rw [hVi] at q2; cases q2
      refine ⟨Y, .inl ⟨.inl ⟨hY, y1, y2⟩, ?_⟩, q1, q2⟩
      rintro rfl
      exact y2 (hw.binj Y V hY hc jb)
  · exact hk1.trans (k2.mono fun k _ e => ⟨n, hn, .inl e⟩)
  · rcases hs Y hY with ⟨h1, _⟩ | rfl
    · exact .inl ⟨Y, h1, hk⟩
    · subst hJ
      rcases hk with e | e | e | e
      · exact .inl ⟨n, hn, .inl e⟩
      · exact .inl ⟨V, hc, .inr (.inl e)⟩
      · exact .inl ⟨V, hc, .inr (.inr (.inl e))⟩
      · have e : k = g' := e
        rcases hM.where_ with ⟨q, _, _⟩ | ⟨q, _⟩
        · exact .inl ⟨n, hn, .inr (.inr (.inr (e.trans q)))⟩
        · exact .inr (by omega)
end
end Go.Proofs.YtpopiaahdanpeaaGreatDoor
