/- What compact at a child makes of a trie whose parent node m may be in disorder. -/
import Derived.Test.YtpopiaahdanpeaaGreatDoorPutMem
namespace Go.Proofs.YtpopiaahdanpeaaGreatDoor
open Go Go.RowKit
set_option linter.unusedVariables false

theorem Raw.same {w w' : World} {X : Node} (h : w'.heap = w.heap) (hx : Raw w X) : Raw w' X := by
  obtain ⟨os, tape, n, d, o⟩ := w
  obtain ⟨os', tape', n', d', o'⟩ := w'
  simp only at h
  subst h
  exact ⟨hx.node, hx.bytes, hx.arr, hx.room, let ⟨K, h1⟩ := hx.kids; ⟨K, by cases hd : X.d with
    | false => rw [hd] at h1; obtain ⟨l, s, r⟩ := h1; exact ⟨l, ⟨s.list, s.arr, s.small⟩, r⟩
    | true => rw [hd] at h1; obtain ⟨mx, T, s, r⟩ := h1; exact ⟨mx, T, ⟨s.list, s.arr, s.size, s.top, s.low, s.head, s.cnt⟩, r⟩⟩⟩

structure Comp (w w' : World) (t : Nat) (D D' : Node → Prop) (m n C : Node) (b : UInt8) : Prop where
  wf : WF t D'
  all : AllBut w' t D' m
  mem : D' m
  raw : Raw w' m
  ne : C ≠ m
  hb : n.pre[0]? = some b
  child : Kid t D' m b C
  kids : ∀ K, KidsAt w m.d m.lb m.ab m.cc K → KidsAt w' m.d m.lb m.ab m.cc K
  kid : ∀ b' k, (∃ V, Kid t D' m b' V ∧ V.blk = k) ↔ (b' = b ∧ C.blk = k) ∨ (b' ≠ b ∧ ∃ V, Kid t D m b' V ∧ V.blk = k)
  fb : FB w' C.blk b
  has : ∀ k v, Has D' k v ↔ Has D k v
  kept : Kept (TB D) w w'
  blocks : ∀ Y, D' Y → ∀ k, NB Y k → TB D k ∨ w.heap.size ≤ k
  src : ∀ Y, D' Y → Y ≠ m → ∃ Z, D Z ∧ Z ≠ m ∧ Y.word = Z.word ∧ Y.d = Z.d ∧ Y.cc = Z.cc ∧ Y.mp = Z.mp ∧ Y.blk = Z.blk

theorem comp_of {w w' : World} {t : Nat} {D : Node → Prop} {m n : Node} {e : Ending} (hw : WF t D) (hall : AllBut w t D m) (hm : D m) (hn : D n) (hmn : m.word = n.par) (hnt : n.blk ≠ t) (hR : Raw w m) (hc : ComOut w t D n e w') :
    ∃ D' C b, e = .returned (ptrV C.blk) ∧ Comp w w' t D D' m n C b := by
  obtain ⟨n1, n2, _⟩ := hw.up n hn hnt
  have hml : m.word.length = n.word.length - n.plen := by rw [hmn, n.par_len]
  have hnm : n ≠ m := by rintro rfl; omega
  have hpl := n.pre_len n2
  obtain ⟨b, hb⟩ : ∃ b, n.pre[0]? = some b := ⟨_, List.getElem?_eq_getElem (by omega)⟩
  have hKn : Kid t D m b n := ⟨hn, hnt, hmn.symm, hb⟩
  rcases hc with ⟨rfl, hd⟩ | ⟨y, V, g', off', cap', hV, hlone, hni, hVi, rfl, hM⟩
  · refine ⟨D, n, b, rfl, hw, fun Y hY hne => (hall Y hY hne).same hd.heap, hm, hR.same hd.heap, hnm, hb, hKn, fun K hK => hd.kids hK, fun b' k => ?_, ((hall n hn hnm).same hd.heap).fb n2 hb, fun _ _ => Iff.rfl, hd.kept _, fun Y hY k hk => .inl ⟨Y, hY, hk⟩,
      fun Y hY hne => ⟨Y, hY, hne, rfl, rfl, rfl, rfl, rfl⟩⟩
    constructor
    · rintro ⟨V, hV, e⟩
      by_cases hbb : b' = b
      · subst hbb; rw [hw.kid_unique hV hKn] at e; exact .inl ⟨rfl, e⟩
      · exact .inr ⟨hbb, V, hV, e⟩
    · rintro (⟨rfl, e⟩ | ⟨_, h⟩)
      · exact ⟨n, hKn, e⟩
      · exact h
  · have hj : Joined t D n V (joinOf n V g' off' cap') := by
      refine ⟨hnt, ⟨y, hV⟩, fun V' b' h' => hlone V' b' h', rfl, rfl, rfl, rfl, rfl, ?_⟩
      rcases hM.where_ with ⟨a, b, _⟩ | ⟨a, _⟩
      · exact .inl ⟨a, b⟩
      · refine .inr fun Y hY e => ?_
        have e : Y.g = g' := e
        by_cases hYm : Y = m
        · subst hYm; obtain ⟨cur, fr, e3, _⟩ := hR.arr; have := lt_of_block e3; omega
        · have := (hall Y hY hYm).lts; omega
    have hlts : ∀ Y, D Y → Y.g < w.heap.size := fun Y hY => by
      by_cases hYm : Y = m
      · subst hYm; obtain ⟨cur, fr, e3, _⟩ := hR.arr; exact lt_of_block e3
      · exact (hall Y hY hYm).lts.2.2.2
    obtain ⟨hc, hct, hcpar, hcn, hlen, hc0, hnl, hn0, hpar', hpre', hnc⟩ := hj.facts hw hn
    have hVm : V ≠ m := by rintro rfl; omega
    have hNn := (hall n hn hnm).raw
    have hNV := (hall V hc hVm).raw
    obtain ⟨a, b1, c1, d1, e1, f1⟩ := hNV.ne hR
    obtain ⟨a', b1', c1', d1', e1', f1'⟩ := hNn.ne hR
    obtain ⟨a2, b2, c2, d2, e2, f2⟩ := hR.ne hNn
    obtain ⟨a3, b3, c3, d3, e3, f3⟩ := hR.ne hNV
    have k1 : ¬ (m.blk = V.blk ∨ m.blk = n.g) := by rintro (e | e); exact hVm (hw.binj m V hm hc e).symm; exact c2 e
    have k2 : ¬ (m.lb = V.blk ∨ m.lb = n.g) := by rintro (e | e); exact a e.symm; exact d1' e.symm
    have k3 : ¬ (m.ab = V.blk ∨ m.ab = n.g) := by rintro (e | e); exact b1 e.symm; exact e1' e.symm
    have hbytes : BytesAt w' m.g m.off m.pre ∧ ArrAt w' m.g (m.off + m.cap) := by
      by_cases hg : m.g = n.g
      · obtain ⟨hcmp, hoff⟩ := hw.alias m n hm hn (Ne.symm hnm) hg
        have hplm := hw.plen_le hm
        refine ⟨fun i hi => ?_, by rw [hg]; exact hM.out.arr _ (by rw [← hg]; exact hR.arr)⟩
        have hold := hR.bytes i hi
        rw [hg] at hold ⊢
        rw [hM.out.cell _ ?_]; exact hold
        have hmp := m.pre_len hplm
        have hmpl := m.par_len
        have hnpl := n.par_len
        left
        rw [hmpl, hnpl] at hoff
        rw [hmp] at hi
        omega
      · have kg : ¬ (m.g = V.blk ∨ m.g = n.g) := by rintro (e | e); exact c1 e.symm; exact hg e
        exact ⟨hR.bytes.kept hM.kept kg, hR.arr.kept hM.kept kg⟩
    have hall' := join_mem hw hall hn hm hmn hj hVi hlts hM
    have hkids : ∀ K, KidsAt w m.d m.lb m.ab m.cc K → KidsAt w' m.d m.lb m.ab m.cc K := fun K hK => kids_kept hK hM.kept k2 k3
    have hJm : joinOf n V g' off' cap' ≠ m := by intro e; have := congrArg Node.blk e; exact k1 (.inl this.symm)
    have hJ : mergeN D n V (joinOf n V g' off' cap') (joinOf n V g' off' cap') := .inr rfl
    have hpre0 : (joinOf n V g' off' cap').pre[0]? = some b := by rw [hpre', List.getElem?_append_left (by omega)]; exact hb
    refine ⟨mergeN D n V (joinOf n V g' off' cap'), joinOf n V g' off' cap', b, rfl, hw.join hn hj, hall', .inl ⟨hm, Ne.symm hnm, Ne.symm hVm⟩,
      ⟨hM.kept.lt hR.node k1, hbytes.1, hbytes.2, hR.room, let ⟨K, hK⟩ := hR.kids; ⟨K, hkids K hK⟩⟩, hJm, hb, ⟨hJ, hct, by rw [hpar', hmn], hpre0⟩, hkids, fun b' k => ?_, (hall' _ hJ hJm).fb (by show n.plen + V.plen ≤ V.word.length; omega) hpre0, fun k v => ?_, hM.kept.mono ?_, fun Y hY k hk => ?_, fun Y hY hne => ?_⟩
    · rw [kid_join_m hj hw hn rfl hmn, hb]
      constructor
      · rintro (⟨h1, h2⟩ | ⟨h1, h2⟩)
        · exact .inl ⟨by injection h1 with h1; exact h1.symm, h2⟩
        · exact .inr ⟨fun e => h1 (by rw [e]), h2⟩
      · rintro (⟨h1, h2⟩ | ⟨h1, h2⟩)
        · exact .inl ⟨by rw [h1], h2⟩
        · exact .inr ⟨fun e => h1 (by injection e with e; exact e.symm), h2⟩
    · constructor
      · rintro ⟨Y, ⟨hY, _, _⟩ | rfl, q1, q2⟩
        · exact ⟨Y, hY, q1, q2⟩
        · have q2 : V.item = some v := q2
          rw [hVi] at q2; cases q2
      · rintro ⟨Y, hY, q1, q2⟩
        refine ⟨Y, .inl ⟨hY, ?_, ?_⟩, q1, q2⟩
        · rintro rfl; rw [hni] at q2; cases q2
        · rintro rfl; rw [hVi] at q2; cases q2
    · rintro k hk (rfl | rfl)
      · exact ⟨V, hc, .inl rfl⟩
      · exact ⟨n, hn, .inr (.inr (.inr rfl))⟩
    · rcases hY with ⟨hY, _, _⟩ | rfl
      · exact .inl ⟨Y, hY, hk⟩
      · rcases hk with rfl | rfl | rfl | rfl
        · exact .inl ⟨V, hc, .inl rfl⟩
        · exact .inl ⟨V, hc, .inr (.inl rfl)⟩
        · exact .inl ⟨V, hc, .inr (.inr (.inl rfl))⟩
        · rcases hM.where_ with ⟨q, _, _⟩ | ⟨q, _⟩
          · exact .inl ⟨n, hn, .inr (.inr (.inr q))⟩
          · exact .inr q
    · rcases hY with ⟨hY, _, _⟩ | rfl
      · exact ⟨Y, hY, hne, rfl, rfl, rfl, rfl, rfl⟩
      · exact ⟨V, hc, hVm, rfl, rfl, rfl, rfl, rfl⟩
end Go.Proofs.YtpopiaahdanpeaaGreatDoor
