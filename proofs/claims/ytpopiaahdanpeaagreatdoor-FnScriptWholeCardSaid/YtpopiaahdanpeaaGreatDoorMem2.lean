/- What a split and a join make of a trie's memory. -/
import Derived.Test.YtpopiaahdanpeaaGreatDoorMem
namespace Go.Proofs.YtpopiaahdanpeaaGreatDoor
open Go Go.RowKit
set_option linter.unusedVariables false

theorem row_up {yo no yw yp nw np i : Nat} (h1 : yo + (nw - np) = no + (yw - yp)) (h2 : yw + np ≤ nw) (h3 : i < yp) (h4 : yp ≤ yw) : yo + i < no + np := by omega
theorem row_down {yo no yw yp nw np cw cp i : Nat} (h1 : yo + (nw - np) = no + (yw - yp)) (h2 : cw + yp ≤ yw) (h3 : nw + cp = cw) (h4 : np ≤ nw) : no + np + cp ≤ yo + i := by omega

/-- All nodes but m lie as they should. -/
def AllBut (w : World) (t : Nat) (D : Node → Prop) (m : Node) : Prop := ∀ Y, D Y → Y ≠ m → NodeAt w t D Y

section
variable {w w2 : World} {t : Nat} {D : Node → Prop} {X m X2 : Node} {L : Nat}

theorem Halves.mid (s : Halves t D X m X2 L) (h : WF t D) (hX : D X) {Y : Node} (hY : D Y) (e : Y.word = m.word) : False := by
  obtain ⟨hpl, hml, _⟩ := s.facts h hX
  have hlt := s.lt
  have := h.ext_of_mid hX hY (Nat.le_of_lt hlt) s.pos (by rw [e, s.mw]; exact List.prefix_rfl)
  have := this.length_le
  rw [e, hml] at this; omega

/-- Children of an old node behind a split. -/
theorem kid_split (s : Halves t D X m X2 L) (h : WF t D) (hX : D X) {Y Y' : Node} (hY : D Y) (hw : Y'.word = Y.word) (b : UInt8) (c : Nat) :
    (∃ V, Kid t (splitN D X m X2) Y' b V ∧ V.blk = c) ↔ (∃ V, Kid t D Y b V ∧ V.blk = c) := by
  obtain ⟨hpl, hml, hmpar, hxpar, hmx, hmpre, hxpre⟩ := s.facts h hX
  constructor
  · rintro ⟨V, ⟨hV, h1, h2, h3⟩, h4⟩
    rcases hV with (⟨hV, hVX⟩ | rfl) | rfl
    · exact ⟨V, ⟨hV, h1, by rw [h2, hw], h3⟩, h4⟩
    · have hXt : X.blk ≠ t := by rw [← s.mb]; exact h1
      refine ⟨X, ⟨hX, hXt, by rw [← hmpar, h2, hw], ?_⟩, by rw [← s.mb]; exact h4⟩
      rw [hmpre, List.getElem?_take, if_pos (s.pos hXt)] at h3; exact h3
    · exact (s.mid h hX hY (by rw [← hw, ← h2, hxpar])).elim
  · rintro ⟨V, ⟨hV, h1, h2, h3⟩, h4⟩
    by_cases e : V = X
    · subst e
      exact ⟨m, ⟨.inl (.inr rfl), by rw [s.mb]; exact h1, by rw [hmpar, h2, hw], by rw [hmpre, List.getElem?_take, if_pos (s.pos h1)]; exact h3⟩, by rw [s.mb]; exact h4⟩
    · exact ⟨V, ⟨.inl (.inl ⟨hV, e⟩), h1, by rw [h2, hw], h3⟩, h4⟩

/-- The upper half has the lower one for its only child. -/
theorem kid_split_m (s : Halves t D X m X2 L) (h : WF t D) (hX : D X) (b : UInt8) (V : Node) :
    Kid t (splitN D X m X2) m b V ↔ (V = X2 ∧ X2.pre[0]? = some b) := by
  obtain ⟨hpl, hml, hmpar, hxpar, hmx, hmpre, hxpre⟩ := s.facts h hX
  have hlt := s.lt
  constructor
  · rintro ⟨hV, h1, h2, h3⟩
    rcases hV with (⟨hV, hVX⟩ | rfl) | rfl
    · obtain ⟨_, _, P, hP, e⟩ := h.up V hV h1
      exact (s.mid h hX hP (by rw [e, h2])).elim
    · exfalso
      have hXt : X.blk ≠ t := by rw [← s.mb]; exact h1
      have h0 := s.pos hXt
      rw [hmpar] at h2
      have := congrArg List.length h2
      rw [X.par_len, hml] at this; omega
    · exact ⟨rfl, h3⟩
  · rintro ⟨rfl, h3⟩
    exact ⟨.inr rfl, s.xt, hxpar, h3⟩

theorem split_mem (h : TrieAt w t D) (hX : D X) (s : Halves t D X m X2 L) (hit : X2.item = X.item) (hd : X2.d = X.d) (hcc : X2.cc = X.cc) (hcap : X2.cap = X.cap - L) (hb : w.heap.size ≤ X2.blk)
    (k2 : Kept (fun k => k = X.blk ∨ w.heap.size ≤ k) w w2)
    (n2 : w2.heap[X2.blk]? = some (.cells #[.slice (some ⟨X2.g, X2.off, none⟩) X2.plen X2.cap, itemV X2.item, .int .i64 X2.mp, .int .i64 X2.mc, .iface (tyOf X2.d) (ptrV X2.lb)] 73 (0, 0))) :
    AllBut w2 t (splitN D X m X2) m := by
  have hw := h.wf
  have hNX := h.at_ X hX
  obtain ⟨hpl, hml, hmpar, hxpar, hmx, hmpre, hxpre⟩ := s.facts hw hX
  have hlt := s.lt
  obtain ⟨x1, x2, x3, x4⟩ := hNX.lts
  obtain ⟨a, b1, c1, d1, e1, f1⟩ := hNX.blk_ne hNX
  have hroom := hNX.room
  rintro Y ((⟨hY, hne⟩ | rfl) | rfl) hYm
  · have hNY := h.at_ Y hY
    obtain ⟨y1, y2, y3, y4⟩ := hNY.lts
    obtain ⟨a', b1', c1', _⟩ := hNX.blk_ne hNY
    obtain ⟨q1, q2, q3, q4, K', hK', hi'⟩ := hNY.kept k2 (by rintro (e | e); exact hne (hw.binj Y X hY hX e); omega) (by rintro (e | e); exact a' e.symm; omega)
      (by rintro (e | e); exact b1' e.symm; omega) (by rintro (e | e); exact c1' e.symm; omega)
    exact ⟨q1, q2, q3, q4, K', hK', fun b c => (hi' b c).trans (kid_split s hw hX hY rfl b c).symm⟩
  · exact (hYm rfl).elim
  · have kg : ¬ (X.g = X.blk ∨ w.heap.size ≤ X.g) := by rintro (e | e); exact c1 e.symm; omega
    obtain ⟨K, hK, hi⟩ := hNX.kids
    have hpre := X.pre_len hpl
    refine ⟨n2, ?_, ?_, ?_, K, ?_, fun b c => ?_⟩
    · rw [s.xg, s.xo, hxpre]
      exact (hNX.bytes.kept k2 kg).drop L
    · rw [s.xg, s.xo, hcap]
      have := hNX.arr.kept k2 kg
      rw [show X.off + L + (X.cap - L) = X.off + X.cap by omega]; exact this
    · rw [s.xp, hcap]; omega
    · rw [hd, s.xl, s.xa, hcc]
      exact kids_kept hK k2 (by rintro (e | e); exact a e.symm; omega) (by rintro (e | e); exact b1 e.symm; omega)
    · exact (hi b c).trans (kid_split s hw hX hX s.xw b c).symm

/-- The upper half's bytes. -/
theorem split_bytes (h : TrieAt w t D) (hX : D X) (s : Halves t D X m X2 L) (k2 : Kept (fun k => k = X.blk ∨ w.heap.size ≤ k) w w2) (hmc : m.cap = X.cap) :
    BytesAt w2 m.g m.off m.pre ∧ ArrAt w2 m.g (m.off + m.cap) ∧ m.plen ≤ m.cap := by
  have hw := h.wf
  have hNX := h.at_ X hX
  obtain ⟨hpl, hml, hmpar, hxpar, hmx, hmpre, hxpre⟩ := s.facts hw hX
  have hlt := s.lt
  obtain ⟨x1, x2, x3, x4⟩ := hNX.lts
  obtain ⟨a, b1, c1, _⟩ := hNX.blk_ne hNX
  have kg : ¬ (X.g = X.blk ∨ w.heap.size ≤ X.g) := by rintro (e | e); exact c1 e.symm; omega
  have hroom := hNX.room
  refine ⟨?_, ?_, by rw [s.mp, hmc]; omega⟩
  · rw [s.mg, s.mo, hmpre]
    intro i hi
    have hi2 : i < X.pre.length := by simp at hi; omega
    rw [hNX.bytes.kept k2 kg i hi2]
    simp
  · rw [s.mg, s.mo, hmc]; exact hNX.arr.kept k2 kg

/-- Children behind a join, but for the joined node's parent. -/
theorem kid_join {n c c' : Node} (j : Joined t D n c c') (h : WF t D) (hn : D n) {Y Y' : Node} (hw : Y'.word = Y.word) (hp : Y.word ≠ n.par) (hyn : Y.word ≠ n.word) (b : UInt8) (k : Nat) :
    (∃ V, Kid t (mergeN D n c c') Y' b V ∧ V.blk = k) ↔ (∃ V, Kid t D Y b V ∧ V.blk = k) := by
  obtain ⟨hc, hct, hcpar, hcn, hlen, hc0, hnl, hn0, hpar', hpre', hnc⟩ := j.facts h hn
  constructor
  · rintro ⟨V, ⟨hV, h1, h2, h3⟩, h4⟩
    rcases hV with ⟨hV, _, _⟩ | rfl
    · exact ⟨V, ⟨hV, h1, by rw [h2, hw], h3⟩, h4⟩
    · exact (hp (by rw [← hw, ← h2, hpar'])).elim
  · rintro ⟨V, ⟨hV, h1, h2, h3⟩, h4⟩
    refine ⟨V, ⟨.inl ⟨hV, ?_, ?_⟩, h1, by rw [h2, hw], h3⟩, h4⟩
    · rintro rfl; exact hp h2.symm
    · rintro rfl; exact hyn (by rw [← h2, hcpar])

/-- The children of the joined node's parent. -/
theorem kid_join_m {n c c' : Node} (j : Joined t D n c c') (h : WF t D) (hn : D n) {Y Y' : Node} (hw : Y'.word = Y.word) (hp : Y.word = n.par) (b : UInt8) (k : Nat) :
    (∃ V, Kid t (mergeN D n c c') Y' b V ∧ V.blk = k) ↔ (n.pre[0]? = some b ∧ c.blk = k) ∨ (n.pre[0]? ≠ some b ∧ ∃ V, Kid t D Y b V ∧ V.blk = k) := by
  obtain ⟨hc, hct, hcpar, hcn, hlen, hc0, hnl, hn0, hpar', hpre', hnc⟩ := j.facts h hn
  have hn1 : n.pre.length = n.plen := n.pre_len hnl
  have hp0 : c'.pre[0]? = n.pre[0]? := by rw [hpre', List.getElem?_append_left (by omega)]
  have hnt := j.nt
  constructor
  · rintro ⟨V, ⟨hV, h1, h2, h3⟩, h4⟩
    rcases hV with ⟨hV, hVn, hVc⟩ | rfl
    · right
      refine ⟨fun e => ?_, V, ⟨hV, h1, by rw [h2, hw], h3⟩, h4⟩
      exact hVn (h.sib V n hV hn h1 hnt (by rw [h2, hw, hp]) (by rw [h3, e]))
    · left; exact ⟨by rw [← hp0]; exact h3, by rw [← j.cb]; exact h4⟩
  · rintro (⟨h3, h4⟩ | ⟨hne, V, ⟨hV, h1, h2, h3⟩, h4⟩)
    · exact ⟨c', ⟨.inr rfl, by rw [j.cb]; exact hct, by rw [hpar', hw, hp], by rw [hp0]; exact h3⟩, by rw [j.cb]; exact h4⟩
    · refine ⟨V, ⟨.inl ⟨hV, ?_, ?_⟩, h1, by rw [h2, hw], h3⟩, h4⟩
      · rintro rfl; exact hne h3
      · rintro rfl
        have e : n.word = n.par := by rw [← hcpar, h2, hp]
        have := congrArg List.length e
        rw [n.par_len] at this; omega

/-- The node that a join makes. -/
def joinOf (n c : Node) (g off cap : Nat) : Node := { c with plen := n.plen + c.plen, g := g, off := off, cap := cap }

/-- The memory of a join. n, c: nodes of the set; m: n's parent, which may not lie as it should. -/
theorem join_mem {w w' : World} {n c : Node} {g' off' cap' : Nat} (hw : WF t D) (hall : AllBut w t D m) (hn : D n) (hm : D m) (hmn : m.word = n.par) (j : Joined t D n c (joinOf n c g' off' cap')) (hci : c.item = none)
    (hlts : ∀ Y, D Y → Y.g < w.heap.size)
    (hM : Merged w w' c.blk n.g n.off n.plen n.cap c.plen n.pre c.pre (.int .i64 c.mp) (.int .i64 c.mc) (.iface (tyOf c.d) (ptrV c.lb)) g' off' cap') :
    AllBut w' t (mergeN D n c (joinOf n c g' off' cap')) m := by
  obtain ⟨hc, hct, hcpar, hcn, hlen, hc0, hnl, hn0, hpar', hpre', hnc⟩ := j.facts hw hn
  have hml : m.word.length = n.word.length - n.plen := by rw [hmn, n.par_len]
  have hmn' : n ≠ m := by rintro rfl; omega
  have hmc' : c ≠ m := by rintro rfl; omega
  have hNn := hall n hn hmn'
  have hNc := hall c hc hmc'
  rintro Y (⟨hY, hYn, hYc⟩ | rfl) hYm
  · have hNY := hall Y hY hYm
    obtain ⟨a, b1, c1, d1, e1, f1⟩ := hNc.blk_ne hNY
    obtain ⟨a', b1', c1', d1', e1', f1'⟩ := hNn.blk_ne hNY
    obtain ⟨a2, b2, c2, d2, e2, f2⟩ := hNY.blk_ne hNn
    have k1 : ¬ (Y.blk = c.blk ∨ Y.blk = n.g) := by rintro (e | e); exact hYc (hw.binj Y c hY hc e); exact c2 e
    have k2 : ¬ (Y.lb = c.blk ∨ Y.lb = n.g) := by rintro (e | e); exact a e.symm; exact d1' e.symm
    have k3 : ¬ (Y.ab = c.blk ∨ Y.ab = n.g) := by rintro (e | e); exact b1 e.symm; exact e1' e.symm
    obtain ⟨K, hK, hi⟩ := hNY.kids
    have hyp : Y.word ≠ n.par := fun e => hYm (hw.winj Y m hY hm (by rw [e, hmn]))
    have hyn : Y.word ≠ n.word := fun e => hYn (hw.winj Y n hY hn e)
    have hbytes : BytesAt w' Y.g Y.off Y.pre ∧ ArrAt w' Y.g (Y.off + Y.cap) := by
      by_cases hg : Y.g = n.g
      · obtain ⟨hcmp, hoff⟩ := hw.alias Y n hY hn hYn hg
        have hplY := hw.plen_le hY
        refine ⟨fun i hi => ?_, by rw [hg]; exact hM.out.arr _ (by rw [← hg]; exact hNY.arr)⟩
        have hold := hNY.bytes i hi
        rw [hg] at hold ⊢
        rw [hM.out.cell _ ?_]; exact hold
        have hYp := Y.pre_len hplY
        have hYl := Y.par_len
        have hnl2 := n.par_len
        -- Y lies above n or below c
        rcases hcmp with hcmp | hcmp
        · -- Y above n
          have hgap := hw.gap n Y hn hY hcmp hyn
          rw [hYl, hnl2] at hoff
          rw [hYp] at hi
          exact .inl (row_up hoff hgap hi hplY)
        · obtain ⟨V, y, hV, hVY, _⟩ := hw.kid_on_path hn _ Y (Nat.le_refl _) hY hcmp (Ne.symm hyn)
          have := j.lone V y hV
          subst this
          have hgap := hw.gap Y V hY hc hVY (fun e => hYc (hw.winj Y V hY hc e.symm))
          rw [hYl, hnl2] at hoff
          exact .inr (row_down hoff hgap hlen hnl)
      · have kg : ¬ (Y.g = c.blk ∨ Y.g = n.g) := by rintro (e | e); exact c1 e.symm; exact hg e
        exact ⟨hNY.bytes.kept hM.kept kg, hNY.arr.kept hM.kept kg⟩
    exact ⟨hM.kept.lt hNY.node k1, hbytes.1, hbytes.2, hNY.room, K, kids_kept hK hM.kept k2 k3, fun b k => (hi b k).trans (kid_join j hw hn rfl hyp hyn b k).symm⟩
  · obtain ⟨a, b1, c1, d1, e1, f1⟩ := hNc.blk_ne hNc
    obtain ⟨a', b1', c1', d1', e1', f1'⟩ := hNn.blk_ne hNc
    obtain ⟨K, hK, hi⟩ := hNc.kids
    have k2 : ¬ (c.lb = c.blk ∨ c.lb = n.g) := by rintro (e | e); exact a e.symm; exact d1' e.symm
    have k3 : ¬ (c.ab = c.blk ∨ c.ab = n.g) := by rintro (e | e); exact b1 e.symm; exact e1' e.symm
    refine ⟨?_, ?_, hM.arr, hM.room, K, kids_kept hK hM.kept k2 k3, fun b k => (hi b k).trans (kid_join j hw hn (Y := c) (Y' := joinOf n c g' off' cap') rfl ?_ ?_ b k).symm⟩
    · have := hM.node
      show w'.heap[c.blk]? = _
      rw [this]; show _ = some (Obj.cells #[_, itemV c.item, _, _, _] 73 (0, 0)); rw [hci]; rfl
    · show BytesAt w' g' off' (joinOf n c g' off' cap').pre
      rw [hpre']; exact hM.bytes
    · intro e; have := congrArg List.length e; rw [n.par_len] at this; omega
    · intro e; have := congrArg List.length e; omega

/-- What is known of a node whose children are in disorder. -/
structure Raw (w : World) (X : Node) : Prop where
  node : w.heap[X.blk]? = some (.cells #[.slice (some ⟨X.g, X.off, none⟩) X.plen X.cap, itemV X.item, .int .i64 X.mp, .int .i64 X.mc, .iface (tyOf X.d) (ptrV X.lb)] 73 (0, 0))
  bytes : BytesAt w X.g X.off X.pre
  arr : ArrAt w X.g (X.off + X.cap)
  room : X.plen ≤ X.cap
  kids : ∃ K, KidsAt w X.d X.lb X.ab X.cc K
theorem NodeAt.raw {w : World} {X : Node} (h : NodeAt w t D X) : Raw w X := ⟨h.node, h.bytes, h.arr, h.room, let ⟨K, a, _⟩ := h.kids; ⟨K, a⟩⟩
theorem Raw.ne {w : World} {X Y : Node} (hX : Raw w X) (hY : Raw w Y) : X.blk ≠ Y.lb ∧ X.blk ≠ Y.ab ∧ X.blk ≠ Y.g ∧ X.g ≠ Y.lb ∧ X.g ≠ Y.ab ∧ X.lb ≠ Y.ab := by
  obtain ⟨K, hK⟩ := hY.kids
  obtain ⟨K', hK'⟩ := hX.kids
  obtain ⟨cur, fr, e, _⟩ := hY.arr
  obtain ⟨cur', fr', e', _⟩ := hX.arr
  have h1 := kids_list_type hK (.inl hX.node)
  have h2 := kids_list_type hK (.inr e')
  refine ⟨h1.1, h1.2, ?_, h2.1, h2.2, kids_lb_ab hK' hK⟩
  intro h; rw [← h, hX.node] at e; simp at e

/-- The last node put in order: its list of children is what it should be. -/
theorem relist_mem {w w' : World} {d' : Bool} {lb' ab' : Nat} {K' : UInt8 → Option Nat} (hw : WF t D) (hall : AllBut w t D m) (hm : D m) (hR : Raw w m) (hk : Kept (fun k => k = m.lb ∨ k = m.ab ∨ k = m.blk) w w')
    (hnode : w'.heap[m.blk]? = some (.cells #[.slice (some ⟨m.g, m.off, none⟩) m.plen m.cap, itemV m.item, .int .i64 m.mp, .int .i64 m.mc, .iface (tyOf d') (ptrV lb')] 73 (0, 0)))
    (hK : KidsAt w' d' lb' ab' m.cc K') (hKi : ∀ b c, K' b = some c ↔ ∃ V, Kid t D m b V ∧ V.blk = c)
    (hlb : lb' = m.lb ∨ w.heap.size ≤ lb') (hab : ab' = m.ab ∨ w.heap.size ≤ ab') : TrieAt w' t (swapN D m (relist m d' lb' ab')) := by
  have hsw : WF t (swapN D m (relist m d' lb' ab')) := by
    refine hw.swap hm rfl rfl rfl (fun Y hY hne e => ?_) (fun Y hY hne e => ?_) rfl rfl
    · rcases hlb with e' | e'
      · exact hne (hw.linj Y m hY hm (by rw [e]; exact e'))
      · have := (hall Y hY hne).lts; have e : Y.lb = lb' := e; omega
    · rcases hab with e' | e'
      · exact hne (hw.ainj Y m hY hm (by rw [e]; exact e'))
      · have := (hall Y hY hne).lts; have e : Y.ab = ab' := e; omega
  refine ⟨hsw, ?_⟩
  rintro Y (⟨hY, hne⟩ | rfl)
  · have hNY := hall Y hY hne
    obtain ⟨a, b1, c1, d1, e1, f1⟩ := hR.ne hNY.raw
    obtain ⟨a', b1', c1', d1', e1', f1'⟩ := hNY.raw.ne hR
    have n1 : Y.blk ≠ m.blk := fun e => hne (hw.binj Y m hY hm e)
    have n2 : Y.lb ≠ m.lb := fun e => hne (hw.linj Y m hY hm e)
    have n3 : Y.ab ≠ m.ab := fun e => hne (hw.ainj Y m hY hm e)
    obtain ⟨q1, q2, q3, q4, K2, hK2, hi2⟩ := hNY.kept hk (by rintro (e | e | e); exact a' e; exact b1' e; exact n1 e) (by rintro (e | e | e); exact n2 e; exact f1' e; exact a e.symm)
      (by rintro (e | e | e); exact f1 e.symm; exact n3 e; exact b1 e.symm) (by rintro (e | e | e); exact d1' e; exact e1' e; exact c1 e.symm)
    exact ⟨q1, q2, q3, q4, K2, hK2, fun b c => (hi2 b c).trans (kid_swap (X := m) (A := relist m d' lb' ab') hm rfl rfl rfl (Y := Y) (Y' := Y) rfl b c).symm⟩
  · obtain ⟨a, b1, c1, d1, e1, f1⟩ := hR.ne hR
    have kg : ¬ (m.g = m.lb ∨ m.g = m.ab ∨ m.g = m.blk) := by rintro (e | e | e); exact d1 e; exact e1 e; exact c1 e.symm
    exact ⟨hnode, hR.bytes.kept hk kg, hR.arr.kept hk kg, hR.room, K', hK, fun b c => (hKi b c).trans (kid_swap (X := m) (A := relist m d' lb' ab') hm rfl rfl rfl (Y := m) (Y' := relist m d' lb' ab') rfl b c).symm⟩
end
end Go.Proofs.YtpopiaahdanpeaaGreatDoor
