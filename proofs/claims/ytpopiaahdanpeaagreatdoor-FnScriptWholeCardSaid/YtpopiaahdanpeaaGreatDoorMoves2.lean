/- A node split; a node and its only child made one. No memory here. -/
import Derived.Test.YtpopiaahdanpeaaGreatDoorMoves
namespace Go.Proofs.YtpopiaahdanpeaaGreatDoor
open Go Go.RowKit
set_option linter.unusedVariables false

section
variable {t : Nat} {D : Node → Prop} {X : Node}

theorem Node.mid_take (X : Node) (L : Nat) (hL : L ≤ X.plen) (hp : X.plen ≤ X.word.length) : X.word.take (X.word.length - X.plen + L) = X.par ++ X.pre.take L := by
  have hl : X.par.length = X.word.length - X.plen := X.par_len
  conv => lhs; arg 2; rw [← X.par_pre]
  rw [List.take_append, hl, List.take_of_length_le (by omega), Nat.add_sub_cancel_left]

/-- Whatever goes on from the middle of X's own part goes on from X. -/
theorem WF.ext_of_mid (h : WF t D) (hX : D X) {Y : Node} (hY : D Y) {L : Nat} (hL : L ≤ X.plen) (hpos : X.blk ≠ t → 0 < L) (hp : X.word.take (X.word.length - X.plen + L) <+: Y.word) : X.word <+: Y.word := by
  by_cases hb : X.blk = t
  · exact h.root_prefix hX hb _ Y (Nat.le_refl _) hY
  · obtain ⟨h1, h2, P, hP, hPw⟩ := h.up X hX hb
    have hL0 := hpos hb
    rw [X.mid_take L hL h2] at hp
    have hPY : P.word <+: Y.word := by rw [hPw]; exact (List.prefix_append _ _).trans hp
    have hpl := X.pre_len h2
    have hb0 : X.pre[0]? = some (X.pre[0]'(by omega)) := List.getElem?_eq_getElem _
    have hYb : Y.word[P.word.length]? = X.pre[0]? := by
      obtain ⟨s, hs⟩ := hp
      rw [← hs, hPw, List.append_assoc, List.getElem?_append_right (Nat.le_refl _), Nat.sub_self, List.getElem?_append_left (by simp; omega), List.getElem?_take, if_pos hL0]
    have hne : P.word ≠ Y.word := by intro e; rw [e, List.getElem?_eq_none (Nat.le_refl _), hb0] at hYb; cases hYb
    obtain ⟨V, b', hV, hVY, hb'⟩ := h.kid_on_path hP _ Y (Nat.le_refl _) hY hPY hne
    rw [hYb] at hb'
    have : V = X := h.kid_unique hV ⟨hX, hb, hPw.symm, hb'⟩
    subst this; exact hVY

/-- The two halves of a node. -/
structure Halves (t : Nat) (D : Node → Prop) (X m X2 : Node) (L : Nat) : Prop where
  lt : L < X.plen
  pos : X.blk ≠ t → 0 < L
  mw : m.word = X.word.take (X.word.length - X.plen + L)
  mp : m.plen = L
  mb : m.blk = X.blk
  ml : ∀ Y, D Y → Y.lb ≠ m.lb
  ma : ∀ Y, D Y → Y.ab ≠ m.ab
  mg : m.g = X.g
  mo : m.off = X.off
  xw : X2.word = X.word
  xp : X2.plen = X.plen - L
  xb : ∀ Y, D Y → Y.blk ≠ X2.blk
  xt : X2.blk ≠ t
  xl : X2.lb = X.lb
  xa : X2.ab = X.ab
  xg : X2.g = X.g
  xo : X2.off = X.off + L

theorem Halves.facts {m X2 : Node} {L : Nat} (s : Halves t D X m X2 L) (h : WF t D) (hX : D X) :
    X.plen ≤ X.word.length ∧ m.word.length = X.word.length - X.plen + L ∧ m.par = X.par ∧ X2.par = m.word ∧ m.word <+: X.word ∧ m.pre = X.pre.take L ∧ X2.pre = X.pre.drop L := by
  have hpl := h.plen_le hX
  have hml : m.word.length = X.word.length - X.plen + L := by rw [s.mw, List.length_take]; have := s.lt; omega
  refine ⟨hpl, hml, ?_, ?_, by rw [s.mw]; exact List.take_prefix _ _, ?_, ?_⟩
  · unfold Node.par
    rw [hml, s.mp, s.mw, List.take_take]; congr 1; have := s.lt; omega
  · unfold Node.par
    rw [s.xw, s.xp, s.mw]; congr 1; have := s.lt; omega
  · unfold Node.pre
    rw [hml, s.mp, s.mw, List.drop_take]; congr 1; omega; congr 1; omega
  · unfold Node.pre
    rw [s.xw, s.xp, List.drop_drop]; congr 1; have := s.lt; omega

/-- A node split into two. -/
def splitN (D : Node → Prop) (X m X2 : Node) : Node → Prop := addN (swapN D X m) X2

theorem WF.split (h : WF t D) (hX : D X) {m X2 : Node} {L : Nat} (s : Halves t D X m X2 L) : WF t (splitN D X m X2) := by
  obtain ⟨hpl, hml, hmpar, hxpar, hmx, hmpre, hxpre⟩ := s.facts h hX
  have hlt := s.lt
  have hxw := s.xw
  -- no old node lies at the middle
  have hmid : ∀ Y, D Y → Y.word = m.word → False := by
    intro Y hY e
    have := h.ext_of_mid hX hY (Nat.le_of_lt hlt) s.pos (by rw [e, s.mw]; exact List.prefix_rfl)
    have := this.length_le
    rw [e, hml] at this; omega
  have hup : ∀ Y, D Y → m.word <+: Y.word → X.word <+: Y.word := fun Y hY hp => h.ext_of_mid hX hY (Nat.le_of_lt hlt) s.pos (by rw [← s.mw]; exact hp)
  refine ⟨?_, ?_, ?_, ?_, ?_, ?_, ?_, ?_, ?_⟩
  · obtain ⟨R, hR, h1, h2⟩ := h.root
    by_cases e : R = X
    · subst e
      refine ⟨m, .inl (.inr rfl), by rw [s.mb, h1], ?_⟩
      rw [s.mp, hml]; omega
    · exact ⟨R, .inl (.inl ⟨hR, e⟩), h1, h2⟩
  · rintro Y ((⟨hY, hYX⟩ | rfl) | rfl) hne
    · obtain ⟨a, b, P, hP, c⟩ := h.up Y hY hne
      refine ⟨a, b, ?_⟩
      by_cases e : P = X
      · subst e; exact ⟨X2, .inr rfl, by rw [hxw, c]⟩
      · exact ⟨P, .inl (.inl ⟨hP, e⟩), c⟩
    · rw [s.mb] at hne
      obtain ⟨a, b, P, hP, c⟩ := h.up X hX hne
      refine ⟨by rw [s.mp]; exact s.pos hne, by rw [s.mp, hml]; omega, P, .inl (.inl ⟨hP, ?_⟩), by rw [hmpar, c]⟩
      rintro rfl
      have := congrArg List.length c
      rw [Node.par_len] at this; omega
    · exact ⟨by rw [s.xp]; omega, by rw [s.xp, hxw]; omega, m, .inl (.inr rfl), hxpar.symm⟩
  · rintro Y Z ((⟨hY, hYX⟩ | rfl) | rfl) ((⟨hZ, hZX⟩ | rfl) | rfl) hp hne
    · exact h.gap Y Z hY hZ hp hne
    · -- Z = m, Y old
      have hXY := hup Y hY hp
      have hne2 : X.word ≠ Y.word := fun e => hYX (h.winj Y X hY hX e.symm)
      have := h.gap Y X hY hX hXY hne2
      omega
    · rw [hxw] at hp hne ⊢; exact h.gap Y X hY hX hp hne
    · -- Y = m, Z old
      have hne2 : Z.word ≠ X.word := fun e => hZX (h.winj Z X hZ hX e)
      have := h.gap X Z hX hZ (hp.trans hmx) hne2
      rw [hml, s.mp]; omega
    · exact (hne rfl).elim
    · have := hp.length_le; rw [hxw, hml] at this; omega
    · -- Y = X2, Z old
      rw [hxw] at hp hne ⊢
      have := h.gap X Z hX hZ hp hne
      rw [s.xp]; omega
    · rw [hxw, s.xp, hml]; omega
    · exact (hne rfl).elim
  · rintro Y Z ((⟨hY, hYX⟩ | rfl) | rfl) ((⟨hZ, hZX⟩ | rfl) | rfl) n1 n2 p1 p2
    · exact h.sib Y Z hY hZ n1 n2 p1 p2
    · rw [s.mb] at n2
      have h0 := s.pos n2
      rw [hmpar] at p1
      rw [hmpre, List.getElem?_take, if_pos h0] at p2
      exact (hYX (h.sib Y X hY hX n1 n2 p1 p2)).elim
    · rw [hxpar] at p1
      obtain ⟨_, _, P, hP, c⟩ := h.up Y hY n1
      exact (hmid P hP (by rw [c, p1])).elim
    · rw [s.mb] at n1
      have h0 := s.pos n1
      rw [hmpar] at p1
      rw [hmpre, List.getElem?_take, if_pos h0] at p2
      exact (hZX (h.sib Z X hZ hX n2 n1 p1.symm p2.symm)).elim
    · rfl
    · rw [s.mb] at n1
      have h0 := s.pos n1
      rw [hmpar, hxpar] at p1
      have := congrArg List.length p1
      rw [X.par_len, hml] at this; omega
    · rw [hxpar] at p1
      obtain ⟨_, _, P, hP, c⟩ := h.up Z hZ n2
      exact (hmid P hP (by rw [c, p1])).elim
    · rw [s.mb] at n2
      have h0 := s.pos n2
      rw [hmpar, hxpar] at p1
      have := congrArg List.length p1
      rw [X.par_len, hml] at this; omega
    · rfl
  · rintro Y Z ((⟨hY, hYX⟩ | rfl) | rfl) ((⟨hZ, hZX⟩ | rfl) | rfl) e
    · exact h.winj Y Z hY hZ e
    · exact (hmid Y hY e).elim
    · exact (hYX (h.winj Y X hY hX (by rw [e, hxw]))).elim
    · exact (hmid Z hZ e.symm).elim
    · rfl
    · have := congrArg List.length e; rw [hxw, hml] at this; omega
    · exact (hZX (h.winj Z X hZ hX (by rw [← e, hxw]))).elim
    · have := congrArg List.length e; rw [hxw, hml] at this; omega
    · rfl
  · rintro Y Z ((⟨hY, hYX⟩ | rfl) | rfl) ((⟨hZ, hZX⟩ | rfl) | rfl) e
    · exact h.binj Y Z hY hZ e
    · exact (hYX (h.binj Y X hY hX (by rw [e, s.mb]))).elim
    · exact (s.xb Y hY e).elim
    · exact (hZX (h.binj Z X hZ hX (by rw [← e, s.mb]))).elim
    · rfl
    · exact (s.xb X hX (by rw [← s.mb, e])).elim
    · exact (s.xb Z hZ e.symm).elim
    · exact (s.xb X hX (by rw [← s.mb, e])).elim
    · rfl
  · rintro Y Z ((⟨hY, hYX⟩ | rfl) | rfl) ((⟨hZ, hZX⟩ | rfl) | rfl) e
    · exact h.linj Y Z hY hZ e
    · exact (s.ml Y hY e).elim
    · exact (hYX (h.linj Y X hY hX (by rw [e, s.xl]))).elim
    · exact (s.ml Z hZ e.symm).elim
    · rfl
    · exact (s.ml X hX (by rw [← s.xl, e])).elim
    · exact (hZX (h.linj Z X hZ hX (by rw [← e, s.xl]))).elim
    · exact (s.ml X hX (by rw [← s.xl, e])).elim
    · rfl
  · rintro Y Z ((⟨hY, hYX⟩ | rfl) | rfl) ((⟨hZ, hZX⟩ | rfl) | rfl) e
    · exact h.ainj Y Z hY hZ e
    · exact (s.ma Y hY e).elim
    · exact (hYX (h.ainj Y X hY hX (by rw [e, s.xa]))).elim
    · exact (s.ma Z hZ e.symm).elim
    · rfl
    · exact (s.ma X hX (by rw [← s.xa, e])).elim
    · exact (hZX (h.ainj Z X hZ hX (by rw [← e, s.xa]))).elim
    · exact (s.ma X hX (by rw [← s.xa, e])).elim
    · rfl
  · have hcm : ∀ Y, D Y → Y ≠ X → Y.g = X.g → (Y.word <+: m.word ∨ m.word <+: Y.word) ∧ Y.off + X.par.length = X.off + Y.par.length ∧ (Y.word <+: X.word ∨ X.word <+: Y.word) := by
      intro Y hY hne e
      obtain ⟨hc, ho⟩ := h.alias Y X hY hX hne e
      refine ⟨?_, ho, hc⟩
      rcases hc with hc | hc
      · rcases Nat.le_total Y.word.length m.word.length with hl | hl
        · exact .inl (List.prefix_of_prefix_length_le hc hmx hl)
        · exact .inr (List.prefix_of_prefix_length_le hmx hc hl)
      · exact .inr (hmx.trans hc)
    have hxl : m.word.length = X.par.length + L := by rw [hml, X.par_len]
    rintro Y Z ((⟨hY, hYX⟩ | rfl) | rfl) ((⟨hZ, hZX⟩ | rfl) | rfl) hne e
    · exact h.alias Y Z hY hZ hne e
    · obtain ⟨a, b, _⟩ := hcm Y hY hYX (by rw [e, s.mg])
      exact ⟨a, by rw [hmpar, s.mo]; exact b⟩
    · obtain ⟨_, b, a⟩ := hcm Y hY hYX (by rw [e, s.xg])
      exact ⟨by rw [hxw]; exact a, by rw [hxpar, s.xo, hxl]; omega⟩
    · obtain ⟨a, b, _⟩ := hcm Z hZ hZX (by rw [← e, s.mg])
      exact ⟨a.symm, by rw [hmpar, s.mo]; exact b.symm⟩
    · exact (hne rfl).elim
    · exact ⟨.inl (by rw [hxw]; exact hmx), by rw [hxpar, hmpar, s.mo, s.xo, hxl]; omega⟩
    · obtain ⟨_, b, a⟩ := hcm Z hZ hZX (by rw [← e, s.xg])
      exact ⟨by rw [hxw]; exact a.symm, by rw [hxpar, s.xo, hxl]; omega⟩
    · exact ⟨.inr (by rw [hxw]; exact hmx), by rw [hxpar, hmpar, s.mo, s.xo, hxl]; omega⟩
    · exact (hne rfl).elim

/-- A node and its only child made one, in the child's block. -/
structure Joined (t : Nat) (D : Node → Prop) (n c c' : Node) : Prop where
  nt : n.blk ≠ t
  kid : ∃ b, Kid t D n b c
  lone : ∀ V b, Kid t D n b V → V = c
  cw : c'.word = c.word
  cp : c'.plen = n.plen + c.plen
  cb : c'.blk = c.blk
  cl : c'.lb = c.lb
  ca : c'.ab = c.ab
  cg : (c'.g = n.g ∧ c'.off = n.off) ∨ ∀ Y, D Y → Y.g ≠ c'.g

theorem Joined.facts {n c c' : Node} (j : Joined t D n c c') (h : WF t D) (hn : D n) : D c ∧ c.blk ≠ t ∧ c.par = n.word ∧ c ≠ n ∧ n.word.length + c.plen = c.word.length ∧ 0 < c.plen ∧ n.plen ≤ n.word.length ∧ 0 < n.plen ∧
    c'.par = n.par ∧ c'.pre = n.pre ++ c.pre ∧ n.word <+: c.word := by
  obtain ⟨b, hk⟩ := j.kid
  obtain ⟨h1, h2, _⟩ := h.up c hk.1 hk.2.1
  obtain ⟨n1, n2, _⟩ := h.up n hn j.nt
  have hl : n.word.length + c.plen = c.word.length := by rw [← hk.2.2.1, c.par_len]; omega
  have hnp : n.word <+: c.word := by rw [← hk.2.2.1]; exact c.par_prefix
  have hcw : c.word = n.word ++ c.pre := by rw [← hk.2.2.1, c.par_pre]
  have hcpl := c.pre_len h2
  refine ⟨hk.1, hk.2.1, hk.2.2.1, ?_, hl, h1, n2, n1, ?_, ?_, hnp⟩
  · rintro rfl; omega
  · unfold Node.par
    rw [j.cw, j.cp, hcw, List.take_append_of_le_length (by simp; omega)]; congr 1; simp; omega
  · show c'.word.drop (c'.word.length - c'.plen) = n.word.drop (n.word.length - n.plen) ++ c.pre
    rw [j.cw, j.cp, hcw, show (n.word ++ c.pre).length - (n.plen + c.plen) = n.word.length - n.plen by simp; omega, List.drop_append_of_le_length (by omega)]

theorem WF.join (h : WF t D) {n c c' : Node} (hn : D n) (j : Joined t D n c c') : WF t (mergeN D n c c') := by
  obtain ⟨hc, hct, hcpar, hcn, hlen, hc0, hnl, hn0, hpar', hpre', hnc⟩ := j.facts h hn
  have hnt := j.nt
  have hcw := j.cw
  have hn1 : n.pre.length = n.plen := n.pre_len hnl
  have hp0 : c'.pre[0]? = n.pre[0]? := by rw [hpre', List.getElem?_append_left (by omega)]
  refine ⟨?_, ?_, ?_, ?_, ?_, ?_, ?_, ?_, ?_⟩
  · obtain ⟨R, hR, h1, h2⟩ := h.root
    exact ⟨R, .inl ⟨hR, fun e => hnt (by rw [← e, h1]), fun e => hct (by rw [← e, h1])⟩, h1, h2⟩
  · rintro Y (⟨hY, hYn, hYc⟩ | rfl) hne
    · obtain ⟨a, b, P, hP, e⟩ := h.up Y hY hne
      refine ⟨a, b, ?_⟩
      by_cases e1 : P = n
      · subst e1
        obtain ⟨y, hy⟩ : ∃ y, Y.pre[0]? = some y := ⟨Y.pre[0]'(by rw [Y.pre_len b]; exact a), by rw [List.getElem?_eq_getElem]⟩
        exact (hYc (j.lone Y y ⟨hY, hne, e.symm, hy⟩)).elim
      · by_cases e2 : P = c
        · subst e2; exact ⟨c', .inr rfl, by rw [hcw, e]⟩
        · exact ⟨P, .inl ⟨hP, e1, e2⟩, e⟩
    · obtain ⟨a, b, P, hP, e⟩ := h.up n hn hnt
      have hPl : P.word.length = n.word.length - n.plen := by rw [e, n.par_len]
      refine ⟨by rw [j.cp]; omega, by rw [j.cp, hcw]; omega, P, .inl ⟨hP, ?_, ?_⟩, by rw [hpar', e]⟩
      · rintro rfl; omega
      · rintro rfl; omega
  · rintro Y Z (⟨hY, hYn, hYc⟩ | rfl) (⟨hZ, hZn, hZc⟩ | rfl) hp hne
    · exact h.gap Y Z hY hZ hp hne
    · rw [hcw] at hp hne ⊢; exact h.gap Y c hY hc hp hne
    · rw [hcw] at hp hne ⊢
      have h1 := h.gap c Z hc hZ hp hne
      have hZn' : Z.word <+: n.word := List.prefix_of_prefix_length_le hp hnc (by omega)
      have h2 := h.gap n Z hn hZ hZn' (fun e => hZn (h.winj Z n hZ hn e))
      rw [j.cp]; omega
    · exact (hne rfl).elim
  · rintro Y Z (⟨hY, hYn, hYc⟩ | rfl) (⟨hZ, hZn, hZc⟩ | rfl) n1 n2 p1 p2
    · exact h.sib Y Z hY hZ n1 n2 p1 p2
    · exact (hYn (h.sib Y n hY hn n1 hnt (by rw [p1, hpar']) (by rw [p2, hp0]))).elim
    · exact (hZn (h.sib Z n hZ hn n2 hnt (by rw [← p1, hpar']) (by rw [← p2, hp0]))).elim
    · rfl
  · rintro Y Z (⟨hY, hYn, hYc⟩ | rfl) (⟨hZ, hZn, hZc⟩ | rfl) e
    · exact h.winj Y Z hY hZ e
    · exact (hYc (h.winj Y c hY hc (by rw [e, hcw]))).elim
    · exact (hZc (h.winj Z c hZ hc (by rw [← e, hcw]))).elim
    · rfl
  · rintro Y Z (⟨hY, hYn, hYc⟩ | rfl) (⟨hZ, hZn, hZc⟩ | rfl) e
    · exact h.binj Y Z hY hZ e
    · exact (hYc (h.binj Y c hY hc (by rw [e, j.cb]))).elim
    · exact (hZc (h.binj Z c hZ hc (by rw [← e, j.cb]))).elim
    · rfl
  · rintro Y Z (⟨hY, hYn, hYc⟩ | rfl) (⟨hZ, hZn, hZc⟩ | rfl) e
    · exact h.linj Y Z hY hZ e
    · exact (hYc (h.linj Y c hY hc (by rw [e, j.cl]))).elim
    · exact (hZc (h.linj Z c hZ hc (by rw [← e, j.cl]))).elim
    · rfl
  · rintro Y Z (⟨hY, hYn, hYc⟩ | rfl) (⟨hZ, hZn, hZc⟩ | rfl) e
    · exact h.ainj Y Z hY hZ e
    · exact (hYc (h.ainj Y c hY hc (by rw [e, j.ca]))).elim
    · exact (hZc (h.ainj Z c hZ hc (by rw [← e, j.ca]))).elim
    · rfl
  · have hal : ∀ Y, D Y → Y ≠ n → Y ≠ c → Y.g = c'.g → (Y.word <+: c.word ∨ c.word <+: Y.word) ∧ Y.off + n.par.length = c'.off + Y.par.length := by
      intro Y hY hYn hYc e
      rcases j.cg with ⟨g1, g2⟩ | g1
      · obtain ⟨a, b⟩ := h.alias Y n hY hn hYn (by rw [e, g1])
        refine ⟨?_, by rw [g2]; exact b⟩
        rcases a with a | a
        · exact .inl (a.trans hnc)
        · obtain ⟨V, y, hV, hVY, _⟩ := h.kid_on_path hn _ Y (Nat.le_refl _) hY a (fun e => hYn (h.winj Y n hY hn e.symm))
          have := j.lone V y hV
          subst this; exact .inr hVY
      · exact (g1 Y hY e).elim
    rintro Y Z (⟨hY, hYn, hYc⟩ | rfl) (⟨hZ, hZn, hZc⟩ | rfl) hne e
    · exact h.alias Y Z hY hZ hne e
    · obtain ⟨a, b⟩ := hal Y hY hYn hYc e
      exact ⟨by rw [hcw]; exact a, by rw [hpar']; exact b⟩
    · obtain ⟨a, b⟩ := hal Z hZ hZn hZc e.symm
      exact ⟨by rw [hcw]; exact a.symm, by rw [hpar']; exact b.symm⟩
    · exact (hne rfl).elim
end
end Go.Proofs.YtpopiaahdanpeaaGreatDoor
