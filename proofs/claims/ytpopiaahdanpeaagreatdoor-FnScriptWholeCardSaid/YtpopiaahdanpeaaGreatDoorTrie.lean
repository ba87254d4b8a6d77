/- What a trie is: a set of nodes, each with the whole word that leads to it; how it lies in memory; the way down along a key. -/
import Derived.Test.YtpopiaahdanpeaaGreatDoorKids
namespace Go.Proofs.YtpopiaahdanpeaaGreatDoor
open Go Go.RowKit
set_option linter.unusedVariables false

/-- A node: the word that leads to it (its own part included), the length of its own part, its item, where it lies. -/
structure Node where
  word : List UInt8
  plen : Nat
  item : Option Int
  blk : Nat
  lb : Nat
  ab : Nat
  cc : Nat
  d : Bool
  g : Nat
  off : Nat
  cap : Nat
  mp : Int
  mc : Int

def Node.par (X : Node) : List UInt8 := X.word.take (X.word.length - X.plen)
def Node.pre (X : Node) : List UInt8 := X.word.drop (X.word.length - X.plen)
theorem Node.par_pre (X : Node) : X.par ++ X.pre = X.word := List.take_append_drop _ _
theorem Node.par_prefix (X : Node) : X.par <+: X.word := List.take_prefix _ _
theorem Node.par_len (X : Node) : X.par.length = X.word.length - X.plen := by simp [Node.par]
theorem Node.pre_len (X : Node) (h : X.plen ≤ X.word.length) : X.pre.length = X.plen := by simp [Node.pre]; omega

/-- V is the child of X that begins with b (t: the root's block). -/
def Kid (t : Nat) (D : Node → Prop) (X : Node) (b : UInt8) (V : Node) : Prop := D V ∧ V.blk ≠ t ∧ V.par = X.word ∧ V.pre[0]? = some b

/-- The nodes are a trie. -/
structure WF (t : Nat) (D : Node → Prop) : Prop where
  root : ∃ R, D R ∧ R.blk = t ∧ R.plen = R.word.length
  up : ∀ X, D X → X.blk ≠ t → 0 < X.plen ∧ X.plen ≤ X.word.length ∧ ∃ P, D P ∧ P.word = X.par
  gap : ∀ X Y, D X → D Y → Y.word <+: X.word → Y.word ≠ X.word → Y.word.length + X.plen ≤ X.word.length
  sib : ∀ X Y, D X → D Y → X.blk ≠ t → Y.blk ≠ t → X.par = Y.par → X.pre[0]? = Y.pre[0]? → X = Y
  winj : ∀ X Y, D X → D Y → X.word = Y.word → X = Y
  binj : ∀ X Y, D X → D Y → X.blk = Y.blk → X = Y
  linj : ∀ X Y, D X → D Y → X.lb = Y.lb → X = Y
  ainj : ∀ X Y, D X → D Y → X.ab = Y.ab → X = Y
  alias : ∀ X Y, D X → D Y → X ≠ Y → X.g = Y.g → (X.word <+: Y.word ∨ Y.word <+: X.word) ∧ X.off + Y.par.length = Y.off + X.par.length

section
variable {t : Nat} {D : Node → Prop}

theorem WF.plen_le (h : WF t D) {X : Node} (hX : D X) : X.plen ≤ X.word.length := by
  by_cases hb : X.blk = t
  · obtain ⟨R, hR, e, l⟩ := h.root
    have := h.binj X R hX hR (by rw [hb, e])
    subst this; omega
  · exact (h.up X hX hb).2.1
theorem WF.root_plen (h : WF t D) {X : Node} (hX : D X) (hb : X.blk = t) : X.plen = X.word.length := by
  obtain ⟨R, hR, e, l⟩ := h.root
  have := h.binj X R hX hR (by rw [hb, e])
  subst this; exact l
theorem WF.root_par (h : WF t D) {X : Node} (hX : D X) (hb : X.blk = t) : X.par = [] := by
  simp [Node.par, h.root_plen hX hb]
theorem WF.root_pre (h : WF t D) {X : Node} (hX : D X) (hb : X.blk = t) : X.pre = X.word := by
  simp [Node.pre, h.root_plen hX hb]

/-- Between a node and a node further down lies a child of the first. -/
theorem WF.kid_on_path (h : WF t D) {W : Node} (hW : D W) : ∀ n, ∀ X, X.word.length ≤ n → D X → W.word <+: X.word → W.word ≠ X.word → ∃ V b, Kid t D W b V ∧ V.word <+: X.word ∧ X.word[W.word.length]? = some b := by
  intro n
  induction n with
  | zero =>
    intro X hl hX hp hne
    exfalso; apply hne
    have h0 : X.word = [] := List.eq_nil_of_length_eq_zero (by omega)
    rw [h0] at hp ⊢
    exact List.prefix_nil.1 hp
  | succ n ih =>
    intro X hl hX hp hne
    have hgap := h.gap X W hX hW hp hne
    by_cases hb : X.blk = t
    · exfalso
      have hpl := h.root_plen hX hb
      have hw0 : W.word.length = 0 := by omega
      by_cases hwt : W.blk = t
      · exact hne (by rw [h.binj W X hW hX (by rw [hwt, hb])])
      · have := h.up W hW hwt; omega
    · obtain ⟨h1, h2, P, hP, hPw⟩ := h.up X hX hb
      have hPl : P.word.length = X.word.length - X.plen := by rw [hPw, X.par_len]
      have hPp : P.word <+: X.word := by rw [hPw]; exact X.par_prefix
      have hWP : W.word <+: P.word := List.prefix_of_prefix_length_le hp hPp (by omega)
      by_cases e : W.word = P.word
      · have hpl : X.pre.length = X.plen := X.pre_len h2
        refine ⟨X, X.pre[0]'(by omega), ⟨hX, hb, by rw [e, hPw], by rw [List.getElem?_eq_getElem]⟩, List.prefix_rfl, ?_⟩
        have hlen : W.word.length = X.par.length := by rw [e, hPw]
        rw [hlen]
        conv => lhs; rw [← X.par_pre]
        rw [List.getElem?_append_right (Nat.le_refl _), Nat.sub_self, List.getElem?_eq_getElem]
      · obtain ⟨V, b, hk, hv, hbb⟩ := ih P (by omega) hP hWP e
        refine ⟨V, b, hk, hv.trans hPp, ?_⟩
        obtain ⟨s, hs⟩ := hPp
        have hlt : W.word.length < P.word.length := by
          rcases Nat.lt_or_ge W.word.length P.word.length with h' | h'
          · exact h'
          · exact (e (hWP.eq_of_length (by have := hWP.length_le; omega))).elim
        rw [← hs, List.getElem?_append_left hlt]; exact hbb

/-- All words begin with the root's. -/
theorem WF.root_prefix (h : WF t D) {R : Node} (hR : D R) (hRt : R.blk = t) : ∀ n, ∀ X, X.word.length ≤ n → D X → R.word <+: X.word := by
  intro n
  induction n with
  | zero =>
    intro X hl hX
    by_cases hb : X.blk = t
    · rw [h.binj X R hX hR (by rw [hb, hRt])]; exact List.prefix_rfl
    · have := h.up X hX hb; omega
  | succ n ih =>
    intro X hl hX
    by_cases hb : X.blk = t
    · rw [h.binj X R hX hR (by rw [hb, hRt])]; exact List.prefix_rfl
    · obtain ⟨h1, h2, P, hP, hPw⟩ := h.up X hX hb
      have hPl : P.word.length = X.word.length - X.plen := by rw [hPw, X.par_len]
      exact (ih P (by omega) hP).trans (by rw [hPw]; exact X.par_prefix)

theorem WF.kid_unique (h : WF t D) {X V V' : Node} {b : UInt8} (hk : Kid t D X b V) (hk' : Kid t D X b V') : V = V' :=
  h.sib V V' hk.1 hk'.1 hk.2.1 hk'.2.1 (by rw [hk.2.2.1, hk'.2.2.1]) (by rw [hk.2.2.2, hk'.2.2.2])
end

theorem lcp_le_left : ∀ a b : List UInt8, lcp a b ≤ a.length
  | [], _ => by simp [lcp]
  | a :: r, [] => by simp [lcp]
  | a :: r, b :: s => by simp only [lcp]; split; have := lcp_le_left r s; simp; omega; omega
theorem lcp_le_right : ∀ a b : List UInt8, lcp a b ≤ b.length
  | [], _ => by simp [lcp]
  | a :: r, [] => by simp [lcp]
  | a :: r, b :: s => by simp only [lcp]; split; have := lcp_le_right r s; simp; omega; omega
theorem lcp_take : ∀ a b : List UInt8, a.take (lcp a b) = b.take (lcp a b)
  | [], _ => by simp [lcp]
  | a :: r, [] => by simp [lcp]
  | a :: r, b :: s => by
    simp only [lcp]; split
    · rename_i e; subst e; simp [lcp_take r s]
    · simp
theorem lcp_differ : ∀ a b : List UInt8, lcp a b < a.length → lcp a b < b.length → a[lcp a b]? ≠ b[lcp a b]?
  | [], _, h, _ => by simp [lcp] at h
  | a :: r, [], _, h => by simp [lcp] at h
  | a :: r, b :: s, h1, h2 => by
    by_cases e : a = b
    · subst e
      have hl : lcp (a :: r) (a :: s) = lcp r s + 1 := by simp [lcp]
      rw [hl] at h1 h2 ⊢
      simp only [List.getElem?_cons_succ]
      exact lcp_differ r s (by simpa using h1) (by simpa using h2)
    · simp only [lcp, if_neg e]; simp [e]
/-- If b begins with a. -/
theorem lcp_prefix {a b : List UInt8} (h : lcp a b = a.length) : a <+: b := by
  have := lcp_take a b
  rw [h, List.take_length] at this
  rw [this]; exact List.take_prefix _ _
theorem lcp_prefix' {a b : List UInt8} (h : lcp a b = b.length) : b <+: a := by
  have := lcp_take a b
  rw [h, List.take_length] at this
  rw [← this]; exact List.take_prefix _ _

/-- The way down along a key has come to the node X; rest is what is left of the key at the beginning of X's own part. -/
structure Down (t : Nat) (D : Node → Prop) (key : List UInt8) (X : Node) (rest : List UInt8) : Prop where
  mem : D X
  eq : key = X.par ++ rest
  first : X.blk ≠ t → ∃ b, rest[0]? = some b ∧ X.pre[0]? = some b

section
variable {t : Nat} {D : Node → Prop} {key rest : List UInt8} {X : Node}

theorem Down.start (h : WF t D) {R : Node} (hR : D R) (hb : R.blk = t) (key : List UInt8) : Down t D key R key :=
  ⟨hR, by rw [h.root_par hR hb]; rfl, fun hn => (hn hb).elim⟩

theorem Down.next (hd : Down t D key X rest) (hc : lcp rest X.pre = X.pre.length) {b : UInt8} (hb : (rest.drop X.pre.length)[0]? = some b) {V : Node} (hk : Kid t D X b V) :
    Down t D key V (rest.drop X.pre.length) := by
  refine ⟨hk.1, ?_, fun _ => ⟨b, hb, hk.2.2.2⟩⟩
  rw [hk.2.2.1, hd.eq]
  have h1 : rest = X.pre ++ rest.drop X.pre.length := by
    obtain ⟨s, hs⟩ := lcp_prefix' hc
    rw [← hs]; simp
  conv => lhs; rw [h1]
  rw [← List.append_assoc, X.par_pre]

/-- Whatever goes on from the key goes on from X. -/
theorem Down.ext (h : WF t D) (hd : Down t D key X rest) {Y : Node} (hY : D Y) (hk : key <+: Y.word) : X.word <+: Y.word := by
  by_cases hb : X.blk = t
  · exact h.root_prefix hd.mem hb _ Y (Nat.le_refl _) hY
  · obtain ⟨h1, h2, P, hP, hPw⟩ := h.up X hd.mem hb
    obtain ⟨b, hr, hx⟩ := hd.first hb
    have hPk : P.word <+: key := by rw [hPw, hd.eq]; exact List.prefix_append _ _
    have hPY := hPk.trans hk
    have hkey : key[P.word.length]? = some b := by
      rw [hd.eq, List.getElem?_append_right (by rw [hPw]; exact Nat.le_refl _), hPw, Nat.sub_self]; exact hr
    have hYb : Y.word[P.word.length]? = some b := by
      obtain ⟨s, hs⟩ := hk
      have hlt : P.word.length < key.length := by
        rcases Nat.lt_or_ge P.word.length key.length with h' | h'
        · exact h'
        · rw [List.getElem?_eq_none h'] at hkey; cases hkey
      rw [← hs, List.getElem?_append_left hlt]; exact hkey
    have hne : P.word ≠ Y.word := by
      intro e; rw [e, List.getElem?_eq_none (Nat.le_refl _)] at hYb; cases hYb
    obtain ⟨V, b', hV, hVY, hb'⟩ := h.kid_on_path hP _ Y (Nat.le_refl _) hY hPY hne
    rw [hYb] at hb'
    cases hb'
    have : V = X := h.kid_unique hV ⟨hd.mem, hb, hPw.symm, hx⟩
    subst this; exact hVY

theorem Down.found (hd : Down t D key X rest) (hc : lcp rest X.pre = rest.length) : key <+: X.word := by
  rw [hd.eq, ← X.par_pre]
  obtain ⟨s, hs⟩ := lcp_prefix hc
  exact ⟨s, by rw [List.append_assoc, hs]⟩

/-- The key parts from X's own part: nothing goes on from it. -/
theorem Down.parts (h : WF t D) (hd : Down t D key X rest) (h1 : lcp rest X.pre < rest.length) (h2 : lcp rest X.pre < X.pre.length) : ¬ ∃ Y, D Y ∧ key <+: Y.word := by
  rintro ⟨Y, hY, hk⟩
  have hx := hd.ext h hY hk
  apply lcp_differ rest X.pre h1 h2
  obtain ⟨s, hs⟩ := hk
  obtain ⟨u, hu⟩ := hx
  have e1 : Y.word[X.par.length + lcp rest X.pre]? = rest[lcp rest X.pre]? := by
    rw [← hs, hd.eq, List.getElem?_append_left (by simp; omega), List.getElem?_append_right (by omega)]
    congr 1; omega
  have e2 : Y.word[X.par.length + lcp rest X.pre]? = X.pre[lcp rest X.pre]? := by
    rw [← hu]
    conv => lhs; rw [← X.par_pre]
    rw [List.getElem?_append_left (by simp; omega), List.getElem?_append_right (by omega)]
    congr 1; omega
  rw [← e1, e2]

/-- X has no child for the key's next byte: nothing goes on from it. -/
theorem Down.ends (h : WF t D) (hd : Down t D key X rest) (hc : lcp rest X.pre = X.pre.length) {b : UInt8} (hb : (rest.drop X.pre.length)[0]? = some b) (hk : ¬ ∃ V, Kid t D X b V) : ¬ ∃ Y, D Y ∧ key <+: Y.word := by
  rintro ⟨Y, hY, hkey⟩
  have hx := hd.ext h hY hkey
  have hkw : key = X.word ++ rest.drop X.pre.length := by
    rw [hd.eq]
    have h1 : rest = X.pre ++ rest.drop X.pre.length := by
      obtain ⟨s, hs⟩ := lcp_prefix' hc
      rw [← hs]; simp
    conv => lhs; rw [h1]
    rw [← List.append_assoc, X.par_pre]
  have hYb : Y.word[X.word.length]? = some b := by
    obtain ⟨s, hs⟩ := hkey
    rw [← hs, hkw, List.append_assoc, List.getElem?_append_right (Nat.le_refl _), Nat.sub_self]
    have hlt : 0 < (rest.drop X.pre.length).length := by
      rcases Nat.eq_zero_or_pos (rest.drop X.pre.length).length with h0 | h0
      · rw [List.getElem?_eq_none (by omega)] at hb; cases hb
      · exact h0
    rw [List.getElem?_append_left hlt]; exact hb
  have hne : X.word ≠ Y.word := by
    intro e; rw [e, List.getElem?_eq_none (Nat.le_refl _)] at hYb; cases hYb
  obtain ⟨V, b', hV, _, hb'⟩ := h.kid_on_path hd.mem _ Y (Nat.le_refl _) hY hx hne
  rw [hYb] at hb'
  cases hb'
  exact hk ⟨V, hV⟩
end

/-- An item in its cell. -/
def itemV : Option Int → Value
  | none => .nilIface
  | some n => .iface 3 (.int .i64 n)

/-- A block of bytes. -/
def ArrAt (w : World) (g n : Nat) : Prop := ∃ cur fr, w.heap[g]? = some (.cells cur 5 fr) ∧ n ≤ cur.size ∧ (∀ i, i < n → w.frozen? ⟨g, i, none⟩ = false)

/-- How a node lies in memory. -/
structure NodeAt (w : World) (t : Nat) (D : Node → Prop) (X : Node) : Prop where
  node : w.heap[X.blk]? = some (.cells #[.slice (some ⟨X.g, X.off, none⟩) X.plen X.cap, itemV X.item, .int .i64 X.mp, .int .i64 X.mc, .iface (tyOf X.d) (ptrV X.lb)] 73 (0, 0))
  bytes : BytesAt w X.g X.off X.pre
  arr : ArrAt w X.g (X.off + X.cap)
  room : X.plen ≤ X.cap
  kids : ∃ K, KidsAt w X.d X.lb X.ab X.cc K ∧ ∀ b c, K b = some c ↔ ∃ V, Kid t D X b V ∧ V.blk = c

structure TrieAt (w : World) (t : Nat) (D : Node → Prop) : Prop where
  wf : WF t D
  at_ : ∀ X, D X → NodeAt w t D X

theorem NodeAt.same {w w' : World} (h : w'.heap = w.heap) {t : Nat} {D : Node → Prop} {X : Node} (hx : NodeAt w t D X) : NodeAt w' t D X := by
  obtain ⟨os, tape, n, d, o⟩ := w
  obtain ⟨os', tape', n', d', o'⟩ := w'
  simp only at h
  subst h
  exact ⟨hx.node, hx.bytes, hx.arr, hx.room, let ⟨K, h1, h2⟩ := hx.kids; ⟨K, by cases hd : X.d with
    | false => rw [hd] at h1; obtain ⟨l, s, r⟩ := h1; exact ⟨l, ⟨s.list, s.arr, s.small⟩, r⟩
    | true => rw [hd] at h1; obtain ⟨mx, T, s, r⟩ := h1; exact ⟨mx, T, ⟨s.list, s.arr, s.size, s.top, s.low, s.head, s.cnt⟩, r⟩, h2⟩⟩
theorem TrieAt.same {w w' : World} (h : w'.heap = w.heap) {t : Nat} {D : Node → Prop} (hx : TrieAt w t D) : TrieAt w' t D := ⟨hx.wf, fun X hX => (hx.at_ X hX).same h⟩

section
variable {w : World} {t : Nat} {D : Node → Prop} {X : Node}
theorem NodeAt.c0 (h : NodeAt w t D X) : w.cell? ⟨X.blk, 0, none⟩ = some (.slice (some ⟨X.g, X.off, none⟩) X.plen X.cap) := cell_of_heap h.node 0
theorem NodeAt.c1 (h : NodeAt w t D X) : w.cell? ⟨X.blk, 1, none⟩ = some (itemV X.item) := cell_of_heap h.node 1
theorem NodeAt.c2 (h : NodeAt w t D X) : w.cell? ⟨X.blk, 2, none⟩ = some (.int .i64 X.mp) := cell_of_heap h.node 2
theorem NodeAt.c3 (h : NodeAt w t D X) : w.cell? ⟨X.blk, 3, none⟩ = some (.int .i64 X.mc) := cell_of_heap h.node 3
theorem NodeAt.c4 (h : NodeAt w t D X) : w.cell? ⟨X.blk, 4, none⟩ = some (.iface (tyOf X.d) (ptrV X.lb)) := cell_of_heap h.node 4
theorem NodeAt.free (h : NodeAt w t D X) (i : Nat) : w.frozen? ⟨X.blk, i, none⟩ = false := free_of_heap h.node i
theorem NodeAt.fb (h : NodeAt w t D X) (hp : X.plen ≤ X.word.length) {b : UInt8} (hb : X.pre[0]? = some b) : FB w X.blk b := by
  have hlen := X.pre_len hp
  have h0 : 0 < X.pre.length := by
    rcases Nat.eq_zero_or_pos X.pre.length with h0 | h0
    · rw [List.getElem?_eq_none (by omega)] at hb; cases hb
    · exact h0
  refine ⟨X.g, X.off, X.plen - 1, X.cap, ?_, ?_⟩
  · rw [show X.plen - 1 + 1 = X.plen by omega]; exact h.c0
  · have := h.bytes 0 h0
    rw [List.getElem?_eq_getElem h0] at hb
    cases hb
    simpa using this
theorem TrieAt.kidfb (h : TrieAt w t D) {K : UInt8 → Option Nat} (hk : ∀ b c, K b = some c ↔ ∃ V, Kid t D X b V ∧ V.blk = c) : ∀ y c, K y = some c → FB w c y := by
  intro y c hy
  obtain ⟨V, hV, rfl⟩ := (hk y c).1 hy
  exact (h.at_ V hV.1).fb (h.wf.plen_le hV.1) hV.2.2.2
end
end Go.Proofs.YtpopiaahdanpeaaGreatDoor
