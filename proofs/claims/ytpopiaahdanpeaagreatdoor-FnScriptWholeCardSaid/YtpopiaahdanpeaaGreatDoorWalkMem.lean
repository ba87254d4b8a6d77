/- What a walk over the trie keeps and what it tells a visitor. -/
import Derived.Test.YtpopiaahdanpeaaGreatDoorWords
import Derived.Test.YtpopiaahdanpeaaGreatDoorDelMem
import Derived.Test.YtpopiaahdanpeaaGreatDoorSort
namespace Go.Proofs.YtpopiaahdanpeaaGreatDoor
open Go Go.RowKit
set_option linter.unusedVariables false

/-- The variable that holds the word on the way: at block pp, its bytes at block pg. -/
structure Pfx (w : World) (pp pg cap : Nat) (word : List UInt8) : Prop where
  box : w.heap[pp]? = some (.cells #[.slice (some ⟨pg, 0, none⟩) word.length cap] 56 (0, 0))
  arr : ArrAt w pg cap
  bytes : BytesAt w pg 0 word
  lo : 32 ≤ cap
  hi : cap ≤ 200

/-- The arrays of the lists at p and below. -/
def ABel (D : Node → Prop) (p : List UInt8) (k : Nat) : Prop := ∃ Y, D Y ∧ p <+: Y.word ∧ k = Y.ab

/-- Words below p, in order. -/
def Bel (D : Node → Prop) (p : List UInt8) (L : List (List UInt8)) : Prop := Asc L ∧ ∀ k ∈ L, (∃ v, Has D k v) ∧ p <+: k ∧ k ≠ p
/-- With n words told so far, those below p keep within the bound. -/
def Room (D : Node → Prop) (p : List UInt8) (n : Nat) : Prop := ∀ L, Bel D p L → n + L.length ≤ 100

/-- A function value that is told word by word (vf: its function; vb: the variable that it holds; own: what it writes; V: what it has been told). -/
structure Visitor (t : Nat) (D : Node → Prop) (pp pg vf vb : Nat) (own : Nat → Prop) (V : World → List (List UInt8) → Prop) : Prop where
  apart : ∀ k, own k → ¬ TB D k ∧ k ≠ pp ∧ k ≠ pg
  outp : ¬ TB D pp
  outg : ¬ TB D pg
  ne : pp ≠ pg
  step : ∀ w done word cap x, V w done → done.length ≤ 100 → BytesAt w pg 0 word → word.length ≤ 5 → word.length ≤ cap →
    Calls Tryz.prog vf #[.slice (some ⟨pg, 0, none⟩) word.length cap, .iface 3 (.int .i64 x), ptrV vb] w fun e w' => e = .returned .nilIface ∧ V w' (done ++ [word]) ∧ Kept own w w'
  stable : ∀ w w' done, V w done → Kept (fun k => TB D k ∨ k = pp ∨ k = pg) w w' → V w' done

section
variable {w w' w1 : World} {t : Nat} {D : Node → Prop} {X V : Node} {pp pg vf vb cap : Nat} {own : Nat → Prop} {Vi : World → List (List UInt8) → Prop}

/-- The state of a walk at the node X: what has been told, what is as it was. -/
structure WAt (w w' : World) (t : Nat) (D : Node → Prop) (pp pg cap : Nat) (own : Nat → Prop) (Vi : World → List (List UInt8) → Prop) (p word : List UInt8) (told : List (List UInt8)) : Prop where
  trie : TrieAt w' t D
  pfx : Pfx w' pp pg cap word
  vi : Vi w' told
  kept : Kept (fun k => ABel D p k ∨ own k ∨ k = pp ∨ k = pg) w w'

theorem ABel.tb {p : List UInt8} {k : Nat} (h : ABel D p k) : TB D k := by obtain ⟨Y, hY, _, rfl⟩ := h; exact ⟨Y, hY, .inr (.inr (.inl rfl))⟩
theorem ABel.up {p q : List UInt8} {k : Nat} (h : ABel D q k) (hpq : p <+: q) : ABel D p k := by obtain ⟨Y, hY, h1, h2⟩ := h; exact ⟨Y, hY, hpq.trans h1, h2⟩

theorem TrieAt.kept {S : Nat → Prop} (h : TrieAt w t D) (k : Kept S w w') (hs : ∀ k, S k → ¬ TB D k) : TrieAt w' t D :=
  ⟨h.wf, fun X hX => (h.at_ X hX).kept k (fun e => hs _ e ⟨X, hX, .inl rfl⟩) (fun e => hs _ e ⟨X, hX, .inr (.inl rfl)⟩) (fun e => hs _ e ⟨X, hX, .inr (.inr (.inl rfl))⟩) (fun e => hs _ e ⟨X, hX, .inr (.inr (.inr rfl))⟩)⟩
theorem Pfx.kept {S : Nat → Prop} {word : List UInt8} (h : Pfx w pp pg cap word) (k : Kept S w w') (h1 : ¬ S pp) (h2 : ¬ S pg) : Pfx w' pp pg cap word :=
  ⟨k.lt h.box h1, h.arr.kept k h2, h.bytes.kept k h2, h.lo, h.hi⟩

theorem kid_len (hw : WF t D) {b : UInt8} (hk : Kid t D X b V) : X.word.length + V.plen = V.word.length ∧ 0 < V.plen ∧ V.word = X.word ++ V.pre ∧ V.pre.length = V.plen := by
  obtain ⟨u1, u2, _⟩ := hw.up V hk.1 hk.2.1
  have := congrArg List.length hk.2.2.1; rw [V.par_len] at this
  exact ⟨by omega, u1, by rw [← hk.2.2.1, V.par_pre], V.pre_len u2⟩

theorem heap_setCells_ne {b k : Nat} (h : k ≠ b) : ∀ (vs : List Value) (o : Nat) (w : World), (w.setCells b o vs).heap[k]? = w.heap[k]?
  | [], _, _ => rfl
  | v :: r, o, w => (heap_setCells_ne h r (o + 1) (w.setCell ⟨b, o, none⟩ v)).trans (heap_setCell_ne h)
theorem heap_setCells_at {b : Nat} {T : TypeId} {fr : Nat × Nat} : ∀ (vs : List Value) (o : Nat) (w : World) (cur : Array Value), w.heap[b]? = some (.cells cur T fr) → ∃ cur', (w.setCells b o vs).heap[b]? = some (.cells cur' T fr) ∧ cur'.size = cur.size
  | [], _, _, cur, h => ⟨cur, h, rfl⟩
  | v :: r, o, w, cur, h => by
    obtain ⟨cur', h1, h2⟩ := heap_setCells_at r (o + 1) (w.setCell ⟨b, o, none⟩ v) _ (heap_setCell_at h)
    exact ⟨cur', h1, by simpa using h2⟩

/-- The word goes on by a child's own part. -/
theorem WAt.push {p : List UInt8} {told : List (List UInt8)} {b : UInt8} (hv : Visitor t D pp pg vf vb own Vi) (h : WAt w w' t D pp pg cap own Vi p X.word told) (hk : Kid t D X b V) (hlen : V.word.length ≤ 5)
    (e : w1 = ((w'.setCells pg X.word.length (byteVs V.pre)).setCell ⟨pp, 0, none⟩ (.slice (some ⟨pg, 0, none⟩) (X.word.length + V.plen) cap)).drew) : WAt w w1 t D pp pg cap own Vi p V.word told := by
  obtain ⟨k1, k2, k3, k4⟩ := kid_len h.trie.wf hk
  have hkp : Kept (fun k => k = pp ∨ k = pg) w' w1 := by
    have : ∀ (vs : List Value) (o : Nat) (u : World), Kept (fun k => k = pp ∨ k = pg) w' u → Kept (fun k => k = pp ∨ k = pg) w' (u.setCells pg o vs) := by
      intro vs
      induction vs with
      | nil => intro o u h; exact h
      | cons v r ih => intro o u h; exact ih (o + 1) _ (h.setCell (.inl (.inr rfl)) _)
    rw [e]
    exact ((this _ _ _ (Kept.refl _ _)).setCell (.inl (.inl rfl)) _).drew
  obtain ⟨cur, fr, a1, a2, a3⟩ := h.pfx.arr
  have hlo := h.pfx.lo
  have hcells : ∀ i, w1.cell? ⟨pg, i, none⟩ = (w'.setCells pg X.word.length (byteVs V.pre)).cell? ⟨pg, i, none⟩ := fun i => by
    rw [e]
    show ((w'.setCells pg X.word.length (byteVs V.pre)).setCell _ _).cell? _ = _
    rw [World.cell?_setCell_other _ _ _ _ (by intro e; injection e with e; exact hv.ne e)]
  refine ⟨h.trie.kept hkp (by rintro k (rfl | rfl); exact hv.outp; exact hv.outg), ⟨?_, ?_, ?_, h.pfx.lo, h.pfx.hi⟩, hv.stable _ _ _ h.vi (hkp.mono fun k _ e => .inr e), h.kept.trans (hkp.mono fun k _ e => .inr (.inr e))⟩
  · rw [e]
    show ((w'.setCells pg X.word.length (byteVs V.pre)).setCell _ _).heap[pp]? = _
    rw [heap_setCell_at (c := #[_]) ((heap_setCells_ne hv.ne _ _ _).trans h.pfx.box), ← k1]
    rfl
  · obtain ⟨cur', b1, b2⟩ := heap_setCells_at (byteVs V.pre) X.word.length w' cur a1
    refine ⟨cur', fr, ?_, by omega, fun i hi => ?_⟩
    · rw [e]
      show ((w'.setCells pg X.word.length (byteVs V.pre)).setCell _ _).heap[pg]? = _
      rw [heap_setCell_ne (Ne.symm hv.ne), b1]
    · rw [e]
      show ((w'.setCells pg X.word.length (byteVs V.pre)).setCell _ _).frozen? _ = _
      rw [World.frozen?_setCell, World.frozen?_setCells]; exact a3 i hi
  · intro i hi
    rw [Nat.zero_add, hcells]
    rcases Nat.lt_or_ge i X.word.length with hlt | hge
    · rw [World.cell?_setCells_out _ _ _ _ _ (fun _ _ => .inl hlt)]
      have := h.pfx.bytes i hlt
      rw [Nat.zero_add] at this
      rw [this]
      simp [k3, List.getElem_append_left, hlt]
    · obtain ⟨j, rfl⟩ : ∃ j, i = X.word.length + j := ⟨i - X.word.length, by omega⟩
      have hj : j < V.pre.length := by omega
      rw [World.cell?_setCells_in pg (byteVs V.pre) X.word.length w' (fun j' hj' => by
        rw [byteVs_len] at hj'
        rw [cell_of_heap a1, Array.getElem?_eq_getElem (by omega)]; rfl) j (by rw [byteVs_len]; exact hj)]
      simp [byteVs, k3]

/-- The word goes back to its parent's. -/
theorem WAt.pop {p : List UInt8} {told : List (List UInt8)} {b : UInt8} (hv : Visitor t D pp pg vf vb own Vi) (h : WAt w w' t D pp pg cap own Vi p V.word told) (hk : Kid t D X b V)
    (e : w1 = (w'.setCell ⟨pp, 0, none⟩ (.slice (some ⟨pg, 0, none⟩) X.word.length cap)).drew) : WAt w w1 t D pp pg cap own Vi p X.word told := by
  obtain ⟨k1, k2, k3, k4⟩ := kid_len h.trie.wf hk
  have hkp : Kept (fun k => k = pp) w' w1 := by rw [e]; exact ((Kept.refl (fun k => k = pp) _).setCell (.inl rfl) _).drew
  refine ⟨h.trie.kept hkp (by rintro k rfl; exact hv.outp), ⟨?_, h.pfx.arr.kept hkp (Ne.symm hv.ne), ?_, h.pfx.lo, h.pfx.hi⟩, hv.stable _ _ _ h.vi (hkp.mono fun k _ e => .inr (.inl e)), h.kept.trans (hkp.mono fun k _ e => .inr (.inr (.inl e)))⟩
  · rw [e]
    show (w'.setCell _ _).heap[pp]? = _
    rw [heap_setCell_at h.pfx.box]; rfl
  · intro i hi
    have := (h.pfx.bytes.kept hkp (Ne.symm hv.ne)) i (by omega)
    rw [this]
    simp [k3, List.getElem_append_left, hi]
/-- The visitor has been told the word. -/
theorem WAt.tell {p word : List UInt8} {told told' : List (List UInt8)} (hv : Visitor t D pp pg vf vb own Vi) (h : WAt w w' t D pp pg cap own Vi p word told) (h1 : Vi w1 told') (k : Kept own w' w1) : WAt w w1 t D pp pg cap own Vi p word told' :=
  ⟨h.trie.kept k fun k hk => (hv.apart k hk).1, h.pfx.kept k (fun h => (hv.apart _ h).2.1 rfl) (fun h => (hv.apart _ h).2.2 rfl), h1, h.kept.trans (k.mono fun k _ e => .inr (.inl e))⟩
theorem WAt.drawn {p word : List UInt8} {told : List (List UInt8)} (hv : Visitor t D pp pg vf vb own Vi) (h : WAt w w' t D pp pg cap own Vi p word told) (hd : Drawn w' w1) : WAt w w1 t D pp pg cap own Vi p word told :=
  ⟨hd.trie h.trie, h.pfx.kept (hd.kept (fun _ => False)) (fun h => h) (fun h => h), hv.stable _ _ _ h.vi (hd.kept _), h.kept.trans (hd.kept _)⟩
/-- A walk below a child has gone by. -/
theorem WAt.sub {p word : List UInt8} {told told' : List (List UInt8)} (hp : p <+: V.word) (h : WAt w w' t D pp pg cap own Vi p word told) (h1 : WAt w' w1 t D pp pg cap own Vi V.word V.word told') : WAt w w1 t D pp pg cap own Vi p V.word told' :=
  ⟨h1.trie, h1.pfx, h1.vi, h.kept.trans (h1.kept.mono fun k _ e => by rcases e with e | e; exact .inl (e.up hp); exact .inr e)⟩

/-- The node's own list stays while its children are walked. -/
theorem held {S : Nat → Prop} (hv : Visitor t D pp pg vf vb own Vi) (h : TrieAt w t D) (hX : D X) {b : UInt8} (hk : Kid t D X b V) : ∀ k, k = X.lb ∨ k = X.ab → ¬ (ABel D V.word k ∨ own k ∨ k = pp ∨ k = pg) := by
  rintro k hkk (⟨Y, hY, h1, h2⟩ | h1 | h1 | h1)
  · have hn := (h.at_ X hX).blk_ne (h.at_ Y hY)
    rcases hkk with rfl | rfl
    · exact hn.2.2.2.2.2 h2
    · have := h.wf.ainj X Y hX hY h2
      subst this
      have := h1.length_le
      have := kid_len h.wf hk
      omega
  · refine (hv.apart k h1).1 ?_
    rcases hkk with rfl | rfl
    · exact ⟨X, hX, .inr (.inl rfl)⟩
    · exact ⟨X, hX, .inr (.inr (.inl rfl))⟩
  · subst h1
    refine hv.outp ?_
    rcases hkk with e | e
    · exact ⟨X, hX, .inr (.inl e)⟩
    · exact ⟨X, hX, .inr (.inr (.inl e))⟩
  · subst h1
    refine hv.outg ?_
    rcases hkk with e | e
    · exact ⟨X, hX, .inr (.inl e)⟩
    · exact ⟨X, hX, .inr (.inr (.inl e))⟩
theorem SparseAt.kept {S : Nat → Prop} {lb ab cc : Nat} {l : List (UInt8 × Nat)} (h : SparseAt w lb ab cc l) (k : Kept S w w') (h1 : ¬ S lb) (h2 : ¬ S ab) : SparseAt w' lb ab cc l :=
  ⟨k.lt h.list h1, let ⟨junk, a, b⟩ := h.arr; ⟨junk, k.lt a h2, b⟩, h.small⟩
theorem DenseAt.kept {S : Nat → Prop} {lb ab mn mx n : Nat} {T : List (Option Nat)} (h : DenseAt w lb ab mn mx n T) (k : Kept S w w') (h1 : ¬ S lb) (h2 : ¬ S ab) : DenseAt w' lb ab mn mx n T :=
  ⟨k.lt h.list h1, k.lt h.arr h2, h.size, h.top, h.low, h.head, h.cnt⟩

/-- The children lie as the sort wants them. -/
theorem heads_of (h : TrieAt w t D) (hX : D X) {K : UInt8 → Option Nat} (hKi : ∀ b c, K b = some c ↔ ∃ V, Kid t D X b V ∧ V.blk = c) {l : List (UInt8 × Nat)} (hn : (l.map (·.1)).Nodup) (hk : ∀ y, look l y = K y) : Heads w X.ab l := by
  intro p hp
  have := look_of_mem hn hp
  rw [hk] at this
  obtain ⟨V, hV, e⟩ := (hKi _ _).1 this
  have hNV := h.at_ V hV.1
  have hNX := h.at_ X hX
  have hlen := V.pre_len (h.wf.plen_le hV.1)
  refine ⟨V.pre, V.g, V.off, V.cap, hV.2.2.2, ?_, hNV.bytes, ?_, (hNV.blk_ne hNX).2.2.2.2.1⟩
  · rw [← e, hlen]; exact hNV.c0
  · rw [← e]; exact (hNV.blk_ne hNX).2.1

/-- The list sorted, the trie is as it was. -/
theorem sorted_trie (h : TrieAt w t D) (hX : D X) (hd : X.d = false) {K : UInt8 → Option Nat} (hKi : ∀ b c, K b = some c ↔ ∃ V, Kid t D X b V ∧ V.blk = c) {l0 l : List (UInt8 × Nat)} (hn : (l0.map (·.1)).Nodup) (hk : ∀ y, look l0 y = K y) (hc : l0.length = cnt K)
    (hs : SortAt w w' X.lb X.ab X.cc l0 l) (hp : l.Perm l0) : TrieAt w' t D ∧ (∀ y, look l y = K y) := by
  have hlk : ∀ y, look l y = K y := fun y => by rw [← hk y]; exact look_congr hs.nodup hn (fun p => hp.mem_iff) y
  refine ⟨⟨h.wf, fun Y hY => ?_⟩, hlk⟩
  have hNX := h.at_ X hX
  have hNY := h.at_ Y hY
  have hne := hNY.blk_ne hNX
  by_cases e : Y = X
  · subst e
    refine ⟨hs.kept.lt hNY.node hne.2.1, hNY.bytes.kept hs.kept hne.2.2.2.2.1, hNY.arr.kept hs.kept hne.2.2.2.2.1, hNY.room, K, ?_, hKi⟩
    rw [hd]
    exact ⟨l, hs.at_, hs.nodup, hlk, by rw [hs.len, hc]⟩
  · exact hNY.kept hs.kept hne.2.1 hne.2.2.2.2.2 (fun e2 => e (h.wf.ainj Y X hY hX e2)) hne.2.2.2.2.1

/-- A thing that is told by the node's list. -/
def OfList (X : Node) (Li : World → Prop) : Prop := ∀ (S : Nat → Prop) (u u' : World), Li u → Kept S u u' → ¬ S X.lb → ¬ S X.ab → Li u'
theorem ofList_sparse (X : Node) (l : List (UInt8 × Nat)) : OfList X fun u => SparseAt u X.lb X.ab X.cc l := fun S u u' h k h1 h2 => h.kept k h1 h2
theorem ofList_dense (X : Node) (mn mx n : Nat) (T : List (Option Nat)) : OfList X fun u => DenseAt u X.lb X.ab mn mx n T := fun S u u' h k h1 h2 => h.kept k h1 h2

/-- The state of a round. -/
def RAt (w wx : World) (t : Nat) (D : Node → Prop) (pp pg cap : Nat) (own : Nat → Prop) (Vi : World → List (List UInt8) → Prop) (X : Node) (Li : World → Prop) (word : List UInt8) (told : List (List UInt8)) : Prop :=
  WAt w wx t D pp pg cap own Vi X.word word told ∧ Li wx

variable {Li : World → Prop} {told : List (List UInt8)} {b : UInt8}

theorem RAt.more {S : Nat → Prop} {word word' : List UInt8} {told' : List (List UInt8)} (ho : OfList X Li) (h : RAt w w' t D pp pg cap own Vi X Li word told) (h1 : WAt w w1 t D pp pg cap own Vi X.word word' told') (k : Kept S w' w1) (h2 : ¬ S X.lb) (h3 : ¬ S X.ab) :
    RAt w w1 t D pp pg cap own Vi X Li word' told' := ⟨h1, ho S _ _ h.2 k h2 h3⟩

theorem pp_not (hv : Visitor t D pp pg vf vb own Vi) (hX : D X) : ¬ (X.lb = pp ∨ X.lb = pg) ∧ ¬ (X.ab = pp ∨ X.ab = pg) ∧ ¬ own X.lb ∧ ¬ own X.ab := by
  have h1 : TB D X.lb := ⟨X, hX, .inr (.inl rfl)⟩
  have h2 : TB D X.ab := ⟨X, hX, .inr (.inr (.inl rfl))⟩
  refine ⟨?_, ?_, fun h => (hv.apart _ h).1 h1, fun h => (hv.apart _ h).1 h2⟩
  · rintro (e | e)
    · exact hv.outp (e ▸ h1)
    · exact hv.outg (e ▸ h1)
  · rintro (e | e)
    · exact hv.outp (e ▸ h2)
    · exact hv.outg (e ▸ h2)

theorem setCells_kept (w : World) {b : Nat} {S : Nat → Prop} (hb : S b) : ∀ (vs : List Value) (o : Nat) (u : World), Kept S w u → Kept S w (u.setCells b o vs)
  | [], _, _, h => h
  | v :: r, o, u, h => setCells_kept w hb r (o + 1) _ (h.setCell (.inl hb) _)

theorem RAt.push (hv : Visitor t D pp pg vf vb own Vi) (ho : OfList X Li) (hX : D X) (h : RAt w w' t D pp pg cap own Vi X Li X.word told) (hk : Kid t D X b V) (hlen : V.word.length ≤ 5) {news : List Value} (hn : byteVs V.pre = news) :
    RAt w ((w'.drew.setCells pg X.word.length news).setCell ⟨pp, 0, none⟩ (.slice (some ⟨pg, 0, none⟩) (X.word.length + V.plen) cap)) t D pp pg cap own Vi X Li V.word told := by
  have e : (w'.drew.setCells pg X.word.length news).setCell ⟨pp, 0, none⟩ (.slice (some ⟨pg, 0, none⟩) (X.word.length + V.plen) cap) = ((w'.setCells pg X.word.length (byteVs V.pre)).setCell ⟨pp, 0, none⟩ (.slice (some ⟨pg, 0, none⟩) (X.word.length + V.plen) cap)).drew := by
    rw [hn, show w'.drew = w'.drewN 1 from rfl, drewN_setCells]; rfl
  have hp := pp_not hv hX
  rw [e]
  refine h.more ho (h.1.push hv hk hlen rfl) (S := fun k => k = pp ∨ k = pg) ?_ hp.1 hp.2.1
  exact ((setCells_kept _ (.inr rfl) _ _ _ (Kept.refl _ _)).setCell (.inl (.inl rfl)) _).drew
theorem RAt.pop (hv : Visitor t D pp pg vf vb own Vi) (ho : OfList X Li) (hX : D X) (h : RAt w w' t D pp pg cap own Vi X Li V.word told) (hk : Kid t D X b V)
    (e : w1 = (w'.setCell ⟨pp, 0, none⟩ (.slice (some ⟨pg, 0, none⟩) X.word.length cap)).drew) : RAt w w1 t D pp pg cap own Vi X Li X.word told := by
  have hp := pp_not hv hX
  refine h.more ho (h.1.pop hv hk e) (S := fun k => k = pp) ?_ (fun h => hp.1 (.inl h)) (fun h => hp.2.1 (.inl h))
  rw [e]; exact ((Kept.refl (fun k => k = pp) _).setCell (.inl rfl) _).drew
theorem RAt.tell {word : List UInt8} {told' : List (List UInt8)} (hv : Visitor t D pp pg vf vb own Vi) (ho : OfList X Li) (hX : D X) (h : RAt w w' t D pp pg cap own Vi X Li word told) (h1 : Vi w1 told') (k : Kept own w' w1) : RAt w w1 t D pp pg cap own Vi X Li word told' := by
  have hp := pp_not hv hX
  exact h.more ho (h.1.tell hv h1 k) k hp.2.2.1 hp.2.2.2
theorem RAt.sub {told' : List (List UInt8)} (hv : Visitor t D pp pg vf vb own Vi) (ho : OfList X Li) (hX : D X) (hk : Kid t D X b V) (h : RAt w w' t D pp pg cap own Vi X Li V.word told) (h1 : WAt w' w1 t D pp pg cap own Vi V.word V.word told') : RAt w w1 t D pp pg cap own Vi X Li V.word told' := by
  have hp := held (S := fun _ => False) hv h.1.trie hX hk
  exact h.more ho (h.1.sub ((List.prefix_append _ _).trans (hk.begins h.1.trie.wf)) h1) h1.kept (hp _ (.inl rfl)) (hp _ (.inr rfl))
theorem RAt.again {word : List UInt8} (h : RAt w w' t D pp pg cap own Vi X Li word told) : WAt w' w' t D pp pg cap own Vi word word told := ⟨h.1.trie, h.1.pfx, h.1.vi, Kept.refl _ _⟩

/-- The room that is left. -/
theorem Room.kid {P : UInt8 → Prop} {L : List (List UInt8)} (hw : WF t D) (hX : D X) (hk : Kid t D X b V) (h : LsP D X.word P L) (hP : ∀ a, P a → a < b) {n : Nat} (hr : Room D X.word n) : Room D V.word (n + (L ++ itL V).length) := by
  intro M hM
  have hb := hk.begins hw
  have hlt : X.word.length < V.word.length := by have := hb.length_le; simp at this; omega
  have hI : ∀ k, k ∈ itL V ↔ k = V.word ∧ ∃ v, V.item = some v := by
    intro k; unfold itL
    cases hv : V.item with
    | none => simp
    | some v => simp
  have hup : ∀ k, X.word ++ [b] <+: k → X.word <+: k ∧ k ≠ X.word := fun k hk2 => ⟨(List.prefix_append _ _).trans hk2, fun e => by have := hk2.length_le; rw [e] at this; simp at this; omega⟩
  have := hr (L ++ itL V ++ M) ⟨?_, ?_⟩
  · simp only [List.length_append] at this ⊢; omega
  · have hL : ∀ k ∈ L, ∀ m, X.word ++ [b] <+: m → k < m := by
      intro k hkL m hm
      obtain ⟨_, a, ha, hp⟩ := (h.2 k).1 hkL
      exact lt_of_parts hp hm (hP a ha)
    have hMk : ∀ m ∈ M, X.word ++ [b] <+: m := fun m hm => hb.trans (hM.2 m hm).2.1
    unfold Asc
    rw [List.pairwise_append, List.pairwise_append]
    refine ⟨⟨h.1, ?_, fun a ha m hm => ?_⟩, hM.1, fun a ha m hm => ?_⟩
    · unfold itL; cases V.item <;> simp
    · obtain ⟨rfl, _⟩ := (hI m).1 hm
      exact hL a ha _ hb
    · rcases List.mem_append.1 ha with ha | ha
      · exact hL a ha m (hMk m hm)
      · obtain ⟨rfl, _⟩ := (hI a).1 ha
        obtain ⟨_, h1, h2⟩ := hM.2 m hm
        exact lt_of_prefix h1 h2
  · intro k hk2
    rcases List.mem_append.1 hk2 with hk2 | hk2
    · rcases List.mem_append.1 hk2 with hk2 | hk2
      · obtain ⟨h1, a, ha, hp⟩ := (h.2 k).1 hk2
        refine ⟨h1, (List.prefix_append _ _).trans hp, fun e => ?_⟩
        have := hp.length_le; rw [e] at this; simp at this; omega
      · obtain ⟨rfl, v, hv⟩ := (hI k).1 hk2
        exact ⟨⟨v, V, hk.1, rfl, hv⟩, hup _ hb⟩
    · obtain ⟨h1, h2, h3⟩ := hM.2 k hk2
      exact ⟨h1, hup _ (hb.trans h2)⟩
theorem Room.now {n : Nat} {p : List UInt8} (h : Room D p n) : n ≤ 100 := by simpa using h [] ⟨List.Pairwise.nil, fun k hk => by simp at hk⟩
end
end Go.Proofs.YtpopiaahdanpeaaGreatDoor
