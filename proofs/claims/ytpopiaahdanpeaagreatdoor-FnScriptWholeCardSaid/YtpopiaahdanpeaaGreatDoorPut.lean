/- The walk of put on a trie. -/
import Derived.Test.YtpopiaahdanpeaaGreatDoorPutLeaf
import Derived.Deep.DeepCutAuto
namespace Go.Proofs.YtpopiaahdanpeaaGreatDoor
open Go Go.RowKit
set_option linter.unusedVariables false

@[go_sem] theorem run_store_itemV {P : Program} {w : World} (a : Addr) (x : Option Int) (m : Mode) : (store a (itemV x) m).run P w = stored P w a (itemV x) m := run_store P w a _ m (by cases x <;> rfl)

theorem five {w : World} {b : Nat} {v0 v1 v2 v3 v4 : Value} (h : w.heap[b]? = some (.cells #[v0, v1, v2, v3, v4] 73 (0, 0))) :
    (w.cell? ⟨b, 0, none⟩ = some v0 ∧ w.cell? ⟨b, 1, none⟩ = some v1 ∧ w.cell? ⟨b, 2, none⟩ = some v2 ∧ w.cell? ⟨b, 3, none⟩ = some v3 ∧ w.cell? ⟨b, 4, none⟩ = some v4) ∧
    (w.frozen? ⟨b, 0, none⟩ = false ∧ w.frozen? ⟨b, 1, none⟩ = false ∧ w.frozen? ⟨b, 2, none⟩ = false ∧ w.frozen? ⟨b, 3, none⟩ = false ∧ w.frozen? ⟨b, 4, none⟩ = false) :=
  ⟨⟨cell_of_heap h 0, cell_of_heap h 1, cell_of_heap h 2, cell_of_heap h 3, cell_of_heap h 4⟩, free_of_heap h 0, free_of_heap h 1, free_of_heap h 2, free_of_heap h 3, free_of_heap h 4⟩

theorem split_w1 {wn w1 : World} {b : Nat} {v0 v1 v2 v3 v4 : Value} (hx : wn.heap[b]? = some (.cells #[v0, v1, v2, v3, v4] 73 (0, 0)))
    (hF : Fresh (wn.alloc (.cells #[v0, v1, v2, v3, v4] 73)) 10 8 8 (wn.alloc (.cells #[v0, v1, v2, v3, v4] 73)).heap.size w1) :
    w1.heap[b]? = some (.cells #[v0, v1, v2, v3, v4] 73 (0, 0)) ∧ w1.heap[wn.heap.size]? = some (.cells #[v0, v1, v2, v3, v4] 73 (0, 0)) ∧
      w1.heap[wn.heap.size + 1]? = some (.cells #[.slice none 0 0, .nilIface, .int .i64 10, .int .i64 8, .iface 94 (ptrV (wn.heap.size + 3))] 73 (0, 0)) := by
  have hlt := lt_of_block hx
  refine ⟨(hF.below.block b (by simp; omega)).trans (hAl hx), (hF.below.block _ (by simp)).trans (hNew wn _), ?_⟩
  have := hF.node
  simpa using this

theorem meth_add (d : Bool) (a : Addr) (w : World) : (method 277 (tyOf d) (.pointer (some a)) "loop.example/pub-triescripts/pub/patricia.add").run Tryz.prog w = .ok (addFn d, .pointer (some a)) w := by
  cases d <;> kernel_rfl
theorem nil_add (d : Bool) (a : Addr) (w : World) : (nilAhead 277 (tyOf d) (.pointer (some a)) "loop.example/pub-triescripts/pub/patricia.add").run Tryz.prog w = .ok (some false) w := by
  cases d <;> kernel_rfl
theorem call_add (d : Bool) (args : Array Value) (w : World) : (callFunc (addFn d) args).run Tryz.prog w = .ok (.enter (addFn d) args) w := by
  cases d <;> kernel_rfl
theorem meth_add94 (n : Nat) (w : World) : (method 277 94 (ptrV n) "loop.example/pub-triescripts/pub/patricia.add").run Tryz.prog w = .ok (99, ptrV n) w := by kernel_rfl
theorem nil_add94 (n : Nat) (w : World) : (nilAhead 277 94 (ptrV n) "loop.example/pub-triescripts/pub/patricia.add").run Tryz.prog w = .ok (some false) w := by kernel_rfl
theorem call_add94 (args : Array Value) (w : World) : (callFunc 99 args).run Tryz.prog w = .ok (.enter 99 args) w := by kernel_rfl
theorem item_eql (x : Option Int) (w : World) : (binOp .eql 65 (itemV x) .nilIface).run Tryz.prog w = .ok (.bool x.isNone) w := by
  cases x <;> kernel_rfl
theorem slice_high {g o n c L : Nat} (h : L ≤ n) (hc : n ≤ c) (u : World) :
    (Instr.slice 56 (.slice (some ⟨g, o, none⟩) n c) none (some (.int .i64 L)) none).run Tryz.prog u = .ok (.slice (some ⟨g, o, none⟩) L c) u := by
  go_simp
  intro; omega
theorem slice_low {g o n c L : Nat} (h : L < n) (hc : n ≤ c) (u : World) :
    (Instr.slice 56 (.slice (some ⟨g, o, none⟩) n c) (some (.int .i64 L)) none none).run Tryz.prog u = .ok (.slice (some ⟨g, o + L, none⟩) (n - L : Nat) (c - L : Nat)) u := by
  have : c ≠ L := by omega
  go_simp
  intro; omega

theorem down_pos {t : Nat} {D : Node → Prop} {key rest : List UInt8} {X : Node} {L : Nat} (hd : Down t D key X rest) (hL : lcp rest X.pre = L) (hb : X.blk ≠ t) : 0 < L := by
  obtain ⟨b, h1, h2⟩ := hd.first hb
  cases rest with
  | nil => cases h1
  | cons a r =>
    generalize X.pre = p at h2 hL
    cases p with
    | nil => cases h2
    | cons c q =>
      simp at h1 h2
      subst h1; subst h2
      simp [lcp] at hL; omega
theorem down_root {t : Nat} {D : Node → Prop} {key rest : List UInt8} {X R : Node} (hw : WF t D) (hd : Down t D key X rest) (hR : D R) (hRt : R.blk = t) (hb : X.blk ≠ t) : R.word <+: key := by
  obtain ⟨h1, h2, P, hP, e⟩ := hw.up X hd.mem hb
  have := hw.root_prefix hR hRt _ P (Nat.le_refl _) hP
  rw [e] at this
  exact this.trans (by rw [hd.eq]; exact List.prefix_append _ _)

theorem down_split {t : Nat} {D : Node → Prop} {key rest : List UInt8} {X : Node} {L : Nat} (hd : Down t D key X rest) (hL : lcp rest X.pre = L) (h1 : L ≤ X.plen) (h2 : X.plen ≤ X.word.length) :
    key = X.word.take (X.word.length - X.plen + L) ++ rest.drop L := by
  rw [X.mid_take L h1 h2, hd.eq, List.append_assoc]
  congr 1
  have := lcp_take rest X.pre
  rw [hL] at this
  rw [← this, List.take_append_drop]

theorem Fresh.cell {w w' : World} {mp mc : Int} {n b : Nat} (h : Fresh w mp mc n b w') {p : Addr} {v : Value} (hc : w.cell? p = some v) : w'.cell? p = some v :=
  (h.below.cell (World.block_lt_of_cell? _ _ hc)).trans hc

/-- What put asks of the root. -/
def Top (t : Nat) (D : Node → Prop) (key : List UInt8) : Prop := ∀ R, D R → R.blk = t → (R.word = [] ∧ R.mp = 10) ∨ (R.word = [65] ∧ R.d = false ∧ key = [90])
theorem Top.thin {t : Nat} {D : Node → Prop} {key : List UInt8} (h : Top t D key) (hl : Low t D) (hw : WF t D) : ∀ Y, D Y → Y.d = true → Y.plen = 0 := by
  intro Y hY hd
  by_cases hb : Y.blk = t
  · rcases h Y hY hb with ⟨e, _⟩ | ⟨_, e, _⟩
    · rw [hw.root_plen hY hb, e]; rfl
    · rw [e] at hd; cases hd
  · rw [(hl.low Y hY hb).1] at hd; cases hd
theorem Top.past {t : Nat} {D : Node → Prop} {key : List UInt8} (h : Top t D key) (hp : ∀ R, D R → R.blk = t → R.word <+: key) : ∀ R, D R → R.blk = t → R.word = [] ∧ R.mp = 10 := by
  intro R hR hb
  rcases h R hR hb with e | ⟨e1, _, e2⟩
  · exact e
  · have := hp R hR hb
    rw [e1, e2] at this
    exact absurd this (by decide)
theorem Top.split {t : Nat} {D : Node → Prop} {key rest : List UInt8} {X : Node} {L : Nat} (h : Top t D key) (hw : WF t D) (hd : Down t D key X rest) (hL : lcp rest X.pre = L) :
    ∀ R, D R → R.blk = t → (R.word = [] ∧ R.mp = 10) ∨ (R.blk = X.blk ∧ L = 0 ∧ R.word = [65] ∧ R.d = false) := by
  intro R hR hb
  rcases h R hR hb with e | ⟨e1, e3, e2⟩
  · exact .inl e
  · by_cases hX : X.blk = t
    · have := hw.binj R X hR hd.mem (by rw [hb, hX])
      subst this
      refine .inr ⟨rfl, ?_, e1, e3⟩
      have hk := hd.eq
      rw [hw.root_par hd.mem hX, e2] at hk
      have hk : rest = [90] := by simpa using hk.symm
      rw [hw.root_pre hd.mem hX, e1, hk] at hL
      rw [← hL]; decide
    · have := down_root hw hd hR hb hX
      rw [e1, e2] at this
      exact absurd this (by decide)

/-- What put gives. -/
def PutPost (w : World) (t : Nat) (D : Node → Prop) (key : List UInt8) (kg : Nat) (x : Int) (replace : Bool) (e : Ending) (w' : World) : Prop :=
  (∃ D', e = .returned (.bool true) ∧ PutOut w w' t D D' key x kg ∧ (replace = true ∨ ∀ v, ¬ Has D key v)) ∨ (e = .returned (.bool false) ∧ replace = false ∧ (∃ v, Has D key v) ∧ Drawn w w')

theorem Mid.cells {w w1 : World} {t kg : Nat} {D D1 : Node → Prop} {X : Node} (m : Mid w w1 t D D1 kg) (hX : D1 X) :
    w1.cell? ⟨t, 2, none⟩ = some (.int .i64 10) ∧ w1.cell? ⟨X.blk, 1, none⟩ = some (itemV X.item) ∧ w1.cell? ⟨X.blk, 4, none⟩ = some (.iface (tyOf X.d) (ptrV X.lb)) ∧ w1.frozen? ⟨X.blk, 1, none⟩ = false := by
  obtain ⟨R, hR, hRt, _⟩ := m.trie.wf.root
  have h2 := (m.trie.at_ R hR).c2
  rw [hRt, (m.top R hR hRt).2] at h2
  exact ⟨h2, (m.trie.at_ X hX).c1, (m.trie.at_ X hX).c4, (m.trie.at_ X hX).free 1⟩
theorem Mid.post {w w1 : World} {t kg : Nat} {D D1 : Node → Prop} {X : Node} {key : List UInt8} (m : Mid w w1 t D D1 kg) (hX : D1 X) (hk : X.word = key) (x : Int) (replace : Bool) (hi : X.item = none ∨ replace = true) :
    PutPost w t D key kg x replace (.returned (.bool true)) (w1.setCell ⟨X.blk, 1, none⟩ (.iface 3 (.int .i64 x))) := by
  obtain ⟨D', h⟩ := m.set hX hk x
  refine .inl ⟨D', rfl, h, ?_⟩
  rcases hi with hi | hi
  · exact .inr fun v hv => fresh_key m.trie.wf hX hk hi v ((m.has _ _).2 hv)
  · exact .inl hi

theorem split_set {w we : World} {t kg L : Nat} {D D3 : Node → Prop} {X m3 : Node} {b : UInt8} {key : List UInt8} {wn : World} (m : Mid w we t D D3 kg) (s : SplitDone wn we t D D3 X m3 L b) (hk : key = X.word.take (X.word.length - X.plen + L)) (x : Int) (replace : Bool) :
    PutPost w t D key kg x replace (.returned (.bool true)) (we.setCell ⟨X.blk, 1, none⟩ (.iface 3 (.int .i64 x))) := by
  have := m.post (key := key) s.mem (by rw [s.word, hk]) x replace (.inl s.item)
  rwa [s.blk] at this

/-- What is written of the key's array. -/
theorem key_later {w w1 : World} {t kg ko kc o c L o1 : Nat} {D D1 : Node → Prop} {rest : List UInt8} (m : Mid w w1 t D D1 kg) (hkg : ¬ TB D kg) (hb : BytesAt w kg o1 (rest.drop L)) (ha : ArrAt w kg (ko + kc)) (h1 : o + c = ko + kc) (h2 : L < c → o1 = o + L) (h3 : L < c) :
    BytesAt w1 kg o1 (rest.drop L) ∧ ArrAt w1 kg (o1 + (c - L)) := by
  refine ⟨hb.kept m.kept hkg, ?_⟩
  have := ha.kept m.kept hkg
  rw [h2 h3, show o + L + (c - L) = ko + kc by omega]
  exact this

theorem leaf_set {w we : World} {t kg b : Nat} {D D4 : Node → Prop} {V : Node} {key : List UInt8} (h : Mid w we t D D4 kg ∧ D4 V ∧ V.word = key ∧ V.blk = b ∧ V.item = none) (x : Int) (replace : Bool) :
    PutPost w t D key kg x replace (.returned (.bool true)) (we.setCell ⟨b, 1, none⟩ (.iface 3 (.int .i64 x))) := by
  obtain ⟨m, h1, h2, h3, h4⟩ := h
  have := m.post h1 h2 x replace (.inl h4)
  rwa [h3] at this

theorem direct_leaf {w wc w1 w2 : World} {t kg ko kc o c L o1 : Nat} {D : Node → Prop} {X : Node} {b : UInt8} {key rest : List UInt8} (m : Mid w wc t D D kg) (hX : D X)
    (hk : key = X.word ++ rest.drop L) (hkg : ¬ TB D kg) (hgk : Good key) (ha : ∃ v, Has D [65] v) (hbb : BytesAt w kg o1 (rest.drop L)) (haa : ArrAt w kg (ko + kc)) (h1 : o + c = ko + kc) (h2 : L < c → o1 = o + L)
    (hrc : rest.length ≤ c) (hr : L < rest.length) (hy : (rest.drop L)[0]? = some b) (hno : ¬ ∃ V, Kid t D X b V) (hF : Fresh wc 10 8 8 wc.heap.size w1)
    (e2 : w2 = w1.setCell ⟨wc.heap.size, 0, none⟩ (.slice (some ⟨kg, o1, none⟩) (rest.length - L : Nat) (c - L : Nat))) :
    Calls Tryz.prog (addFn X.d) #[ptrV X.lb, ptrV wc.heap.size] w2 fun e w4 => ∃ d' lb', e = .returned (.iface (tyOf d') (ptrV lb')) ∧ Kept (fun k => k = X.lb ∨ k = X.ab) w2 w4 ∧
      ∀ w5, w5 = w4.setCell ⟨X.blk, 4, none⟩ (.iface (tyOf d') (ptrV lb')) → ∃ D4 V, Mid w w5 t D D4 kg ∧ D4 V ∧ V.word = key ∧ V.blk = wc.heap.size ∧ V.item = none := by
  obtain ⟨k1, k2⟩ := key_later m hkg hbb haa h1 h2 (by omega)
  have hdl : (rest.drop L).length = rest.length - L := by simp
  exact m.leaf_add hX (key := key) (rest := rest.drop L) (c := c - L) hF k1 k2 (by rw [hdl]; omega) hy (fun Y hY e => hkg ⟨Y, hY, .inr (.inr (.inr e.symm))⟩) hk hgk hno ha (w3 := w2) (by rw [hdl]; exact e2)

theorem item_none {x : Option Int} (h : x.isNone = true) : x = none := by simpa using h
theorem exact_no {w we : World} {t kg : Nat} {D : Node → Prop} {X : Node} {key : List UInt8} {x : Int} {replace : Bool} (hX : D X) (hk : key = X.word) (hr : ¬ replace = true) (hi : X.item.isNone = false) (hd : Drawn w we) :
    PutPost w t D key kg x replace (.returned (.bool false)) we := by
  refine .inr ⟨rfl, by simpa using hr, ?_, hd⟩
  cases h : X.item with
  | none => rw [h] at hi; cases hi
  | some v => exact ⟨v, X, hX, hk.symm, h⟩

theorem split_leaf {w wn wc w1 w2 : World} {t kg ko kc o c L o1 : Nat} {D D3 : Node → Prop} {X m3 : Node} {b : UInt8} {key rest : List UInt8} (m : Mid w wc t D D3 kg) (s : SplitDone wn wc t D D3 X m3 L b) (hn : wn.heap.size = w.heap.size)
    (hk : key = X.word.take (X.word.length - X.plen + L) ++ rest.drop L) (hkg : ¬ TB D kg) (hgk : Good key) (ha : ∃ v, Has D [65] v) (hbb : BytesAt w kg o1 (rest.drop L)) (haa : ArrAt w kg (ko + kc)) (h1 : o + c = ko + kc) (h2 : L < c → o1 = o + L)
    (hrc : rest.length ≤ c) (hL : lcp rest X.pre = L) (hr : L < rest.length) (hp : L < X.pre.length) (hF : Fresh wc 10 8 8 wc.heap.size w1)
    (e2 : w2 = w1.setCell ⟨wc.heap.size, 0, none⟩ (.slice (some ⟨kg, o1, none⟩) (rest.length - L : Nat) (c - L : Nat))) :
    Calls Tryz.prog 99 #[ptrV m3.lb, ptrV wc.heap.size] w2 fun e w4 => ∃ d' lb', e = .returned (.iface (tyOf d') (ptrV lb')) ∧ Kept (fun k => k = m3.lb ∨ k = m3.ab) w2 w4 ∧
      ∀ w5, w5 = w4.setCell ⟨X.blk, 4, none⟩ (.iface (tyOf d') (ptrV lb')) → ∃ D4 V, Mid w w5 t D D4 kg ∧ D4 V ∧ V.word = key ∧ V.blk = wc.heap.size ∧ V.item = none := by
  obtain ⟨k1, k2⟩ := key_later m hkg hbb haa h1 h2 (by omega)
  have hdl : (rest.drop L).length = rest.length - L := by simp
  have hy : (rest.drop L)[0]? = some rest[L] := by rw [List.getElem?_drop]; exact List.getElem?_eq_getElem hr
  have hltk : kg < w.heap.size := by obtain ⟨cur, fr, e, _⟩ := haa; exact lt_of_block e
  have := m.leaf_add s.mem (key := key) (rest := rest.drop L) (c := c - L) hF k1 k2 (by rw [hdl]; omega) hy (fun Y hY e => ?_) (by rw [s.word]; exact hk) hgk ?_ ha (w3 := w2) (by rw [hdl]; exact e2)
  · rw [s.d, s.blk] at this; exact this
  · rcases s.blocks Y hY kg (.inr (.inr (.inr e.symm))) with h | h
    · exact hkg h
    · omega
  · rintro ⟨V, hV⟩
    obtain ⟨c', hc'⟩ := s.kid
    have h5 := (hc' rest[L] V.blk).2 ⟨V, hV, rfl⟩
    unfold upd at h5
    split at h5
    · rename_i e
      have := lcp_differ rest X.pre (by omega) (by omega)
      rw [hL, s.hb, List.getElem?_eq_getElem hr, e] at this
      exact this rfl
    · cases h5

set_option maxRecDepth 100000 in
set_option maxHeartbeats 4000000 in
theorem put_calls {w : World} {t : Nat} {D : Node → Prop} (h : TrieAt w t D) (hl : Low t D) (key : List UInt8) (ht : Top t D key) (ha : ∃ v, Has D [65] v) (hgk : Good key) (kg ko kc : Nat) (x : Int) (replace : Bool) (hpos : 0 < key.length)
    (hkb : BytesAt w kg ko key) (hka : ArrAt w kg (ko + kc)) (hkc : key.length ≤ kc) (hkg : ¬ TB D kg) :
    Calls Tryz.prog 40 #[ptrV t, .slice (some ⟨kg, ko, none⟩) key.length kc, .iface 3 (.int .i64 x), .bool replace] w (PutPost w t D key kg x replace) := by
  have hkl := hgk.len
  have hlen : ∀ X, D X → X.word.length ≤ 100 := fun X hX => by have := (hl.good X hX).len; omega
  have hdp := ht.thin hl h.wf
  have HT := Lib.hid (And.intro hl (And.intro ht (And.intro ha (And.intro hgk (And.intro hkg hdp))))); clear hl ht ha hgk hkg hdp
  obtain ⟨R, hR, hRt, hRl⟩ := h.wf.root
  have hNR := h.at_ R hR
  have c0 := hNR.c0
  rw [hRt] at c0
  have hm := meth_next
  have hn := nil_next
  have hcn := call_next
  have hma := meth_add
  have hna := nil_add
  have hca := call_add
  have hm4 := meth_add94
  have hn4 := nil_add94
  have hc4 := call_add94
  have hie := item_eql
  have hig := item_guard
  have s1 := slice_eq
  have H := Lib.hid (And.intro h hlen); clear h hlen
  have HK := Lib.hid (And.intro hkb (And.intro hka hNR)); clear hkb hka hNR
  go_enter Tryz.func40, Tryz.ntmps40
  go_wp2_with fail
  refine wp_scope_fwd rfl rfl rfl ?_
  intro J0 J1 J2 hJ0 hJ1 hJ2
  go_wp2_with fail
  go_loopg [1, 9, 10, 11] (2 * key.length + 1) (fun k v1 _ v10 _ wr => ∃ (X : Node) (rest : List UInt8) (o c : Nat), v1 = .slice (some ⟨kg, o, none⟩) rest.length c ∧ v10 = ptrV X.blk ∧
    rest.length ≤ c ∧ rest.length ≤ 100 ∧ 2 * rest.length + (if X.blk = t then 1 else 0) ≤ k ∧ Hid (BytesAt w kg o rest ∧ Down t D key X rest ∧ o + c = ko + kc ∧ Drawn w wr))
  case atStart => exact ⟨R, key, ko, kc, rfl, by rw [hRt], hkc, by omega, by rw [if_pos hRt]; omega, Lib.hid ⟨HK.out.1, Down.start H.out.1.wf hR hRt key, rfl, Drawn.refl _⟩⟩
  case round =>
    obtain ⟨X, rest, o, c, rfl, rfl, h1, h2, h3, HD⟩ := hrel
    have hN := H.out.1.at_ X HD.out.2.1.mem
    have hpl := H.out.1.wf.plen_le HD.out.2.1.mem
    have hprel := X.pre_len hpl
    have hwl := H.out.2 X HD.out.2.1.mem
    have hroom := hN.room
    have hLl := lcp_le_left rest X.pre
    have hLr := lcp_le_right rest X.pre
    rw [hprel] at hLr
    have HL : Hid (∀ u, Drawn w u → Calls Tryz.prog 54 #[ptrV X.blk, .slice (some ⟨kg, o, none⟩) rest.length c] u fun e w' => e = .returned (.int .i64 (lcp rest X.pre)) ∧ Drawn w w') := fun u hu => by
      refine (lcp_calls u X.blk X.g X.off X.cap kg o c rest X.pre (by omega) (by omega) (by rw [hprel]; exact hu.cell hN.c0) (hu.bytes hN.bytes) (hu.bytes HD.out.1)).mono ?_
      rintro e w' ⟨rfl, n, rfl⟩
      exact ⟨rfl, hu.more n⟩
    obtain ⟨o1, hs1, hb1, ho1⟩ := slice_tail rest HD.out.1 (lcp rest X.pre) hLl h1
    have HB := Lib.hid (And.intro hb1 ho1)
    clear hb1 ho1
    have HN := Lib.hid hN; clear hN
    have HP := Lib.hid hprel; clear hprel
    obtain ⟨L, hL⟩ : ∃ L, lcp rest X.pre = L := ⟨_, rfl⟩
    rw [hL] at hLl hLr hs1 HL HB
    have HL0 := Lib.hid hL; clear hL
    have hlen2 : (rest.drop L).length = rest.length - L := by simp
    by_cases hp : L < X.plen
    · -- split
      go_wp2_with (go_at_call 54; refine (HL.out _ HD.out.2.2.2).mono ?_; rintro e wn ⟨rfl, hwn⟩; have HWN := Lib.hid hwn; clear hwn; have c0 := HWN.out.cell HN.out.c0)
      go_step3
      go_simp
      refine hJ2 _ _ ?_
      have HXn := Lib.hid ((HWN.out.trie H.out.1).at_ X HD.out.2.1.mem).node
      have q0 : ∀ o, (wn.alloc o).cell? ⟨X.blk, 0, none⟩ = _ := fun o => cAl (HWN.out.cell HN.out.c0)
      have q1 : ∀ o, (wn.alloc o).cell? ⟨X.blk, 1, none⟩ = _ := fun o => cAl (HWN.out.cell HN.out.c1)
      have q2 : ∀ o, (wn.alloc o).cell? ⟨X.blk, 2, none⟩ = _ := fun o => cAl (HWN.out.cell HN.out.c2)
      have q3 : ∀ o, (wn.alloc o).cell? ⟨X.blk, 3, none⟩ = _ := fun o => cAl (HWN.out.cell HN.out.c3)
      have q4 : ∀ o, (wn.alloc o).cell? ⟨X.blk, 4, none⟩ = _ := fun o => cAl (HWN.out.cell HN.out.c4)
      have hne : ¬ X.blk = wn.heap.size := by have := lt_of_block HXn.out; omega
      have hne2 : ¬ wn.heap.size = X.blk := fun e => hne e.symm
      go_upto_region 21 with (go_at_call 20; refine (newTrie_nil _).mono ?_; rintro e w1 ⟨rfl, hF⟩; obtain ⟨hXb, hcb, hnb⟩ := split_w1 HXn.out hF; obtain ⟨⟨n0, n1, n2, n3, n4⟩, _⟩ := five hnb; obtain ⟨⟨x0, x1, x2, x3, x4⟩, y0, y1, y2, y3, y4⟩ := five hXb; obtain ⟨⟨z0, z1, z2, z3, z4⟩, u0, u1, u2, u3, u4⟩ := five hcb; have HF := Lib.hid (And.intro hF (And.intro hXb hcb)); clear hF hXb hcb hnb z1 z2 z3 z4 u1 u2 u3 u4)
      generalize hw2 : (((((w1.setCell ⟨X.blk, 0, none⟩ (Value.slice none 0 0)).setCell ⟨X.blk, 1, none⟩ Value.nilIface).setCell ⟨X.blk, 2, none⟩ (Value.int IntKind.i64 10)).setCell ⟨X.blk, 3, none⟩ (Value.int IntKind.i64 8)).setCell ⟨X.blk, 4, none⟩ (Value.iface 94 (ptrV (wn.heap.size + 3)))) = w2
      have hFA := five_at (X := X) HXn.out HF.out.1 rfl hw2.symm
      have hlt := lt_of_block HXn.out
      clear hw2 n0 n1 n2 n3 n4 x0 x1 x2 x3 x4 y0 y1 y2 y3 y4 z0 u0 q0 q1 q2 q3 q4
      obtain ⟨⟨x0, _⟩, y0, _⟩ := five hFA.mid
      obtain ⟨⟨z0, _⟩, u0, _⟩ := five hFA.rest
      have HFA := Lib.hid hFA; clear hFA HF h3
      have sh := slice_high (g := X.g) (o := X.off) (n := X.plen) (c := X.cap) (L := L) (by omega) hroom
      have sl := slice_low (g := X.g) (o := X.off) (n := X.plen) (c := X.cap) (L := L) hp hroom
      go_upto_region 23 with fail
      clear x0 y0 z0 u0 sh sl
      generalize hw3 : ((w2.setCell ⟨X.blk, 0, none⟩ (.slice (some ⟨X.g, X.off, none⟩) L X.cap)).setCell ⟨wn.heap.size, 0, none⟩ (.slice (some ⟨X.g, X.off + L, none⟩) (X.plen - L) (X.cap - L))) = w3
      have HC : Hid (Calls Tryz.prog 43 #[ptrV wn.heap.size] w3 fun e wc => ∃ c b, e = .returned (ptrV c) ∧ Gone wn wc t D X L c b) :=
        Lib.hid (split_calls (HWN.out.trie H.out.1) HD.out.2.1.mem hp (down_pos HD.out.2.1 HL0.out) (split_at HFA.out hlt rfl rfl hw3.symm) HT.out.2.2.2.2.2 H.out.2)
      have HBne : Hid (¬ (X.blk = wn.heap.size + 3 ∨ X.blk = wn.heap.size + 2)) := Lib.hid (by omega)
      clear hw3 hlt hne hne2 HFA HXn
      go_upto_region 24 with (go_at_call 43; refine HC.out.mono ?_; rintro e wc ⟨cx, b, rfl, hG⟩)
      have HG := Lib.hid hG; clear hG
      obtain ⟨⟨_, _, _, _, x4⟩, _⟩ := five HG.out.node
      have HA : Hid (Calls Tryz.prog 99 #[ptrV (wn.heap.size + 3), ptrV cx] wc fun e wd => ∃ d' lb', e = .returned (.iface (tyOf d') (ptrV lb')) ∧ Kept (fun k => k = wn.heap.size + 3 ∨ k = wn.heap.size + 2) wc wd ∧
        ∀ we, we = wd.setCell ⟨X.blk, 4, none⟩ (.iface (tyOf d') (ptrV lb')) → ∃ D3 m3, SplitDone wn we t D D3 X m3 L b) := Lib.hid HG.out.add
      have HW : Hid (∀ wd, Kept (fun k => k = wn.heap.size + 3 ∨ k = wn.heap.size + 2) wc wd → wd.cell? ⟨X.blk, 4, none⟩ = some (.iface 94 (ptrV (wn.heap.size + 3))) ∧ wd.frozen? ⟨X.blk, 4, none⟩ = false) := Lib.hid fun wd hk => by
        have := five (hk.lt HG.out.node (HBne.out))
        exact ⟨this.1.2.2.2.2, this.2.2.2.2.2⟩
      go_cut [11] (fun s wx => ∃ D3 m3, SplitDone wn wx t D D3 X m3 L b)
      case first =>
        go_wp2_with (with_reducible refine HA.out.mono ?_; rintro e wd ⟨d', lb', rfl, hk, hd⟩; obtain ⟨v1, v2⟩ := HW.out wd hk)
        all_goals (go_meet; exact hd _ rfl)
      case rest =>
        obtain ⟨D3, m3, hcut⟩ := hcut
        have hM : Mid w wc t D D3 kg := Mid.split HWN.out hcut HD.out.2.1.mem HT.out.1 (HT.out.2.1.split H.out.1.wf HD.out.2.1 HL0.out) H.out.1.wf
        obtain ⟨r2, m1, m4, mf⟩ := hM.cells hcut.mem
        rw [hcut.blk] at m1 m4 mf
        rw [hcut.item] at m1
        rw [hcut.d] at m4
        have HM := Lib.hid (And.intro hM hcut); clear hM hcut
        by_cases hr : rest.length = L
        · have hz : (((rest.length - L : Nat) : Int) != 0) = false := by simp; omega
          have hkm := down_split HD.out.2.1 HL0.out (Nat.le_of_lt hp) hpl
          rw [List.drop_eq_nil_of_le (Nat.le_of_eq hr), List.append_nil] at hkm
          have HR := Lib.hid hkm; clear hr hkm
          go_wp2_with fail
          go_step3
          go_simp
          go_wp2_with fail
          refine wp_loop_rounds 1 ?_
          rw [rounds_succ]
          go_wp2_with fail
          go_step3
          go_simp
          go_wp2_with fail
          all_goals (rw [fwd_ret]; go_ret; exact split_set HM.out.1 HM.out.2 HR.out x replace)
        · have hz : (((rest.length - L : Nat) : Int) != 0) = true := by simp; omega
          have HR : Hid (L < rest.length) := Lib.hid (by omega)
          have hrk : rest.length ≤ key.length := by have := congrArg List.length HD.out.2.1.eq; simp at this; omega
          have hdec : decide (((rest.length - L : Nat) : Int) ≤ 10) = true := by simp; omega
          have m4 : wc.cell? ⟨X.blk, 4, none⟩ = some (.iface 94 (ptrV m3.lb)) := m4
          clear hr
          go_wp2_with fail
          go_step3
          go_simp
          go_wp2_with fail
          refine wp_loop_rounds 1 ?_
          rw [rounds_succ]
          go_upto_region 29 with (go_at_call 20; refine (newTrie_nil _).mono ?_; rintro e w1 ⟨rfl, hF⟩; obtain ⟨⟨n0, _⟩, g0, _⟩ := five hF.node; have r2 := hF.cell r2; have m4 := hF.cell m4; have HF := Lib.hid hF; clear hF)
          have hlb : X.blk < wc.heap.size := World.block_lt_of_cell? _ _ m1
          generalize hw2 : w1.setCell ⟨wc.heap.size, 0, none⟩ (Value.slice (some ⟨kg, o1, none⟩) (rest.length - L) (c - L)) = w2
          have HA2 : Hid (Calls Tryz.prog 99 #[ptrV m3.lb, ptrV wc.heap.size] w2 fun e w4 => ∃ d' lb', e = .returned (.iface (tyOf d') (ptrV lb')) ∧ Kept (fun k => k = m3.lb ∨ k = m3.ab) w2 w4 ∧
            ∀ w5, w5 = w4.setCell ⟨X.blk, 4, none⟩ (.iface (tyOf d') (ptrV lb')) → ∃ D4 V, Mid w w5 t D D4 kg ∧ D4 V ∧ V.word = key ∧ V.blk = wc.heap.size ∧ V.item = none) :=
            Lib.hid (split_leaf HM.out.1 HM.out.2 (by rw [HWN.out.heap]) (down_split HD.out.2.1 HL0.out (Nat.le_of_lt hp) hpl) HT.out.2.2.2.2.1 HT.out.2.2.2.1 HT.out.2.2.1 HB.out.1 HK.out.2.1 HD.out.2.2.1 HB.out.2 h1 HL0.out HR.out (by rw [HP.out]; exact hp) HF.out hw2.symm)
          have m4' : w2.cell? ⟨X.blk, 4, none⟩ = some (.iface 94 (ptrV m3.lb)) := by rw [← hw2]; exact cSeB m4 (by omega)
          have HW2 : Hid (∀ wd, Kept (fun k => k = m3.lb ∨ k = m3.ab) w2 wd → wd.cell? ⟨X.blk, 4, none⟩ = some (.iface 94 (ptrV m3.lb)) ∧ wd.frozen? ⟨X.blk, 4, none⟩ = false) := Lib.hid (by
            have hN3 := HM.out.1.trie.at_ m3 HM.out.2.mem
            have hne := hN3.blk_ne hN3
            have hn2 := hSe (a := ⟨wc.heap.size, 0, none⟩) (v := Value.slice (some ⟨kg, o1, none⟩) (rest.length - L) (c - L)) ((Kept.of_below HF.out.below).lt hN3.node (by show ¬ (wc.heap.size ≤ m3.blk); rw [HM.out.2.blk]; omega)) (by show m3.blk ≠ wc.heap.size; rw [HM.out.2.blk]; omega)
            rw [hw2] at hn2
            intro wd hk
            have := five (hk.lt hn2 (by rintro (e | e); exact hne.1 e; exact hne.2.1 e))
            rw [HM.out.2.blk] at this
            exact ⟨by rw [this.1.2.2.2.2, HM.out.2.d]; rfl, this.2.2.2.2.2⟩)
          clear hw2 n0 g0 m1 mf
          go_cut [11] (fun s wx => ∃ D4 V, Mid w wx t D D4 kg ∧ D4 V ∧ V.word = key ∧ V.blk = wc.heap.size ∧ V.item = none)
          case first =>
            go_wp2_with (with_reducible refine HA2.out.mono ?_; rintro e wd ⟨d', lb', rfl, hk, hd⟩; obtain ⟨v1, v2⟩ := HW2.out wd hk)
            all_goals (go_meet; exact hd _ rfl)
          case rest =>
            obtain ⟨D4, V, hM4, hV4, hV5, hV6, hV7⟩ := hcut
            obtain ⟨_, p1, _, pf⟩ := hM4.cells hV4
            rw [hV6] at p1 pf
            rw [hV7] at p1
            have HV := Lib.hid (And.intro hM4 (And.intro hV4 (And.intro hV5 (And.intro hV6 hV7)))); clear hM4 hV4 hV5 hV6 hV7
            go_wp2_with fail
            go_step3
            go_simp
            refine hJ0 _ _ ?_
            go_wp2_with fail
            all_goals (rw [fwd_ret]; go_ret; exact leaf_set HV.out x replace)
    · obtain rfl : X.plen = L := by omega
      have hkm := down_split HD.out.2.1 HL0.out (Nat.le_refl _) hpl
      rw [show X.word.length - X.plen + X.plen = X.word.length by omega, List.take_length] at hkm
      by_cases hf : X.plen = rest.length
      · have hz : (((rest.length - X.plen : Nat) : Int) == 0) = true := by simp; omega
        rw [List.drop_eq_nil_of_le (Nat.le_of_eq hf.symm), List.append_nil] at hkm
        have HF := Lib.hid hkm; clear hf hkm
        go_wp2_with (go_at_call 54; refine (HL.out _ HD.out.2.2.2).mono ?_; rintro e wn ⟨rfl, hwn⟩; have HWN := Lib.hid hwn; clear hwn; have c0 := HWN.out.cell HN.out.c0)
        go_step3
        go_simp
        refine hJ0 _ _ ?_
        have m1 := HWN.out.cell HN.out.c1
        have mf := HWN.out.free (HN.out.free 1)
        have HM : Hid (Mid w wn t D D kg) := Lib.hid (Mid.start H.out.1 HT.out.1 (HT.out.2.1.past (fun R' hR' hR't => by rw [HF.out]; exact H.out.1.wf.root_prefix hR' hR't _ X (Nat.le_refl _) HD.out.2.1.mem)) HWN.out)
        go_wp2_with fail
        all_goals (rw [fwd_ret]; go_ret)
        · exact HM.out.post HD.out.2.1.mem HF.out.symm x replace (.inr (by assumption))
        · exact HM.out.post HD.out.2.1.mem HF.out.symm x replace (.inl (item_none (by assumption)))
        · exact exact_no HD.out.2.1.mem HF.out (by assumption) (by assumption) HWN.out
      · have hz : (((rest.length - X.plen : Nat) : Int) == 0) = false := by simp; omega
        obtain ⟨b, hbd⟩ : ∃ b, (rest.drop X.plen)[0]? = some b := ⟨(rest.drop X.plen)[0]'(by simp; omega), by rw [List.getElem?_eq_getElem]⟩
        have HBC : Hid (w.cell? ⟨kg, o1, none⟩ = some (.int .u8 b.toNat)) := Lib.hid (by
          have h0 : 0 < (rest.drop X.plen).length := by simp; omega
          have := HB.out.1 0 h0
          rw [List.getElem?_eq_getElem h0] at hbd
          cases hbd
          simpa using this)
        have hi0 : (0 : Int) < ((rest.length - X.plen : Nat) : Int) := by omega
        have hi1 : 0 < rest.length - X.plen := by omega
        have HF := Lib.hid (And.intro hf (And.intro hbd hkm)); clear hf hbd hkm
        go_wp2_with (go_at_call 54; refine (HL.out _ HD.out.2.2.2).mono ?_; rintro e wn ⟨rfl, hwn⟩; have HWN := Lib.hid hwn; clear hwn; have c0 := HWN.out.cell HN.out.c0)
        have hNn := (HWN.out.trie H.out.1).at_ X HD.out.2.1.mem
        have c4 := hNn.c4
        obtain ⟨K, hK, hKiff⟩ := hNn.kids
        have hfb := (HWN.out.trie H.out.1).kidfb hKiff
        have hb1 : ∀ m, (wn.drewN m).cell? ⟨kg, o1, none⟩ = some (.int .u8 b.toNat) := fun m => HWN.out.cell HBC.out
        have HX := Lib.hid (fun m => kids_next (w := wn.drewN m) (d := X.d) (lb := X.lb) (ab := X.ab) (cc := X.cc) (K := K) (kids_drewN hK m) (fun y c hy => (hfb y c hy)) b)
        cases hKb : K b with
        | none =>
          rw [hKb] at HX; simp only [optV] at HX
          have HE : Hid (¬ ∃ V, Kid t D X b V) := Lib.hid (by rintro ⟨V, hV⟩; have := (hKiff b V.blk).2 ⟨V, hV, rfl⟩; rw [hKb] at this; cases this)
          clear hKiff hfb hK hKb hNn
          go_quiet (((with_reducible refine (HX.out _).mono ?_); rintro e w' ⟨rfl, m', rfl⟩; exact ⟨rfl, _, World.drewN_drewN ..⟩))
          go_wp2_with fail
          generalize hwq : wn.drewN nq = wc
          have HWC : Hid (Drawn w wc) := Lib.hid (by rw [← hwq]; exact HWN.out.more _)
          clear hwq hb1 c4 c0
          go_step3
          go_simp
          refine hJ1 _ _ ?_
          have hrk : rest.length ≤ key.length := by have := congrArg List.length HD.out.2.1.eq; simp at this; omega
          have hdec : decide (((rest.length - X.plen : Nat) : Int) ≤ 10) = true := by simp; omega
          have hz1 : (((rest.length - X.plen : Nat) : Int) != 0) = true := by simp; omega
          have HM : Hid (Mid w wc t D D kg) := Lib.hid (Mid.start H.out.1 HT.out.1 (HT.out.2.1.past (fun R' hR' hR't => (H.out.1.wf.root_prefix hR' hR't _ X (Nat.le_refl _) HD.out.2.1.mem).trans (by rw [HF.out.2.2]; exact List.prefix_append _ _))) HWC.out)
          obtain ⟨r2, m1, m4, mf⟩ := HM.out.cells HD.out.2.1.mem
          have hlb : X.blk < wc.heap.size := World.block_lt_of_cell? _ _ m1
          go_wp2_with fail
          refine wp_loop_rounds 1 ?_
          rw [rounds_succ]
          go_upto_region 29 with (go_at_call 20; refine (newTrie_nil _).mono ?_; rintro e w1 ⟨rfl, hF⟩; obtain ⟨⟨n0, _⟩, g0, _⟩ := five hF.node; have r2 := hF.cell r2; have m4 := hF.cell m4; have HF1 := Lib.hid hF; clear hF)
          generalize hw2 : w1.setCell ⟨wc.heap.size, 0, none⟩ (Value.slice (some ⟨kg, o1, none⟩) (rest.length - X.plen) (c - X.plen)) = w2
          have HA2 : Hid (Calls Tryz.prog (addFn X.d) #[ptrV X.lb, ptrV wc.heap.size] w2 fun e w4 => ∃ d' lb', e = .returned (.iface (tyOf d') (ptrV lb')) ∧ Kept (fun k => k = X.lb ∨ k = X.ab) w2 w4 ∧
            ∀ w5, w5 = w4.setCell ⟨X.blk, 4, none⟩ (.iface (tyOf d') (ptrV lb')) → ∃ D4 V, Mid w w5 t D D4 kg ∧ D4 V ∧ V.word = key ∧ V.blk = wc.heap.size ∧ V.item = none) :=
            Lib.hid (direct_leaf HM.out HD.out.2.1.mem HF.out.2.2 HT.out.2.2.2.2.1 HT.out.2.2.2.1 HT.out.2.2.1 HB.out.1 HK.out.2.1 HD.out.2.2.1 HB.out.2 h1 (by omega) HF.out.2.1 HE.out HF1.out hw2.symm)
          have m4' : w2.cell? ⟨X.blk, 4, none⟩ = some (.iface (tyOf X.d) (ptrV X.lb)) := by rw [← hw2]; exact cSeB m4 (by omega)
          have HW2 : Hid (∀ wd, Kept (fun k => k = X.lb ∨ k = X.ab) w2 wd → wd.cell? ⟨X.blk, 4, none⟩ = some (.iface (tyOf X.d) (ptrV X.lb)) ∧ wd.frozen? ⟨X.blk, 4, none⟩ = false) := Lib.hid (by
            have hN3 := HM.out.trie.at_ X HD.out.2.1.mem
            have hne := hN3.blk_ne hN3
            have hn2 := hSe (a := ⟨wc.heap.size, 0, none⟩) (v := Value.slice (some ⟨kg, o1, none⟩) (rest.length - X.plen) (c - X.plen)) ((Kept.of_below HF1.out.below).lt hN3.node (by show ¬ (wc.heap.size ≤ X.blk); omega)) (by show X.blk ≠ wc.heap.size; omega)
            rw [hw2] at hn2
            intro wd hk
            have := five (hk.lt hn2 (by rintro (e | e); exact hne.1 e; exact hne.2.1 e))
            exact ⟨this.1.2.2.2.2, this.2.2.2.2.2⟩)
          clear hw2 n0 g0 m1 mf
          go_cut [11] (fun s wx => ∃ D4 V, Mid w wx t D D4 kg ∧ D4 V ∧ V.word = key ∧ V.blk = wc.heap.size ∧ V.item = none)
          case first =>
            go_wp2_with (with_reducible refine HA2.out.mono ?_; rintro e wd ⟨d', lb', rfl, hk, hd⟩; obtain ⟨v1, v2⟩ := HW2.out wd hk)
            all_goals (go_meet; exact hd _ rfl)
          case rest =>
            obtain ⟨D4, V, hM4, hV4, hV5, hV6, hV7⟩ := hcut
            obtain ⟨_, p1, _, pf⟩ := hM4.cells hV4
            rw [hV6] at p1 pf
            rw [hV7] at p1
            have HV := Lib.hid (And.intro hM4 (And.intro hV4 (And.intro hV5 (And.intro hV6 hV7)))); clear hM4 hV4 hV5 hV6 hV7
            go_wp2_with fail
            go_step3
            go_simp
            refine hJ0 _ _ ?_
            go_wp2_with fail
            all_goals (rw [fwd_ret]; go_ret; exact leaf_set HV.out x replace)
        | some cb =>
          rw [hKb] at HX; simp only [optV] at HX
          obtain ⟨V, hV, rfl⟩ := (hKiff b cb).1 hKb
          have hpos : 2 * (rest.length - X.plen) < gk := by
            by_cases hXt : X.blk = t
            · rw [if_pos hXt] at h3; omega
            · have := (H.out.1.wf.up X HD.out.2.1.mem hXt).1; rw [if_neg hXt] at h3; omega
          have HR : Hid (BytesAt w kg o1 (rest.drop X.plen) ∧ Down t D key V (rest.drop X.plen) ∧ o1 + (c - X.plen) = ko + kc) :=
            Lib.hid ⟨HB.out.1, by have := HD.out.2.1.next (by rw [HL0.out, HP.out]) (b := b) (by rw [HP.out]; exact HF.out.2.1) hV; rw [HP.out] at this; exact this, by have := HD.out.2.2.1; have := HB.out.2 (by omega); omega⟩
          have hVt := hV.2.1
          clear hKiff hfb hK hKb hV hNn
          go_quiet (((with_reducible refine (HX.out _).mono ?_); rintro e w' ⟨rfl, m', rfl⟩; exact ⟨rfl, _, World.drewN_drewN ..⟩))
          go_wp2_with fail
          go_roundg (2 * (rest.length - X.plen))
          case measure => exact hpos
          case rel => exact ⟨V, rest.drop X.plen, o1, c - X.plen, by rw [hlen2], rfl, by omega, by omega, by rw [if_neg hVt]; omega, Lib.hid ⟨HR.out.1, HR.out.2.1, HR.out.2.2, HWN.out.more _⟩⟩
end Go.Proofs.YtpopiaahdanpeaaGreatDoor
