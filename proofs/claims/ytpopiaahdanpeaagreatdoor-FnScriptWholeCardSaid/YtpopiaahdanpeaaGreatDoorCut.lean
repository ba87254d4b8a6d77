/- A subtree cut off: the memory of it; the walk of DeleteSubtree. -/
import Derived.Test.YtpopiaahdanpeaaGreatDoorGet
import Derived.Deep.DeepCutAuto
namespace Go.Proofs.YtpopiaahdanpeaaGreatDoor
open Go Go.RowKit
set_option linter.unusedVariables false

structure CutOut (w w' : World) (t : Nat) (D D' : Node → Prop) (s : List UInt8) : Prop where
  trie : TrieAt w' t D'
  low : Low t D'
  top : ∀ X, D' X → X.blk = t → X.word = [] ∧ X.mp = 10
  has : ∀ k v, Has D' k v ↔ Has D k v ∧ ¬ s <+: k
  kept : Kept (TB D) w w'
  blocks : ∀ Y, D' Y → ∀ k, NB Y k → TB D k ∨ w.heap.size ≤ k

section
variable {w w' : World} {t : Nat} {D : Node → Prop} {N P : Node}

/-- The children of what is left. -/
theorem kid_cut (h : WF t D) (hN : D N) (hNt : N.blk ≠ t) {Y : Node} (hY : ¬ N.word <+: Y.word) (b : UInt8) (V : Node) : Kid t (cutN D N.word) Y b V ↔ Kid t D Y b V ∧ V ≠ N := by
  constructor
  · rintro ⟨⟨hV, hn⟩, h1, h2, h3⟩
    exact ⟨⟨hV, h1, h2, h3⟩, fun e => hn (by rw [e]; exact List.prefix_rfl)⟩
  · rintro ⟨⟨hV, h1, h2, h3⟩, hne⟩
    refine ⟨⟨hV, fun hp => ?_⟩, h1, h2, h3⟩
    by_cases e : N.word = V.word
    · exact hne (h.winj V N hV hN e.symm)
    · have hg := h.gap V N hV hN hp e
      obtain ⟨u1, u2, _⟩ := h.up V hV h1
      apply hY
      rw [← h2]
      exact List.prefix_of_prefix_length_le hp V.par_prefix (by rw [V.par_len]; omega)

theorem cut_trie (h : TrieAt w t D) (hN : D N) (hNt : N.blk ≠ t) (hP : D P) (hPw : P.word = N.par) {b : UInt8} (hb : N.pre[0]? = some b) {K : UInt8 → Option Nat} {ab' : Nat} (hKi : ∀ b c, K b = some c ↔ ∃ V, Kid t D P b V ∧ V.blk = c)
    (hK' : KidsAt w' P.d P.lb ab' P.cc (upd K b none)) (hk : Kept (fun k => k = P.lb ∨ k = P.ab) w w') (hab : ab' = P.ab ∨ w.heap.size ≤ ab') :
    TrieAt w' t (swapN (cutN D N.word) P (relist P P.d P.lb ab')) := by
  have hw := h.wf
  obtain ⟨n1, n2, _⟩ := hw.up N hN hNt
  have hPn : ¬ N.word <+: P.word := by
    intro hp; have := hp.length_le; rw [hPw, N.par_len] at this; omega
  have hNP := h.at_ P hP
  have hne := hNP.blk_ne hNP
  have hKN : Kid t D P b N := ⟨hN, hNt, hPw.symm, hb⟩
  refine relist_mem (m := P) (d' := P.d) (lb' := P.lb) (ab' := ab') (hw.cut hN hNt) (fun Y hY hYP => ?_) ⟨hP, hPn⟩ hNP.raw (hk.mono fun k _ e => by rcases e with e | e; exact .inl e; exact .inr (.inl e)) (hk.lt hNP.node (by rintro (e | e); exact hne.1 e; exact hne.2.1 e)) hK' (fun b' c => ?_) (.inl rfl) hab
  · have hNY := h.at_ Y hY.1
    obtain ⟨KY, hKY, hi⟩ := hNY.kids
    refine ⟨hNY.node, hNY.bytes, hNY.arr, hNY.room, KY, hKY, fun b' c => (hi b' c).trans ?_⟩
    constructor
    · rintro ⟨V, hV, e⟩
      refine ⟨V, (kid_cut hw hN hNt hY.2 b' V).2 ⟨hV, ?_⟩, e⟩
      rintro rfl
      exact hYP (hw.winj Y P hY.1 hP (by rw [← hV.2.2.1, hPw]))
    · rintro ⟨V, hV, e⟩
      exact ⟨V, ((kid_cut hw hN hNt hY.2 b' V).1 hV).1, e⟩
  · unfold upd
    by_cases e : b' = b
    · subst e
      rw [if_pos rfl]
      constructor
      · intro e2; cases e2
      · rintro ⟨V, hV, _⟩
        obtain ⟨h1, h2⟩ := (kid_cut hw hN hNt hPn b' V).1 hV
        exact (h2 (hw.kid_unique h1 hKN)).elim
    · rw [if_neg e, hKi]
      constructor
      · rintro ⟨V, hV, e2⟩
        refine ⟨V, (kid_cut hw hN hNt hPn b' V).2 ⟨hV, ?_⟩, e2⟩
        rintro rfl
        have := hV.2.2.2; rw [hb] at this; injection this with this; exact e this.symm
      · rintro ⟨V, hV, e2⟩
        exact ⟨V, ((kid_cut hw hN hNt hPn b' V).1 hV).1, e2⟩

theorem cut_out (h : TrieAt w t D) (hl : Low t D) (htop : ∀ X, D X → X.blk = t → X.word = [] ∧ X.mp = 10) (hN : D N) (hNt : N.blk ≠ t) (hP : D P) (hPw : P.word = N.par) {b : UInt8} (hb : N.pre[0]? = some b) {K : UInt8 → Option Nat} {ab' : Nat}
    (hKi : ∀ b c, K b = some c ↔ ∃ V, Kid t D P b V ∧ V.blk = c) (hK' : KidsAt w' P.d P.lb ab' P.cc (upd K b none)) (hk : Kept (fun k => k = P.lb ∨ k = P.ab) w w') (hab : ab' = P.ab ∨ w.heap.size ≤ ab') :
    CutOut w w' t D (swapN (cutN D N.word) P (relist P P.d P.lb ab')) N.word := by
  have hPn : ¬ N.word <+: P.word := by
    obtain ⟨n1, n2, _⟩ := h.wf.up N hN hNt
    intro hp; have := hp.length_le; rw [hPw, N.par_len] at this; omega
  have hs : ∀ Y, swapN (cutN D N.word) P (relist P P.d P.lb ab') Y → (D Y ∧ ¬ N.word <+: Y.word ∧ Y ≠ P) ∨ Y = relist P P.d P.lb ab' := by
    rintro Y (⟨⟨h1, h2⟩, h3⟩ | e)
    · exact .inl ⟨h1, h2, h3⟩
    · exact .inr e
  refine ⟨cut_trie h hN hNt hP hPw hb hKi hK' hk hab, ⟨fun Y hY => ?_, fun Y hY hb => ?_⟩, fun Y hY hb => ?_, fun k v => ?_, hk.mono ?_, fun Y hY k hk => ?_⟩
  · rcases hs Y hY with ⟨h1, _⟩ | rfl
    · exact hl.good Y h1
    · exact hl.good P hP
  · rcases hs Y hY with ⟨h1, _⟩ | rfl
    · exact hl.low Y h1 hb
    · exact hl.low P hP hb
  · rcases hs Y hY with ⟨h1, _⟩ | rfl
    · exact htop Y h1 hb
    · exact htop P hP hb
  · constructor
    · rintro ⟨Y, hY, e1, e2⟩
      rcases hs Y hY with ⟨h1, h2, _⟩ | rfl
      · exact ⟨⟨Y, h1, e1, e2⟩, by rw [← e1]; exact h2⟩
      · exact ⟨⟨P, hP, e1, e2⟩, by rw [← e1]; exact hPn⟩
    · rintro ⟨⟨Y, hY, e1, e2⟩, hn⟩
      by_cases e : Y = P
      · subst e; exact ⟨_, .inr rfl, e1, e2⟩
      · exact ⟨Y, .inl ⟨⟨hY, by rw [e1]; exact hn⟩, e⟩, e1, e2⟩
  · rintro k hk (rfl | rfl)
    · exact ⟨P, hP, .inr (.inl rfl)⟩
    · exact ⟨P, hP, .inr (.inr (.inl rfl))⟩
  · rcases hs Y hY with ⟨h1, _⟩ | rfl
    · exact .inl ⟨Y, h1, hk⟩
    · rcases hk with e | e | e | e
      · exact .inl ⟨P, hP, .inl e⟩
      · exact .inl ⟨P, hP, .inr (.inl e)⟩
      · rcases hab with e2 | e2
        · exact .inl ⟨P, hP, .inr (.inr (.inl (e.trans e2)))⟩
        · right; rw [e]; exact e2
      · exact .inl ⟨P, hP, .inr (.inr (.inr e))⟩

theorem found_ext {key : List UInt8} (h : WF t D) (hN : D N) (hNt : N.blk ≠ t) (h1 : key <+: N.word) (h2 : N.par <+: key) (h3 : N.par ≠ key) {Y : Node} (hY : D Y) (hk : key <+: Y.word) : N.word <+: Y.word := by
  obtain ⟨n1, n2, P, hP, e⟩ := h.up N hN hNt
  have hpl := N.pre_len n2
  have hlt : N.par.length < key.length := by
    rcases Nat.lt_or_ge N.par.length key.length with h' | h'
    · exact h'
    · exact (h3 (h2.eq_of_length (by have := h2.length_le; omega))).elim
  have hPY : P.word <+: Y.word := by rw [e]; exact h2.trans hk
  have hne : P.word ≠ Y.word := by intro e2; have := hk.length_le; rw [← e2, e] at this; omega
  obtain ⟨V, b, hV, hVY, hb⟩ := h.kid_on_path hP _ Y (Nat.le_refl _) hY hPY hne
  have hNb : N.pre[0]? = some b := by
    have e1 : N.word[N.par.length]? = N.pre[0]? := by
      conv => lhs; rw [← N.par_pre]
      rw [List.getElem?_append_right (Nat.le_refl _), Nat.sub_self]
    rw [← e1, ← hb, e]
    obtain ⟨s1, r1⟩ := h1
    obtain ⟨s2, r2⟩ := hk
    rw [← r1, ← r2, List.getElem?_append_left hlt, List.getElem?_append_left hlt]
  rw [← h.kid_unique hV ⟨hN, hNt, e.symm, hNb⟩]; exact hVY

theorem meth_remove (d : Bool) (a : Addr) (w : World) : (method 277 (tyOf d) (.pointer (some a)) "loop.example/pub-triescripts/pub/patricia.remove").run Tryz.prog w = .ok (removeFn d, .pointer (some a)) w := by
  cases d <;> kernel_rfl
theorem nil_remove (d : Bool) (a : Addr) (w : World) : (nilAhead 277 (tyOf d) (.pointer (some a)) "loop.example/pub-triescripts/pub/patricia.remove").run Tryz.prog w = .ok (some false) w := by
  cases d <;> kernel_rfl
theorem call_remove (d : Bool) (args : Array Value) (w : World) : (callFunc (removeFn d) args).run Tryz.prog w = .ok (.enter (removeFn d) args) w := by
  cases d <;> kernel_rfl

/-- What DeleteSubtree gives. -/
def CutPost (w : World) (t : Nat) (D : Node → Prop) (key : List UInt8) (e : Ending) (w' : World) : Prop :=
  (∃ D', e = .returned (.bool true) ∧ CutOut w w' t D D' key ∧ ∃ X, D X ∧ key <+: X.word) ∨ (e = .returned (.bool false) ∧ (¬ ∃ X, D X ∧ key <+: X.word) ∧ Drawn w w')

/-- A found node that is not the root has a parent. -/
theorem found_par {key : List UInt8} {X : Node} {PV : Value} (htop : ∀ X, D X → X.blk = t → X.word = [] ∧ X.mp = 10) (hpos : 0 < key.length) (hX : D X) (h1 : key <+: X.word)
    (h3 : X.blk = t ∧ PV = Value.pointer none ∨ X.blk ≠ t ∧ X.par ≠ key ∧ ∃ P, D P ∧ P.word = X.par ∧ PV = ptrV P.blk) : X.blk ≠ t ∧ X.par ≠ key ∧ ∃ P, D P ∧ P.word = X.par ∧ PV = ptrV P.blk := by
  rcases h3 with ⟨e, _⟩ | h
  · have := h1.length_le
    rw [(htop X hX e).1] at this
    simp only [List.length_nil] at this; omega
  · exact h
/-- A node's first byte, in memory. -/
theorem NodeAt.first (h : NodeAt w t D N) (hw : WF t D) (hN : D N) (hNt : N.blk ≠ t) : ∃ b, N.pre[0]? = some b ∧ w.cell? ⟨N.g, N.off, none⟩ = some (.int .u8 b.toNat) ∧ 0 < N.plen := by
  obtain ⟨n1, n2, _⟩ := hw.up N hN hNt
  have hpl := N.pre_len n2
  have h0 : 0 < N.pre.length := by omega
  exact ⟨N.pre[0], List.getElem?_eq_getElem h0, by simpa using h.bytes 0 h0, n1⟩

set_option maxRecDepth 100000 in
set_option maxHeartbeats 2000000 in
theorem deleteSubtree_calls (h : TrieAt w t D) (hl : Low t D) (htop : ∀ X, D X → X.blk = t → X.word = [] ∧ X.mp = 10) (key : List UInt8) (kg ko kc : Nat) (hk : BytesAt w kg ko key) (hkl : key.length ≤ 100) (hpos : 0 < key.length) (hkc : key.length ≤ kc)
    (hbig : ∀ y ∈ key, 65 < y.toNat) : Calls Tryz.prog 26 #[ptrV t, .slice (some ⟨kg, ko, none⟩) key.length kc] w (CutPost w t D key) := by
  have hlen : ∀ X, D X → X.word.length ≤ 100 := fun X hX => by have := (hl.good X hX).len; omega
  have HF := Lib.hid (findSubtree_calls h key kg ko kc hk hkl hkc hlen)
  obtain ⟨R, hR, hRt, _⟩ := h.wf.root
  have c0 := (h.at_ R hR).c0
  rw [hRt] at c0
  have hm := meth_remove
  have hn := nil_remove
  have hc := call_remove
  have s1 := slice_eq
  have H := Lib.hid (And.intro h (And.intro hl (And.intro htop hbig))); clear h hl htop hk hbig hlen
  go_enter Tryz.func26, Tryz.ntmps26
  go_upto_region 11 with (go_at_call 44; refine HF.out.mono ?_; rintro e w1 ⟨n, rfl, ⟨X, PV, o', c', hX, h1, h2, h3, rfl, h4, h5⟩ | ⟨h1, v0, v1, v3, rfl⟩⟩; first | (obtain ⟨hXt, hXk, P, hP, hPw, rfl⟩ := found_par H.out.2.2.1 hpos hX h1 h3; clear h3 h4 h5) | skip)
  · obtain ⟨b, hb, cb, hpl⟩ := (H.out.1.at_ X hX).first H.out.1.wf hX hXt
    have hpl2 : (0 : Int) < (X.plen : Int) := by omega
    have cP := (H.out.1.at_ P hP).c4
    have cX := (H.out.1.at_ X hX).c0
    obtain ⟨K, hK, hKi⟩ := (H.out.1.at_ P hP).kids
    have hbk : 65 < b.toNat := by
      have hl2 := h2.length_le
      have hlt : X.par.length < key.length := by
        rcases Nat.lt_or_ge X.par.length key.length with h' | h'
        · exact h'
        · exact (hXk (h2.eq_of_length (by omega))).elim
      have e1 : X.word[X.par.length]? = X.pre[0]? := by
        conv => lhs; rw [← X.par_pre]
        rw [List.getElem?_append_right (Nat.le_refl _), Nat.sub_self]
      obtain ⟨s, hs⟩ := h1
      rw [← hs, List.getElem?_append_left hlt, hb] at e1
      exact H.out.2.2.2 b (List.mem_of_getElem? e1)
    have hKb : K b ≠ none := by rw [(hKi b X.blk).2 ⟨X, ⟨hX, hXt, hPw.symm, hb⟩, rfl⟩]; simp
    have HR : Hid (∀ m, Calls Tryz.prog (removeFn P.d) #[ptrV P.lb, .int .u8 b.toNat] (w.drewN m) fun e w' => e = .returned (.tuple #[]) ∧ ∃ D', CutOut w w' t D D' X.word) := Lib.hid fun m => by
      refine (kids_remove (w := w.drewN m) (kids_drewN hK m) (fun y c hy => (H.out.1.kidfb hKi) y c hy) b hKb (fun _ => hbk)).mono ?_
      rintro e w' ⟨rfl, ab', q1, q2, q3⟩
      exact ⟨rfl, _, cut_out H.out.1 H.out.2.1 H.out.2.2.1 hX hXt hP hPw hb hKi q1 (((Kept.refl (fun k => k = P.lb ∨ k = P.ab) w).drewN m).trans q2) q3⟩
    have HX := Lib.hid (And.intro hX (And.intro hXt (And.intro hXk (And.intro h1 h2)))); clear hK hKi hKb hX h1 h2 hXt hXk hb hPw hP
    go_cut [5] (fun s wx => ∃ D', CutOut w wx t D D' X.word)
    case first =>
      go_region_with (with_reducible refine (HR.out _).mono ?_; rintro e wd ⟨rfl, hd⟩)
      all_goals (go_wp2_with fail; go_meet; exact hd)
    case rest =>
      obtain ⟨D', hD'⟩ := hcut
      go_wp2
      go_ret
      refine .inl ⟨D', rfl, ⟨hD'.trie, hD'.low, hD'.top, fun k v => ?_, hD'.kept, hD'.blocks⟩, X, HX.out.1, HX.out.2.2.2.1⟩
      rw [hD'.has]
      constructor
      · rintro ⟨⟨Y, hY, e1, e2⟩, q⟩
        exact ⟨⟨Y, hY, e1, e2⟩, fun hk => q (by rw [← e1] at hk ⊢; exact found_ext H.out.1.wf HX.out.1 HX.out.2.1 HX.out.2.2.2.1 HX.out.2.2.2.2 HX.out.2.2.1 hY hk)⟩
      · rintro ⟨q1, q⟩
        exact ⟨q1, fun hk => q (HX.out.2.2.2.1.trans hk)⟩
  · go_wp2
    go_ret
    exact .inr ⟨rfl, h1, _, rfl⟩
end
end Go.Proofs.YtpopiaahdanpeaaGreatDoor
