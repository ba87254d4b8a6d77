/- compact at a node of a trie. -/
import Derived.Test.YtpopiaahdanpeaaGreatDoorMem2
namespace Go.Proofs.YtpopiaahdanpeaaGreatDoor
open Go Go.RowKit
set_option linter.unusedVariables false

/-- A world that has drawn on from w. -/
def Drawn (w u : World) : Prop := ∃ n, u = w.drewN n
theorem Drawn.heap {w u : World} (h : Drawn w u) : u.heap = w.heap := by obtain ⟨n, rfl⟩ := h; rfl
theorem Drawn.refl (w : World) : Drawn w w := ⟨0, rfl⟩
theorem Drawn.more {w u : World} (h : Drawn w u) (n : Nat) : Drawn w (u.drewN n) := by obtain ⟨m, rfl⟩ := h; exact ⟨m + n, World.drewN_drewN ..⟩
theorem Drawn.trans {w u v : World} (h : Drawn w u) (k : Drawn u v) : Drawn w v := by obtain ⟨n, rfl⟩ := k; exact h.more n
theorem Drawn.kept {w u : World} (h : Drawn w u) (S : Nat → Prop) : Kept S w u := by obtain ⟨m, rfl⟩ := h; exact (Kept.refl S w).drewN m
theorem Drawn.cell {w u : World} (h : Drawn w u) {p : Addr} {v : Value} (hc : w.cell? p = some v) : u.cell? p = some v := by obtain ⟨m, rfl⟩ := h; exact hc
theorem Drawn.free {w u : World} (h : Drawn w u) {p : Addr} (hc : w.frozen? p = false) : u.frozen? p = false := by obtain ⟨m, rfl⟩ := h; exact hc
theorem Drawn.bytes {w u : World} (h : Drawn w u) {g o : Nat} {l : List UInt8} (hb : BytesAt w g o l) : BytesAt u g o l := by obtain ⟨m, rfl⟩ := h; exact hb
theorem Drawn.arr {w u : World} (h : Drawn w u) {g n : Nat} (hb : ArrAt w g n) : ArrAt u g n := by obtain ⟨m, rfl⟩ := h; exact hb
theorem Drawn.kids {w u : World} (h : Drawn w u) {d : Bool} {lb ab cc : Nat} {K : UInt8 → Option Nat} (hk : KidsAt w d lb ab cc K) : KidsAt u d lb ab cc K := by obtain ⟨m, rfl⟩ := h; exact kids_drewN hk m
theorem Drawn.trie {w u : World} (h : Drawn w u) {t : Nat} {D : Node → Prop} (ht : TrieAt w t D) : TrieAt u t D := ht.same h.heap

/-- What compact gives at the node n. -/
def ComOut (w : World) (t : Nat) (D : Node → Prop) (n : Node) (e : Ending) (w' : World) : Prop :=
  (e = .returned (ptrV n.blk) ∧ Drawn w w') ∨
  ∃ b V g' off' cap', Kid t D n b V ∧ (∀ V' b', Kid t D n b' V' → V' = V) ∧ n.item = none ∧ V.item = none ∧ e = .returned (ptrV V.blk) ∧
    Merged w w' V.blk n.g n.off n.plen n.cap V.plen n.pre V.pre (.int .i64 V.mp) (.int .i64 V.mc) (.iface (tyOf V.d) (ptrV V.lb)) g' off' cap'

open Classical in
theorem compact_node {w : World} {t : Nat} {D : Node → Prop} {n : Node} {K : UInt8 → Option Nat} (hw : WF t D) (hn : D n) (hR : Raw w n) (hK : KidsAt w n.d n.lb n.ab n.cc K) (hKi : ∀ b c, K b = some c ↔ ∃ V, Kid t D n b V ∧ V.blk = c)
    (hkids : ∀ V b, Kid t D n b V → NodeAt w t D V) (hd : n.d = true → cnt K ≠ 1) (hlen : ∀ Y, D Y → Y.word.length ≤ 100) :
    Calls Tryz.prog 43 #[ptrV n.blk] w (ComOut w t D n) := by
  have hpl := hw.plen_le hn
  have hnl := hlen n hn
  refine (compact_calls (w := w) (b := n.blk) (lb := n.lb) (ab := n.ab) (cc := n.cc) (g := n.g) (off := n.off) (plen := n.plen) (cap := n.cap) (d := n.d) (mp := n.mp) (item := n.item) (K := K) (pre := n.pre)
    (child := fun c => if h : ∃ V b, Kid t D n b V ∧ V.blk = c then some (h.choose.g, h.choose.off, h.choose.plen, h.choose.cap, h.choose.pre, h.choose.item, .int .i64 h.choose.mp, .int .i64 h.choose.mc, .iface (tyOf h.choose.d) (ptrV h.choose.lb)) else none)
    hR.node hK hd (n.pre_len hpl) hR.bytes hR.arr (by omega) hR.room ?_).mono ?_
  · intro y c hy
    obtain ⟨V, hV, e⟩ := (hKi y c).1 hy
    have hN := hkids V y hV
    have hVl := hlen V hV.1
    obtain ⟨v1, v2, _⟩ := hw.up V hV.1 hV.2.1
    refine ⟨?_, ?_⟩
    · rw [← e]; intro e2
      have := hw.binj V n hV.1 hn e2
      subst this
      have := congrArg List.length hV.2.2.1
      rw [Node.par_len] at this; omega
    · have hex : ∃ V b, Kid t D n b V ∧ V.blk = c := ⟨V, y, hV, e⟩
      have hch : hex.choose = V := by
        obtain ⟨b, hk, e2⟩ := hex.choose_spec
        exact hw.binj _ V hk.1 hV.1 (by rw [e2, e])
      refine ⟨V.g, V.off, V.plen, V.cap, V.pre, V.item, .int .i64 V.mp, .int .i64 V.mc, .iface (tyOf V.d) (ptrV V.lb), ?_, ?_, V.pre_len v2, v1, by omega, hN.bytes⟩
      · rw [dif_pos hex, hch]
      · rw [← e]; exact hN.node
  · rintro e w' (h | ⟨c, y, g2, off2, plen2, cap2, pre2, v2, v3, v4, g', off', cap', hy, h1, hi, hch, he, hM⟩)
    · exact .inl h
    · obtain ⟨V, hV, e2⟩ := (hKi y c).1 hy
      have hex : ∃ V b, Kid t D n b V ∧ V.blk = c := ⟨V, y, hV, e2⟩
      have hchv : hex.choose = V := by
        obtain ⟨b, hk, e3⟩ := hex.choose_spec
        exact hw.binj _ V hk.1 hV.1 (by rw [e3, e2])
      replace hch := (dif_pos hex).symm.trans hch
      rw [hchv] at hch
      simp only [Option.some.injEq, Prod.mk.injEq] at hch
      obtain ⟨a1, a2, a3, a4, a5, a6, a7, a8, a9⟩ := hch
      subst a1; subst a2; subst a3; subst a4; subst a5; subst a7; subst a8; subst a9; subst e2
      refine .inr ⟨y, V, g', off', cap', hV, fun V' b' hV' => ?_, hi, a6, he, hM⟩
      have hd0 : n.d = false := by
        cases hnd : n.d with
        | false => rfl
        | true => exact (hd hnd h1).elim
      rw [hd0] at hK
      obtain ⟨b1, c1, hb1, hu, _⟩ := hK.one h1
      have e4 : b' = b1 := by
        by_cases e : b' = b1
        · exact e
        · have := hu b' e; rw [(hKi b' V'.blk).2 ⟨V', hV', rfl⟩] at this; cases this
      have e5 : y = b1 := by
        by_cases e : y = b1
        · exact e
        · have := hu y e; rw [hy] at this; cases this
      subst e4; subst e5
      exact hw.kid_unique hV' hV
end Go.Proofs.YtpopiaahdanpeaaGreatDoor
