/- The call of compact in put's split. -/
import Derived.Test.YtpopiaahdanpeaaGreatDoorPutEnd
namespace Go.Proofs.YtpopiaahdanpeaaGreatDoor
open Go Go.RowKit
set_option linter.unusedVariables false

/-- What compact leaves for the children's add. -/
structure Gone (wn wc : World) (t : Nat) (D : Node → Prop) (X : Node) (L c : Nat) (b : UInt8) : Prop where
  kids : KidsAt wc false (wn.heap.size + 3) (wn.heap.size + 2) 8 (fun _ => none)
  fb : FB wc c b
  node : wc.heap[X.blk]? = some (.cells #[.slice (some ⟨X.g, X.off, none⟩) L X.cap, .nilIface, .int .i64 10, .int .i64 8, .iface 94 (ptrV (wn.heap.size + 3))] 73 (0, 0))
  kept : Kept (TB D) wn wc
  done : ∀ wd d' lb' ab', Kept (fun k => k = wn.heap.size + 3 ∨ k = wn.heap.size + 2) wc wd → KidsAt wd d' lb' ab' 8 (upd (fun _ => none) b (some c)) →
        (lb' = wn.heap.size + 3 ∨ wc.heap.size ≤ lb') → (ab' = wn.heap.size + 2 ∨ wc.heap.size ≤ ab') → d' = false →
        ∀ we, we = wd.setCell ⟨X.blk, 4, none⟩ (.iface (tyOf d') (ptrV lb')) → ∃ D3 m3, SplitDone wn we t D D3 X m3 L b

theorem split_calls {wn w3 : World} {t : Nat} {D : Node → Prop} {X : Node} {L : Nat} (h : TrieAt wn t D) (hX : D X) (hL : L < X.plen) (hpos : X.blk ≠ t → 0 < L) (s : SplitAt wn w3 X L)
    (hdp : ∀ Y, D Y → Y.d = true → Y.plen = 0) (hlen : ∀ Y, D Y → Y.word.length ≤ 100) :
    Calls Tryz.prog 43 #[ptrV wn.heap.size] w3 fun e wc => ∃ c b, e = .returned (ptrV c) ∧ Gone wn wc t D X L c b := by
  obtain ⟨b, hb, r⟩ := split_ready h hX hL hpos s
  have hs := split_halves h hX hL hpos
  have hN := r.all _ r.mem2 r.ne
  obtain ⟨K, hK, hi⟩ := hN.kids
  refine (compact_node r.wf r.mem2 hN.raw hK hi (fun V b' hV => r.all V hV.1 (r.below V b' hV)) (fun hd => ?_) (fun Y hY => ?_)).mono ?_
  · exfalso
    have := hdp X hX hd; omega
  · rcases hY with (⟨hY, _⟩ | rfl) | rfl
    · exact hlen Y hY
    · have := hlen X hX
      have e : (midOf X L wn.heap.size).word.length ≤ X.word.length := by simp [midOf]; omega
      omega
    · exact hlen X hX
  · intro e wc hc
    obtain ⟨c, b2, he, q1, q2, q3, q4, q5⟩ := split_done h hX hL hpos s hc
    exact ⟨c, b2, he, q1, q2, q3, q4, q5⟩

theorem Gone.add {wn wc : World} {t : Nat} {D : Node → Prop} {X : Node} {L c : Nat} {b : UInt8} (g : Gone wn wc t D X L c b) :
    Calls Tryz.prog (addFn false) #[ptrV (wn.heap.size + 3), ptrV c] wc fun e wd => ∃ d' lb', e = .returned (.iface (tyOf d') (ptrV lb')) ∧ Kept (fun k => k = wn.heap.size + 3 ∨ k = wn.heap.size + 2) wc wd ∧
      ∀ we, we = wd.setCell ⟨X.blk, 4, none⟩ (.iface (tyOf d') (ptrV lb')) → ∃ D3 m3, SplitDone wn we t D D3 X m3 L b := by
  refine (kids_add g.kids (fun y c h => by cases h) b c rfl g.fb (.inl ⟨rfl, by rw [cnt_none]; omega⟩)).mono ?_
  rintro e wd ⟨d', lb', ab', he, h1, h2, h3, h4, h5⟩
  exact ⟨d', lb', he, h2, g.done wd d' lb' ab' h2 h1 h3 h4 (h5 rfl (by rw [cnt_none]; omega))⟩
end Go.Proofs.YtpopiaahdanpeaaGreatDoor
