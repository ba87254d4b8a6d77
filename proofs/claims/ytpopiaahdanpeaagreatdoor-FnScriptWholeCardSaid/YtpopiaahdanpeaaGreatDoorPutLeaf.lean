/- Put's leaf: the call of add. -/
import Derived.Test.YtpopiaahdanpeaaGreatDoorSplitCall
namespace Go.Proofs.YtpopiaahdanpeaaGreatDoor
open Go Go.RowKit
set_option linter.unusedVariables false

theorem fresh_key {t : Nat} {D : Node → Prop} {X : Node} {key : List UInt8} (hw : WF t D) (hX : D X) (hk : X.word = key) (hi : X.item = none) (v : Int) : ¬ Has D key v := by
  rintro ⟨Y, hY, e1, e2⟩
  have := hw.winj Y X hY hX (by rw [e1, hk])
  subst this
  rw [hi] at e2; cases e2

section
variable {w w1 w2 w3 : World} {t kg : Nat} {D D1 : Node → Prop} {key : List UInt8} {X : Node}

theorem Mid.leaf_add (m : Mid w w1 t D D1 kg) (hX : D1 X) {b o c : Nat} {rest : List UInt8} {y : UInt8} (hF : Fresh w1 10 8 8 b w2) (hkb : BytesAt w1 kg o rest) (hka : ArrAt w1 kg (o + c)) (hc : rest.length ≤ c) (hy : rest[0]? = some y)
    (hkg : ∀ Y, D1 Y → Y.g ≠ kg) (hkey : key = X.word ++ rest) (hgk : Good key) (hno : ¬ ∃ V, Kid t D1 X y V) (ha : ∃ v, Has D [65] v)
    (e3 : w3 = w2.setCell ⟨b, 0, none⟩ (.slice (some ⟨kg, o, none⟩) rest.length c)) :
    Calls Tryz.prog (addFn X.d) #[ptrV X.lb, ptrV b] w3 fun e w4 => ∃ d' lb', e = .returned (.iface (tyOf d') (ptrV lb')) ∧ Kept (fun k => k = X.lb ∨ k = X.ab) w3 w4 ∧
      ∀ w5, w5 = w4.setCell ⟨X.blk, 4, none⟩ (.iface (tyOf d') (ptrV lb')) → ∃ D4 V, Mid w w5 t D D4 kg ∧ D4 V ∧ V.word = key ∧ V.blk = b ∧ V.item = none := by
  have hN := m.trie.at_ X hX
  obtain ⟨K, hK, hi⟩ := hN.kids
  have hw := m.trie.wf
  have hb := hF.at_
  have hbs := hF.size
  obtain ⟨x1, x2, x3, x4⟩ := hN.lts
  have k2 : Kept (fun k => w1.heap.size ≤ k) w1 w3 := by rw [e3]; exact (Kept.of_below hF.below).setCell (Or.inl hb) _
  have hr0 : 0 < rest.length := by
    rcases Nat.eq_zero_or_pos rest.length with h0 | h0
    · rw [List.getElem?_eq_none (by omega)] at hy; cases hy
    · exact h0
  have hltk : kg < w1.heap.size := by obtain ⟨cur, fr, e, _⟩ := hka; exact lt_of_block e
  have hn3 : w3.heap[b]? = some (.cells #[.slice (some ⟨kg, o, none⟩) rest.length c, .nilIface, .int .i64 10, .int .i64 8, .iface 94 (ptrV (b + 2))] 73 (0, 0)) := by
    rw [e3, heap_setCell_at hF.node]; rfl
  have hKn : K y = none := by
    cases e : K y with
    | none => rfl
    | some c => obtain ⟨V, hV, _⟩ := (hi y c).1 e; exact (hno ⟨V, hV⟩).elim
  have hfb3 : ∀ y c, K y = some c → FB w3 c y := by
    intro y' c' hyc
    obtain ⟨V, hV, e⟩ := (hi y' c').1 hyc
    have hNV := m.trie.at_ V hV.1
    obtain ⟨v1, v2, v3, v4⟩ := hNV.lts
    obtain ⟨u1, u2, _⟩ := hw.up V hV.1 hV.2.1
    obtain ⟨g, o', n, cp, f1, f2⟩ := hNV.fb u2 hV.2.2.2
    rw [← e]
    refine ⟨g, o', n, cp, k2.cell f1 (by show ¬ (w1.heap.size ≤ V.blk); omega), k2.cell f2 ?_⟩
    have := hNV.c0
    rw [this] at f1
    simp at f1
    show ¬ (w1.heap.size ≤ g); omega
  have hcb : FB w3 b y := by
    refine ⟨kg, o, rest.length - 1, c, ?_, ?_⟩
    · rw [show rest.length - 1 + 1 = rest.length by omega]; exact cell_of_heap hn3 0
    · have := hkb 0 hr0
      rw [List.getElem?_eq_getElem hr0] at hy
      cases hy
      exact k2.cell (by simpa using this) (by show ¬ (w1.heap.size ≤ kg); omega)
  have hp : X.word <+: key := by rw [hkey]; exact List.prefix_append _ _
  have hky : key[X.word.length]? = some y := by rw [hkey, List.getElem?_append_right (Nat.le_refl _), Nat.sub_self]; exact hy
  obtain ⟨hr1, hr2⟩ := m.low.room hw hX hgk hp hky (fun hb => ⟨(m.top X hX hb).1, by obtain ⟨v, hv⟩ := ha; exact ⟨v, (m.has _ _).2 hv⟩⟩) hi
  have hK3 := kids_kept hK k2 (by show ¬ (w1.heap.size ≤ X.lb); omega) (by show ¬ (w1.heap.size ≤ X.ab); omega)
  refine (kids_add hK3 hfb3 y b hKn hcb hr1).mono ?_
  rintro e w4 ⟨d', lb', ab', he, q1, q2, q3, q4, q5⟩
  refine ⟨d', lb', he, q2, fun w5 e5 => ?_⟩
  exact m.leaf hX hF hkb hka hc hy hkg hkey hgk hi hKn e3 q2 q1 q3 q4 (fun hn => q5 (hr2 hn).1 (hr2 hn).2) e5
end
end Go.Proofs.YtpopiaahdanpeaaGreatDoor
