/- The walk of put on a trie without nodes. -/
import Derived.Test.YtpopiaahdanpeaaGreatDoorScope
namespace Go.Proofs.YtpopiaahdanpeaaGreatDoor
open Go Go.RowKit
set_option linter.unusedVariables false

theorem slice_eq (a : Addr) (n c : Nat) (w : World) : (binOp .eql 56 (.slice (some a) n c) (.slice none 0 0)).run Tryz.prog w = .ok (.bool false) w := by kernel_rfl
theorem slice_eq_nil (w : World) : (binOp .eql 56 (.slice none 0 0) (.slice none 0 0)).run Tryz.prog w = .ok (.bool true) w := by kernel_rfl

/-- The only node of a trie. -/
def only (key : List UInt8) (x : Int) (b n kg ko kc : Nat) (mp mc : Int) : Node :=
  { word := key, plen := key.length, item := some x, blk := b, lb := b + 2, ab := b + 1, cc := n, d := false, g := kg, off := ko, cap := kc, mp := mp, mc := mc }

theorem only_wf (X : Node) (h : X.plen = X.word.length) : WF X.blk (fun Y => Y = X) where
  root := ⟨X, rfl, rfl, h⟩
  up := fun Y hY hb => by subst hY; exact (hb rfl).elim
  gap := fun Y Z hY hZ _ hne => by subst hY; subst hZ; exact (hne rfl).elim
  sib := fun Y Z hY hZ _ _ _ _ => by rw [hY, hZ]
  winj := fun Y Z hY hZ _ => by rw [hY, hZ]
  binj := fun Y Z hY hZ _ => by rw [hY, hZ]
  linj := fun Y Z hY hZ _ => by rw [hY, hZ]
  ainj := fun Y Z hY hZ _ => by rw [hY, hZ]
  alias := fun Y Z hY hZ hne => by subst hY; subst hZ; exact (hne rfl).elim

set_option maxRecDepth 100000 in
set_option maxHeartbeats 2000000 in
theorem put_first {w w0 : World} {b n : Nat} {mp mc : Int} (h : Fresh w0 mp mc n b w) (key : List UInt8) (kg ko kc : Nat) (x : Int) (hk : (key.length : Int) ≤ mp) (hpos : 0 < key.length) (hl : key.length ≤ 100)
    (hkb : BytesAt w kg ko key) (hka : ArrAt w kg (ko + kc)) (hkc : key.length ≤ kc) (hkg : kg < w.heap.size) :
    Calls Tryz.prog 40 #[ptrV b, .slice (some ⟨kg, ko, none⟩) key.length kc, itemV (some x), .bool true] w fun e w' => e = .returned (.bool true) ∧
      TrieAt w' b (fun Y => Y = only key x b n kg ko kc mp mc) ∧ Kept (fun k => k = b) w w' := by
  have c0 := cell_of_heap h.node 0
  have c1 := cell_of_heap h.node 1
  have c2 := cell_of_heap h.node 2
  simp at c0 c1 c2
  have f0 := free_of_heap h.node 0
  have f1 := free_of_heap h.node 1
  have s1 := slice_eq
  have s2 := slice_eq_nil
  have hi : itemV (some x) = .iface 3 (.int .i64 x) := rfl
  rw [hi]
  have hd : decide ((key.length : Int) ≤ mp) = true := by simpa using hk
  have H := Lib.hid (And.intro h (And.intro hkb hka)); clear h hkb hka hi
  go_enter Tryz.func40, Tryz.ntmps40
  go_wp2_with fail
  refine wp_scope_fwd rfl rfl rfl ?_
  intro J0 J1 J2 hJ0 hJ1 hJ2
  go_wp2_with fail
  go_step3
  go_simp
  refine hJ0 _ _ ?_
  go_wp2_with fail
  rw [fwd_ret]
  go_ret
  obtain ⟨h, hkb, hka⟩ := H.out
  have hbk : b ≠ kg := by rintro rfl; obtain ⟨cur, fr, e, _⟩ := hka; rw [h.node] at e; simp at e
  have hk1 : Kept (fun k => k = b) w ((w.setCell ⟨b, 0, none⟩ (.slice (some ⟨kg, ko, none⟩) key.length kc)).setCell ⟨b, 1, none⟩ (.iface 3 (.int .i64 x))) :=
    ((Kept.refl (fun k => k = b) w).setCell (Or.inl rfl) _).setCell (Or.inl rfl) _
  have hl1 : ∀ k, w.heap[b]? ≠ w.heap[k]? → k ≠ b := by rintro k hne rfl; exact hne rfl
  have hlb : b + 2 ≠ b := by omega
  refine ⟨rfl, ⟨only_wf (only key x b n kg ko kc mp mc) rfl, fun X hX => ?_⟩, hk1⟩
  subst hX
  have hpre : (only key x b n kg ko kc mp mc).pre = key := by simp [Node.pre, only]
  refine ⟨?_, ?_, hka.kept hk1 (Ne.symm hbk), hkc, fun _ => none, ?_, ?_⟩
  · show (World.setCell _ _ _).heap[b]? = _
    rw [heap_setCell_at (heap_setCell_at h.node)]; rfl
  · rw [hpre]; exact hkb.kept hk1 (Ne.symm hbk)
  · refine kids_kept (w := w) (S := fun k => k = b) ?_ hk1 (by simp [only]) (by simp [only])
    exact ⟨[], h.list, by simp, fun y => rfl, by simp [cnt_none]⟩
  · intro y c
    constructor
    · intro e; cases e
    · rintro ⟨V, hV, _⟩; exact (hV.2.1 (by rw [hV.1]; rfl)).elim
end Go.Proofs.YtpopiaahdanpeaaGreatDoor
