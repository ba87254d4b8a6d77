/- The two visitors: the words with commas; the list of words. under and keys. -/
import Derived.Test.YtpopiaahdanpeaaGreatDoorVisits
import Derived.Test.YtpopiaahdanpeaaGreatDoorIter
namespace Go.Proofs.YtpopiaahdanpeaaGreatDoor
open Go Go.RowKit
set_option linter.unusedVariables false

section
variable {w : World} {t : Nat} {D : Node → Prop} {X : Node}

theorem strOf_size (l : Word) : (strOf l).size = l.length := by simp [strOf, ByteArray.size]
theorem strOf_app (a b : Word) : strOf a ++ strOf b = strOf (a ++ b) := by apply ByteArray.ext; simp [strOf]
theorem enter48 (args : Array Value) (w : World) : (callFunc 48 args).run Tryz.prog w = .ok (.enter 48 args) w := by kernel_rfl
theorem enter30 (args : Array Value) (w : World) : (callFunc 30 args).run Tryz.prog w = .ok (.enter 30 args) w := by kernel_rfl

set_option maxRecDepth 100000 in
theorem under_step {vb g cap : Nat} {s word : Word} {x : Value} (h : w.heap[vb]? = some (.cells #[.string (strOf s)] 9 (0, 0))) (hb : BytesAt w g 0 word) (hl : word.length ≤ 5) (hs : s.length ≤ 1000) :
    Calls Tryz.prog 48 #[.slice (some ⟨g, 0, none⟩) word.length cap, x, ptrV vb] w fun e w' => e = .returned .nilIface ∧ w' = w.setCell ⟨vb, 0, none⟩ (.string (strOf (s ++ (word ++ [44])))) := by
  have c0 := cell_of_heap h 0
  simp at c0
  have f0 := free_of_heap h 0
  have e1 := strOf_size word
  have e2 := strOf_size s
  have hr := run_str (W := w) (c := cap) hb _ rfl
  clear h hb
  go_enter Tryz.func48, Tryz.ntmps48
  go_wp2
  go_ret
  refine ⟨rfl, ?_⟩
  rw [show (ByteArray.mk #[44]) = strOf [44] from rfl, strOf_app, strOf_app]

/-- a word as a value -/
abbrev strV (k : Word) : Value := .string (strOf k)
theorem info9 : (Tryz.prog.info? 9).map (fun i => (i.zero, i.size, i.bytes)) = some (some (.string ByteArray.empty), 1, 16) := by kernel_rfl

theorem ownsRow_kept {S : Nat → Prop} {w w' : World} {base size n : Nat} {e : TypeId} {v : Value} {xs : List Value} (h : w.ownsRow base e size v n xs) (k : Kept S w w') (hs : ∀ g, base ≤ g → ¬ S g) : w'.ownsRow base e size v n xs := by
  obtain ⟨h1, h2 | ⟨g, cap, cur, a1, a2, a3, a4⟩⟩ := h
  · exact ⟨h1, .inl h2⟩
  · exact ⟨h1, .inr ⟨g, cap, cur, a1, a2, k.lt a3 (hs g a2), a4⟩⟩
/-- What an append of one word to a slice leaves. -/
def Longer1 (w : World) (vb base : Nat) (L : List Word) (w' : World) : Prop :=
  ∃ v, w'.heap[vb]? = some (.cells #[v] 24 (0, 0)) ∧ w'.ownsRow base 9 1 v L.length (L.map strV) ∧ Kept (fun k => k = vb ∨ base ≤ k) w w'

theorem one_vals (u : Value) (w : World) (T : TypeId) : ∀ j x, [u][j]? = some x → (w.alloc (.cells #[u] T)).cell? ((⟨w.heap.size, 0, none⟩ : Addr).add j) = some x := by
  intro j x hx
  cases j with
  | zero => simp at hx; subst hx; rw [addr_add]; exact World.cell?_alloc_new w #[u] T 0
  | succ j => simp at hx

set_option maxRecDepth 100000 in
set_option maxHeartbeats 1000000 in
theorem keys_step {vb g cap base : Nat} {L : List Word} {word : Word} {x v : Value} (h : w.heap[vb]? = some (.cells #[v] 24 (0, 0))) (hown : w.ownsRow base 9 1 v L.length (L.map strV)) (hvb : vb < base) (hbase : base ≤ w.heap.size) (hb : BytesAt w g 0 word) (hl : word.length ≤ 5) (hs : L.length ≤ 1000) :
    Calls Tryz.prog 30 #[.slice (some ⟨g, 0, none⟩) word.length cap, x, ptrV vb] w fun e w' => e = .returned .nilIface ∧ Longer1 w vb base (L ++ [word]) w' := by
  have c0 := cell_of_heap h 0
  simp at c0
  have f0 := free_of_heap h 0
  have hr := run_str (W := w) (c := cap) hb _ rfl
  obtain ⟨i0, hi9, hz0, hz1, hz2⟩ := info_parts info9
  have H := Lib.hid (And.intro h hown)
  clear h hb hown
  have hlt := lt_of_block H.out.1
  go_enter Tryz.func30, Tryz.ntmps30
  go_wp2_with (at_builtin; refine wpList_append_own _ rfl (.tmp 6) (.tmp 9) 24 rfl base 9 i0 (.string ByteArray.empty) 1 16 Tryz.underlying24 hi9 hz0 hz1 hz2 rfl (by decide) v L.length (L.map strV) rfl (H.out.2.alloc _) ⟨w.heap.size, 0, none⟩ 1 1 [strV word] rfl rfl (one_vals _ _ _) (by intro u hu; simp at hu; subst hu; rfl) (by unfold maxLen; omega) (by omega) (by simp; omega) ?_; intro v' w1 hown1 hgr _; obtain ⟨g', cap', rfl, hg1, hg2⟩ := hown1.form (by omega); have q0 : w1.cell? ⟨vb, 0, none⟩ = some v := hgr.cell (cAl c0) (by intro e; have := H.out.2.lt vb e.symm; omega); have q1 : w1.frozen? ⟨vb, 0, none⟩ = false := (World.frozen?_of_block (hgr.block vb (by simp; omega) (by intro e; have := H.out.2.lt vb e.symm; omega))).trans (fAl f0 hlt); have HO := Lib.hid (And.intro hown1 hgr); clear hown1 hgr)
  go_ret
  obtain ⟨ho, hg⟩ := HO.out
  refine ⟨rfl, .slice (some ⟨g', 0, none⟩) (L.length + 1) cap', ?_, ?_, ?_⟩
  · have hq : w1.heap[vb]? = some (.cells #[v] 24 (0, 0)) := by
      rw [hg.block vb (by simp; omega) (by intro e; have := H.out.2.lt vb e.symm; omega)]; exact hAl H.out.1
    rw [heap_setCell_at hq]; rfl
  · have hk : Kept (fun k => k = vb) w1 (w1.setCell ⟨vb, 0, none⟩ (.slice (some ⟨g', 0, none⟩) (L.length + 1) cap')) := (Kept.refl (fun k => k = vb) w1).setCell (.inl rfl) _
    have := ownsRow_kept ho hk (fun g hg e => by omega)
    simpa using this
  · have hb : Kept (fun k => k = vb ∨ base ≤ k) (w.alloc (.cells #[strV word] 9)) w1 := ⟨hg.os, hg.tape, hg.output, hg.size, fun k hk hs => hg.block k hk (by intro e; have := H.out.2.lt k e.symm; exact hs (.inr this.1))⟩
    exact (((Kept.refl _ w).alloc _).trans hb).setCell (.inl (.inl rfl)) _
end
end Go.Proofs.YtpopiaahdanpeaaGreatDoor
