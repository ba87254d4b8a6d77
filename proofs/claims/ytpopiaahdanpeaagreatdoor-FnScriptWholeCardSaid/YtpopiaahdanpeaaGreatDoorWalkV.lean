/- The walk over a whole trie. -/
import Derived.Test.YtpopiaahdanpeaaGreatDoorWalkT
namespace Go.Proofs.YtpopiaahdanpeaaGreatDoor
open Go Go.RowKit
set_option linter.unusedVariables false

section
variable {w : World} {t : Nat} {D : Node → Prop} {X : Node} {pp pg vf vb cap : Nat} {own : Nat → Prop} {Vi : World → List (List UInt8) → Prop} {told : List (List UInt8)}

theorem begun_nil {w1 : World} (e : w1 = ((w.alloc (.cells #[.slice (some ⟨w.heap.size + 1, 0, none⟩) 32 32] 56)).alloc (.cells (zeroRow 32) 5)).drew) : Begun w w1 32 [] := by
  have h1 : w1.heap[w.heap.size + 1]? = some (.cells (zeroRow 32) 5 (0, 0)) := by rw [e]; exact begun_row w _ _
  have hk : Kept (fun k => w.heap.size ≤ k) w w1 := by
    rw [e]; exact (((Kept.refl (fun k => w.heap.size ≤ k) w).alloc _).alloc _).drew
  refine ⟨?_, ⟨_, _, h1, by rw [zeroRow_size]; exact Nat.le_refl _, fun i hi => free_of_heap h1 i⟩, fun i hi => by simp at hi, hk.below (Nat.le_refl _)⟩
  rw [e]; exact hAl (hNew w _)

set_option maxRecDepth 100000 in
set_option maxHeartbeats 4000000 in
theorem trieWalk_nil (h : TrieAt w t D) (hX : D X) (hXw : X.word = []) (hXp : X.plen = 0) (hgood : ∀ Y, D Y → Y.word.length ≤ 5) (hroom : RoomI D X.word)
    (hen : ∀ args w, (callFunc vf args).run Tryz.prog w = .ok (.enter vf args) w) (hv : Visitor t D w.heap.size (w.heap.size + 1) vf vb own Vi)
    (hstart : ∀ w', Below w.heap.size w w' → w.heap.size + 2 ≤ w'.heap.size → Vi w' []) :
    Calls Tryz.prog 49 #[ptrV X.blk, .slice none 0 0, .func (.func vf) #[] #[ptrV vb]] w (TrieWalk w t D vb own Vi X.word) := by
  have hlen := hgood X hX
  have hwl : X.word.length = 0 := by rw [hXw]; rfl
  have hmk : ∀ w, (Instr.makeSlice 56 (.int .i64 32) (.int .i64 32)).run Tryz.prog w = .ok (.slice (some ⟨w.heap.size, 0, none⟩) 32 32) (w.alloc (.cells (zeroRow 32) 5)) := mk_bytes 32 (by omega)
  have s1 := slice_eq_nil
  have x0 : ∀ o, (w.alloc o).cell? ⟨X.blk, 0, none⟩ = some (.slice (some ⟨X.g, X.off, none⟩) 0 X.cap) := fun o => cAl (by have := (h.at_ X hX).c0; rwa [hXp] at this)
  have x00 : ∀ o o2, ((w.alloc o).alloc o2).cell? ⟨X.blk, 0, none⟩ = some (.slice (some ⟨X.g, X.off, none⟩) 0 X.cap) := fun o o2 => cAl (x0 o)
  have hcp := fun u => run_copy_none (P := Tryz.prog) u 56 56 3 5 (some ⟨w.heap.size + 1, 0, none⟩) (some ⟨X.g, X.off, none⟩) 32 32 0 X.cap Tryz.underlying56 (by kernel_rfl) rfl
  have hm := meth_walk
  have hnl := nil_walk
  have hcw := call_walk
  have H := Lib.hid (And.intro h (And.intro hX (And.intro (And.intro hXw hXp) (And.intro hgood (And.intro hroom (And.intro hv hstart)))))); clear h hX hXp hXw hgood hroom hv hstart
  go_enter Tryz.func49, Tryz.ntmps49
  go_wp2_with fail
  go_region
  go_wp2_with fail
  generalize hw1 : ((w.alloc (Obj.cells #[Value.slice (some ⟨w.heap.size + 1, 0, none⟩) 32 32] 56)).alloc (Obj.cells (zeroRow 32) 5)).drew = w1
  have hB := begun_nil hw1.symm
  have g0 : w1.cell? ⟨w.heap.size, 0, none⟩ = some (.slice (some ⟨w.heap.size + 1, 0, none⟩) 32 32) := cell_of_heap hB.box 0
  have g1 := free_of_heap hB.box 0
  have y0 : w1.cell? ⟨X.blk, 0, none⟩ = some (.slice (some ⟨X.g, X.off, none⟩) 0 X.cap) := by rw [← hw1]; exact x00 _ _
  have hsl : ∀ u, (Instr.slice 56 (.slice (some ⟨w.heap.size + 1, 0, none⟩) 32 32) none (some (.int .i64 0)) none).run Tryz.prog u = .ok (.slice (some ⟨w.heap.size + 1, 0, none⟩) 0 32) u := slice_high (L := 0) (by omega) (Nat.le_refl _)
  have HB := Lib.hid hB; clear hB hw1 x0 x00 hcp
  go_region
  go_upto_region 9 with fail
  generalize hw2 : (w1.setCell ⟨w.heap.size, 0, none⟩ (Value.slice (some ⟨w.heap.size + 1, 0, none⟩) 0 32)).drew = w2
  have hb2 : Below w.heap.size w w2 := by
    rw [← hw2]; exact (HB.out.below.setCell (Nat.le_refl _) _).drew
  have hsz2 : w.heap.size + 2 ≤ w2.heap.size := by
    rw [← hw2]
    have := lt_of_block HB.out.arr.choose_spec.choose_spec.1
    simp; omega
  have hP : Pfx w2 w.heap.size (w.heap.size + 1) 32 X.word := by
    rw [← hw2, H.out.2.2.1.1]
    have hp := HB.out.pfx (m := 0) rfl (by omega) (by omega)
    exact hp.kept ((Kept.refl (fun _ => False) _).drew) (fun h => h) (fun h => h)
  have hW : WAt w2 w2 t D w.heap.size (w.heap.size + 1) 32 own Vi X.word X.word [] := ⟨H.out.1.below hb2, hP, H.out.2.2.2.2.2.2 w2 hb2 hsz2, Kept.refl _ _⟩
  have hN2 := hW.trie.at_ X H.out.2.1
  have x1 := hN2.c1
  have x4 := hN2.c4
  have p0 := cell_of_heap hP.box 0
  rw [hwl] at p0
  simp at p0
  have ine := item_neq
  have iig := item_guard
  have HW := Lib.hid (And.intro hW (And.intro hb2 hN2)); clear hW hb2 hsz2 hP hN2 hw2 g0 g1 y0 hmk hsl
  cases hit : X.item with
  | none =>
    rw [hit] at x1
    have HK := Lib.hid (walk_any H.out.2.2.2.2.2.1 hen H.out.2.2.2.1 H.out.1.wf 6 X H.out.2.1 (by omega) w2 [] HW.out.1 (by have := H.out.2.2.2.2.1.room H.out.1.wf H.out.2.1; simpa [itL, hit] using this))
    go_wp2_with ((with_reducible refine HK.out.mono ?_); rintro e w3 ⟨rfl, L, hL1, hL2⟩)
    go_ret
    exact trieWalk_end HW.out.2.1 H.out.2.1 H.out.1.wf hL1 (by simpa [itL, hit] using hL2)
  | some x =>
    rw [hit] at x1
    have HT : Hid (∀ u, Drawn w2 u → Calls Tryz.prog vf #[.slice (some ⟨w.heap.size + 1, 0, none⟩) 0 32, itemV (some x), ptrV vb] u fun e w' => e = .returned .nilIface ∧ Hid (WAt w2 w' t D w.heap.size (w.heap.size + 1) 32 own Vi X.word X.word [X.word])) := Lib.hid fun u hu => by
      have hRu := HW.out.1.drawn H.out.2.2.2.2.2.1 hu
      refine (by have := H.out.2.2.2.2.2.1.step u [] X.word 32 x hRu.vi (by simp) hRu.pfx.bytes hlen (by omega); rw [hwl] at this; exact this : Calls Tryz.prog vf #[.slice (some ⟨w.heap.size + 1, 0, none⟩) 0 32, .iface 3 (.int .i64 x), ptrV vb] u _).mono ?_
      rintro e w' ⟨rfl, h1, h2⟩
      exact ⟨rfl, Lib.hid (hRu.tell H.out.2.2.2.2.2.1 h1 h2)⟩
    go_upto_region 10 with fail
    go_cut [8] (fun s wx => s = .nilIface ∧ Hid (WAt w2 wx t D w.heap.size (w.heap.size + 1) 32 own Vi X.word X.word [X.word]))
    case first =>
      go_region_with ((with_reducible refine (HT.out _ (drawn_one _)).mono ?_); rintro e wd ⟨rfl, hd⟩)
      all_goals (go_wp2_with fail; go_meet; exact ⟨rfl, hd⟩)
    case rest =>
      obtain ⟨rfl, HC⟩ := hcut
      clear x1 x4 p0 HT
      have x4 := (HC.out.trie.at_ X H.out.2.1).c4
      have HK := Lib.hid (walk_any H.out.2.2.2.2.2.1 hen H.out.2.2.2.1 H.out.1.wf 6 X H.out.2.1 (by omega) wc [X.word] ⟨HC.out.trie, HC.out.pfx, HC.out.vi, Kept.refl _ _⟩ (by have := H.out.2.2.2.2.1.room H.out.1.wf H.out.2.1; simpa [itL, hit] using this))
      go_wp2_with ((with_reducible refine HK.out.mono ?_); rintro e w3 ⟨rfl, L, hL1, hL2⟩)
      go_ret
      exact trieWalk_end HW.out.2.1 H.out.2.1 H.out.1.wf hL1 (by
        have := HC.out.sub List.prefix_rfl hL2
        simpa [itL, hit] using this)
end
end Go.Proofs.YtpopiaahdanpeaaGreatDoor
