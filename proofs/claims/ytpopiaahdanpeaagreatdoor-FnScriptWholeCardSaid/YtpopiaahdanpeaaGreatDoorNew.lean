/- The walks of newSparseChildList and NewTrie. -/
import Derived.Test.YtpopiaahdanpeaaGreatDoorCompact
namespace Go.Proofs.YtpopiaahdanpeaaGreatDoor
open Go Go.RowKit
set_option linter.unusedVariables false

theorem mk_ptrs0 (n : Nat) (hn : n ≤ 1000) (w : World) :
    (Instr.makeSlice 95 (.int .i64 0) (.int .i64 (n : Int))).run Tryz.prog w = .ok (.slice (some ⟨w.heap.size, 0, none⟩) 0 n) (w.alloc (.cells (nilRow n) 40)) := by
  obtain ⟨i, hi, hz0, hz, hz2⟩ := info_parts info40
  have h := run_make (P := Tryz.prog) w 95 40 i (.pointer none) Tryz.underlying95 hi hz0 .i64 .i64 0 (n : Int) (by omega) (by omega) (by rw [hz2]; omega) (by omega)
  rw [h]
  simp [hz, Value.cells, made_nil]

theorem newSparse_calls (w : World) (n : Nat) (hn : n ≤ 12) :
    Calls Tryz.prog 37 #[.int .i64 n] w fun e w' => e = .returned (.iface 94 (ptrV (w.heap.size + 1))) ∧
      (w.alloc (.cells (nilRow n) 40)).alloc (.cells #[.slice (some ⟨w.heap.size, 0, none⟩) 0 n] 97) = w' := by
  have hmk := mk_ptrs0 n (by omega)
  go_enter Tryz.func37, Tryz.ntmps37
  go_wp2
  go_ret
  exact ⟨by simp, rfl⟩

theorem SparseAt.fresh (w : World) (n : Nat) (hn : n ≤ 12) : SparseAt ((w.alloc (.cells (nilRow n) 40)).alloc (.cells #[.slice (some ⟨w.heap.size, 0, none⟩) 0 n] 97)) (w.heap.size + 1) w.heap.size n [] := by
  refine ⟨?_, ⟨List.replicate n (.pointer none), ?_, by simp⟩, hn⟩
  · rw [show w.heap.size + 1 = (w.alloc (.cells (nilRow n) 40)).heap.size by simp, hNew]; rfl
  · rw [hAl (hNew w _)]; rfl

/-- A node as NewTrie makes it. -/
structure Fresh (w : World) (mp mc : Int) (n b : Nat) (w' : World) : Prop where
  node : w'.heap[b]? = some (.cells #[.slice none 0 0, .nilIface, .int .i64 mp, .int .i64 mc, .iface 94 (ptrV (b + 2))] 73 (0, 0))
  list : SparseAt w' (b + 2) (b + 1) n []
  below : Below w.heap.size w w'
  at_ : w.heap.size ≤ b
  size : b + 2 < w'.heap.size

set_option maxHeartbeats 1000000 in
theorem newTrie_nil (w : World) :
    Calls Tryz.prog 20 #[.slice none 0 0] w fun e w' => e = .returned (ptrV w.heap.size) ∧ Fresh w 10 8 8 w.heap.size w' := by
  have hb := newSparse_calls
  have HB := Lib.hid (fun u => newSparse_calls u 8 (by omega)); clear hb
  go_enter Tryz.func20, Tryz.ntmps20
  go_wp2
  refine wp_loop_rounds 1 ?_
  rw [rounds_succ]
  go_wp2_with (go_at_call 37; refine (HB.out _).mono ?_; rintro e w' ⟨rfl, rfl⟩)
  go_ret
  refine ⟨rfl, ?_, ?_, ((((Below.refl _ _).alloc (Nat.le_refl _) _).alloc (by simp) _).alloc (by simp; omega) _), Nat.le_refl _, by simp⟩
  · exact hAl (hAl (hNew w _))
  · have := SparseAt.fresh (w.alloc (.cells #[.slice none 0 0, .nilIface, .int .i64 10, .int .i64 8, .iface 94 (ptrV (w.heap.size + 1 + 1))] 73)) 8 (by omega)
    simpa using this

set_option maxRecDepth 100000 in
set_option maxHeartbeats 2000000 in
theorem newTrie_two (w : World) (ob c p1 p2 n1 n2 : Nat) (h0 : w.cell? ⟨ob, 0, none⟩ = some (.func (.func 38) #[] #[ptrV p1])) (h1 : w.cell? ⟨ob, 1, none⟩ = some (.func (.func 39) #[] #[ptrV p2]))
    (hp1 : w.cell? ⟨p1, 0, none⟩ = some (.int .i64 n1)) (hp2 : w.cell? ⟨p2, 0, none⟩ = some (.int .i64 n2)) (l1 : 0 < n1) (l2 : 0 < n2) (b1 : n1 ≤ 100) (b2 : n2 ≤ 12) :
    Calls Tryz.prog 20 #[.slice (some ⟨ob, 0, none⟩) 2 c] w fun e w' => e = .returned (ptrV w.heap.size) ∧ Fresh w n1 n2 n2 w.heap.size w' := by
  have HB := Lib.hid (fun u => newSparse_calls u n2 b2)
  have q0 : ∀ o, (w.alloc o).cell? ⟨ob, 0, none⟩ = _ := fun o => cAl h0
  have q1 : ∀ o, (w.alloc o).cell? ⟨ob, 1, none⟩ = _ := fun o => cAl h1
  have q2 : ∀ o, (w.alloc o).cell? ⟨p1, 0, none⟩ = _ := fun o => cAl hp1
  have q3 : ∀ o, (w.alloc o).cell? ⟨p2, 0, none⟩ = _ := fun o => cAl hp2
  have z1 : decide ((n1 : Int) ≤ 0) = false := by simp; omega
  have z2 : decide ((n2 : Int) ≤ 0) = false := by simp; omega
  go_enter Tryz.func20, Tryz.ntmps20
  go_wp2
  refine wp_loop_rounds 3 ?_
  rw [rounds_succ]
  go_wp2
  go_end0
  go_wp2
  rw [rounds_succ]
  go_wp2
  go_end0
  go_wp2
  rw [rounds_succ]
  go_wp2_with (go_at_call 37; refine (HB.out _).mono ?_; rintro e w' ⟨rfl, rfl⟩)
  go_ret
  refine ⟨rfl, ?_, ?_, ((((Below.refl _ _).alloc (Nat.le_refl _) _).alloc (by simp) _).alloc (by simp; omega) _), Nat.le_refl _, by simp⟩
  · exact hAl (hAl (hNew w _))
  · have := SparseAt.fresh (w.alloc (.cells #[.slice none 0 0, .nilIface, .int .i64 n1, .int .i64 n2, .iface 94 (ptrV (w.heap.size + 1 + 1))] 73)) n2 b2
    simpa using this
end Go.Proofs.YtpopiaahdanpeaaGreatDoor
