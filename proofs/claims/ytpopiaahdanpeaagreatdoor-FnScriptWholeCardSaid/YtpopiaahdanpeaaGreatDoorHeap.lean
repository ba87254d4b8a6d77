/- What is changed by a call and what is kept; what a list of children looks like in memory. Definitions and small lemmas, no walk. -/
import Derived.Test.YtpopiaahdanpeaaGreatDoorProg
import Derived.WalkKit
import Derived.Deep.QuietTactic
import Derived.BigQuiet
import Derived.Lib.Hide
import Derived.Deep.DeepMust
import Derived.Deep.LoopGhost
namespace Go.Proofs.YtpopiaahdanpeaaGreatDoor
open Go Go.RowKit
set_option linter.unusedVariables false

/-- All blocks of w outside S are as they were; none has gone. -/
structure Kept (S : Nat → Prop) (w w' : World) : Prop where
  os : w'.os = w.os
  tape : w'.tape = w.tape
  output : w'.output = w.output
  size : w.heap.size ≤ w'.heap.size
  block : ∀ k, k < w.heap.size → ¬ S k → w'.heap[k]? = w.heap[k]?

theorem Kept.refl (S : Nat → Prop) (w : World) : Kept S w w := ⟨rfl, rfl, rfl, Nat.le_refl _, fun _ _ _ => rfl⟩
theorem Kept.trans {S : Nat → Prop} {a b c : World} (h : Kept S a b) (k : Kept S b c) : Kept S a c :=
  ⟨k.os.trans h.os, k.tape.trans h.tape, k.output.trans h.output, Nat.le_trans h.size k.size,
   fun i hi hs => (k.block i (Nat.lt_of_lt_of_le hi h.size) hs).trans (h.block i hi hs)⟩
theorem Kept.mono {S T : Nat → Prop} {w w' : World} (h : Kept S w w') (hst : ∀ k, k < w.heap.size → S k → T k) : Kept T w w' :=
  ⟨h.os, h.tape, h.output, h.size, fun k hk ht => h.block k hk fun hs => ht (hst k hk hs)⟩
theorem Kept.drewN {S : Nat → Prop} {w w' : World} (h : Kept S w w') (n : Nat) : Kept S w (w'.drewN n) := ⟨h.os, h.tape, h.output, h.size, h.block⟩
theorem Kept.drew {S : Nat → Prop} {w w' : World} (h : Kept S w w') : Kept S w w'.drew := ⟨h.os, h.tape, h.output, h.size, h.block⟩
theorem Kept.alloc {S : Nat → Prop} {w w' : World} (h : Kept S w w') (o : Obj) : Kept S w (w'.alloc o) :=
  ⟨h.os, h.tape, h.output, by have := h.size; simp; omega, fun k hk hs => (Below.heap_alloc _ _ _ (Nat.lt_of_lt_of_le hk h.size)).trans (h.block k hk hs)⟩
theorem Kept.setCell {S : Nat → Prop} {w w' : World} (h : Kept S w w') {a : Addr} (ha : S a.block ∨ w.heap.size ≤ a.block) (v : Value) : Kept S w (w'.setCell a v) :=
  ⟨h.os, h.tape, h.output, by have := h.size; simp; omega, fun k hk hs => (Below.heap_setCell _ _ _ _ (by rintro rfl; rcases ha with ha | ha; exact hs ha; omega)).trans (h.block k hk hs)⟩
theorem Kept.lt {S : Nat → Prop} {w w' : World} (h : Kept S w w') {b : Nat} {o : Obj} (hb : w.heap[b]? = some o) (hs : ¬ S b) : w'.heap[b]? = some o := by
  rw [h.block b (lt_of_block hb) hs, hb]
theorem Kept.cell {S : Nat → Prop} {w w' : World} (h : Kept S w w') {p : Addr} {v : Value} (hp : w.cell? p = some v) (hs : ¬ S p.block) : w'.cell? p = some v := by
  rw [World.cell?_of_block (w := w) (h.block p.block (World.block_lt_of_cell? w p hp) hs), hp]
/-- What is kept outside nothing is below. -/
theorem Kept.below {w w' : World} {B : Nat} (h : Kept (fun k => B ≤ k) w w') (hB : B ≤ w.heap.size) : Below B w w' :=
  ⟨h.os, h.tape, h.output, h.size, fun k hk => h.block k (by omega) (by omega)⟩
theorem Kept.of_below {w w' : World} {B : Nat} (h : Below B w w') : Kept (fun k => B ≤ k) w w' :=
  ⟨h.os, h.tape, h.output, h.size, fun k hk hs => h.block k (by omega)⟩

theorem heap_setCell_at {w : World} {b i : Nat} {c : Array Value} {T : TypeId} {fr : Nat × Nat} {v : Value} (h : w.heap[b]? = some (.cells c T fr)) :
    (w.setCell ⟨b, i, none⟩ v).heap[b]? = some (.cells (c.setIfInBounds i v) T fr) := by
  simp [World.setCell, Array.getElem?_modify, h]
theorem heap_setCell_ne {w : World} {a : Addr} {b : Nat} {v : Value} (h : b ≠ a.block) : (w.setCell a v).heap[b]? = w.heap[b]? := Below.heap_setCell _ _ _ _ h
theorem cell_of_heap {w : World} {b : Nat} {c : Array Value} {T : TypeId} {fr : Nat × Nat} (h : w.heap[b]? = some (.cells c T fr)) (i : Nat) : w.cell? ⟨b, i, none⟩ = c[i]? := by
  simp [World.cell?, h]
theorem free_of_heap {w : World} {b : Nat} {c : Array Value} {T : TypeId} (h : w.heap[b]? = some (.cells c T (0, 0))) (i : Nat) : w.frozen? ⟨b, i, none⟩ = false := by
  simp [World.frozen?, h]

theorem cAl {w : World} {o : Obj} {p : Addr} {v : Value} (h : w.cell? p = some v) : (w.alloc o).cell? p = some v := by
  rw [World.cell?_alloc_lt _ _ _ (World.block_lt_of_cell? _ _ h)]; exact h
theorem cAlD {w : World} {n : Nat} {o : Obj} {p : Addr} {v : Value} (h : w.cell? p = some v) : ((w.drewN n).alloc o).cell? p = some v := cAl (w := w.drewN n) h
theorem cSe {w : World} {a p : Addr} {u v : Value} (h : w.cell? p = some v) (hne : a ≠ p) : (w.setCell a u).cell? p = some v := by
  rw [World.cell?_setCell_other _ _ _ _ hne]; exact h
theorem cSeB {w : World} {b i b2 i2 : Nat} {u v : Value} (h : w.cell? ⟨b2, i2, none⟩ = some v) (hne : b ≠ b2) : (w.setCell ⟨b, i, none⟩ u).cell? ⟨b2, i2, none⟩ = some v :=
  cSe h (by intro e; injection e with e1 e2; exact hne e1)
theorem fAl {w : World} {o : Obj} {p : Addr} (h : w.frozen? p = false) (hlt : p.block < w.heap.size) : (w.alloc o).frozen? p = false := by
  rw [World.frozen?_alloc_old _ _ _ (by omega)]; exact h
theorem fSe {w : World} {a p : Addr} {u : Value} (h : w.frozen? p = false) : (w.setCell a u).frozen? p = false := by
  rw [World.frozen?_setCell]; exact h
theorem hAl {w : World} {o x : Obj} {b : Nat} (h : w.heap[b]? = some x) : (w.alloc o).heap[b]? = some x := by
  rw [Below.heap_alloc _ _ _ (lt_of_block h)]; exact h
theorem hSe {w : World} {a : Addr} {x : Obj} {b : Nat} {v : Value} (h : w.heap[b]? = some x) (hne : b ≠ a.block) : (w.setCell a v).heap[b]? = some x := by
  rw [heap_setCell_ne hne]; exact h
theorem hNew (w : World) (o : Obj) : (w.alloc o).heap[w.heap.size]? = some o := heap_alloc_new w o

/-- A pointer to the head of a block. -/
abbrev ptrV (b : Nat) : Value := .pointer (some ⟨b, 0, none⟩)
/-- A child's block or nil. -/
def optV : Option Nat → Value
  | none => .pointer none
  | some b => ptrV b

/-- The node at block c begins with the byte b. -/
def FB (w : World) (c : Nat) (b : UInt8) : Prop :=
  ∃ g o n cp, w.cell? ⟨c, 0, none⟩ = some (.slice (some ⟨g, o, none⟩) (n + 1) cp) ∧ w.cell? ⟨g, o, none⟩ = some (.int .u8 b.toNat)

/-- A list of children in a small array, in any order. -/
structure SparseAt (w : World) (lb ab cap : Nat) (l : List (UInt8 × Nat)) : Prop where
  list : w.heap[lb]? = some (.cells #[.slice (some ⟨ab, 0, none⟩) l.length cap] 97 (0, 0))
  arr : ∃ junk : List Value, w.heap[ab]? = some (.cells (l.map (fun p => ptrV p.2) ++ junk).toArray 40 (0, 0)) ∧ l.length + junk.length = cap
  small : cap ≤ 12

theorem SparseAt.cell {w : World} {lb ab cap : Nat} {l : List (UInt8 × Nat)} (h : SparseAt w lb ab cap l) (i : Nat) (hi : i < l.length) :
    w.cell? ⟨ab, i, none⟩ = some (ptrV (l[i]).2) := by
  obtain ⟨junk, ha, _⟩ := h.arr
  rw [cell_of_heap ha]
  simp [List.getElem?_append_left, hi]
theorem SparseAt.le {w : World} {lb ab cap : Nat} {l : List (UInt8 × Nat)} (h : SparseAt w lb ab cap l) : l.length ≤ cap := by
  obtain ⟨junk, ha, h2⟩ := h.arr; omega

/-- A list of children in an array by the first byte, from mn on. -/
structure DenseAt (w : World) (lb ab mn mx n : Nat) (T : List (Option Nat)) : Prop where
  list : w.heap[lb]? = some (.cells #[.int .i64 mn, .int .i64 mx, .int .i64 n, .int .i64 0, .slice (some ⟨ab, 0, none⟩) T.length T.length] 154 (0, 0))
  arr : w.heap[ab]? = some (.cells (T.map optV).toArray 40 (0, 0))
  size : mn + T.length = mx + 1
  top : mx ≤ 255
  low : mn ≤ mx
  head : ∃ c, T[0]? = some (some c)
  cnt : n ≤ 256

theorem DenseAt.cell {w : World} {lb ab mn mx n : Nat} {T : List (Option Nat)} (h : DenseAt w lb ab mn mx n T) (i : Nat) (hi : i < T.length) :
    w.cell? ⟨ab, i, none⟩ = some (optV T[i]) := by
  rw [cell_of_heap h.arr]
  simp [hi]
theorem DenseAt.ne {w : World} {lb ab mn mx n : Nat} {T : List (Option Nat)} (h : DenseAt w lb ab mn mx n T) : lb ≠ ab := by
  intro e; subst e; have := h.list; rw [h.arr] at this; simp at this

/-- the child that begins with a byte -/
def tab (mn : Nat) (T : List (Option Nat)) (b : UInt8) : Option Nat := if mn ≤ b.toNat then (T[b.toNat - mn]?).join else none

end Go.Proofs.YtpopiaahdanpeaaGreatDoor
