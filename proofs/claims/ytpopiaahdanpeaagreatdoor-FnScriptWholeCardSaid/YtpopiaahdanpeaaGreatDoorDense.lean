/- The walks of the functions that write into dense lists of children. -/
import Derived.Test.YtpopiaahdanpeaaGreatDoorList
import Derived.Laws.CopyOwn
namespace Go.Proofs.YtpopiaahdanpeaaGreatDoor
open Go Go.RowKit
set_option linter.unusedVariables false

theorem set_map_optV (T : List (Option Nat)) (i : Nat) (x : Option Nat) : (T.map optV).toArray.setIfInBounds i (optV x) = ((T.set i x).map optV).toArray := by
  rw [List.setIfInBounds_toArray, List.map_set]

/-- What a dense list is behind a call: the child at b turned to x. -/
def DTurned (w w' : World) (lb ab mn n' : Nat) (T : List (Option Nat)) (b : UInt8) (x : Option Nat) : Prop :=
  ∃ ab' mx' T', DenseAt w' lb ab' mn mx' n' T' ∧ (∀ y, tab mn T' y = if y = b then x else tab mn T y) ∧ (ab' = ab ∨ w.heap.size ≤ ab')

theorem tab_set {mn : Nat} {T : List (Option Nat)} {b : UInt8} (h1 : mn ≤ b.toNat) (h2 : b.toNat - mn < T.length) (x : Option Nat) (y : UInt8) :
    tab mn (T.set (b.toNat - mn) x) y = if y = b then x else tab mn T y := by
  unfold tab
  by_cases e : y = b
  · subst e; simp [h1, h2]
  · have hn : y.toNat ≠ b.toNat := fun h => e (UInt8.toNat_inj.1 h)
    rw [if_neg e]
    split
    · rw [List.getElem?_set_ne (by omega)]
    · rfl

set_option maxHeartbeats 1000000 in
theorem de_replace {w : World} {lb ab mn mx n : Nat} {T : List (Option Nat)} (h : DenseAt w lb ab mn mx n T) (b : UInt8) (c : Nat)
    (hb : tab mn T b ≠ none) (hcb : FB w c b) :
    Calls Tryz.prog 137 #[ptrV lb, .int .u8 b.toNat, ptrV c] w fun e w' => e = .returned (.tuple #[]) ∧ DTurned w w' lb ab mn n T b (some c) ∧ Kept (fun k => k = ab) w w' := by
  have c0 := cell_of_heap h.list 0
  have c4 := cell_of_heap h.list 4
  simp at c0 c4
  have hs := h.size
  have ht := h.top
  have hl := h.low
  have hb2 : b.toNat < 256 := b.toNat_lt
  have h1 : mn ≤ b.toNat := by rcases Nat.lt_or_ge b.toNat mn with h1 | h1; exact (hb (tab_low h1)).elim; exact h1
  have h2 : b.toNat - mn < T.length := by
    rcases Nat.lt_or_ge (b.toNat - mn) T.length with h2 | h2
    · exact h2
    · exact (hb (tab_high (by omega))).elim
  have ci := h.cell (b.toNat - mn) h2
  have cf := free_of_heap h.arr (b.toNat - mn)
  have ei : (b.toNat : Int) - (mn : Int) = ((b.toNat - mn : Nat) : Int) := by omega
  obtain ⟨cg, co, cn, ccp, cf1, cf2⟩ := hcb
  have H := Lib.hid h; clear h hb
  go_enter Tryz.func137, Tryz.ntmps137
  go_wp2
  go_region
  go_wp2
  refine bodyPost_end (results_none rfl _ _ _) rfl ?_
  have h := H.out
  refine ⟨rfl, ⟨ab, mx, T.set (b.toNat - mn) (some c), ⟨?_, ?_, by simpa using hs, ht, hl, ?_, h.cnt⟩, tab_set h1 h2 _, .inl rfl⟩, ((Kept.refl (fun k => k = ab) w).setCell (Or.inl rfl) _).drew⟩
  · simp only [List.length_set]; exact hSe h.list h.ne
  · show (w.setCell _ _).heap[ab]? = _
    rw [heap_setCell_at h.arr]; rw [show Value.pointer (some (⟨c, 0, none⟩ : Addr)) = optV (some c) from rfl, set_map_optV]
  · obtain ⟨c', hc'⟩ := h.head
    rw [List.getElem?_set]
    split
    · refine ⟨c, ?_⟩; first | rfl | rw [if_pos (by omega)]
    · exact ⟨c', hc'⟩

set_option maxRecDepth 100000 in
set_option maxHeartbeats 1000000 in
theorem de_remove {w : World} {lb ab mn mx n : Nat} {T : List (Option Nat)} (h : DenseAt w lb ab mn mx n T) (b : UInt8)
    (hb : tab mn T b ≠ none) (hmn : mn < b.toNat) (hn : 0 < n) :
    Calls Tryz.prog 136 #[ptrV lb, .int .u8 b.toNat] w fun e w' => e = .returned (.tuple #[]) ∧ DTurned w w' lb ab mn (n - 1) T b none ∧ Kept (fun k => k = lb ∨ k = ab) w w' := by
  have c0 := cell_of_heap h.list 0
  have c2 := cell_of_heap h.list 2
  have c3 := cell_of_heap h.list 3
  have c4 := cell_of_heap h.list 4
  simp at c0 c2 c3 c4
  have f2 := free_of_heap h.list 2
  have hs := h.size
  have ht := h.top
  have hl := h.low
  have hcnt := h.cnt
  have hb2 : b.toNat < 256 := b.toNat_lt
  have h1 : mn ≤ b.toNat := by omega
  have h2 : b.toNat - mn < T.length := by
    rcases Nat.lt_or_ge (b.toNat - mn) T.length with h2 | h2
    · exact h2
    · exact (hb (tab_high (by omega))).elim
  have ci := h.cell (b.toNat - mn) h2
  rw [tab_in h1 h2] at hb
  obtain ⟨x, hx⟩ : ∃ x, T[b.toNat - mn] = some x := by
    cases hT : T[b.toNat - mn] with
    | none => exact (hb hT).elim
    | some x => exact ⟨x, rfl⟩
  rw [hx] at ci
  simp only [optV] at ci
  have cf := free_of_heap h.arr (b.toNat - mn)
  have ei : (b.toNat : Int) - (mn : Int) = ((b.toNat - mn : Nat) : Int) := by omega
  have en : (n : Int) - 1 = ((n - 1 : Nat) : Int) := by omega
  have ez : (((b.toNat - mn : Nat) : Int) == 0) = false := by simp; omega
  have hne := h.ne
  have hz : ∀ (v : Value), (w.setCell ⟨lb, 2, none⟩ v).cell? ⟨ab, b.toNat - mn, none⟩ = some (ptrV x) := fun v => cSeB ci hne
  have hz2 : ∀ (v : Value), (w.setCell ⟨lb, 2, none⟩ v).frozen? ⟨ab, b.toNat - mn, none⟩ = false := fun v => fSe cf
  have H := Lib.hid (And.intro h hx); clear h hb hx
  go_enter Tryz.func136, Tryz.ntmps136
  go_wp2
  go_end0
  obtain ⟨h, hx⟩ := H.out
  refine ⟨rfl, ⟨ab, mx, T.set (b.toNat - mn) none, ⟨?_, ?_, by simpa using hs, ht, hl, ?_, by omega⟩, tab_set h1 h2 _, .inl rfl⟩,
    ((Kept.refl (fun k => k = lb ∨ k = ab) w).setCell (Or.inl (Or.inl rfl)) _).setCell (Or.inl (Or.inr rfl)) _⟩
  · simp only [List.length_set]; refine hSe ?_ h.ne; rw [heap_setCell_at h.list]; simp
  · rw [heap_setCell_at (hSe h.arr (Ne.symm h.ne))]; rw [show Value.pointer none = optV none from rfl, set_map_optV]
  · obtain ⟨c', hc'⟩ := h.head
    rw [List.getElem?_set]
    rw [if_neg (by omega)]
    exact ⟨c', hc'⟩

/-- n nil pointers. -/
def nilRow (n : Nat) : Array Value := (List.replicate n (Value.pointer none)).toArray
theorem nilRow_size (n : Nat) : (nilRow n).size = n := by simp [nilRow]
theorem nilRow_get {n i : Nat} (h : i < n) : (nilRow n)[i]? = some (.pointer none) := by simp [nilRow, h]

theorem made_nil (n : Nat) : madeCells #[Value.pointer none] n = nilRow n := by
  unfold madeCells nilRow
  apply Array.ext
  · simp
  · intro i h1 h2; simp [Nat.mod_one]

theorem mk_ptrs (T : TypeId) (hT : Tryz.prog.underlying T = some (.slice 40)) (n : Nat) (hn : n ≤ 1000) (w : World) :
    (Instr.makeSlice T (.int .i64 (n : Int)) (.int .i64 (n : Int))).run Tryz.prog w = .ok (.slice (some ⟨w.heap.size, 0, none⟩) n n) (w.alloc (.cells (nilRow n) 40)) := by
  obtain ⟨i, hi, hz0, hz, hz2⟩ := info_parts info40
  have h := run_make (P := Tryz.prog) w T 40 i (.pointer none) hT hi hz0 .i64 .i64 (n : Int) (n : Int) (by omega) (by omega) (by rw [hz2]; omega) (by omega)
  rw [h]
  simp [hz, Value.cells, made_nil]

/-- copy at an operation, its run known as an equation. -/
theorem wpList_copy_eq {P : Program} {w : World} {ops : Array Oper} {rest : List Oper} {o : Oper} {a : Act} {Q : Exit → Act → World → Prop} (hgd : o.guard = none) (d s : Operand) (dT sT : TypeId)
    (ho : o.op = .call { callee := .builtin .copy, args := #[d, s], argTypes := #[dT, sT] }) (elem : TypeId) (hu : P.underlying dT = some (.slice elem)) (hsz : (P.info? elem).map (·.size) = some 1)
    (g off dLen dCap : Nat) (ad : Addr) (sLen sCap : Nat) (hd : a.eval d = .slice (some ⟨g, off, none⟩) dLen dCap) (hs : a.eval s = .slice (some ad) sLen sCap)
    (cur : Array Value) (t : TypeId) (hg : w.heap[g]? = some (.cells cur t (0, 0))) (cs : List Value) (hn : cs.length = Nat.min sLen dLen)
    (hsrc : ∀ j v, cs[j]? = some v → w.cell? (ad.add j) = some v) (hfit : off + cs.length ≤ cur.size) (h1 : ∀ v ∈ cs, v.oneCell' = true)
    (h : ∀ w1, Hid (w1 = w.setRow g (splice cur.toList off cs).toArray) → wpList P ops Q rest (a.put o.dst (goInt cs.length)) w1) : wpList P ops Q (o :: rest) a w :=
  wpList_copy_own hgd d s dT sT ho elem hu hsz g off dLen dCap ad sLen sCap hd hs cur t hg cs hn hsrc hfit h1 (h _ rfl)

theorem Kept.setRow {S : Nat → Prop} {w w' : World} (h : Kept S w w') {g : Nat} (hg : S g ∨ w.heap.size ≤ g) (cs : Array Value) : Kept S w (w'.setRow g cs) :=
  ⟨h.os, h.tape, h.output, by have := h.size; simp [World.setRow]; omega, fun k hk hs => (setRow_other _ _ _ _ (by rintro rfl; rcases hg with hg | hg; exact hs hg; omega)).trans (h.block k hk hs)⟩

theorem optV_one (x : Option Nat) : (optV x).oneCell' = true := by cases x <;> rfl

theorem grown_arr (T : List (Option Nat)) (m c : Nat) (hm : T.length ≤ m) :
    splice (((nilRow (m + 1)).setIfInBounds m (ptrV c)).toList) 0 (T.map optV) = (T ++ (List.replicate (m - T.length) none ++ [some c])).map optV := by
  have h1 : ((nilRow (m + 1)).setIfInBounds m (ptrV c)).toList = List.replicate m (Value.pointer none) ++ [ptrV c] := by
    unfold nilRow
    rw [List.setIfInBounds_toArray, List.replicate_succ', List.set_append_right _ _ (by simp)]
    simp
  rw [h1]
  unfold splice
  simp only [List.take_zero, List.nil_append, Nat.zero_add, List.length_map, List.map_append, List.map_replicate]
  rw [List.drop_append_of_le_length (by simpa using hm), List.drop_replicate]
  rfl

theorem tab_grow {mn : Nat} {T : List (Option Nat)} {b : UInt8} {c : Nat} (h1 : mn ≤ b.toNat) (h2 : T.length ≤ b.toNat - mn) (y : UInt8) :
    tab mn (T ++ (List.replicate (b.toNat - mn - T.length) none ++ [some c])) y = if y = b then some c else tab mn T y := by
  unfold tab
  by_cases e : y = b
  · subst e
    rw [if_pos h1, if_pos rfl, List.getElem?_append_right h2, List.getElem?_append_right (by simp)]
    simp
  · have hn : y.toNat ≠ b.toNat := fun h => e (UInt8.toNat_inj.1 h)
    rw [if_neg e]
    split
    · rename_i hy
      by_cases hlt : y.toNat - mn < T.length
      · rw [List.getElem?_append_left hlt]
      · rw [List.getElem?_append_right (by omega), List.getElem?_eq_none (l := T) (by omega)]
        by_cases h3 : y.toNat - mn - T.length < b.toNat - mn - T.length
        · rw [List.getElem?_append_left (by simpa using h3)]; simp [h3]
        · rw [List.getElem?_append_right (by simp; omega), List.getElem?_eq_none (by simp; omega)]
    · rfl

theorem grow_world {w w1 : World} {lb : Nat} {x : Obj} {cs cs' : Array Value} (h : w.heap[lb]? = some x) (e : w1 = (w.alloc (.cells cs 40)).setRow w.heap.size cs') :
    Kept (fun k => k = lb) w w1 ∧ w1.heap[lb]? = some x ∧ w1.heap[w.heap.size]? = some (.cells cs' 40 (0, 0)) := by
  subst e
  have hlt := lt_of_block h
  refine ⟨((Kept.refl (fun k => k = lb) w).alloc _).setRow (Or.inr (Nat.le_refl _)) _, ?_, ?_⟩
  · rw [setRow_other _ _ _ _ (by omega)]; exact hAl h
  · exact setRow_heap _ _ _ _ _ _ (hNew w _)

set_option maxRecDepth 100000 in
set_option maxHeartbeats 1000000 in
theorem de_add {w : World} {lb ab mn mx n : Nat} {T : List (Option Nat)} (h : DenseAt w lb ab mn mx n T) (b : UInt8) (c : Nat)
    (hb : tab mn T b = none) (hmn : mn ≤ b.toNat) (hn : n < 256) (hcb : FB w c b) :
    Calls Tryz.prog 131 #[ptrV lb, ptrV c] w fun e w' => e = .returned (.iface 152 (ptrV lb)) ∧ DTurned w w' lb ab mn (n + 1) T b (some c) ∧ Kept (fun k => k = lb ∨ k = ab) w w' := by
  have c0 := cell_of_heap h.list 0
  have c1 := cell_of_heap h.list 1
  have c2 := cell_of_heap h.list 2
  have c3 := cell_of_heap h.list 3
  have c4 := cell_of_heap h.list 4
  simp at c0 c1 c2 c3 c4
  have f1 := free_of_heap h.list 1
  have f2 := free_of_heap h.list 2
  have f4 := free_of_heap h.list 4
  have hs := h.size
  have ht := h.top
  have hl := h.low
  have hb2 : b.toNat < 256 := b.toNat_lt
  have hne := h.ne
  obtain ⟨cg, co, cn, ccp, cf1, cf2⟩ := hcb
  have ei : (b.toNat : Int) - (mn : Int) = ((b.toNat - mn : Nat) : Int) := by omega
  by_cases h2 : b.toNat ≤ mx
  · have ci := h.cell (b.toNat - mn) (by omega)
    rw [tab_in hmn (by omega)] at hb
    rw [hb] at ci
    simp only [optV] at ci
    have cf := free_of_heap h.arr (b.toNat - mn)
    have hi : b.toNat - mn < T.length := by omega
    have hz : ∀ (v : Value), (w.setCell ⟨ab, b.toNat - mn, none⟩ v).cell? ⟨lb, 2, none⟩ = some (.int .i64 n) := fun v => cSeB c2 (Ne.symm hne)
    have H := Lib.hid (And.intro h hb); clear h hb
    go_enter Tryz.func131, Tryz.ntmps131
    go_wp2
    go_quiet (fail)
    go_wp2
    refine bodyPost_ret (results_tmp rfl _ _ _) rfl ?_
    obtain ⟨h, hb⟩ := H.out
    refine ⟨rfl, ⟨ab, mx, T.set (b.toNat - mn) (some c), ⟨?_, ?_, by simpa using hs, ht, hl, ?_, by omega⟩, tab_set hmn hi _, .inl rfl⟩,
      ((((Kept.refl (fun k => k = lb ∨ k = ab) w).drewN nq).setCell (Or.inl (Or.inr rfl)) _).setCell (Or.inl (Or.inl rfl)) _)⟩
    · simp only [List.length_set]; rw [heap_setCell_at (hSe (w := w.drewN nq) h.list h.ne)]; simp
    · refine hSe ?_ (Ne.symm h.ne)
      rw [heap_setCell_at (w := w.drewN nq) h.arr]; rw [show Value.pointer (some (⟨c, 0, none⟩ : Addr)) = optV (some c) from rfl, set_map_optV]
    · obtain ⟨c', hc'⟩ := h.head
      rw [List.getElem?_set]
      split
      · refine ⟨c, ?_⟩; first | rfl | rw [if_pos (by omega)]
      · exact ⟨c', hc'⟩
  · have hmk : ∀ w, (Instr.makeSlice 77 (.int .i64 (((b.toNat - mn : Nat) : Int) + 1)) (.int .i64 (((b.toNat - mn : Nat) : Int) + 1))).run Tryz.prog w = .ok (.slice (some ⟨w.heap.size, 0, none⟩) (b.toNat - mn + 1) (b.toNat - mn + 1)) (w.alloc (.cells (nilRow (b.toNat - mn + 1)) 40)) := fun w => by
      have := mk_ptrs 77 Tryz.underlying77 (b.toNat - mn + 1) (by omega) w
      rw [Int.natCast_add] at this
      exact this
    have hnr := nilRow_get (show b.toNat - mn < b.toNat - mn + 1 by omega)
    have hsz := nilRow_size (b.toNat - mn + 1)
    have a0 : ∀ o, (w.alloc o).cell? ⟨lb, 0, none⟩ = some (.int .i64 mn) := fun o => cAl c0
    have a4 : ∀ o, (w.alloc o).cell? ⟨lb, 4, none⟩ = some (.slice (some ⟨ab, 0, none⟩) T.length T.length) := fun o => cAl c4
    have hlt := lt_of_block h.list
    have e41 : (4 : Nat) ≠ 1 := by decide
    have hcp := Lib.hid (cell_of_heap h.arr)
    have H := Lib.hid (And.intro h (And.intro hb hsz)); clear h hb hsz
    go_enter Tryz.func131, Tryz.ntmps131
    go_wp2_with (
      with_reducible refine wpList_copy_eq rfl (.tmp 34) (.tmp 38) 77 77 rfl 40 Tryz.underlying77 ?c8 w.heap.size 0 (b.toNat - mn + 1) (b.toNat - mn + 1) ⟨ab, 0, none⟩ T.length T.length ?c5 ?c6 ((nilRow (b.toNat - mn + 1)).setIfInBounds (b.toNat - mn) (ptrV c)) 40 ?c7 (T.map optV) ?c1 ?c2 ?c3 ?c4 ?_
      go_must (
        case c5 => rfl
        case c8 => kernel_rfl
        case c7 => exact hNew w _
        case c6 => rfl
        case c1 => rw [List.length_map]; exact (Nat.min_eq_left (by omega)).symm
        case c2 => intro j v hj; rw [show (⟨ab, 0, none⟩ : Addr).add j = ⟨ab, j, none⟩ by unfold Addr.add; split <;> simp_all]; rw [cAl ((hcp.out j).trans (by simpa using hj))]
        case c3 => simp [nilRow_size]; omega
        case c4 => intro v hv; obtain ⟨x, _, rfl⟩ := List.mem_map.1 hv; exact optV_one x
        intro w1 hw1
        obtain ⟨k1, l1, n1⟩ := grow_world H.out.1.list hw1.out
        have g1 : w1.cell? ⟨lb, 1, none⟩ = some (.int .i64 mx) := cell_of_heap l1 1
        have g2 : w1.cell? ⟨lb, 2, none⟩ = some (.int .i64 n) := cell_of_heap l1 2
        have g3 : w1.cell? ⟨lb, 3, none⟩ = some (.int .i64 0) := cell_of_heap l1 3
        have g4 : w1.cell? ⟨lb, 4, none⟩ = some (.slice (some ⟨ab, 0, none⟩) T.length T.length) := cell_of_heap l1 4
        have q1 := free_of_heap l1 1
        have q2 := free_of_heap l1 2
        have q4 := free_of_heap l1 4
        have L1 := Lib.hid (And.intro k1 (And.intro l1 n1)); clear k1 l1 n1))
    refine bodyPost_ret (results_tmp rfl _ _ _) rfl ?_
    obtain ⟨h, hb, hsz⟩ := H.out
    obtain ⟨k1, l1, n1⟩ := L1.out
    rw [grown_arr T (b.toNat - mn) c (by omega)] at n1
    have hlen : (T ++ (List.replicate (b.toNat - mn - T.length) none ++ [some c])).length = b.toNat - mn + 1 := by simp; omega
    refine ⟨rfl, ⟨w.heap.size, b.toNat, _, ⟨?_, ?_, by rw [hlen]; omega, by omega, by omega, ?_, by omega⟩, tab_grow hmn (by omega), .inr (Nat.le_refl _)⟩, ?_⟩
    · rw [heap_setCell_at (heap_setCell_at (heap_setCell_at l1)), hlen]; simp
    · exact hSe (hSe (hSe n1 (by simp; omega)) (by simp; omega)) (by simp; omega)
    · obtain ⟨c', hc'⟩ := h.head
      rw [List.getElem?_append_left (by omega)]
      exact ⟨c', hc'⟩
    · have k2 : Kept (fun k => k = lb ∨ k = ab) w w1 := k1.mono fun _ _ h => Or.inl h
      exact ((k2.setCell (Or.inl (Or.inl rfl)) _).setCell (Or.inl (Or.inl rfl)) _).setCell (Or.inl (Or.inl rfl)) _
end Go.Proofs.YtpopiaahdanpeaaGreatDoor
