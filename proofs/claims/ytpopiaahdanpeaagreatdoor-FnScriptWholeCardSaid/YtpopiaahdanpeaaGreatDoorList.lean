/- The walks of the functions that write into lists of children. -/
import Derived.Test.YtpopiaahdanpeaaGreatDoorReads
namespace Go.Proofs.YtpopiaahdanpeaaGreatDoor
open Go Go.RowKit
set_option linter.unusedVariables false

/-- append at an operation, its run known as an equation. -/
theorem wpList_append_eq {P : Program} {w : World} {ops : Array Oper} {rest : List Oper} {o : Oper} {a : Act} {Q : Exit → Act → World → Prop}
    (hg : o.guard = none) (s x : Operand) (t : TypeId) (hop : o.op = Op.call { callee := Callee.builtin Builtin.append, args := #[s, x], argTypes := #[t, t] })
    (u v : Value) (hs : a.eval s = u) (hx : a.eval x = v) (r : Value) (w' : World)
    (hr : (Builtin.append_ #[t, t] o.type #[u, v]).run P w = .ok r w')
    (h : ∀ w1, Hid (w1 = w') → wpList P ops Q rest (a.put o.dst r) w1) : wpList P ops Q (o :: rest) a w := by
  refine wpList_plain hg fun K hK => ?_
  unfold Oper.wp
  simp [execOp, hop, resolve, invoke, builtin, hs, hx, hr, Result.andThen]
  exact hK _ _ (h _ rfl)

theorem info40 : (Tryz.prog.info? 40).map (fun i => (i.zero, i.size, i.bytes)) = some (some (.pointer none), 1, 8) := by kernel_rfl

/-- append of one pointer where there is room. -/
theorem run_append_ptr (W : World) (ab n cap : Nat) (c : Nat) (j : Nat) (u : Value) (hc : W.cell? ⟨ab, n, none⟩ = some u) (hf : W.frozen? ⟨ab, n, none⟩ = false) (hn : n < cap)
    (hj : W.cell? ⟨j, 0, none⟩ = some (ptrV c)) (T : TypeId) :
    (Builtin.append_ #[95, 95] T #[.slice (some ⟨ab, 0, none⟩) n cap, .slice (some ⟨j, 0, none⟩) 1 1]).run Tryz.prog W =
      .ok (.slice (some ⟨ab, 0, none⟩) (n + 1) cap) (W.setCell ⟨ab, n, none⟩ (ptrV c)) := by
  obtain ⟨i, hi, hz0, hz, hz2⟩ := info_parts info40
  have h := run_append_room_cells (P := Tryz.prog) W 95 T 40 i Tryz.underlying95 hi ab 0 n cap ⟨j, 0, none⟩ 1 1 [ptrV c] (by simp [hz])
    (by intro k v hk; cases k with
        | zero => simp at hk; subst hk; simpa [Addr.add] using hj
        | succ k => simp at hk) (by intro u hu; simp at hu; subst hu; rfl) (by omega)
    (by intro k hk; simp at hk; subst hk; simp [hz, hc]) (by intro k hk; simp at hk; subst hk; simp [hz, hf])
  rw [h]; simp [hz, World.setCells]

theorem sp_add_room {w : World} {lb ab cap : Nat} {l : List (UInt8 × Nat)} (h : SparseAt w lb ab cap l) (hl : l.length < cap) (b : UInt8) (c : Nat) :
    Calls Tryz.prog 99 #[ptrV lb, ptrV c] w fun e w' => e = .returned (.iface 94 (ptrV lb)) ∧ SparseAt w' lb ab cap (l ++ [(b, c)]) ∧ Kept (fun k => k = lb ∨ k = ab) w w' := by
  have hc := cell_of_heap h.list 0
  have hcf := free_of_heap h.list 0
  obtain ⟨junk, ha, hjl⟩ := h.arr
  have hsm := h.small
  have hac : ∃ u, w.cell? ⟨ab, l.length, none⟩ = some u := by
    rw [cell_of_heap ha]; simp [List.getElem?_append_right]
    cases junk with
    | nil => simp at hjl; omega
    | cons x r => exact ⟨x, rfl⟩
  have haf := free_of_heap ha l.length
  have hne : lb ≠ ab := by intro e; subst e; have := h.list; rw [ha] at this; simp at this
  obtain ⟨u, hac⟩ := hac
  simp at hc
  have H := Lib.hid (And.intro h ha); clear h ha
  have hd : ((l.length : Int) != (cap : Int)) = true := by simp; omega
  go_enter Tryz.func99, Tryz.ntmps99
  go_wp2
  go_quiet (fail)
  go_wp2_with (
    at_builtin
    refine wpList_append_eq rfl (.tmp 20) (.tmp 22) 95 rfl _ _ rfl rfl _ _ (run_append_ptr _ ab l.length cap c _ u (cAlD hac) (fAl (w := w.drewN nq) haf (World.block_lt_of_cell? _ _ hac)) hl (World.cell?_alloc_new (w.drewN nq) #[ptrV c] 40 0) _) ?_
    intro w1 hw1
    have g1 : w1.cell? ⟨lb, 0, none⟩ = some (Value.slice (some { block := ab, off := 0 }) l.length cap) := by rw [hw1.out]; exact cSeB (cAlD hc) (Ne.symm hne)
    have g2 : w1.frozen? ⟨lb, 0, none⟩ = false := by rw [hw1.out]; exact fSe (fAl (w := w.drewN nq) hcf (World.block_lt_of_cell? _ _ hc)))
  go_ret
  have e1 := hw1.out
  obtain ⟨h, ha⟩ := H.out
  have k0 : Kept (fun k => k = lb ∨ k = ab) w w1 := by
    rw [e1]; exact ((((Kept.refl _ _).drewN nq).alloc _).setCell (Or.inl (Or.inr rfl)) _)
  have hl1 : w1.heap[lb]? = some (.cells #[.slice (some ⟨ab, 0, none⟩) l.length cap] 97 (0, 0)) := by
    rw [e1]; exact hSe (hAl (w := w.drewN nq) h.list) hne
  have ha1 : w1.heap[ab]? = some (.cells ((l.map (fun p => ptrV p.2) ++ junk).toArray.setIfInBounds l.length (ptrV c)) 40 (0, 0)) := by
    rw [e1]; exact heap_setCell_at (hAl (w := w.drewN nq) ha)
  refine ⟨rfl, ⟨?_, ⟨junk.tail, ?_, ?_⟩, hsm⟩, k0.setCell (Or.inl (Or.inl rfl)) _⟩
  · rw [heap_setCell_at hl1]; simp
  · refine hSe ?_ (Ne.symm hne)
    rw [ha1]
    cases junk with
    | nil => simp at hjl; omega
    | cons x r => simp [List.set_append_right]
  · cases junk with
    | nil => simp at hjl; omega
    | cons x r => simp at hjl ⊢; omega

/-- no child among the first k begins with b -/
def NoneOf (l : List (UInt8 × Nat)) (b : UInt8) (k : Nat) : Prop := ∀ i (h : i < l.length), i < k → l[i].1 ≠ b
theorem NoneOf.zero (l : List (UInt8 × Nat)) (b : UInt8) : NoneOf l b 0 := fun _ _ h => by omega
theorem NoneOf.step {l : List (UInt8 × Nat)} {b : UInt8} {k : Nat} (h : NoneOf l b k) (hk : k < l.length) (he : ¬ l[k].1 = b) : NoneOf l b (k + 1) := by
  intro i hi hik
  by_cases e : i = k
  · subst e; exact he
  · exact h i hi (by omega)
theorem NoneOf.absurd {l : List (UInt8 × Nat)} {b : UInt8} {k : Nat} (h : NoneOf l b k) (hk : l.length ≤ k) (hb : b ∈ l.map (·.1)) : False := by
  obtain ⟨p, hp, rfl⟩ := List.mem_map.1 hb
  obtain ⟨i, hi, e⟩ := List.getElem_of_mem hp
  exact h i hi (by omega) (by rw [e])
theorem u8ne {a b : UInt8} (h : ¬ a = b) : ((a.toNat : Int) == (b.toNat : Int)) = false := by
  simp; intro e; exact h (UInt8.toNat_inj.1 (by omega))
theorem u8eq {a b : UInt8} (h : a = b) : ((a.toNat : Int) == (b.toNat : Int)) = true := by simp [h]
/-- What replacing one child leaves. -/
def Replaced (w : World) (lb ab cap : Nat) (l : List (UInt8 × Nat)) (b : UInt8) (c : Nat) : Prop :=
  ∃ i, ∃ hi : i < l.length, l[i].1 = b ∧ SparseAt w lb ab cap (l.set i (b, c))

set_option maxHeartbeats 1000000 in
theorem sp_replace {w : World} {lb ab cap : Nat} {l : List (UInt8 × Nat)} (h : SparseAt w lb ab cap l) (hf : ∀ p ∈ l, FB w p.2 p.1) (b : UInt8) (c : Nat)
    (hb : b ∈ l.map (·.1)) (hcb : FB w c b) :
    Calls Tryz.prog 105 #[ptrV lb, .int .u8 b.toNat, ptrV c] w fun e w' => e = .returned (.tuple #[]) ∧ Replaced w' lb ab cap l b c ∧ Kept (fun k => k = ab) w w' := by
  have hc := cell_of_heap h.list 0
  obtain ⟨junk, ha, hjl⟩ := h.arr
  have hsm := h.small
  have hle := h.le
  have hne : lb ≠ ab := by intro e; subst e; have := h.list; rw [ha] at this; simp at this
  have haf := fun i => free_of_heap ha i
  simp at hc
  obtain ⟨cg, co, cn, ccp, cf1, cf2⟩ := hcb
  have H := Lib.hid (And.intro h (And.intro hf (And.intro hb ha))); clear h ha hf hb
  go_enter Tryz.func105, Tryz.ntmps105
  go_wp2
  go_loop [24, 7, 8] (fun i _ _ => ∃ k : Nat, i = .int .i64 k ∧ k ≤ l.length ∧ Hid (NoneOf l b k)) (fun i _ _ => l.length - (intOf i).toNat)
  case atStart => exact ⟨0, rfl, by omega, Lib.hid (NoneOf.zero _ _)⟩
  case round =>
    obtain ⟨k, rfl, h1, HL⟩ := hrel
    by_cases hlt : k < l.length
    · have ck := H.out.1.cell k hlt
      obtain ⟨g, o, n, cp, f1, f2⟩ := H.out.2.1 l[k] (List.getElem_mem hlt)
      by_cases he : l[k].1 = b
      · have heB := u8eq he
        have HR := Lib.hid he
        clear he HL
        go_wp2
        refine bodyPost_ret (results_none rfl _ _ _) rfl ?_
        obtain ⟨h, _, _, ha⟩ := H.out
        refine ⟨rfl, ⟨k, hlt, HR.out, ⟨?_, ⟨junk, ?_, by simpa using hjl⟩, hsm⟩⟩, (Kept.refl (fun k => k = ab) w).setCell (Or.inl rfl) _⟩
        · rw [heap_setCell_ne (by simpa using hne)]; simpa using h.list
        · rw [heap_setCell_at ha]; simp [List.set_append_left, hlt, List.map_set]
      · have heB := u8ne he
        have HR := Lib.hid (HL.out.step hlt he)
        clear he HL
        go_wp2
        go_round
        case rel => exact ⟨k+1, by go_num, by omega, HR⟩
        case measure => simp [intOf]; omega
    · exact (HL.out.absurd (by omega) H.out.2.2.1).elim

/-- What removing one child leaves. -/
def Removed (w : World) (lb ab cap : Nat) (l : List (UInt8 × Nat)) (b : UInt8) : Prop :=
  ∃ i, ∃ hi : i < l.length, l[i].1 = b ∧ SparseAt w lb ab cap ((l.set i (l[l.length - 1]'(by omega))).take (l.length - 1))

theorem removed_arr (l : List (UInt8 × Nat)) (junk : List Value) (k : Nat) (hk : k < l.length) :
    ((l.map (fun p => ptrV p.2) ++ junk).toArray.setIfInBounds k (ptrV (l[l.length - 1]).2)).setIfInBounds (l.length - 1) (.pointer none) =
      (((l.set k (l[l.length - 1])).take (l.length - 1)).map (fun p => ptrV p.2) ++ (Value.pointer none :: junk)).toArray := by
  have h1 : (l.map (fun p => ptrV p.2) ++ junk).set k (ptrV (l[l.length - 1]).2) = (l.set k (l[l.length - 1])).map (fun p => ptrV p.2) ++ junk := by
    rw [List.set_append_left _ _ (by simpa using hk), List.map_set]
  have h2 : ∀ L : List (UInt8 × Nat), L.length = l.length → (L.map (fun p => ptrV p.2) ++ junk).set (l.length - 1) (.pointer none) = (L.take (l.length - 1)).map (fun p => ptrV p.2) ++ (Value.pointer none :: junk) := by
    intro L hL
    rw [List.set_append_left _ _ (by simp; omega), List.set_eq_take_append_cons_drop, if_pos (by simp; omega), List.map_take, List.drop_eq_nil_of_le (by simp; omega)]
    simp
  simp only [List.setIfInBounds_toArray]
  rw [h1, h2 _ (by simp)]

set_option maxRecDepth 100000 in
set_option maxHeartbeats 2000000 in
theorem sp_remove {w : World} {lb ab cap : Nat} {l : List (UInt8 × Nat)} (h : SparseAt w lb ab cap l) (hf : ∀ p ∈ l, FB w p.2 p.1) (b : UInt8)
    (hb : b ∈ l.map (·.1)) :
    Calls Tryz.prog 104 #[ptrV lb, .int .u8 b.toNat] w fun e w' => e = .returned (.tuple #[]) ∧ Removed w' lb ab cap l b ∧ Kept (fun k => k = lb ∨ k = ab) w w' := by
  have hc := cell_of_heap h.list 0
  obtain ⟨junk, ha, hjl⟩ := h.arr
  have hsm := h.small
  have hle := h.le
  have hne : lb ≠ ab := by intro e; subst e; have := h.list; rw [ha] at this; simp at this
  have haf := fun i => free_of_heap ha i
  have hlf := fun i => free_of_heap h.list i
  simp at hc
  have H := Lib.hid (And.intro h (And.intro hf (And.intro hb ha))); clear h ha hf hb
  go_enter Tryz.func104, Tryz.ntmps104
  go_wp2
  go_loop [11, 4, 5] (fun i _ _ => ∃ k : Nat, i = .int .i64 k ∧ k ≤ l.length ∧ Hid (NoneOf l b k)) (fun i _ _ => l.length - (intOf i).toNat)
  case atStart => exact ⟨0, rfl, by omega, Lib.hid (NoneOf.zero _ _)⟩
  case round =>
    obtain ⟨k, rfl, h1, HL⟩ := hrel
    by_cases hlt : k < l.length
    · have ck := H.out.1.cell k hlt
      obtain ⟨g, o, n, cp, f1, f2⟩ := H.out.2.1 l[k] (List.getElem_mem hlt)
      by_cases he : l[k].1 = b
      · have heB := u8eq he
        have HR := Lib.hid he
        clear he HL
        have cl := H.out.1.cell (l.length - 1) (by omega)
        have ei : ((l.length : Int) - 1) = ((l.length - 1 : Nat) : Int) := by omega
        go_wp2_with fail
        go_region
        obtain ⟨w1, hw1⟩ : ∃ w1, w1 = (w.setCell ⟨ab, k, none⟩ (ptrV (l[l.length - 1]).2)).drew := ⟨_, rfl⟩
        rw [← hw1]
        have g1 : w1.cell? ⟨lb, 0, none⟩ = some (Value.slice (some { block := ab, off := 0 }) l.length cap) := by rw [hw1]; exact cSeB hc (Ne.symm hne)
        have g2 : w1.frozen? ⟨lb, 0, none⟩ = false := by rw [hw1]; exact fSe (hlf 0)
        have g3 : ∃ u, w1.cell? ⟨ab, l.length - 1, none⟩ = some u := by
          rw [hw1]; by_cases e : k = l.length - 1
          · subst e; exact ⟨_, World.cell?_setCell_same _ _ _ ck⟩
          · exact ⟨_, cSe cl (by intro x; injection x with _ x; exact e x)⟩
        obtain ⟨u, g3⟩ := g3
        have g4 : w1.frozen? ⟨ab, l.length - 1, none⟩ = false := by rw [hw1]; exact fSe (haf _)
        have HW1 := Lib.hid hw1; clear hw1
        go_wp2_with fail
        go_region
        obtain ⟨w2, hw2⟩ : ∃ w2, w2 = (w1.setCell ⟨ab, l.length - 1, none⟩ (.pointer none)).drew := ⟨_, rfl⟩
        rw [← hw2]
        have g1 : w2.cell? ⟨lb, 0, none⟩ = some (Value.slice (some { block := ab, off := 0 }) l.length cap) := by rw [hw2]; exact cSeB g1 (Ne.symm hne)
        have g2 : w2.frozen? ⟨lb, 0, none⟩ = false := by rw [hw2]; exact fSe g2
        have HW2 := Lib.hid hw2; clear hw2
        go_wp2_with fail
        go_region
        go_wp2_with fail
        refine bodyPost_ret (results_none rfl _ _ _) rfl ?_
        have hw1 := HW1.out
        have hw2 := HW2.out
        obtain ⟨h, _, _, ha⟩ := H.out
        have k1 : Kept (fun k => k = lb ∨ k = ab) w w1 := by rw [hw1]; exact ((Kept.refl _ _).setCell (Or.inl (Or.inr rfl)) _).drew
        have k2 : Kept (fun k => k = lb ∨ k = ab) w w2 := by rw [hw2]; exact (k1.setCell (Or.inl (Or.inr rfl)) _).drew
        have hl2 : w2.heap[lb]? = some (.cells #[.slice (some ⟨ab, 0, none⟩) l.length cap] 97 (0, 0)) := by
          rw [hw2, hw1]; exact hSe (w := (w.setCell _ _).drew) (hSe h.list hne) hne
        have ha2 : w2.heap[ab]? = some (.cells ((((l.map (fun p => ptrV p.2) ++ junk).toArray.setIfInBounds k (ptrV (l[l.length - 1]).2)).setIfInBounds (l.length - 1) (.pointer none))) 40 (0, 0)) := by
          rw [hw2, hw1]; exact heap_setCell_at (w := (w.setCell _ _).drew) (heap_setCell_at ha)
        rw [removed_arr _ _ k hlt] at ha2
        have hlen : ((l.set k (l[l.length - 1])).take (l.length - 1)).length = l.length - 1 := by simp
        refine ⟨rfl, ⟨k, hlt, HR.out, ⟨?_, ⟨_, hSe ha2 (Ne.symm hne), ?_⟩, hsm⟩⟩, (k2.setCell (Or.inl (Or.inl rfl)) _).drew⟩
        · show (w2.setCell _ _).heap[lb]? = _
          rw [heap_setCell_at hl2, hlen]; simp
        · rw [hlen]; simp; omega
      · have heB := u8ne he
        have HR := Lib.hid (HL.out.step hlt he)
        clear he HL
        go_wp2
        go_round
        case rel => exact ⟨k+1, by go_num, by omega, HR⟩
        case measure => simp [intOf]; omega
    · exact (HL.out.absurd (by omega) H.out.2.2.1).elim
end Go.Proofs.YtpopiaahdanpeaaGreatDoor
