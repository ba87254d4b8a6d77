/- compact under one contract: the node stays, or it and its only child become one in the child's block. -/
import Derived.Test.YtpopiaahdanpeaaGreatDoorNew
namespace Go.Proofs.YtpopiaahdanpeaaGreatDoor
open Go Go.RowKit
set_option linter.unusedVariables false

/-- What the bytes of block g are behind the call, outside the row written. -/
structure ArrOut (w w' : World) (g lo hi : Nat) : Prop where
  cell : ∀ i, (i < lo ∨ hi ≤ i) → w'.cell? ⟨g, i, none⟩ = w.cell? ⟨g, i, none⟩
  arr : ∀ n, ArrAt w g n → ArrAt w' g n

/-- A node and its child have become one. -/
structure Merged (w w' : World) (c g off plen cap plen2 : Nat) (pre pre2 : List UInt8) (v2 v3 v4 : Value) (g' off' cap' : Nat) : Prop where
  node : w'.heap[c]? = some (.cells #[.slice (some ⟨g', off', none⟩) (plen + plen2) cap', .nilIface, v2, v3, v4] 73 (0, 0))
  bytes : BytesAt w' g' off' (pre ++ pre2)
  arr : ArrAt w' g' (off' + cap')
  room : plen + plen2 ≤ cap'
  kept : Kept (fun k => k = c ∨ k = g) w w'
  out : ArrOut w w' g (off + plen) (off + plen + plen2)
  where_ : (g' = g ∧ off' = off ∧ cap' = cap) ∨ (w.heap.size ≤ g' ∧ w'.heap[g]? = w.heap[g]?)

theorem setCells_block (b o : Nat) : ∀ (vs : List Value) (o : Nat) (w : World) (cur : Array Value) (T : TypeId) (fr : Nat × Nat), w.heap[b]? = some (.cells cur T fr) →
    ∃ cur', (w.setCells b o vs).heap[b]? = some (.cells cur' T fr) ∧ cur'.size = cur.size
  | [], _, w, cur, T, fr, h => ⟨cur, h, rfl⟩
  | v :: r, o, w, cur, T, fr, h => by
    obtain ⟨cur', h1, h2⟩ := setCells_block b o r (o + 1) (w.setCell ⟨b, o, none⟩ v) _ T fr (heap_setCell_at h)
    exact ⟨cur', h1, by simpa using h2⟩
theorem setCells_other (b : Nat) {k : Nat} (hk : k ≠ b) : ∀ (vs : List Value) (o : Nat) (w : World), (w.setCells b o vs).heap[k]? = w.heap[k]?
  | [], _, _ => rfl
  | v :: r, o, w => (setCells_other b hk r (o + 1) _).trans (heap_setCell_ne hk)
theorem setCells_size (b : Nat) : ∀ (vs : List Value) (o : Nat) (w : World), (w.setCells b o vs).heap.size = w.heap.size
  | [], _, _ => rfl
  | v :: r, o, w => (setCells_size b r (o + 1) _).trans (by simp)
theorem setCells_os (b : Nat) : ∀ (vs : List Value) (o : Nat) (w : World), (w.setCells b o vs).os = w.os ∧ (w.setCells b o vs).tape = w.tape ∧ (w.setCells b o vs).output = w.output
  | [], _, _ => ⟨rfl, rfl, rfl⟩
  | v :: r, o, w => setCells_os b r (o + 1) (w.setCell ⟨b, o, none⟩ v)
theorem Kept.setCells {S : Nat → Prop} {w : World} {g : Nat} (hg : S g) (vs : List Value) (o : Nat) : Kept S w (w.setCells g o vs) := by
  obtain ⟨a, b, c⟩ := setCells_os g vs o w
  exact ⟨a, b, c, by rw [setCells_size]; exact Nat.le_refl _, fun k _ hs => setCells_other g (by rintro rfl; exact hs hg) vs o w⟩

/-- The call of compact at a node. -/
def Compacted (w : World) (b : Nat) (item : Option Int) (K : UInt8 → Option Nat) (mp : Int) (g off plen cap : Nat) (pre : List UInt8) (child : Nat → Option (Nat × Nat × Nat × Nat × List UInt8 × Option Int × Value × Value × Value)) (e : Ending) (w' : World) : Prop :=
  (e = .returned (ptrV b) ∧ ∃ n, w' = w.drewN n) ∨
  (∃ c y g2 off2 plen2 cap2 pre2 v2 v3 v4 g' off' cap', K y = some c ∧ cnt K = 1 ∧ item = none ∧ child c = some (g2, off2, plen2, cap2, pre2, none, v2, v3, v4) ∧ e = .returned (ptrV c) ∧ Merged w w' c g off plen cap plen2 pre pre2 v2 v3 v4 g' off' cap')

theorem compact_calls {w : World} {b lb ab cc g off plen cap : Nat} {d : Bool} {mp : Int} {item : Option Int} {K : UInt8 → Option Nat} {pre : List UInt8} {v1 : Value} {child : Nat → Option (Nat × Nat × Nat × Nat × List UInt8 × Option Int × Value × Value × Value)}
    (h0 : w.heap[b]? = some (.cells #[.slice (some ⟨g, off, none⟩) plen cap, itemV item, .int .i64 mp, v1, .iface (tyOf d) (ptrV lb)] 73 (0, 0)))
    (hK : KidsAt w d lb ab cc K) (hd : d = true → cnt K ≠ 1)
    (hp : pre.length = plen) (hb1 : BytesAt w g off pre) (ha : ArrAt w g (off + cap)) (hpl : plen ≤ 100) (hroom : plen ≤ cap)
    (hc : ∀ y c, K y = some c → c ≠ b ∧ ∃ g2 off2 plen2 cap2 pre2 item2 v2 v3 v4, child c = some (g2, off2, plen2, cap2, pre2, item2, v2, v3, v4) ∧
      w.heap[c]? = some (.cells #[.slice (some ⟨g2, off2, none⟩) plen2 cap2, itemV item2, v2, v3, v4] 73 (0, 0)) ∧ pre2.length = plen2 ∧ 0 < plen2 ∧ plen2 ≤ 100 ∧ BytesAt w g2 off2 pre2) :
    Calls Tryz.prog 43 #[ptrV b] w (Compacted w b item K mp g off plen cap pre child) := by
  by_cases hn : cnt K = 1
  · have hdf : d = false := by
      cases d with
      | false => rfl
      | true => exact (hd rfl hn).elim
    subst hdf
    obtain ⟨y, c, hy, hu, _⟩ := hK.one hn
    obtain ⟨hcb, g2, off2, plen2, cap2, pre2, item2, v2, v3, v4, hch, k0, hp2, hpos, hpl2, hb2⟩ := hc y c hy
    by_cases hs : item ≠ none ∨ item2 ≠ none ∨ mp < (plen : Int) + plen2
    · refine (compact_stay (cell_of_heap h0 0) (cell_of_heap h0 1) (cell_of_heap h0 2) (cell_of_heap h0 4) hK hn hy (cell_of_heap k0 0) (cell_of_heap k0 1) hpl hpl2 hs).mono ?_
      intro e w' h; exact .inl h
    · have hi : item = none := by
        cases item with
        | none => rfl
        | some x => exact (hs (.inl (by simp))).elim
      have hi2 : item2 = none := by
        cases item2 with
        | none => rfl
        | some x => exact (hs (.inr (.inl (by simp)))).elim
      subst hi; subst hi2
      have hle : (plen : Int) + plen2 ≤ mp := by
        by_cases h : (plen : Int) + plen2 ≤ mp
        · exact h
        · exact (hs (.inr (.inr (by omega)))).elim
      have hgc : g ≠ c := by rintro rfl; obtain ⟨cur, fr, e, _⟩ := ha; rw [k0] at e; simp at e
      by_cases hr : plen + plen2 ≤ cap
      · refine (compact_room h0 hK hn hy k0 (Ne.symm hcb) hp hp2 hb1 hb2 ha hpl hpl2 hle hr).mono ?_
        rintro e w' ⟨rfl, n, rfl⟩
        refine .inr ⟨c, y, g2, off2, plen2, cap2, pre2, v2, v3, v4, g, off, cap, hy, hn, rfl, hch, rfl, ?_⟩
        have hk : Kept (fun k => k = c ∨ k = g) w ((w.setCells g (off + plen) (byteVs pre2)).setCell ⟨c, 0, none⟩ (.slice (some ⟨g, off, none⟩) (plen + plen2) cap)) :=
          (Kept.setCells (Or.inr rfl) _ _).setCell (Or.inl (Or.inl rfl)) _
        have hcell : ∀ i, (i < off + plen ∨ off + plen + plen2 ≤ i) → ((w.setCells g (off + plen) (byteVs pre2)).setCell ⟨c, 0, none⟩ (.slice (some ⟨g, off, none⟩) (plen + plen2) cap)).cell? ⟨g, i, none⟩ = w.cell? ⟨g, i, none⟩ := by
          intro i hi
          rw [World.cell?_setCell_other _ _ _ _ (by intro e; injection e with e _; exact hgc e.symm)]
          exact World.cell?_setCells_out _ _ _ _ _ (fun _ _ => by simp [byteVs_len, hp2]; omega)
        have hin : ∀ j (hj : j < pre2.length), ((w.setCells g (off + plen) (byteVs pre2)).setCell ⟨c, 0, none⟩ (.slice (some ⟨g, off, none⟩) (plen + plen2) cap)).cell? ⟨g, off + plen + j, none⟩ = some (.int .u8 (pre2[j]).toNat) := by
          intro j hj
          rw [World.cell?_setCell_other _ _ _ _ (by intro e; injection e with e _; exact hgc e.symm)]
          rw [World.cell?_setCells_in g (byteVs pre2) (off + plen) w ?_ j (by simpa [byteVs] using hj)]
          · simp [byteVs]
          · intro i hi
            obtain ⟨cur, fr, e, hsz, _⟩ := ha
            rw [cell_of_heap e, Array.getElem?_eq_getElem (by simp [byteVs] at hi; omega)]; rfl
        have harr : ∀ n, ArrAt w g n → ArrAt ((w.setCells g (off + plen) (byteVs pre2)).setCell ⟨c, 0, none⟩ (.slice (some ⟨g, off, none⟩) (plen + plen2) cap)) g n := by
          rintro n ⟨cur, fr, e, hsz, hf⟩
          obtain ⟨cur', e', hsz'⟩ := setCells_block g (off + plen) (byteVs pre2) (off + plen) w cur 5 fr e
          refine ⟨cur', fr, hSe e' hgc, by omega, fun i hi => ?_⟩
          rw [World.frozen?_setCell, World.frozen?_setCells]; exact hf i hi
        refine ⟨?_, ?_, harr _ ha, hr, hk.drewN n, ⟨hcell, harr⟩, .inl ⟨rfl, rfl, rfl⟩⟩
        · show ((w.setCells g (off + plen) (byteVs pre2)).setCell ⟨c, 0, none⟩ _).heap[c]? = _
          rw [heap_setCell_at (by rw [setCells_other g (Ne.symm hgc)]; exact k0)]; simp [itemV]
        · intro i hi
          show ((w.setCells g (off + plen) (byteVs pre2)).setCell ⟨c, 0, none⟩ _).cell? _ = _
          by_cases hip : i < pre.length
          · rw [hcell _ (.inl (by omega)), hb1 i hip, List.getElem_append_left hip]
          · have := hin (i - pre.length) (by simp at hi; omega)
            rw [show off + plen + (i - pre.length) = off + i by omega] at this
            rw [this, List.getElem_append_right (by omega)]
      · refine (compact_grow h0 hK hn hy k0 (Ne.symm hcb) hp hp2 hb1 hb2 hpl hpl2 hpos hle (by omega)).mono ?_
        rintro e w' ⟨rfl, g', cap', w1, hown, hbel, n, rfl⟩
        refine .inr ⟨c, y, g2, off2, plen2, cap2, pre2, v2, v3, v4, g', 0, cap', hy, hn, rfl, hch, rfl, ?_⟩
        have hcl := lt_of_block k0
        have hg'lt : w.heap.size ≤ g' ∧ g' < w1.heap.size := hown.lt g' rfl
        obtain ⟨_, hrow⟩ := hown
        rcases hrow with ⟨h1, _⟩ | ⟨gg, cp, cur, hv, hge, hgh, hncap, hcm, hcs, htake⟩
        · cases h1
        · cases hv
          have hk : Kept (fun k => k = c ∨ k = g) w (w1.setCell ⟨c, 0, none⟩ (.slice (some ⟨g', 0, none⟩) (plen + plen2) cap')) := by
            have : Kept (fun k => k = c ∨ k = g) w w1 := ⟨hbel.os, hbel.tape, hbel.output, hbel.size, fun k hk _ => hbel.block k hk⟩
            exact this.setCell (Or.inl (Or.inl rfl)) _
          have hglt : g < w.heap.size := by obtain ⟨cur, fr, e, _⟩ := ha; exact lt_of_block e
          have hgg : (w1.setCell ⟨c, 0, none⟩ (.slice (some ⟨g', 0, none⟩) (plen + plen2) cap')).heap[g]? = w.heap[g]? := by
            rw [heap_setCell_ne (by simpa using hgc)]; exact hbel.block g hglt
          have hg'c : g' ≠ c := by omega
          have hb' : (w1.setCell ⟨c, 0, none⟩ (.slice (some ⟨g', 0, none⟩) (plen + plen2) cap')).heap[g']? = some (.cells cur 5 (0, 0)) := hSe hgh (by simpa using hg'c)
          refine ⟨?_, ?_, ⟨cur, _, hb', by omega, fun i hi => free_of_heap hb' i⟩, hncap, hk.drewN n, ⟨fun i _ => ?_, fun n ⟨cu, fr, e, hsz, hf⟩ => ⟨cu, fr, hgg.trans e, hsz, fun i hi => (World.frozen?_of_block (w := w) hgg).trans (hf i hi)⟩⟩, .inr ⟨hg'lt.1, hgg⟩⟩
          · show (w1.setCell ⟨c, 0, none⟩ _).heap[c]? = _
            rw [heap_setCell_at ((hbel.block c hcl).trans k0)]; simp [itemV]
          · intro i hi
            show (w1.setCell ⟨c, 0, none⟩ _).cell? _ = _
            rw [cell_of_heap hb', Nat.zero_add]
            have hlen : (byteVs pre ++ byteVs pre2).length = plen + plen2 := by simp [byteVs_len, hp, hp2]
            have hi' : i < plen + plen2 := by simp at hi; omega
            have h1 : cur[i]? = (cur.toList.take ((plen + plen2) * 1))[i]? := by
              rw [List.getElem?_take, if_pos (by omega)]; simp
            rw [h1, htake]
            have : byteVs pre ++ byteVs pre2 = byteVs (pre ++ pre2) := by simp [byteVs]
            rw [this]
            unfold byteVs
            rw [List.getElem?_map, List.getElem?_eq_getElem hi]; rfl
          · exact World.cell?_of_block (w := w) hgg
  · refine (compact_len (cell_of_heap h0 4) hK hn).mono ?_
    intro e w' h; exact .inl h
end Go.Proofs.YtpopiaahdanpeaaGreatDoor
