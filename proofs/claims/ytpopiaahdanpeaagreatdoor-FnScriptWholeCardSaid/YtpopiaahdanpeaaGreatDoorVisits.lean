/- Visit and VisitSubtree. -/
import Derived.Test.YtpopiaahdanpeaaGreatDoorWalkV
import Derived.ArgAppend
namespace Go.Proofs.YtpopiaahdanpeaaGreatDoor
open Go Go.RowKit
set_option linter.unusedVariables false

section
variable {w : World} {t : Nat} {D : Node → Prop} {X : Node} {vf vb : Nat} {own : Nat → Prop} {Vi : World → List (List UInt8) → Prop}

theorem visit_calls (h : TrieAt w t D) (hX : D X) (hXt : X.blk = t) (hXw : X.word = []) (hgood : ∀ Y, D Y → Y.word.length ≤ 5) (hroom : RoomI D [])
    (hen : ∀ args w, (callFunc vf args).run Tryz.prog w = .ok (.enter vf args) w) (hv : Visitor t D w.heap.size (w.heap.size + 1) vf vb own Vi)
    (hstart : ∀ w', Below w.heap.size w w' → w.heap.size + 2 ≤ w'.heap.size → Vi w' []) :
    Calls Tryz.prog 29 #[ptrV t, .func (.func vf) #[] #[ptrV vb]] w (TrieWalk w t D vb own Vi []) := by
  have H := trieWalk_nil h hX hXw (by rw [h.wf.root_plen hX hXt, hXw]; rfl) hgood (by rw [hXw]; exact hroom) hen hv hstart
  rw [hXw, hXt] at H
  have H := Lib.hid H
  clear h hX hXt hXw hgood hroom hv hstart
  go_enter Tryz.func29, Tryz.ntmps29
  go_wp2_with (go_at_call 49; refine H.out.mono ?_; rintro e w' ⟨rfl, hL⟩)
  go_ret
  exact ⟨rfl, hL⟩

/-- What VisitSubtree gives. -/
def SubWalk (w : World) (t : Nat) (D : Node → Prop) (kg : Nat) (own : Nat → Prop) (Vi : World → List (List UInt8) → Prop) (key : Word) (e : Ending) (w' : World) : Prop :=
  e = .returned .nilIface ∧ ∃ L, (Asc L ∧ ∀ k, k ∈ L ↔ (∃ v, Has D k v) ∧ key <+: k) ∧ TrieAt w' t D ∧ Vi w' L ∧ Kept (fun k => TB D k ∨ own k ∨ k = kg) w w'

theorem found_words (hw : WF t D) (htop : ∀ X, D X → X.blk = t → X.word = [] ∧ X.mp = 10) {key : Word} (hpos : 0 < key.length) (hX : D X) (h1 : key <+: X.word) (h2 : X.par <+: key) {PV : Value}
    (h3 : X.blk = t ∧ PV = Value.pointer none ∨ X.blk ≠ t ∧ X.par ≠ key ∧ ∃ P, D P ∧ P.word = X.par ∧ PV = ptrV P.blk) {k : Word} {v : Int} (hk : Has D k v) : X.word <+: k ↔ key <+: k := by
  obtain ⟨u1, u2, _⟩ := found_par htop hpos hX h1 h3
  obtain ⟨Y, hY, rfl, _⟩ := hk
  exact ⟨fun h => h1.trans h, fun h => found_ext hw hX u1 h1 h2 u2 hY h⟩

/-- The key made longer. -/
structure Longer (w w1 : World) (kg g c : Nat) (word : Word) : Prop where
  bytes : BytesAt w1 g 0 word
  room : word.length ≤ c
  kept : Kept (fun k => k = kg) w w1

theorem longer_fit {kg kc g o m c : Nat} {key rest : Word} {w1 : World} (hk : BytesAt w kg 0 key) (hka : ArrAt w kg kc) (hb : BytesAt w g o rest) (hg : g ≠ kg) (hm : rest.length = m) (hroom : key.length + m ≤ kc)
    (e : w1 = w.setCells kg key.length (byteVs rest)) : Longer w w1 kg kg kc (key ++ rest) := by
  have hkp : Kept (fun k => k = kg) w w1 := by rw [e]; exact setCells_kept (S := fun k => k = kg) w rfl _ _ _ (Kept.refl _ _)
  obtain ⟨cur, fr, a1, a2, a3⟩ := hka
  refine ⟨fun i hi => ?_, by simp; omega, hkp⟩
  rw [e, Nat.zero_add]
  rcases Nat.lt_or_ge i key.length with hlt | hge
  · rw [World.cell?_setCells_out _ _ _ _ _ (fun _ _ => .inl hlt)]
    have := hk i hlt
    rw [Nat.zero_add] at this
    rw [this]
    simp [List.getElem_append_left, hlt]
  · obtain ⟨j, rfl⟩ : ∃ j, i = key.length + j := ⟨i - key.length, by omega⟩
    have hj : j < rest.length := by simp at hi; omega
    rw [World.cell?_setCells_in kg (byteVs rest) key.length w (fun j' hj' => by
      rw [byteVs_len] at hj'
      rw [cell_of_heap a1, Array.getElem?_eq_getElem (by omega)]; rfl) j (by rw [byteVs_len]; exact hj)]
    simp [byteVs]

theorem longer_fit_run {kg kc g o m c : Nat} {key rest : Word} (hka : ArrAt w kg kc) (hb : BytesAt w g o rest) (hm : rest.length = m) (hroom : key.length + m ≤ kc) :
    (Builtin.append_ #[56, 56] 56 #[.slice (some ⟨kg, 0, none⟩) key.length kc, .slice (some ⟨g, o, none⟩) m c]).run Tryz.prog w = .ok (.slice (some ⟨kg, 0, none⟩) (key.length + m : Nat) kc) (w.setCells kg key.length (byteVs rest)) := by
  obtain ⟨i, hi, hz0, hz1, hz2⟩ := info_parts info5
  obtain ⟨cur, fr, a1, a2, a3⟩ := hka
  have := run_append_room_cells (P := Tryz.prog) w 56 56 5 i Tryz.underlying56 hi kg 0 key.length kc ⟨g, o, none⟩ m c (byteVs rest) (by rw [byteVs_len, hm, hz1]; omega) hb.vals (byteVs_one rest) hroom
    (fun j hj => by rw [byteVs_len] at hj; rw [hz1, cell_of_heap a1, Array.getElem?_eq_getElem (by omega)]; rfl) (fun j hj => by rw [byteVs_len] at hj; exact a3 _ (by rw [hz1]; omega))
  rw [this, hz1, Nat.mul_one, Nat.zero_add]

theorem rest_of {key word : Word} (h : key <+: word) : key ++ word.drop key.length = word := by
  obtain ⟨s, rfl⟩ := h; simp

/-- The walk from the found node on. -/
theorem sub_after {kg g c : Nat} {key : Word} {PV : Value} {w1 : World} (h : TrieAt w t D) (htop : ∀ X, D X → X.blk = t → X.word = [] ∧ X.mp = 10) (hgood : ∀ Y, D Y → Y.word.length ≤ 5) (hroom : ∀ p, RoomI D p) (hkg : ¬ TB D kg) (hpos : 0 < key.length)
    (hen : ∀ args w, (callFunc vf args).run Tryz.prog w = .ok (.enter vf args) w) (hvis : ∀ pp pg, w.heap.size ≤ pp → w.heap.size ≤ pg → pp ≠ pg → Visitor t D pp pg vf vb own Vi)
    (hstart : ∀ w', Kept (fun k => k = kg) w w' → Vi w' []) (hX : D X) (h1 : key <+: X.word) (h2 : X.par <+: key)
    (h3 : X.blk = t ∧ PV = Value.pointer none ∨ X.blk ≠ t ∧ X.par ≠ key ∧ ∃ P, D P ∧ P.word = X.par ∧ PV = ptrV P.blk) (hl : Longer w w1 kg g c X.word) :
    Calls Tryz.prog 49 #[ptrV X.blk, .slice (some ⟨g, 0, none⟩) X.word.length c, .func (.func vf) #[] #[ptrV vb]] w1 (SubWalk w t D kg own Vi key) := by
  have hsz := hl.kept.size
  have ht1 : TrieAt w1 t D := h.kept hl.kept (fun k e => by rw [e]; exact hkg)
  refine (trieWalk_key ht1 hX hl.bytes hl.room hgood (hroom _) hen (hvis _ _ hsz (by omega) (by omega)) (fun w' hb _ => hstart w' (hl.kept.trans (Below.kept_of hb _)))).mono ?_
  rintro e w' ⟨rfl, L, ⟨a1, a2⟩, a3, a4, a5⟩
  refine ⟨rfl, L, ⟨a1, fun k => ?_⟩, a3, a4, ?_⟩
  · rw [a2]
    constructor
    · rintro ⟨⟨v, hv⟩, hk⟩; exact ⟨⟨v, hv⟩, (found_words h.wf htop hpos hX h1 h2 h3 hv).1 hk⟩
    · rintro ⟨⟨v, hv⟩, hk⟩; exact ⟨⟨v, hv⟩, (found_words h.wf htop hpos hX h1 h2 h3 hv).2 hk⟩
  · exact (hl.kept.mono fun k _ e => .inr (.inr e)).trans (a5.mono fun k _ e => by rcases e with e | e; exact .inl e; exact .inr (.inl e))

theorem longer_grow {kg kc m : Nat} {key rest word : Word} {w0 w1 : World} {v : Value} (hd : Drawn w w0) (hw : key ++ rest = word) (hpos : 0 < word.length) (hown : w1.ownsRow w0.heap.size 5 1 v word.length (byteVs key ++ byteVs rest)) (hg : w0.grownBy w1 none) :
    ∃ g c, v = .slice (some ⟨g, 0, none⟩) word.length c ∧ Longer w w1 kg g c word := by
  obtain ⟨hl, ⟨_, h0⟩ | ⟨g, c, cur, rfl, h1, h2, h3, h4, h5, h6⟩⟩ := hown
  · omega
  · refine ⟨g, c, rfl, fun i hi => ?_, h3, ?_⟩
    · rw [Nat.zero_add, cell_of_heap h2]
      have e : cur.toList[i]? = (byteVs key ++ byteVs rest)[i]? := by
        rw [← h6, List.getElem?_take_of_lt (by omega)]
      have e2 : byteVs key ++ byteVs rest = byteVs word := by rw [← hw]; simp [byteVs]
      rw [e2] at e
      rw [← Array.getElem?_toList, e]
      simp [byteVs, hi]
    · have hb : Below w0.heap.size w0 w1 := ⟨hg.os, hg.tape, hg.output, hg.size, fun k hk => hg.block k hk (by simp)⟩
      exact (hd.kept _).trans (Below.kept_of hb _)

set_option maxRecDepth 100000 in
set_option maxHeartbeats 4000000 in
theorem visitSub_calls {kg kc : Nat} {key : Word} (h : TrieAt w t D) (htop : ∀ X, D X → X.blk = t → X.word = [] ∧ X.mp = 10) (hgood : ∀ Y, D Y → Y.word.length ≤ 5) (hroom : ∀ p, RoomI D p)
    (hkb : BytesAt w kg 0 key) (hka : ArrAt w kg kc) (hkc : key.length ≤ kc) (hkg : ¬ TB D kg) (hkl : key.length ≤ 5) (hpos : 0 < key.length)
    (hen : ∀ args w, (callFunc vf args).run Tryz.prog w = .ok (.enter vf args) w) (hvis : ∀ pp pg, w.heap.size ≤ pp → w.heap.size ≤ pg → pp ≠ pg → Visitor t D pp pg vf vb own Vi)
    (hstart : ∀ w', Kept (fun k => k = kg) w w' → Vi w' []) :
    Calls Tryz.prog 47 #[ptrV t, .slice (some ⟨kg, 0, none⟩) key.length kc, .func (.func vf) #[] #[ptrV vb]] w (SubWalk w t D kg own Vi key) := by
  have HF := Lib.hid (findSubtree_calls h key kg 0 kc hkb (by omega) hkc (fun X hX => Nat.le_trans (hgood X hX) (by omega)))
  obtain ⟨R, hR, hRt, _⟩ := h.wf.root
  have c0 := (h.at_ R hR).c0
  rw [hRt] at c0
  have s1 := slice_eq
  have H := Lib.hid (And.intro h (And.intro htop (And.intro hgood (And.intro hroom (And.intro hkb (And.intro hka (And.intro hkg (And.intro hvis hstart)))))))); clear h htop hgood hroom hkb hka hkg hvis hstart
  go_enter Tryz.func47, Tryz.ntmps47
  go_upto_region 6 with (go_at_call 44; refine HF.out.mono ?_; rintro e w1 ⟨n, rfl, ⟨X, PV, o', c', hX, h1, h2, h3, rfl, h4, h5⟩ | ⟨h1, v0, v1, v3, rfl⟩⟩)
  · have HX := Lib.hid (And.intro hX (And.intro h1 (And.intro h2 (And.intro h3 h4)))); clear hX h1 h2 h3 h4
    by_cases hfit : key.length + (X.word.length - key.length) ≤ kc
    · have hrl : (X.word.drop key.length).length = X.word.length - key.length := by simp
      have hwl := HX.out.2.1.length_le
      have hg : X.g ≠ kg := fun e => H.out.2.2.2.2.2.2.1 ⟨X, HX.out.1, .inr (.inr (.inr e.symm))⟩
      have hrun := longer_fit_run (w := w.drewN n) (kg := kg) (kc := kc) (g := X.g) (o := o') (c := c') (key := key) (rest := X.word.drop key.length) H.out.2.2.2.2.2.1 HX.out.2.2.2.2 hrl hfit
      rw [Nat.add_sub_cancel' hwl] at hrun
      have HA := Lib.hid (fun w1 (e : w1 = (w.drewN n).setCells kg key.length (byteVs (X.word.drop key.length))) => sub_after H.out.1 H.out.2.1 H.out.2.2.1 H.out.2.2.2.1 H.out.2.2.2.2.2.2.1 hpos hen H.out.2.2.2.2.2.2.2.1 H.out.2.2.2.2.2.2.2.2 HX.out.1 HX.out.2.1 HX.out.2.2.1 HX.out.2.2.2.1 (by
        have hl := longer_fit (w := w.drewN n) (c := c') H.out.2.2.2.2.1 H.out.2.2.2.2.2.1 HX.out.2.2.2.2 hg hrl hfit e
        rw [rest_of HX.out.2.1] at hl
        exact (Longer.mk hl.bytes hl.room (((Kept.refl (fun k => k = kg) w).drewN n).trans hl.kept) : Longer w w1 kg kg kc X.word)))
      have hrun := Lib.hid hrun
      go_wp2_with (first | (at_builtin; refine wpList_append_eq rfl (.tmp 29) (.tmp 30) 56 rfl _ _ rfl rfl _ _ hrun.out ?_; intro w1 hw1) | (go_at_call 49; refine (HA.out _ hw1.out).mono ?_; rintro e w' ⟨rfl, hL⟩))
      go_ret
      exact ⟨rfl, hL⟩
    · have hwl := HX.out.2.1.length_le
      obtain ⟨i0, hi5, hz0, hz1, hz2⟩ := info_parts info5
      have hq1 : (byteVs key).length = key.length * 1 := by rw [byteVs_len]; omega
      have hq2 : (byteVs (X.word.drop key.length)).length = (X.word.length - key.length) * 1 := by rw [byteVs_len]; simp
      have hq3 : key.length + (X.word.length - key.length) = X.word.length := Nat.add_sub_cancel' hwl
      have hgx := H.out.2.2.1 X HX.out.1
      have HA := Lib.hid (fun w1 g c (hl : Longer w w1 kg g c X.word) => sub_after H.out.1 H.out.2.1 H.out.2.2.1 H.out.2.2.2.1 H.out.2.2.2.2.2.2.1 hpos hen H.out.2.2.2.2.2.2.2.1 H.out.2.2.2.2.2.2.2.2 HX.out.1 HX.out.2.1 HX.out.2.2.1 HX.out.2.2.2.1 hl)
      have hq4 := Lib.hid hq3
      clear hq3
      go_wp2_with (first
        | (at_builtin; refine wpList_append_grows _ rfl (.tmp 29) (.tmp 30) 56 rfl 5 i0 (.int .u8 0) 1 1 Tryz.underlying56 hi5 hz0 hz1 hz2 rfl (by decide) (some ⟨kg, 0, none⟩) key.length kc (byteVs key) rfl (fun e => by cases e) hq1 (fun b e => by cases e; exact H.out.2.2.2.2.1.vals) ⟨X.g, o', none⟩ (X.word.length - key.length) c' (byteVs (X.word.drop key.length)) rfl hq2 HX.out.2.2.2.2.vals (byteVs_one _) (by omega) (by unfold maxLen; omega) (by omega) ?_; intro v' w1 hown hgr; rw [hq4.out] at hown; obtain ⟨g, c, rfl, hl⟩ := longer_grow (kg := kg) (m := 0) (kc := kc) ⟨n, rfl⟩ (rest_of HX.out.2.1) (by omega) hown hgr; have HL := Lib.hid hl; clear hown hgr hl)
        | (go_at_call 49; refine (HA.out _ _ _ HL.out).mono ?_; rintro e w' ⟨rfl, hL⟩))
      go_ret
      exact ⟨rfl, hL⟩
  · go_wp2_with fail
    go_ret
    refine ⟨rfl, [], ⟨List.Pairwise.nil, fun k => ⟨fun h => by simp at h, ?_⟩⟩, (Drawn.trie ⟨n, rfl⟩ H.out.1), H.out.2.2.2.2.2.2.2.2 _ ((Kept.refl _ _).drewN _), (Kept.refl _ _).drewN _⟩
    rintro ⟨⟨v, Y, hY, rfl, _⟩, hk⟩
    exact (h1 ⟨Y, hY, hk⟩).elim
end
end Go.Proofs.YtpopiaahdanpeaaGreatDoor
