/- The walk over a trie from a node on. -/
import Derived.Test.YtpopiaahdanpeaaGreatDoorWalkDe
namespace Go.Proofs.YtpopiaahdanpeaaGreatDoor
open Go Go.RowKit
set_option linter.unusedVariables false

section
variable {w : World} {t : Nat} {D : Node → Prop} {X : Node} {pp pg vf vb cap : Nat} {own : Nat → Prop} {Vi : World → List (List UInt8) → Prop} {told : List (List UInt8)}

theorem walk_any (hv : Visitor t D pp pg vf vb own Vi) (hen : ∀ args w, (callFunc vf args).run Tryz.prog w = .ok (.enter vf args) w) (hgood : ∀ Y, D Y → Y.word.length ≤ 5) (hw : WF t D) :
    ∀ n X, D X → 6 ≤ n + X.word.length → ∀ w told, WAt w w t D pp pg cap own Vi X.word X.word told → Room D X.word told.length →
    Calls Tryz.prog (walkFn X.d) #[ptrV X.lb, ptrV pp, .func (.func vf) #[] #[ptrV vb]] w (WalkOut w t D pp pg cap own Vi X told) := by
  intro n
  induction n with
  | zero => intro X hX hn; have := hgood X hX; omega
  | succ n ih =>
    intro X hX hn w told h hr
    have hk : Kids t D pp pg cap vf vb own Vi X := fun V b hk u told' hu hr' => ih V hk.1 (by have := kid_len hw hk; omega) u told' hu hr'
    cases hd : X.d with
    | false => exact sp_walk hv hen hgood h hX hd hr hk
    | true => exact de_walk hv hen hgood h hX hd hr hk

/-- n zero bytes. -/
def zeroRow (n : Nat) : Array Value := (List.replicate n (Value.int .u8 0)).toArray
theorem made_zero (n : Nat) : madeCells #[Value.int .u8 0] n = zeroRow n := by
  unfold madeCells zeroRow
  apply Array.ext
  · simp
  · intro i h1 h2; simp [Nat.mod_one]
theorem mk_bytes (n : Nat) (hn : n ≤ 1000) (w : World) :
    (Instr.makeSlice 56 (.int .i64 (n : Int)) (.int .i64 (n : Int))).run Tryz.prog w = .ok (.slice (some ⟨w.heap.size, 0, none⟩) n n) (w.alloc (.cells (zeroRow n) 5)) := by
  obtain ⟨i, hi, hz0, hz, hz2⟩ := info_parts info5
  have h := run_make (P := Tryz.prog) w 56 5 i (.int .u8 0) Tryz.underlying56 hi hz0 .i64 .i64 (n : Int) (n : Int) (by omega) (by omega) (by rw [hz2]; omega) (by omega)
  rw [h]
  simp [hz, Value.cells, made_zero]
theorem int_of {n : Nat} {a : Int} (h : a = n) : (n : Int) = a := h.symm

theorem zeroRow_size (n : Nat) : (zeroRow n).size = n := by simp [zeroRow]
theorem splice_get (m : Nat) (l : List UInt8) (i : Nat) (hi : i < l.length) : (splice (zeroRow m).toList 0 (byteVs l)).toArray[i]? = some (.int .u8 l[i].toNat) := by
  simp only [List.getElem?_toArray]
  unfold splice
  simp only [List.take_zero, List.nil_append]
  rw [List.getElem?_append_left (by rw [byteVs_len]; exact hi)]
  simp [byteVs, hi]
theorem splice_size (m : Nat) (l : List UInt8) (h : l.length ≤ m) : (splice (zeroRow m).toList 0 (byteVs l)).toArray.size = m := by
  simp [splice, byteVs_len, zeroRow]; omega

/-- The new variable for the word on the way. -/
structure Begun (w w1 : World) (n : Nat) (word : List UInt8) : Prop where
  box : w1.heap[w.heap.size]? = some (.cells #[.slice (some ⟨w.heap.size + 1, 0, none⟩) n n] 56 (0, 0))
  arr : ArrAt w1 (w.heap.size + 1) n
  bytes : BytesAt w1 (w.heap.size + 1) 0 word
  below : Below w.heap.size w w1

theorem begun {w1 : World} {n : Nat} {word : List UInt8} (hn : word.length ≤ n) (e : w1 = ((w.alloc (.cells #[.slice (some ⟨w.heap.size + 1, 0, none⟩) n n] 56)).alloc (.cells (zeroRow n) 5)).setRow (w.heap.size + 1) (splice (zeroRow n).toList 0 (byteVs word)).toArray) : Begun w w1 n word := by
  have h0 : ((w.alloc (.cells #[.slice (some ⟨w.heap.size + 1, 0, none⟩) n n] 56)).alloc (.cells (zeroRow n) 5)).heap[w.heap.size + 1]? = some (.cells (zeroRow n) 5 (0, 0)) := by
    have := hNew (w.alloc (.cells #[.slice (some ⟨w.heap.size + 1, 0, none⟩) n n] 56)) (.cells (zeroRow n) 5)
    rwa [World.size_alloc] at this
  have h1 : w1.heap[w.heap.size + 1]? = some (.cells (splice (zeroRow n).toList 0 (byteVs word)).toArray 5 (0, 0)) := by rw [e]; exact setRow_heap _ _ _ _ _ _ h0
  have hk : Kept (fun k => w.heap.size ≤ k) w w1 := by
    rw [e]; exact (((Kept.refl (fun k => w.heap.size ≤ k) w).alloc _).alloc _).setRow (.inl (by simp)) _
  refine ⟨?_, ⟨_, _, h1, by rw [splice_size n word hn]; exact Nat.le_refl _, fun i hi => free_of_heap h1 i⟩, fun i hi => ?_, hk.below (Nat.le_refl _)⟩
  · rw [e, setRow_other _ _ _ _ (by omega)]; exact hAl (hNew w _)
  · rw [cell_of_heap h1, Nat.zero_add, splice_get n word i hi]

theorem Begun.pfx {w1 : World} {n m : Nat} {word : List UInt8} (h : Begun w w1 n word) (hm : m = word.length) (h1 : 32 ≤ n) (h2 : n ≤ 200) : Pfx (w1.setCell ⟨w.heap.size, 0, none⟩ (.slice (some ⟨w.heap.size + 1, 0, none⟩) m n)) w.heap.size (w.heap.size + 1) n word := by
  subst hm
  have hk : Kept (fun k => k = w.heap.size) w1 (w1.setCell ⟨w.heap.size, 0, none⟩ (.slice (some ⟨w.heap.size + 1, 0, none⟩) word.length n)) := (Kept.refl (fun k => k = w.heap.size) w1).setCell (.inl rfl) _
  exact ⟨by rw [heap_setCell_at h.box]; rfl, h.arr.kept hk (by omega), h.bytes.kept hk (by omega), h1, h2⟩

theorem Kept.trans' {S T : Nat → Prop} {a b c : World} (h : Kept S a b) (k : Kept T b c) (hst : ∀ i, i < a.heap.size → T i → S i) : Kept S a c :=
  ⟨k.os.trans h.os, k.tape.trans h.tape, k.output.trans h.output, Nat.le_trans h.size k.size,
   fun i hi hs => (k.block i (Nat.lt_of_lt_of_le hi h.size) (fun ht => hs (hst i hi ht))).trans (h.block i hi hs)⟩
theorem begun_row (w : World) (o : Obj) (n : Nat) : ((w.alloc o).alloc (.cells (zeroRow n) 5)).heap[w.heap.size + 1]? = some (.cells (zeroRow n) 5 (0, 0)) := by
  have := hNew (w.alloc o) (.cells (zeroRow n) 5)
  rwa [World.size_alloc] at this

/-- What a walk from the node X on gives. -/
def TrieWalk (w : World) (t : Nat) (D : Node → Prop) (vb : Nat) (own : Nat → Prop) (Vi : World → List (List UInt8) → Prop) (p : Word) (e : Ending) (w' : World) : Prop :=
  e = .returned .nilIface ∧ ∃ L, (Asc L ∧ ∀ k, k ∈ L ↔ (∃ v, Has D k v) ∧ p <+: k) ∧ TrieAt w' t D ∧ Vi w' L ∧ Kept (fun k => TB D k ∨ own k) w w'
/-- The room for the words at p and below. -/
def RoomI (D : Node → Prop) (p : Word) : Prop := ∀ L, Asc L → (∀ k ∈ L, (∃ v, Has D k v) ∧ p <+: k) → L.length ≤ 100

theorem itL_all (hw : WF t D) (hX : D X) {L : List Word} (h : LsB D X.word L) : Asc (itL X ++ L) ∧ ∀ k, k ∈ itL X ++ L ↔ (∃ v, Has D k v) ∧ X.word <+: k := by
  have hI : ∀ k, k ∈ itL X ↔ k = X.word ∧ ∃ v, X.item = some v := by
    intro k; unfold itL
    cases hv : X.item with
    | none => simp
    | some v => simp
  constructor
  · unfold Asc
    rw [List.pairwise_append]
    refine ⟨by unfold itL; cases X.item <;> simp, h.1, fun a ha m hm => ?_⟩
    obtain ⟨rfl, _⟩ := (hI a).1 ha
    obtain ⟨_, h1, h2⟩ := (h.2 m).1 hm
    exact lt_of_prefix h1 h2
  · intro k
    rw [List.mem_append, hI, h.2]
    constructor
    · rintro (⟨rfl, v, hv⟩ | ⟨h1, h2, _⟩)
      · exact ⟨⟨v, X, hX, rfl, hv⟩, List.prefix_rfl⟩
      · exact ⟨h1, h2⟩
    · rintro ⟨⟨v, hv⟩, h2⟩
      by_cases e : k = X.word
      · obtain ⟨Y, hY, e1, e2⟩ := hv
        have := hw.winj Y X hY hX (by rw [e1, e])
        subst this
        exact .inl ⟨e, v, e2⟩
      · exact .inr ⟨⟨v, hv⟩, h2, e⟩
theorem RoomI.room (hw : WF t D) (hX : D X) (h : RoomI D X.word) : Room D X.word (itL X).length := by
  intro L hL
  have hI : ∀ k, k ∈ itL X → k = X.word ∧ ∃ v, X.item = some v := by
    intro k; unfold itL
    cases hv : X.item with
    | none => simp
    | some v => simp
  have := h (itL X ++ L) (by
    unfold Asc
    rw [List.pairwise_append]
    refine ⟨by unfold itL; cases X.item <;> simp, hL.1, fun a ha m hm => ?_⟩
    obtain ⟨rfl, _⟩ := hI a ha
    obtain ⟨_, h1, h2⟩ := hL.2 m hm
    exact lt_of_prefix h1 h2) (by
    intro k hk
    rcases List.mem_append.1 hk with hk | hk
    · obtain ⟨rfl, v, hv⟩ := hI k hk
      exact ⟨⟨v, X, hX, rfl, hv⟩, List.prefix_rfl⟩
    · exact ⟨(hL.2 k hk).1, (hL.2 k hk).2.1⟩)
  simpa using this

theorem trieWalk_end {w2 w3 : World} {n : Nat} {L : List Word} (hB : Below w.heap.size w w2) (hX : D X) (hw : WF t D) (hL : LsB D X.word L)
    (h : WAt w2 w3 t D w.heap.size (w.heap.size + 1) n own Vi X.word X.word (itL X ++ L)) : TrieWalk w t D vb own Vi X.word (.returned .nilIface) w3 :=
  ⟨rfl, itL X ++ L, itL_all hw hX hL, h.trie, h.vi, (Below.kept_of hB (fun k => TB D k ∨ own k)).trans' h.kept (fun k hk hs => by
    rcases hs with h1 | h1 | h1 | h1
    · exact .inl h1.tb
    · exact .inr h1
    · omega
    · omega)⟩

set_option maxRecDepth 100000 in
set_option maxHeartbeats 4000000 in
theorem trieWalk_key {kg ko kc : Nat} (h : TrieAt w t D) (hX : D X) (hkb : BytesAt w kg ko X.word) (hkc : X.word.length ≤ kc) (hgood : ∀ Y, D Y → Y.word.length ≤ 5) (hroom : RoomI D X.word)
    (hen : ∀ args w, (callFunc vf args).run Tryz.prog w = .ok (.enter vf args) w) (hv : Visitor t D w.heap.size (w.heap.size + 1) vf vb own Vi)
    (hstart : ∀ w', Below w.heap.size w w' → w.heap.size + 2 ≤ w'.heap.size → Vi w' []) :
    Calls Tryz.prog 49 #[ptrV X.blk, .slice (some ⟨kg, ko, none⟩) X.word.length kc, .func (.func vf) #[] #[ptrV vb]] w (TrieWalk w t D vb own Vi X.word) := by
  have hlen := hgood X hX
  have hmk : ∀ w, (Instr.makeSlice 56 (.int .i64 (32 + (X.word.length : Int))) (.int .i64 (32 + (X.word.length : Int)))).run Tryz.prog w = .ok (.slice (some ⟨w.heap.size, 0, none⟩) (32 + X.word.length) (32 + X.word.length)) (w.alloc (.cells (zeroRow (32 + X.word.length)) 5)) := fun w => by
    have := mk_bytes (32 + X.word.length) (by omega) w
    rw [Int.natCast_add] at this
    exact this
  have s1 := slice_eq
  have hsl := slice_high (g := w.heap.size + 1) (o := 0) (n := 32 + X.word.length) (c := 32 + X.word.length) (L := X.word.length) (by omega) (Nat.le_refl _)
  have hm := meth_walk
  have hnl := nil_walk
  have hcw := call_walk
  have H := Lib.hid (And.intro h (And.intro hX (And.intro hkb (And.intro hgood (And.intro hroom (And.intro hv hstart)))))); clear h hX hkb hgood hroom hv hstart
  go_enter Tryz.func49, Tryz.ntmps49
  go_upto_region 9 with (
    with_reducible refine wpList_copy_eq rfl (.tmp 35) (.tmp 36) 56 56 rfl 5 Tryz.underlying56 ?c8 (w.heap.size + 1) 0 (32 + X.word.length) (32 + X.word.length) ⟨kg, ko, none⟩ X.word.length kc ?c5 ?c6 (zeroRow (32 + X.word.length)) 5 ?c7 (byteVs X.word) ?c1 ?c2 ?c3 ?c4 ?_
    go_must (
      case c5 => rfl
      case c8 => kernel_rfl
      case c7 => exact (begun_row w _ _)
      case c6 => rfl
      case c1 => rw [byteVs_len]; exact (Nat.min_eq_left (by omega)).symm
      case c2 => intro j v hj; exact cAl (cAl (H.out.2.2.1.vals j v hj))
      case c3 => rw [byteVs_len, zeroRow_size]; omega
      case c4 => exact byteVs_one _
      intro w1 hw1
      have hB := begun (n := 32 + X.word.length) (word := X.word) (by omega) hw1.out
      have g0 : w1.cell? ⟨w.heap.size, 0, none⟩ = some (.slice (some ⟨w.heap.size + 1, 0, none⟩) (32 + X.word.length) (32 + X.word.length)) := cell_of_heap hB.box 0
      have g1 := free_of_heap hB.box 0
      have HB := Lib.hid hB; clear hB hw1))
  generalize hw2 : w1.setCell ⟨w.heap.size, 0, none⟩ (Value.slice (some ⟨w.heap.size + 1, 0, none⟩) X.word.length (32 + X.word.length)) = w2
  have hb2 : Below w.heap.size w w2 := by
    rw [← hw2]; exact HB.out.below.setCell (Nat.le_refl _) _
  have hsz2 : w.heap.size + 2 ≤ w2.heap.size := by
    rw [← hw2]
    have := lt_of_block HB.out.arr.choose_spec.choose_spec.1
    simp; omega
  have hP : Pfx w2 w.heap.size (w.heap.size + 1) (32 + X.word.length) X.word := by rw [← hw2]; exact HB.out.pfx rfl (by omega) (by omega)
  have hW : WAt w2 w2 t D w.heap.size (w.heap.size + 1) (32 + X.word.length) own Vi X.word X.word [] := ⟨H.out.1.below hb2, hP, H.out.2.2.2.2.2.2 w2 hb2 hsz2, Kept.refl _ _⟩
  have hN2 := hW.trie.at_ X H.out.2.1
  have x1 := hN2.c1
  have x4 := hN2.c4
  have p0 := cell_of_heap hP.box 0
  simp at p0
  have ine := item_neq
  have iig := item_guard
  have HW := Lib.hid (And.intro hW (And.intro hb2 hN2)); clear hW hb2 hsz2 hP hN2 hw2 g0 g1 hmk hsl
  cases hit : X.item with
  | none =>
    rw [hit] at x1
    have HK := Lib.hid (walk_any H.out.2.2.2.2.2.1 hen H.out.2.2.2.1 H.out.1.wf 6 X H.out.2.1 (by omega) w2 [] HW.out.1 (by have := H.out.2.2.2.2.1.room H.out.1.wf H.out.2.1; simpa [itL, hit] using this))
    go_wp2_with ((with_reducible refine HK.out.mono ?_); rintro e w3 ⟨rfl, L, hL1, hL2⟩)
    go_ret
    exact trieWalk_end HW.out.2.1 H.out.2.1 H.out.1.wf hL1 (by simpa [itL, hit] using hL2)
  | some x =>
    rw [hit] at x1
    have HT : Hid (∀ u, Drawn w2 u → Calls Tryz.prog vf #[.slice (some ⟨w.heap.size + 1, 0, none⟩) X.word.length (32 + X.word.length), itemV (some x), ptrV vb] u fun e w' => e = .returned .nilIface ∧ Hid (WAt w2 w' t D w.heap.size (w.heap.size + 1) (32 + X.word.length) own Vi X.word X.word [X.word])) := Lib.hid fun u hu => by
      have hRu := HW.out.1.drawn H.out.2.2.2.2.2.1 hu
      refine (H.out.2.2.2.2.2.1.step u [] X.word (32 + X.word.length) x hRu.vi (by simp) hRu.pfx.bytes hlen (by omega)).mono ?_
      rintro e w' ⟨rfl, h1, h2⟩
      exact ⟨rfl, Lib.hid (hRu.tell H.out.2.2.2.2.2.1 h1 h2)⟩
    go_upto_region 10 with fail
    go_cut [8] (fun s wx => s = .nilIface ∧ Hid (WAt w2 wx t D w.heap.size (w.heap.size + 1) (32 + X.word.length) own Vi X.word X.word [X.word]))
    case first =>
      go_region_with ((with_reducible refine (HT.out _ (drawn_one _)).mono ?_); rintro e wd ⟨rfl, hd⟩)
      all_goals (go_wp2_with fail; go_meet; exact ⟨rfl, hd⟩)
    case rest =>
      obtain ⟨rfl, HC⟩ := hcut
      clear x1 x4 p0 HT
      have x4 := (HC.out.trie.at_ X H.out.2.1).c4
      have HK := Lib.hid (walk_any H.out.2.2.2.2.2.1 hen H.out.2.2.2.1 H.out.1.wf 6 X H.out.2.1 (by omega) wc [X.word] ⟨HC.out.trie, HC.out.pfx, HC.out.vi, Kept.refl _ _⟩ (by have := H.out.2.2.2.2.1.room H.out.1.wf H.out.2.1; simpa [itL, hit] using this))
      go_wp2_with ((with_reducible refine HK.out.mono ?_); rintro e w3 ⟨rfl, L, hL1, hL2⟩)
      go_ret
      exact trieWalk_end HW.out.2.1 H.out.2.1 H.out.1.wf hL1 (by
        have := HC.out.sub List.prefix_rfl hL2
        simpa [itL, hit] using this)
end
end Go.Proofs.YtpopiaahdanpeaaGreatDoor
