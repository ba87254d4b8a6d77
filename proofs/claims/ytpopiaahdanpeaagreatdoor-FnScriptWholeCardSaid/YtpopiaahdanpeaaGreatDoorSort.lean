/- sort.Sort over a small list of children. -/
import Derived.Test.YtpopiaahdanpeaaGreatDoorTrie
import Derived.Test.YtpopiaahdanpeaaGreatDoorShelf
import Derived.Laws.BytesArg
import Derived.Sort.Walk0
namespace Go.Proofs.YtpopiaahdanpeaaGreatDoor
open Go Go.RowKit
set_option linter.unusedVariables false

theorem below_drewN {B : Nat} {w w' : World} (h : Below B w w') (n : Nat) : Below B w (w'.drewN n) := ⟨h.os, h.tape, h.output, h.size, h.block⟩

/-- bytes as a string -/
def strOf (l : List UInt8) : ByteArray := ⟨l.toArray⟩
theorem strOf_list (l : List UInt8) : (strOf l).toList = l := by rw [ByteArray.toList_eq]; simp [strOf]

theorem run_str {W : World} {g o c : Nat} {l : List UInt8} (h : BytesAt W g o l) (n : Nat) (hn : n = l.length) : (convert 56 9 (.slice (some ⟨g, o, none⟩) n c)).run Tryz.prog W = .ok (.string (strOf l)) W := by
  subst hn
  have := run_convert_bytes_arg (P := Tryz.prog) W 56 5 (by kernel_rfl) (by kernel_rfl) g o l.length c (l.map fun b => (b.toNat : Int)) (by simp) (fun i hi => by
    rw [h i hi]; simp [List.getD, hi]) 9 (by kernel_rfl)
  rw [show strOfNums (l.map fun b => (b.toNat : Int)) = strOf l by simp [strOfNums, strOf, List.map_map, Function.comp_def]] at this
  exact this

/-- The node at block c has the bytes ps as its own part. -/
def PB (w : World) (c : Nat) (ps : List UInt8) : Prop :=
  ∃ g o cp, w.cell? ⟨c, 0, none⟩ = some (.slice (some ⟨g, o, none⟩) ps.length cp) ∧ BytesAt w g o ps

theorem strless_calls {w : World} {j : Nat} {a b : ByteArray} {T : TypeId} (h : w.heap[j]? = some (.cells #[.string a, .string b] T (0, 0))) :
    Calls Tryz.prog 129 #[.slice (some ⟨j, 0, none⟩) 2 2, .int .i64 0, .int .i64 1] w fun e w' => e = .returned (.bool (Op.bytesLess a.toList b.toList)) ∧ ∃ n, w' = w.drewN n := by
  have c0 := cell_of_heap h 0
  have c1 := cell_of_heap h 1
  simp at c0 c1
  clear h
  go_enter Tryz.func129, Tryz.ntmps129
  go_wp2
  go_quiet (fail)
  go_wp2
  go_ret
  exact ⟨rfl, _, rfl⟩

set_option maxHeartbeats 1000000 in
theorem less_calls {w : World} {lb ab cap : Nat} {l : List (UInt8 × Nat)} (h : SparseAt w lb ab cap l) {i j : Nat} (hi : i < l.length) (hj : j < l.length) {p q : List UInt8} (hp : PB w l[i].2 p) (hq : PB w l[j].2 q) :
    Calls Tryz.prog 127 #[.slice (some ⟨ab, 0, none⟩) l.length cap, .int .i64 i, .int .i64 j] w fun e w' => e = .returned (.bool (Op.bytesLess p q)) ∧ Below w.heap.size w w' := by
  have ci := h.cell i hi
  have cj := h.cell j hj
  have hle := h.le
  have hsm := h.small
  obtain ⟨g, o, cp, c1, b1⟩ := hp
  obtain ⟨g2, o2, cp2, c2, b2⟩ := hq
  have r1 : ∀ n, (convert 56 9 (.slice (some ⟨g, o, none⟩) p.length cp)).run Tryz.prog (w.drewN n) = .ok (.string (strOf p)) (w.drewN n) := fun n => run_str (W := w.drewN n) b1 _ rfl
  have r2 : ∀ n, (convert 56 9 (.slice (some ⟨g2, o2, none⟩) q.length cp2)).run Tryz.prog (w.drewN n) = .ok (.string (strOf q)) (w.drewN n) := fun n => run_str (W := w.drewN n) b2 _ rfl
  have s1 := run_str (W := w) (c := cp) (l := p) b1 _ rfl
  have s2 := run_str (W := w) (c := cp2) (l := q) b2 _ rfl
  have s3 := run_str (W := w.drew) (c := cp) (l := p) b1 _ rfl
  have s4 := run_str (W := w.drew) (c := cp2) (l := q) b2 _ rfl
  clear h b1 b2
  go_enter Tryz.func127, Tryz.ntmps127
  go_wp2
  go_region
  go_wp2_with (go_at_call 129; refine (strless_calls (w := (w.alloc (.cells #[.string (strOf p), .string (strOf q)] 9)).drew) (hNew w _)).mono ?_; rintro e w' ⟨rfl, n, rfl⟩)
  go_ret
  exact ⟨by rw [strOf_list, strOf_list]; rfl, below_drewN ((Below.refl _ _).alloc (Nat.le_refl _) _) _⟩

/-- Two children exchanged. -/
def swapL (l : List (UInt8 × Nat)) (i j : Nat) : List (UInt8 × Nat) := (l.set i (l.getD j (0, 0))).set j (l.getD i (0, 0))

set_option maxHeartbeats 1000000 in
theorem swap_calls {w : World} {lb ab cap : Nat} {l : List (UInt8 × Nat)} (h : SparseAt w lb ab cap l) {i j : Nat} (hi : i < l.length) (hj : j < l.length) (hij : i ≠ j) :
    Calls Tryz.prog 128 #[.slice (some ⟨ab, 0, none⟩) l.length cap, .int .i64 i, .int .i64 j] w fun e w' => e = .returned (.tuple #[]) ∧ SparseAt w' lb ab cap (swapL l i j) ∧ Kept (fun k => k = ab) w w' := by
  have ci := h.cell i hi
  have cj := h.cell j hj
  have hle := h.le
  have hsm := h.small
  obtain ⟨junk, ha, hjl⟩ := h.arr
  have fi := free_of_heap ha i
  have fj := free_of_heap ha j
  have hne : lb ≠ ab := by intro e; subst e; have := h.list; rw [ha] at this; simp at this
  have H := Lib.hid (And.intro h (And.intro ha hjl)); clear h ha hjl
  go_enter Tryz.func128, Tryz.ntmps128
  go_wp2
  go_region
  refine bodyPost_end (results_none rfl _ _ _) rfl ?_
  obtain ⟨h, ha, hjl⟩ := H.out
  refine ⟨rfl, ⟨?_, ⟨junk, ?_, by simp [swapL]; exact hjl⟩, hsm⟩, (((Kept.refl (fun k => k = ab) w).setCell (Or.inl rfl) _).setCell (Or.inl rfl) _).drew⟩
  · show ((w.setCell _ _).setCell _ _).heap[lb]? = _
    rw [heap_setCell_ne hne, heap_setCell_ne hne, h.list]; simp [swapL]
  · show ((w.setCell _ _).setCell _ _).heap[ab]? = _
    rw [heap_setCell_at (heap_setCell_at ha)]
    simp [swapL, List.set_append_left, hi, hj, List.map_set, List.getD, ptrV]

theorem meth_Len (a : Option Addr) (n c : Nat) (w : World) : (method 277 95 (.slice a n c) "Len").run Tryz.prog w = .ok (126, .slice a n c) w := by kernel_rfl
theorem meth_Less (a : Option Addr) (n c : Nat) (w : World) : (method 277 95 (.slice a n c) "Less").run Tryz.prog w = .ok (127, .slice a n c) w := by kernel_rfl
theorem meth_Swap (a : Option Addr) (n c : Nat) (w : World) : (method 277 95 (.slice a n c) "Swap").run Tryz.prog w = .ok (128, .slice a n c) w := by kernel_rfl
theorem nil_Len (a : Option Addr) (n c : Nat) (w : World) : (nilAhead 277 95 (.slice a n c) "Len").run Tryz.prog w = .ok (some false) w := by kernel_rfl
theorem nil_Less (a : Option Addr) (n c : Nat) (w : World) : (nilAhead 277 95 (.slice a n c) "Less").run Tryz.prog w = .ok (some false) w := by kernel_rfl
theorem nil_Swap (a : Option Addr) (n c : Nat) (w : World) : (nilAhead 277 95 (.slice a n c) "Swap").run Tryz.prog w = .ok (some false) w := by kernel_rfl

/-- the first byte of the child number i -/
def ky (l : List (UInt8 × Nat)) (i : Nat) : Nat := (l.getD i (0, 0)).1.toNat
theorem swapL_length (l : List (UInt8 × Nat)) (i j : Nat) : (swapL l i j).length = l.length := by simp [swapL]
theorem swapL_perm (l : List (UInt8 × Nat)) {i j : Nat} (hi : i < l.length) (hj : j < l.length) : (swapL l i j).Perm l := by
  have h : ((l.set i l[j]).set j l[i]).Perm l := List.set_set_perm hi hj
  simpa [swapL, List.getD, hi, hj] using h
theorem ky_swap (l : List (UInt8 × Nat)) {i j : Nat} (hi : i < l.length) (hj : j < l.length) (k : Nat) : ky (swapL l i j) k = if k = j then ky l i else if k = i then ky l j else ky l k := by
  unfold ky swapL
  simp only [List.getD, List.getElem?_set, List.length_set]
  by_cases h1 : k = j
  · subst h1; simp [hi, hj]
  · by_cases h2 : k = i
    · subst h2; simp [hi, hj, h1, Ne.symm h1]
    · simp [h1, h2, Ne.symm h1, Ne.symm h2]
theorem ky_ne {l : List (UInt8 × Nat)} (hn : (l.map (·.1)).Nodup) {i j : Nat} (hi : i < l.length) (hj : j < l.length) (hij : i ≠ j) : ky l i ≠ ky l j := by
  intro e
  have e2 : (l.map (·.1))[i]'(by simpa using hi) = (l.map (·.1))[j]'(by simpa using hj) := by
    simp only [List.getElem_map]
    apply UInt8.toNat_inj.1
    simpa [ky, List.getD, hi, hj] using e
  rw [List.nodup_iff_pairwise_ne, List.pairwise_iff_getElem] at hn
  rcases Nat.lt_trichotomy i j with h | h | h
  · exact hn i j (by simpa using hi) (by simpa using hj) h e2
  · exact hij h
  · exact hn j i (by simpa using hj) (by simpa using hi) h e2.symm

theorem bytesLess_first {p q : List UInt8} {a b : UInt8} (hp : p[0]? = some a) (hq : q[0]? = some b) (hab : a.toNat ≠ b.toNat) : Op.bytesLess p q = decide (a.toNat < b.toNat) := by
  cases p with
  | nil => cases hp
  | cons x p =>
    cases q with
    | nil => cases hq
    | cons y q =>
      simp at hp hq; subst hp; subst hq
      have : x ≠ y := fun e => hab (by rw [e])
      rw [bytesLess_eq, decide_eq_decide, List.cons_lt_cons_iff]
      simp [this, UInt8.lt_iff_toNat_lt]

/-- The first i are in order. -/
def InsO (l0 l : List (UInt8 × Nat)) (i : Nat) : Prop := l.Perm l0 ∧ ∀ p q, p < q → q < i → ky l p < ky l q
/-- The first i + 1 are in order but for the one at j, which is less than those behind it. -/
def InsI (l0 l : List (UInt8 × Nat)) (i j : Nat) : Prop := l.Perm l0 ∧ (∀ p q, p < q → q ≤ i → p ≠ j → q ≠ j → ky l p < ky l q) ∧ ∀ q, j < q → q ≤ i → ky l j < ky l q
theorem InsO.inner {l0 l : List (UInt8 × Nat)} {i : Nat} (h : InsO l0 l i) : InsI l0 l i i := ⟨h.1, fun p q h1 h2 h3 h4 => h.2 p q h1 (by omega), fun q h1 h2 => by omega⟩
theorem InsI.zero {l0 l : List (UInt8 × Nat)} {i : Nat} (h : InsI l0 l i 0) : InsO l0 l (i + 1) := ⟨h.1, fun p q h1 h2 => by
  by_cases e : p = 0
  · subst e; exact h.2.2 q h1 (by omega)
  · exact h.2.1 p q h1 (by omega) e (by omega)⟩
theorem InsI.stop {l0 l : List (UInt8 × Nat)} {i j : Nat} (h : InsI l0 l i j) (h0 : 0 < j) (hk : ky l (j - 1) < ky l j) : InsO l0 l (i + 1) := ⟨h.1, fun p q h1 h2 => by
  by_cases e : p = j
  · subst e; exact h.2.2 q h1 (by omega)
  · by_cases e2 : q = j
    · subst e2
      by_cases e3 : p = q - 1
      · subst e3; exact hk
      · exact Nat.lt_trans (h.2.1 p (q - 1) (by omega) (by omega) e (by omega)) hk
    · exact h.2.1 p q h1 (by omega) e e2⟩
theorem InsI.swap {l0 l : List (UInt8 × Nat)} {i j : Nat} (h : InsI l0 l i j) (h0 : 0 < j) (hij : j ≤ i) (hi : i < l.length) (hk : ky l j < ky l (j - 1)) : InsI l0 (swapL l j (j - 1)) i (j - 1) := by
  have hj : j < l.length := by omega
  have hj1 : j - 1 < l.length := by omega
  refine ⟨(swapL_perm l hj hj1).trans h.1, fun p q h1 h2 h3 h4 => ?_, fun q h1 h2 => ?_⟩
  · rw [ky_swap l hj hj1, ky_swap l hj hj1, if_neg h3, if_neg h4]
    by_cases e1 : p = j
    · rw [if_pos e1, if_neg (by omega)]; exact h.2.1 (j - 1) q (by omega) h2 (by omega) (by omega)
    · rw [if_neg e1]
      by_cases e2 : q = j
      · rw [if_pos e2]; exact h.2.1 p (j - 1) (by omega) (by omega) e1 (by omega)
      · rw [if_neg e2]; exact h.2.1 p q h1 h2 e1 e2
  · rw [ky_swap l hj hj1, ky_swap l hj hj1, if_pos rfl, if_neg (by omega)]
    by_cases e : q = j
    · rw [if_pos e]; exact hk
    · rw [if_neg e]; exact h.2.2 q (by omega) h2

/-- The nodes of the children lie outside the array at ab, and begin as they should. -/
def Heads (w : World) (ab : Nat) (l : List (UInt8 × Nat)) : Prop := ∀ p ∈ l, ∃ ps g o cp, ps[0]? = some p.1 ∧ w.cell? ⟨p.2, 0, none⟩ = some (.slice (some ⟨g, o, none⟩) ps.length cp) ∧ BytesAt w g o ps ∧ p.2 ≠ ab ∧ g ≠ ab
theorem Heads.kept {w w' : World} {ab : Nat} {l : List (UInt8 × Nat)} (h : Heads w ab l) (k : Kept (fun k => k = ab) w w') : Heads w' ab l := by
  intro p hp
  obtain ⟨ps, g, o, cp, h1, h2, h3, h4, h5⟩ := h p hp
  exact ⟨ps, g, o, cp, h1, k.cell h2 h4, fun i hi => k.cell (h3 i hi) h5, h4, h5⟩

theorem less_at {w : World} {lb ab cap : Nat} {l : List (UInt8 × Nat)} (h : SparseAt w lb ab cap l) (hh : Heads w ab l) (hn : (l.map (·.1)).Nodup) {i j : Nat} (hi : i < l.length) (hj : j < l.length) (hij : i ≠ j) :
    Calls Tryz.prog 127 #[.slice (some ⟨ab, 0, none⟩) l.length cap, .int .i64 i, .int .i64 j] w fun e w' => e = .returned (.bool (decide (ky l i < ky l j))) ∧ Below w.heap.size w w' := by
  obtain ⟨p, g, o, cp, h1, h2, h3, h4, h5⟩ := hh l[i] (List.getElem_mem hi)
  obtain ⟨q, g', o', cp', k1, k2, k3, k4, k5⟩ := hh l[j] (List.getElem_mem hj)
  have hk := ky_ne hn hi hj hij
  have e1 : ky l i = l[i].1.toNat := by simp [ky, List.getD, hi]
  have e2 : ky l j = l[j].1.toNat := by simp [ky, List.getD, hj]
  rw [e1, e2] at hk ⊢
  have := less_calls h hi hj ⟨g, o, cp, h2, h3⟩ ⟨g', o', cp', k2, k3⟩
  rwa [bytesLess_first h1 k1 hk] at this
theorem Below.kept_of {w w' : World} (h : Below w.heap.size w w') (S : Nat → Prop) : Kept S w w' := (Kept.of_below h).mono fun k hk hs => by omega
theorem SparseAt.below {w w' : World} {lb ab cap : Nat} {l : List (UInt8 × Nat)} (h : SparseAt w lb ab cap l) (k : Below w.heap.size w w') : SparseAt w' lb ab cap l := by
  have kk := Below.kept_of k (fun _ => False)
  obtain ⟨junk, ha, h2⟩ := h.arr
  exact ⟨kk.lt h.list (fun h => h), ⟨junk, kk.lt ha (fun h => h), h2⟩, h.small⟩

/-- The state of the sort: the list l in memory, w at the start. -/
structure SortAt (w wr : World) (lb ab cap : Nat) (l0 l : List (UInt8 × Nat)) : Prop where
  at_ : SparseAt wr lb ab cap l
  kept : Kept (fun k => k = ab) w wr
  heads : Heads wr ab l
  nodup : (l.map (·.1)).Nodup
  len : l.length = l0.length

theorem SortAt.below {w wr w' : World} {lb ab cap : Nat} {l0 l : List (UInt8 × Nat)} (h : SortAt w wr lb ab cap l0 l) (k : Below wr.heap.size wr w') : SortAt w w' lb ab cap l0 l :=
  ⟨h.at_.below k, h.kept.trans (Below.kept_of k _), h.heads.kept (Below.kept_of k _), h.nodup, h.len⟩
theorem SortAt.less {w wr : World} {lb ab cap : Nat} {l0 l : List (UInt8 × Nat)} (h : SortAt w wr lb ab cap l0 l) {i j : Nat} (hi : i < l0.length) (hj : j < l0.length) (hij : i ≠ j) :
    Calls Tryz.prog 127 #[.slice (some ⟨ab, 0, none⟩) l0.length cap, .int .i64 i, .int .i64 j] wr fun e w' => e = .returned (.bool (decide (ky l i < ky l j))) ∧ SortAt w w' lb ab cap l0 l := by
  have hl := h.len
  have := less_at h.at_ h.heads h.nodup (i := i) (j := j) (by omega) (by omega) hij
  rw [hl] at this
  exact this.mono fun e w' ⟨he, hb⟩ => ⟨he, h.below hb⟩
theorem SortAt.swap {w wr : World} {lb ab cap : Nat} {l0 l : List (UInt8 × Nat)} (h : SortAt w wr lb ab cap l0 l) {i j : Nat} (hi : i < l0.length) (hj : j < l0.length) (hij : i ≠ j) :
    Calls Tryz.prog 128 #[.slice (some ⟨ab, 0, none⟩) l0.length cap, .int .i64 i, .int .i64 j] wr fun e w' => e = .returned (.tuple #[]) ∧ SortAt w w' lb ab cap l0 (swapL l i j) := by
  have hl := h.len
  have := swap_calls h.at_ (i := i) (j := j) (by omega) (by omega) hij
  rw [hl] at this
  refine this.mono fun e w' ⟨he, hs, hk⟩ => ⟨he, hs, h.kept.trans hk, ?_, ?_, by rw [swapL_length, hl]⟩
  · have hp := swapL_perm l (i := i) (j := j) (by omega) (by omega)
    intro p hpm
    exact h.heads.kept hk p (hp.mem_iff.1 hpm)
  · exact ((swapL_perm l (i := i) (j := j) (by omega) (by omega)).map (·.1)).nodup_iff.2 h.nodup

theorem pred_int {j : Nat} (h : 0 < j) : ((j : Int) - 1) = ((j - 1 : Nat) : Int) := by omega
theorem succ_int (j : Nat) : ((j : Int) + 1) = ((j + 1 : Nat) : Int) := by omega

set_option maxRecDepth 100000 in
set_option maxHeartbeats 2000000 in
theorem insertion_calls {w : World} {lb ab cap : Nat} {l0 : List (UInt8 × Nat)} (h : SortAt w w lb ab cap l0 l0) (hlen : l0.length ≤ 12) :
    Calls Tryz.prog 112 #[.iface 95 (.slice (some ⟨ab, 0, none⟩) l0.length cap), .int .i64 0, .int .i64 l0.length] w fun e w' => e = .returned (.tuple #[]) ∧ ∃ l, SortAt w w' lb ab cap l0 l ∧ InsO l0 l l0.length := by
  have m1 := meth_Less
  have m2 := meth_Swap
  have n1 := nil_Less
  have n2 := nil_Swap
  have H := Lib.hid h; clear h
  go_enter Tryz.func112, Tryz.ntmps112
  go_wp2
  go_loopw [6, 7] (fun i _ wr => ∃ (k : Nat) (l : List (UInt8 × Nat)), i = .int .i64 k ∧ k ≤ 13 ∧ 1 ≤ k ∧ Hid (SortAt w wr lb ab cap l0 l ∧ InsO l0 l k)) (fun i _ _ => 13 - (intOf i).toNat)
  case atStart => exact ⟨1, l0, rfl, by omega, by omega, Lib.hid ⟨H.out, List.Perm.refl _, fun p q h1 h2 => by omega⟩⟩
  case round =>
    obtain ⟨k, l, rfl, h1, h2, HL⟩ := hrel
    by_cases hlt : k < l0.length
    · go_wp2
      obtain ⟨wo, rfl⟩ : ∃ wo : World, wo = wr := ⟨_, rfl⟩
      have HLI : Hid (SortAt w wo lb ab cap l0 l ∧ InsI l0 l k k) := Lib.hid ⟨HL.out.1, HL.out.2.inner⟩
      clear HL
      go_loopw [7] (fun jv wr => ∃ (j : Nat) (l : List (UInt8 × Nat)), jv = .int .i64 j ∧ j ≤ k ∧ Hid (SortAt w wr lb ab cap l0 l ∧ InsI l0 l k j)) (fun jv _ => (intOf jv).toNat)
      case atStart => exact ⟨k, l, rfl, Nat.le_refl _, HLI⟩
      case round =>
        obtain ⟨j, l', rfl, hj, HI⟩ := hrel
        clear HLI
        by_cases h0 : 0 < j
        · have hp := pred_int h0
          have HL := Lib.hid (HI.out.1.less (i := j) (j := j - 1) (by omega) (by omega) (by omega))
          have hl := HI.out.1.len
          by_cases hk : ky l' j < ky l' (j - 1)
          · rw [decide_eq_true hk] at HL
            have hk := Lib.hid hk
            go_wp2_with (first | (go_at_call 127; refine HL.out.mono ?_; rintro e w1 ⟨rfl, hs⟩; have HS := Lib.hid (hs.swap (i := j) (j := j - 1) (by omega) (by omega) (by omega)); clear hs) | (go_at_call 128; refine HS.out.mono ?_; rintro e w2 ⟨rfl, hs⟩))
            go_roundw
            case rel => exact ⟨j - 1, _, by go_num, by omega, Lib.hid ⟨hs, HI.out.2.swap h0 hj (by omega) hk.out⟩⟩
            case measure => simp [intOf]; omega
          · rw [decide_eq_false hk] at HL
            have hk := Lib.hid hk
            go_wp2_with (go_at_call 127; refine HL.out.mono ?_; rintro e w1 ⟨rfl, hs⟩)
            have HE : Hid (SortAt w w1 lb ab cap l0 l' ∧ InsO l0 l' (k + 1)) := Lib.hid ⟨hs, HI.out.2.stop h0 (by have := ky_ne hs.nodup (i := j) (j := j - 1) (by omega) (by omega) (by omega); have := hk.out; omega)⟩
            go_roundw
            case rel => exact ⟨k + 1, l', by go_num, by omega, by omega, HE⟩
            case measure => simp [intOf]; omega
        · obtain rfl : j = 0 := by omega
          have HE : Hid (SortAt w wr lb ab cap l0 l' ∧ InsO l0 l' (k + 1)) := Lib.hid ⟨HI.out.1, HI.out.2.zero⟩
          go_wp2_with fail
          go_roundw
          case rel => exact ⟨k + 1, l', by go_num, by omega, by omega, HE⟩
          case measure => simp [intOf]; omega
    · go_wp2
      refine bodyPost_end (results_none rfl _ _ _) rfl ?_
      exact ⟨rfl, l, HL.out.1, HL.out.2.1, fun p q h1 h2 => HL.out.2.2 p q h1 (by omega)⟩
set_option maxHeartbeats 1000000 in
theorem pdq_calls {w : World} {lb ab cap : Nat} {l0 : List (UInt8 × Nat)} (h : SortAt w w lb ab cap l0 l0) (hlen : l0.length ≤ 12) (lim : Int) :
    Calls Tryz.prog 111 #[.iface 95 (.slice (some ⟨ab, 0, none⟩) l0.length cap), .int .i64 0, .int .i64 l0.length, .int .i64 lim] w fun e w' => e = .returned (.tuple #[]) ∧ ∃ l, SortAt w w' lb ab cap l0 l ∧ InsO l0 l l0.length := by
  have H := Lib.hid (insertion_calls h hlen); clear h
  go_enter Tryz.func111, Tryz.ntmps111
  go_wp2_with fail
  go_loopw [1, 2] (fun a b wr => a = .int .i64 0 ∧ b = .int .i64 l0.length ∧ w = wr) (fun _ _ _ => 0)
  case atStart => exact ⟨rfl, rfl, rfl⟩
  case round =>
    obtain ⟨rfl, rfl, rfl⟩ := hrel
    go_wp2_with (go_at_call 112; refine H.out.mono ?_; rintro e w1 ⟨rfl, hs⟩)
    refine bodyPost_ret (results_none rfl _ _ _) rfl ?_
    exact ⟨rfl, hs⟩


theorem lenT_calls (w : World) (a : Option Addr) (n c : Nat) : Calls Tryz.prog 126 #[.slice a n c] w fun e w' => e = .returned (.int .i64 n) ∧ w = w' := by
  go_enter Tryz.func126, Tryz.ntmps126
  go_wp2
  go_ret
  exact ⟨rfl, rfl⟩

set_option maxHeartbeats 1000000 in
theorem sort_calls {w : World} {lb ab cap : Nat} {l0 : List (UInt8 × Nat)} (h : SortAt w w lb ab cap l0 l0) (hlen : l0.length ≤ 12) :
    Calls Tryz.prog 110 #[.iface 95 (.slice (some ⟨ab, 0, none⟩) l0.length cap)] w fun e w' => e = .returned (.tuple #[]) ∧ ∃ l, SortAt w w' lb ab cap l0 l ∧ InsO l0 l l0.length := by
  have H := Lib.hid h
  have HP := Lib.hid (fun lim => pdq_calls h hlen lim); clear h
  have m1 := meth_Len
  have n1 := nil_Len
  have wr : IntKind.u64.wrap (l0.length : Int) = l0.length := by simp [IntKind.wrap, IntKind.bits, IntKind.signed]; omega
  have HB := Lib.hid (fun w => Tryz.bits_Len (l0.length : Int) w (by omega) (by omega))
  by_cases h1 : l0.length ≤ 1
  · go_enter Tryz.func110, Tryz.ntmps110
    go_wp2
    refine bodyPost_ret (results_none rfl _ _ _) rfl ?_
    exact ⟨rfl, l0, H.out, List.Perm.refl _, fun p q h1 h2 => by omega⟩
  · go_enter Tryz.func110, Tryz.ntmps110
    go_wp2_with (first | (go_at_call 126; refine (lenT_calls _ _ _ _).mono ?_; rintro e w' ⟨rfl, rfl⟩) | (go_at_call 53; refine (HB.out _).mono ?_; rintro e w' ⟨rfl, rfl⟩) | (go_at_call 111; refine (HP.out _).mono ?_; rintro e w1 ⟨rfl, hs⟩))
    refine bodyPost_end (results_none rfl _ _ _) rfl ?_
    exact ⟨rfl, hs⟩
end Go.Proofs.YtpopiaahdanpeaaGreatDoor
