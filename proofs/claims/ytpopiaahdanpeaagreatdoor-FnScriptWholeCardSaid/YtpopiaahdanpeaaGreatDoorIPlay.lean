/- impl.empty; the first two steps of a script. impl.tell: each kind of step. impl.Play. -/
import Derived.Test.YtpopiaahdanpeaaGreatDoorItem
import Derived.Lib.AppendIntMem
namespace Go.Proofs.YtpopiaahdanpeaaGreatDoor
open Go Go.RowKit
set_option linter.unusedVariables false

/-- What a trie without nodes is. -/
def EmptyAt (B : Nat) (w : World) (t : Nat) (mp n : Nat) : Prop := ∃ w0, Fresh w0 mp n n t w ∧ B ≤ t

set_option maxRecDepth 100000 in
set_option maxHeartbeats 1000000 in
theorem empty_calls (w : World) (a b : Nat) (ha : 1 ≤ a) (ha2 : a ≤ 12) (hb : 1 ≤ b) (hb2 : b ≤ 9) :
    Calls Tryz.prog 12 #[.int .i64 a, .int .i64 b] w fun e w' => ∃ t, e = .returned (ptrV t) ∧ EmptyAt w.heap.size w' t a b ∧ Below w.heap.size w w' := by
  have HN : Hid (Calls Tryz.prog 20 #[.slice (some ⟨w.heap.size + 1 + 1, 0, none⟩) 2 2] (((w.alloc (.cells #[.int .i64 a] 3)).alloc (.cells #[.int .i64 b] 3)).alloc
      (.cells #[.func (.func 38) #[] #[ptrV w.heap.size], .func (.func 39) #[] #[ptrV (w.heap.size + 1)]] 54)) fun e w' => ∃ t, e = .returned (ptrV t) ∧ EmptyAt w.heap.size w' t a b ∧ Below w.heap.size w w') := Lib.hid (by
    have hs1 : (w.alloc (.cells #[.int .i64 a] 3)).heap.size = w.heap.size + 1 := by simp
    have hs2 : ((w.alloc (.cells #[.int .i64 a] 3)).alloc (.cells #[.int .i64 b] 3)).heap.size = w.heap.size + 1 + 1 := by simp
    have h1 := hNew ((w.alloc (.cells #[.int .i64 a] 3)).alloc (.cells #[.int .i64 b] 3)) (.cells #[.func (.func 38) #[] #[ptrV w.heap.size], .func (.func 39) #[] #[ptrV (w.heap.size + 1)]] 54)
    rw [hs2] at h1
    have h2 := hNew (w.alloc (.cells #[.int .i64 a] 3)) (.cells #[.int .i64 b] 3)
    rw [hs1] at h2
    have h3 := hNew w (.cells #[.int .i64 a] 3)
    refine (newTrie_two _ (w.heap.size + 1 + 1) 2 w.heap.size (w.heap.size + 1) a b (cell_of_heap h1 0) (cell_of_heap h1 1) (cell_of_heap (hAl (hAl h3)) 0) (cell_of_heap (hAl h2) 0) (by omega) (by omega) (by omega) (by omega)).mono ?_
    rintro e w' ⟨rfl, hF⟩
    refine ⟨_, rfl, ⟨_, hF, by simp; omega⟩, ?_⟩
    exact ((((Below.refl _ _).alloc (Nat.le_refl _) _).alloc (by simp) _).alloc (by simp; omega) _).trans (hF.below.mono (by simp; omega)))
  go_enter Tryz.func12, Tryz.ntmps12
  go_wp2_with (first | (go_at_call 20; refine HN.out.mono ?_; rintro e w' ⟨t, rfl, hE, hB⟩) | go_in)
  go_ret
  exact ⟨t, rfl, hE, hB⟩

section
variable {w w' : World} {t B : Nat}

/-- The first two words' table. -/
def tab1 : Tab := Tab.put (fun _ => none) [65] (some 1)
def tab2 : Tab := tab1.put [90] (some 2)

/-- The trie behind the first step. -/
structure FirstAt (B : Nat) (w : World) (t : Nat) (D : Node → Prop) : Prop where
  trie : TrieAt w t D
  low : Low t D
  top : Top t D [90]
  has : ∀ k v, Has D k v ↔ k = [65] ∧ v = 1
  high : ∀ k, TB D k → B ≤ k

set_option maxHeartbeats 1000000 in
theorem set_first {mp n kg kc : Nat} (h : EmptyAt B w t mp n) (hmp : 1 ≤ mp) (hk : KeyAt w' w kg kc [65]) (hkg : B ≤ kg) :
    Calls Tryz.prog 24 #[ptrV t, .slice (some ⟨kg, 0, none⟩) 1 kc, .iface 3 (.int .i64 1)] w fun e w2 => e = .returned (.tuple #[]) ∧ ∃ D, FirstAt B w2 t D ∧ Below B w w2 := by
  obtain ⟨w0, hF, hBt⟩ := h
  have hpre : ∀ (k : Word), k <+: ([65] : Word) → k = [] ∨ k = [65] := fun k hk => Good.one hk
  have H : Hid (Calls Tryz.prog 40 #[ptrV t, .slice (some ⟨kg, 0, none⟩) 1 kc, .iface 3 (.int .i64 1), .bool true] w fun e w2 => (∃ b, e = .returned (.bool b)) ∧ ∃ D, FirstAt B w2 t D ∧ Below B w w2) := Lib.hid (by
    have hp := put_first hF [65] kg 0 kc 1 (by simp; omega) (by simp) (by simp) hk.bytes (by rw [Nat.zero_add]; exact hk.arr) hk.room hk.lt
    refine hp.mono ?_
    rintro e w2 ⟨rfl, ht, hkp⟩
    have hlt := lt_of_block hF.node
    refine ⟨⟨_, rfl⟩, _, ⟨ht, ⟨fun X hX => ?_, fun X hX hb => ?_⟩, fun R hR hb => ?_, fun k v => ?_, fun k hk2 => ?_⟩, (hkp.mono fun k _ e => ?_).below ?_⟩
    · rw [hX]; exact .inr (.inl rfl)
    · rw [hX] at hb; exact (hb rfl).elim
    · rw [hR]; exact .inr ⟨rfl, rfl, rfl⟩
    · constructor
      · rintro ⟨X, rfl, e1, e2⟩
        simp only [only, Option.some.injEq] at e1 e2
        exact ⟨e1.symm, e2.symm⟩
      · rintro ⟨rfl, rfl⟩; exact ⟨_, rfl, rfl, rfl⟩
    · obtain ⟨X, rfl, hk2⟩ := hk2
      rcases hk2 with e | e | e | e <;> simp only [only] at e <;> omega
    · show B ≤ k; omega
    · omega)
  clear hF hk
  go_enter Tryz.func24, Tryz.ntmps24
  go_wp2_with (go_at_call 40; refine H.out.mono ?_; rintro e w2 ⟨⟨b, rfl⟩, hD⟩)
  refine bodyPost_end (results_none rfl _ _ _) rfl ?_
  exact ⟨rfl, hD⟩

theorem Good5.of_put {D D' : Node → Prop} {key : Word} {x : Int} {kg : Nat} (h : PutOut w w' t D D' key x kg) (ha : ∃ v, Has D [65] v) (hz : key = [90] ∨ ∃ v, Has D [90] v) : Good5 w' t D' := by
  refine ⟨h.trie, h.low, h.top, ?_, ?_⟩
  · obtain ⟨v, hv⟩ := ha
    by_cases e : ([65] : Word) = key
    · exact ⟨x, (h.has _ _).2 (.inl ⟨e, rfl⟩)⟩
    · exact ⟨v, (h.has _ _).2 (.inr ⟨e, hv⟩)⟩
  · by_cases e : ([90] : Word) = key
    · exact ⟨x, (h.has _ _).2 (.inl ⟨e, rfl⟩)⟩
    · rcases hz with hz | ⟨v, hv⟩
      · exact (e hz.symm).elim
      · exact ⟨v, (h.has _ _).2 (.inr ⟨e, hv⟩)⟩
theorem put_has {D D' : Node → Prop} {M : Tab} {key : Word} {x : Int} {kg : Nat} (h : PutOut w w' t D D' key x kg) (hM : ∀ k v, Has D k v ↔ M k = some v) : ∀ k v, Has D' k v ↔ (M.put key (some x)) k = some v := by
  intro k v
  rw [h.has]
  unfold Tab.put
  by_cases e : k = key
  · subst e; simp [eq_comm]
  · rw [if_neg e, ← hM]; simp [e]
theorem put_went {D D' : Node → Prop} {key : Word} {x : Int} {kg : Nat} (h : PutOut w w' t D D' key x kg) {w0 : World} (hb : Below w0.heap.size w0 w) (hkg : w0.heap.size ≤ kg) : Went w0 w' D D' := by
  refine ⟨(Below.kept_of hb _).trans h.kept, fun k hk => ?_⟩
  have := hb.size
  obtain ⟨Y, hY, hk⟩ := hk
  rcases h.blocks Y hY k hk with h1 | h1 | h1
  · exact .inl h1
  · exact .inr (by omega)
  · exact .inr (by omega)
end
end Go.Proofs.YtpopiaahdanpeaaGreatDoor

namespace Go.Proofs.YtpopiaahdanpeaaGreatDoor
open Go Go.RowKit
set_option linter.unusedVariables false

/-- A step as a value. -/
def stepV (x : Step) : Value := .agg #[.int .i64 x.kind, .string (strOf x.word), .int .i64 x.n]
/-- The table of powers stays. -/
def TabB (B : Nat) (w : World) : Prop := ∀ u, Below B w u → Lib.TabIs Tryz.prog u "internal/strconv.uint64pow10" .u64 Lib.pow10Tab

section
variable {w w' : World} {t B i : Nat} {D : Node → Prop} {M : Tab}

/-- The world behind tell's first lines. -/
def boxed (w : World) (kind : Int) (k : Word) (n : Int) : World := Lib.bytesWorld (w.alloc (.cells #[.int .i64 kind, .string (strOf k), .int .i64 n] 33)) 5 (strOf k)
def boxCap (w : World) (kind : Int) (k : Word) (n : Int) : Nat := grownCap (w.alloc (.cells #[.int .i64 kind, .string (strOf k), .int .i64 n] 33)) k.length 0 5

structure Boxed (w w1 : World) (kc : Nat) (kind : Int) (k : Word) (n : Int) : Prop where
  key : KeyAt w w1 (w.heap.size + 1) kc k
  cells : w1.heap[w.heap.size]? = some (.cells #[.int .i64 kind, .string (strOf k), .int .i64 n] 33 (0, 0))
  below : Below w.heap.size w w1
theorem boxed_at (w : World) (kind : Int) (k : Word) (n : Int) : Boxed w (boxed w kind k n) (boxCap w kind k n) kind k n := by
  have hk := key_made (w.alloc (.cells #[.int .i64 kind, .string (strOf k), .int .i64 n] 33)) k
  have hsz : (w.alloc (.cells #[.int .i64 kind, .string (strOf k), .int .i64 n] 33)).heap.size = w.heap.size + 1 := by simp
  have hb : Below w.heap.size w (boxed w kind k n) := ((Below.refl _ _).alloc (Nat.le_refl _) _).trans (hk.below.mono (by simp))
  have hc : (boxed w kind k n).heap[w.heap.size]? = some (.cells #[.int .i64 kind, .string (strOf k), .int .i64 n] 33 (0, 0)) := by
    rw [show (boxed w kind k n).heap[w.heap.size]? = _ from hk.below.block _ (by simp)]; exact hNew w _
  rw [hsz] at hk
  exact ⟨⟨hk.bytes, hk.arr, hk.room, hb, by omega, hk.lt⟩, hc, hb⟩

theorem ImplAt.not (h : ImplAt B w t D M) {k : Nat} (hk : w.heap.size ≤ k) : ¬ TB D k := fun ht => by have := h.good.trie.lt ht; omega

/-- What tell gives. -/
def TellPost (B : Nat) (w : World) (t : Nat) (D : Node → Prop) (s : Word) (M' : Tab) (e : Ending) (w' : World) : Prop :=
  e = .returned (.string (strOf s)) ∧ ∃ D', ImplAt B w' t D' M' ∧ Went w w' D D'

theorem fmt_true : (⟨(Lib.formatBool true).toArray⟩ : ByteArray) = strOf (Lib.formatBool true) := rfl

set_option maxRecDepth 100000 in
set_option maxHeartbeats 1000000 in
theorem tell_insNew (h : ImplAt B w t D M) (hB : B ≤ w.heap.size) {k : Word} {n : Int} (hg : Good k) (hne : k ≠ []) (hm : M k = none) :
    Calls Tryz.prog 13 #[ptrV t, stepV ⟨0, k, n⟩] w (TellPost B w t D (Lib.formatBool true) (M.put k (some n))) := by
  have hcv := fun W => Lib.run_convert_string_bytes (P := Tryz.prog) W 9 56 5 (strOf k) Tryz.underlying9 Tryz.underlying56 Tryz.underlying5
  have e1 := strOf_size k
  have hx := boxed_at w 0 k n
  have hpos : 0 < k.length := List.length_pos_iff.2 hne
  have h1 := h.below hx.below
  have HP : Hid (Calls Tryz.prog 23 #[ptrV t, .slice (some ⟨w.heap.size + 1, 0, none⟩) k.length (boxCap w 0 k n), .iface 3 (.int .i64 n)] (boxed w 0 k n) fun e w' => e = .returned (.bool true) ∧ ∃ D', ImplAt B w' t D' (M.put k (some n)) ∧ Went w w' D D') := Lib.hid (by
    refine (insert_calls h1.good.trie h1.good.low k (fun R hR hb => .inl (h1.good.top R hR hb)) h1.good.a hg (w.heap.size + 1) 0 _ n hpos hx.key.bytes (by rw [Nat.zero_add]; exact hx.key.arr) hx.key.room (h.not (by omega))).mono ?_
    rintro e w' (⟨D', rfl, hp, _⟩ | ⟨_, _, ⟨v, hv⟩, _⟩)
    · have hw := put_went hp hx.below (by omega)
      exact ⟨rfl, D', ⟨Good5.of_put hp h1.good.a (.inr h1.good.z), put_has hp h1.has, hw.high hB h.high⟩, hw⟩
    · rw [h1.has, hm] at hv; cases hv)
  have b0 := cell_of_heap hx.cells 0
  have b1 := cell_of_heap hx.cells 1
  have b2 := cell_of_heap hx.cells 2
  simp at b0 b1 b2
  unfold stepV
  have hfb := Tryz.strconv_FormatBool true
  unfold boxed at b0 b1 b2 HP
  unfold boxCap at HP
  clear h h1 hx
  go_enter Tryz.func13, Tryz.ntmps13
  go_wp2_with (first | (go_at_call 23; go_loud (refine HP.out.mono ?_; rintro e w' ⟨rfl, hD⟩)) | (go_at_call 15; refine (hfb _).mono ?_; rintro e w2 ⟨rfl, rfl⟩))
  go_ret
  exact ⟨rfl, hD⟩

set_option maxRecDepth 100000 in
set_option maxHeartbeats 1000000 in
theorem tell_insOld (h : ImplAt B w t D M) (hB : B ≤ w.heap.size) {k : Word} {n v : Int} (hg : Good k) (hne : k ≠ []) (hm : M k = some v) :
    Calls Tryz.prog 13 #[ptrV t, stepV ⟨0, k, n⟩] w (TellPost B w t D (Lib.formatBool false) M) := by
  have hcv := fun W => Lib.run_convert_string_bytes (P := Tryz.prog) W 9 56 5 (strOf k) Tryz.underlying9 Tryz.underlying56 Tryz.underlying5
  have e1 := strOf_size k
  have hx := boxed_at w 0 k n
  have hpos : 0 < k.length := List.length_pos_iff.2 hne
  have h1 := h.below hx.below
  have HP : Hid (Calls Tryz.prog 23 #[ptrV t, .slice (some ⟨w.heap.size + 1, 0, none⟩) k.length (boxCap w 0 k n), .iface 3 (.int .i64 n)] (boxed w 0 k n) fun e w' => e = .returned (.bool false) ∧ ∃ D', ImplAt B w' t D' M ∧ Went w w' D D') := Lib.hid (by
    refine (insert_calls h1.good.trie h1.good.low k (fun R hR hb => .inl (h1.good.top R hR hb)) h1.good.a hg (w.heap.size + 1) 0 _ n hpos hx.key.bytes (by rw [Nat.zero_add]; exact hx.key.arr) hx.key.room (h.not (by omega))).mono ?_
    rintro e w' (⟨D', rfl, hp, hno | hno⟩ | ⟨rfl, _, _, hd⟩)
    · cases hno
    · exact (hno v ((h1.has k v).2 hm)).elim
    · exact ⟨rfl, D, h1.same (hd.trie h1.good.trie), Went.none ((Below.kept_of hx.below _).trans (hd.kept _))⟩)
  have b0 := cell_of_heap hx.cells 0
  have b1 := cell_of_heap hx.cells 1
  have b2 := cell_of_heap hx.cells 2
  simp at b0 b1 b2
  unfold stepV
  have hfb := Tryz.strconv_FormatBool false
  unfold boxed at b0 b1 b2 HP
  unfold boxCap at HP
  clear h h1 hx
  go_enter Tryz.func13, Tryz.ntmps13
  go_wp2_with (first | (go_at_call 23; refine HP.out.mono ?_; rintro e w' ⟨rfl, hD⟩) | (go_at_call 15; refine (hfb _).mono ?_; rintro e w2 ⟨rfl, rfl⟩))
  go_ret
  exact ⟨rfl, hD⟩

set_option maxRecDepth 100000 in
set_option maxHeartbeats 1000000 in
theorem tell_set (h : ImplAt B w t D M) (hB : B ≤ w.heap.size) {k : Word} {n : Int} (hg : Good k) (hne : k ≠ []) :
    Calls Tryz.prog 13 #[ptrV t, stepV ⟨1, k, n⟩] w (TellPost B w t D [115, 101, 116] (M.put k (some n))) := by
  have hcv := fun W => Lib.run_convert_string_bytes (P := Tryz.prog) W 9 56 5 (strOf k) Tryz.underlying9 Tryz.underlying56 Tryz.underlying5
  have e1 := strOf_size k
  have hx := boxed_at w 1 k n
  have hpos : 0 < k.length := List.length_pos_iff.2 hne
  have h1 := h.below hx.below
  have HP : Hid (Calls Tryz.prog 24 #[ptrV t, .slice (some ⟨w.heap.size + 1, 0, none⟩) k.length (boxCap w 1 k n), .iface 3 (.int .i64 n)] (boxed w 1 k n) fun e w' => e = .returned (.tuple #[]) ∧ ∃ D', ImplAt B w' t D' (M.put k (some n)) ∧ Went w w' D D') := Lib.hid (by
    refine (set_calls h1.good.trie h1.good.low k (fun R hR hb => .inl (h1.good.top R hR hb)) h1.good.a hg (w.heap.size + 1) 0 _ n hpos hx.key.bytes (by rw [Nat.zero_add]; exact hx.key.arr) hx.key.room (h.not (by omega))).mono ?_
    rintro e w' ⟨rfl, D', hp⟩
    have hw := put_went hp hx.below (by omega)
    exact ⟨rfl, D', ⟨Good5.of_put hp h1.good.a (.inr h1.good.z), put_has hp h1.has, hw.high hB h.high⟩, hw⟩)
  have b0 := cell_of_heap hx.cells 0
  have b1 := cell_of_heap hx.cells 1
  have b2 := cell_of_heap hx.cells 2
  simp at b0 b1 b2
  unfold stepV
  have hfb := Tryz.strconv_FormatBool true
  unfold boxed at b0 b1 b2 HP
  unfold boxCap at HP
  clear h h1 hx
  go_enter Tryz.func13, Tryz.ntmps13
  go_wp2_with (go_at_call 24; refine HP.out.mono ?_; rintro e w' ⟨rfl, hD⟩)
  go_ret
  exact ⟨rfl, hD⟩

set_option maxRecDepth 100000 in
set_option maxHeartbeats 1000000 in
theorem tell_del (h : ImplAt B w t D M) (hB : B ≤ w.heap.size) {k : Word} {n v : Int} (hg : Good k) (hne : k ≠ []) (hm : M k = some v) (hA : k ≠ [65]) (hZ : k ≠ [90]) :
    Calls Tryz.prog 13 #[ptrV t, stepV ⟨2, k, n⟩] w (TellPost B w t D (Lib.formatBool true) (M.put k none)) := by
  have hcv := fun W => Lib.run_convert_string_bytes (P := Tryz.prog) W 9 56 5 (strOf k) Tryz.underlying9 Tryz.underlying56 Tryz.underlying5
  have e1 := strOf_size k
  have hx := boxed_at w 2 k n
  have hpos : 0 < k.length := List.length_pos_iff.2 hne
  have h1 := h.below hx.below
  have HP : Hid (Calls Tryz.prog 25 #[ptrV t, .slice (some ⟨w.heap.size + 1, 0, none⟩) k.length (boxCap w 2 k n)] (boxed w 2 k n) fun e w' => e = .returned (.bool true) ∧ ∃ D', ImplAt B w' t D' (M.put k none) ∧ Went w w' D D') := Lib.hid (by
    refine (delete_calls h1.good k (w.heap.size + 1) 0 _ hx.key.bytes hx.key.room hg hne hA hZ ⟨v, (h1.has k v).2 hm⟩).mono ?_
    rintro e w' ⟨rfl, D', hp⟩
    have hw : Went w w' D D' := ⟨(Below.kept_of hx.below _).trans hp.kept, fun k hk => by
      obtain ⟨Y, hY, hk⟩ := hk
      have := hx.below.size
      rcases hp.blocks Y hY k hk with h | h
      · exact .inl h
      · exact .inr (by omega)⟩
    refine ⟨rfl, D', ⟨hp.good5 ?_ ?_, fun y u => ?_, hw.high hB h.high⟩, hw⟩
    · obtain ⟨u, hu⟩ := h1.good.a; exact ⟨u, Ne.symm hA, hu⟩
    · obtain ⟨u, hu⟩ := h1.good.z; exact ⟨u, Ne.symm hZ, hu⟩
    · rw [hp.has, h1.has]
      unfold Tab.put
      by_cases e : y = k
      · simp [e]
      · simp [e])
  have b0 := cell_of_heap hx.cells 0
  have b1 := cell_of_heap hx.cells 1
  have b2 := cell_of_heap hx.cells 2
  simp at b0 b1 b2
  unfold stepV
  have hfb := Tryz.strconv_FormatBool true
  unfold boxed at b0 b1 b2 HP
  unfold boxCap at HP
  clear h h1 hx
  go_enter Tryz.func13, Tryz.ntmps13
  go_wp2_with (first | (go_at_call 25; refine HP.out.mono ?_; rintro e w' ⟨rfl, hD⟩) | (go_at_call 15; refine (hfb _).mono ?_; rintro e w2 ⟨rfl, rfl⟩))
  go_ret
  exact ⟨rfl, hD⟩

set_option maxRecDepth 100000 in
set_option maxHeartbeats 1000000 in
theorem tell_cut (h : ImplAt B w t D M) (hB : B ≤ w.heap.size) {c : UInt8} {n : Int} (hc : 97 ≤ c.toNat) (hm : ∃ k, M k ≠ none ∧ [c] <+: k) :
    Calls Tryz.prog 13 #[ptrV t, stepV ⟨3, [c], n⟩] w (TellPost B w t D (Lib.formatBool true) (M.cut [c])) := by
  have hcv := fun W => Lib.run_convert_string_bytes (P := Tryz.prog) W 9 56 5 (strOf [c]) Tryz.underlying9 Tryz.underlying56 Tryz.underlying5
  have e1 := strOf_size [c]
  have hx := boxed_at w 3 [c] n
  have hpos : 0 < ([c] : Word).length := by simp
  have h1 := h.below hx.below
  have HP : Hid (Calls Tryz.prog 26 #[ptrV t, .slice (some ⟨w.heap.size + 1, 0, none⟩) 1 (boxCap w 3 [c] n)] (boxed w 3 [c] n) fun e w' => e = .returned (.bool true) ∧ ∃ D', ImplAt B w' t D' (M.cut [c]) ∧ Went w w' D D') := Lib.hid (by
    refine (deleteSubtree_calls h1.good.trie h1.good.low h1.good.top [c] (w.heap.size + 1) 0 _ hx.key.bytes (by simp) (by simp) hx.key.room (fun y hy => by simp at hy; subst hy; omega)).mono ?_
    rintro e w' (⟨D', rfl, hp, _⟩ | ⟨_, hno, _⟩)
    · have hw : Went w w' D D' := ⟨(Below.kept_of hx.below _).trans hp.kept, fun k hk => by
        obtain ⟨Y, hY, hk⟩ := hk
        have := hx.below.size
        rcases hp.blocks Y hY k hk with h | h
        · exact .inl h
        · exact .inr (by omega)⟩
      have hnot : ∀ b : UInt8, b.toNat < 97 → ¬ [c] <+: [b] := fun b hb ⟨s, hs⟩ => by simp at hs; rw [hs.1] at hc; omega
      refine ⟨rfl, D', ⟨⟨hp.trie, hp.low, hp.top, ?_, ?_⟩, fun y u => ?_, hw.high hB h.high⟩, hw⟩
      · obtain ⟨u, hu⟩ := h1.good.a; exact ⟨u, (hp.has _ _).2 ⟨hu, hnot 65 (by decide)⟩⟩
      · obtain ⟨u, hu⟩ := h1.good.z; exact ⟨u, (hp.has _ _).2 ⟨hu, hnot 90 (by decide)⟩⟩
      · rw [hp.has, h1.has]
        unfold Tab.cut
        by_cases e : [c] <+: y
        · simp [e]
        · simp [e]
    · obtain ⟨k, hk, hpk⟩ := hm
      cases e : M k with
      | none => exact (hk e).elim
      | some u =>
        obtain ⟨Y, hY, e2, _⟩ := (h1.has k u).2 e
        exact (hno ⟨Y, hY, by rw [e2]; exact hpk⟩).elim)
  have b0 := cell_of_heap hx.cells 0
  have b1 := cell_of_heap hx.cells 1
  have b2 := cell_of_heap hx.cells 2
  simp at b0 b1 b2
  unfold stepV
  have hfb := Tryz.strconv_FormatBool true
  unfold boxed at b0 b1 b2 HP
  unfold boxCap at HP
  clear h h1 hx
  go_enter Tryz.func13, Tryz.ntmps13
  go_wp2_with (first | (go_at_call 26; refine HP.out.mono ?_; rintro e w' ⟨rfl, hD⟩) | (go_at_call 15; refine (hfb _).mono ?_; rintro e w2 ⟨rfl, rfl⟩))
  go_ret
  exact ⟨rfl, hD⟩

theorem dec_short : ∀ m, m ≤ 255 → (Lib.decDigits m).length ≤ 3 := by decide +kernel
theorem itoa_short {v : Int} (h0 : 0 ≤ v) (h1 : v ≤ 255) : (Lib.itoa v).length ≤ 3 := by
  unfold Lib.itoa
  rw [if_neg (by omega)]
  exact dec_short _ (by omega)
theorem get_text (a b : Word) : Ending.returned (.string (strOf a ++ ByteArray.mk #[32] ++ strOf b)) = Ending.returned (.string (strOf (a ++ [32] ++ b))) := by
  rw [show ByteArray.mk #[32] = strOf [32] from rfl, strOf_app, strOf_app]

set_option maxRecDepth 100000 in
set_option maxHeartbeats 1000000 in
theorem tell_getYes (h : ImplAt B w t D M) (hB : B ≤ w.heap.size) (htab : TabB B w) (hf : Fair M i) {k : Word} {n v : Int} (hg : Good k) (hne : k ≠ []) (hm : M k = some v) :
    Calls Tryz.prog 13 #[ptrV t, stepV ⟨4, k, n⟩] w (TellPost B w t D (Lib.itoa v ++ [32] ++ Lib.formatBool true) M) := by
  have hcv := fun W => Lib.run_convert_string_bytes (P := Tryz.prog) W 9 56 5 (strOf k) Tryz.underlying9 Tryz.underlying56 Tryz.underlying5
  have e1 := strOf_size k
  have hx := boxed_at w 4 k n
  have hpos : 0 < k.length := List.length_pos_iff.2 hne
  have h1 := h.below hx.below
  have HP : Hid (Calls Tryz.prog 27 #[ptrV t, .string (strOf k)] (boxed w 4 k n) fun e w' => e = .returned (.tuple #[.int .i64 v, .bool true]) ∧ Below w.heap.size w w') := Lib.hid (by
    have := item_calls h1 hg.len hpos
    rw [hm] at this
    refine this.mono ?_
    rintro e w' ⟨rfl, hb⟩
    exact ⟨rfl, hx.below.trans (hb.mono hx.below.size)⟩)
  have hv : 0 ≤ (v : Int) ∧ (v : Int) ≤ 255 := by have := hf.good k v hm; exact ⟨this.2.2.1, this.2.2.2⟩
  have HI : Hid (∀ u, Below w.heap.size w u → Calls Tryz.prog 16 #[.int .i64 v] u fun e w' => e = .returned (.string (strOf (Lib.itoa v))) ∧ Below w.heap.size w w') := Lib.hid (fun u hu => by
    refine (Tryz.strconv_Itoa v (by omega) (by omega) u (htab u (hu.mono hB))).mono ?_
    rintro e w' ⟨rfl, q, os, rfl⟩
    exact ⟨rfl, hu.trans (Lib.below_grow _ _ (hu.size) q os)⟩)
  have z1 := strOf_size (Lib.itoa v)
  have z2 := itoa_short hv.1 hv.2
  have z3 := strOf_size (Lib.formatBool true)
  have z4 : (Lib.formatBool true).length ≤ 5 := by decide
  have HH := Lib.hid (And.intro h hB)
  have b0 := cell_of_heap hx.cells 0
  have b1 := cell_of_heap hx.cells 1
  have b2 := cell_of_heap hx.cells 2
  simp at b0 b1 b2
  unfold stepV
  have hfb := Tryz.strconv_FormatBool true
  unfold boxed at b0 b1 b2 HP
  clear h h1 hx
  go_enter Tryz.func13, Tryz.ntmps13
  go_wp2_with (first | (go_at_call 27; refine HP.out.mono ?_; rintro e w' ⟨rfl, hb⟩; have HB := Lib.hid hb; clear hb) | (go_at_call 16; refine (HI.out _ HB.out).mono ?_; rintro e w2 ⟨rfl, hb⟩; have HB2 := Lib.hid hb; clear hb) | (go_at_call 15; refine (hfb _).mono ?_; rintro e w2 ⟨rfl, rfl⟩))
  go_ret
  exact ⟨get_text _ _, D, HH.out.1.below HB2.out, Went.none (Below.kept_of HB2.out _)⟩

set_option maxRecDepth 100000 in
set_option maxHeartbeats 1000000 in
theorem tell_getNo (h : ImplAt B w t D M) (hB : B ≤ w.heap.size) (htab : TabB B w) (hf : Fair M i) {k : Word} {n : Int} (hg : Good k) (hne : k ≠ []) (hm : M k = none) :
    Calls Tryz.prog 13 #[ptrV t, stepV ⟨4, k, n⟩] w (TellPost B w t D (Lib.itoa 0 ++ [32] ++ Lib.formatBool false) M) := by
  have hcv := fun W => Lib.run_convert_string_bytes (P := Tryz.prog) W 9 56 5 (strOf k) Tryz.underlying9 Tryz.underlying56 Tryz.underlying5
  have e1 := strOf_size k
  have hx := boxed_at w 4 k n
  have hpos : 0 < k.length := List.length_pos_iff.2 hne
  have h1 := h.below hx.below
  have HP : Hid (Calls Tryz.prog 27 #[ptrV t, .string (strOf k)] (boxed w 4 k n) fun e w' => e = .returned (.tuple #[.int .i64 0, .bool false]) ∧ Below w.heap.size w w') := Lib.hid (by
    have := item_calls h1 hg.len hpos
    rw [hm] at this
    refine this.mono ?_
    rintro e w' ⟨rfl, hb⟩
    exact ⟨rfl, hx.below.trans (hb.mono hx.below.size)⟩)
  have hv : 0 ≤ (0 : Int) ∧ (0 : Int) ≤ 255 := by decide
  have HI : Hid (∀ u, Below w.heap.size w u → Calls Tryz.prog 16 #[.int .i64 0] u fun e w' => e = .returned (.string (strOf (Lib.itoa 0))) ∧ Below w.heap.size w w') := Lib.hid (fun u hu => by
    refine (Tryz.strconv_Itoa 0 (by omega) (by omega) u (htab u (hu.mono hB))).mono ?_
    rintro e w' ⟨rfl, q, os, rfl⟩
    exact ⟨rfl, hu.trans (Lib.below_grow _ _ (hu.size) q os)⟩)
  have z1 := strOf_size (Lib.itoa 0)
  have z2 := itoa_short hv.1 hv.2
  have z3 := strOf_size (Lib.formatBool false)
  have z4 : (Lib.formatBool false).length ≤ 5 := by decide
  have HH := Lib.hid (And.intro h hB)
  have b0 := cell_of_heap hx.cells 0
  have b1 := cell_of_heap hx.cells 1
  have b2 := cell_of_heap hx.cells 2
  simp at b0 b1 b2
  unfold stepV
  have hfb := Tryz.strconv_FormatBool false
  unfold boxed at b0 b1 b2 HP
  clear h h1 hx
  go_enter Tryz.func13, Tryz.ntmps13
  go_wp2_with (first | (go_at_call 27; refine HP.out.mono ?_; rintro e w' ⟨rfl, hb⟩; have HB := Lib.hid hb; clear hb) | (go_at_call 16; refine (HI.out _ HB.out).mono ?_; rintro e w2 ⟨rfl, hb⟩; have HB2 := Lib.hid hb; clear hb) | (go_at_call 15; refine (hfb _).mono ?_; rintro e w2 ⟨rfl, rfl⟩))
  go_ret
  exact ⟨get_text _ _, D, HH.out.1.below HB2.out, Went.none (Below.kept_of HB2.out _)⟩

set_option maxRecDepth 100000 in
set_option maxHeartbeats 1000000 in
theorem tell_under (h : ImplAt B w t D M) (hB : B ≤ w.heap.size) (hf : Fair M i) (hi : i ≤ 100) {k : Word} {n : Int} {L : List Word} (hg : Good k) (hne : k ≠ []) (hm : Keys M k L) :
    Calls Tryz.prog 13 #[ptrV t, stepV ⟨5, k, n⟩] w (TellPost B w t D (joined L) M) := by
  have hcv := fun W => Lib.run_convert_string_bytes (P := Tryz.prog) W 9 56 5 (strOf k) Tryz.underlying9 Tryz.underlying56 Tryz.underlying5
  have e1 := strOf_size k
  have hx := boxed_at w 5 k n
  have hpos : 0 < k.length := List.length_pos_iff.2 hne
  have h1 := h.below hx.below
  have HP : Hid (Calls Tryz.prog 28 #[ptrV t, .string (strOf k)] (boxed w 5 k n) fun e w' => e = .returned (.string (strOf (joined L))) ∧ ∃ D', ImplAt B w' t D' M ∧ Went w w' D D') := Lib.hid (by
    refine (under_calls h1.good.trie h1.good.top h1.lens (h1.room hf hi) k hg.len hpos).mono ?_
    rintro e w' ⟨L', rfl, a1, a2, a3⟩
    rw [Keys.ext (h1.words a1) hm]
    exact ⟨rfl, D, h1.same a2, Went.none ((Below.kept_of hx.below _).trans a3)⟩)
  have b0 := cell_of_heap hx.cells 0
  have b1 := cell_of_heap hx.cells 1
  have b2 := cell_of_heap hx.cells 2
  simp at b0 b1 b2
  unfold stepV
  have hfb := Tryz.strconv_FormatBool true
  unfold boxed at b0 b1 b2 HP
  clear h h1 hx
  go_enter Tryz.func13, Tryz.ntmps13
  go_wp2_with (go_at_call 28; refine HP.out.mono ?_; rintro e w' ⟨rfl, hD⟩)
  go_ret
  exact ⟨rfl, hD⟩

/-- Each step of the script. -/
theorem tell_calls (h : ImplAt B w t D M) (hB : B ≤ w.heap.size) (htab : TabB B w) (hf : Fair M i) (hi : i ≤ 100) {x : Step} {s : Word} {M' : Tab} (hx : Tells M x s M') (hg : Good x.word) (hne : x.word ≠ []) :
    Calls Tryz.prog 13 #[ptrV t, stepV x] w (TellPost B w t D s M') := by
  cases hx with
  | insNew h1 => exact tell_insNew h hB hg hne h1
  | insOld h1 => exact tell_insOld h hB hg hne h1
  | set => exact tell_set h hB hg hne
  | del h1 h2 h3 => exact tell_del h hB hg hne h1 h2 h3
  | cut h1 h2 => exact tell_cut h hB h1 h2
  | getYes h1 => exact tell_getYes h hB htab hf hg hne h1
  | getNo h1 => exact tell_getNo h hB htab hf hg hne h1
  | under h1 => exact tell_under h hB hf hi hg hne h1

set_option maxRecDepth 100000 in
set_option maxHeartbeats 1000000 in
theorem tell_first {mp n : Nat} (h : EmptyAt B w t mp n) (hmp : 1 ≤ mp) (hB : B ≤ w.heap.size) (ht : t + 2 < w.heap.size) :
    Calls Tryz.prog 13 #[ptrV t, stepV ⟨1, [65], 1⟩] w fun e w' => e = .returned (.string (strOf [115, 101, 116])) ∧ ∃ D, FirstAt B w' t D ∧ Below B w w' := by
  have hcv := fun W => Lib.run_convert_string_bytes (P := Tryz.prog) W 9 56 5 (strOf [65]) Tryz.underlying9 Tryz.underlying56 Tryz.underlying5
  have e1 := strOf_size [65]
  have hx := boxed_at w 1 [65] 1
  have HP : Hid (Calls Tryz.prog 24 #[ptrV t, .slice (some ⟨w.heap.size + 1, 0, none⟩) 1 (boxCap w 1 [65] 1), .iface 3 (.int .i64 1)] (boxed w 1 [65] 1) fun e w' => e = .returned (.tuple #[]) ∧ ∃ D, FirstAt B w' t D ∧ Below B w w') := Lib.hid (by
    obtain ⟨w0, hF, hBt⟩ := h
    have hb := hx.below
    have hk := Below.kept_of hb (fun _ => False)
    have hF' : Fresh w0 mp n n t (boxed w 1 [65] 1) := ⟨hk.lt hF.node (fun h => h), ⟨hk.lt hF.list.list (fun h => h), let ⟨j, a, b⟩ := hF.list.arr; ⟨j, hk.lt a (fun h => h), b⟩, hF.list.small⟩, hF.below.trans (hb.mono (by have := hF.below.size; omega)), hF.at_, by have := hF.size; have := hb.size; omega⟩
    refine (set_first ⟨w0, hF', hBt⟩ hmp hx.key (by omega)).mono ?_
    rintro e w' ⟨rfl, D, hD, hb2⟩
    exact ⟨rfl, D, hD, (hb.mono hB).trans hb2⟩)
  have b0 := cell_of_heap hx.cells 0
  have b1 := cell_of_heap hx.cells 1
  have b2 := cell_of_heap hx.cells 2
  simp at b0 b1 b2
  unfold stepV
  unfold boxed at b0 b1 b2 HP
  unfold boxCap at HP
  clear h hx
  go_enter Tryz.func13, Tryz.ntmps13
  go_wp2_with (go_at_call 24; refine HP.out.mono ?_; rintro e w' ⟨rfl, hD⟩)
  go_ret
  exact ⟨rfl, hD⟩

set_option maxRecDepth 100000 in
set_option maxHeartbeats 1000000 in
theorem tell_second (h : FirstAt B w t D) (hB : B ≤ w.heap.size) :
    Calls Tryz.prog 13 #[ptrV t, stepV ⟨1, [90], 2⟩] w (TellPost B w t D [115, 101, 116] tab2) := by
  have hcv := fun W => Lib.run_convert_string_bytes (P := Tryz.prog) W 9 56 5 (strOf [90]) Tryz.underlying9 Tryz.underlying56 Tryz.underlying5
  have e1 := strOf_size [90]
  have hx := boxed_at w 1 [90] 2
  have HP : Hid (Calls Tryz.prog 24 #[ptrV t, .slice (some ⟨w.heap.size + 1, 0, none⟩) 1 (boxCap w 1 [90] 2), .iface 3 (.int .i64 2)] (boxed w 1 [90] 2) fun e w' => e = .returned (.tuple #[]) ∧ ∃ D', ImplAt B w' t D' tab2 ∧ Went w w' D D') := Lib.hid (by
    have ht1 := h.trie.below hx.below
    have hM : ∀ k v, Has D k v ↔ tab1 k = some v := fun k v => by
      rw [h.has]
      unfold tab1 Tab.put
      by_cases e : k = [65]
      · simp [e, eq_comm]
      · simp [e]
    have ha : ∃ v, Has D [65] v := ⟨1, (h.has _ _).2 ⟨rfl, rfl⟩⟩
    refine (set_calls ht1 h.low [90] h.top ha (.inr (.inr (.inl rfl))) (w.heap.size + 1) 0 _ 2 (by simp) hx.key.bytes (by rw [Nat.zero_add]; exact hx.key.arr) hx.key.room (fun ht => by have := h.trie.lt ht; omega)).mono ?_
    rintro e w' ⟨rfl, D', hp⟩
    have hw := put_went hp hx.below (by omega)
    exact ⟨rfl, D', ⟨Good5.of_put hp ha (.inl rfl), put_has hp hM, hw.high hB h.high⟩, hw⟩)
  have b0 := cell_of_heap hx.cells 0
  have b1 := cell_of_heap hx.cells 1
  have b2 := cell_of_heap hx.cells 2
  simp at b0 b1 b2
  unfold stepV
  unfold boxed at b0 b1 b2 HP
  unfold boxCap at HP
  clear h hx
  go_enter Tryz.func13, Tryz.ntmps13
  go_wp2_with (go_at_call 24; refine HP.out.mono ?_; rintro e w' ⟨rfl, hD⟩)
  go_ret
  exact ⟨rfl, hD⟩
end
end Go.Proofs.YtpopiaahdanpeaaGreatDoor

namespace Go.Proofs.YtpopiaahdanpeaaGreatDoor
open Go Go.RowKit
set_option linter.unusedVariables false

/-- A script, what its steps say, and the tables between them. -/
structure Script (xs : List Step) (ss : List Word) (Ms : Nat → Tab) : Prop where
  len : ss.length = xs.length
  lo : 2 ≤ xs.length
  hi : xs.length ≤ 60
  x0 : xs[0]? = some ⟨1, [65], 1⟩
  x1 : xs[1]? = some ⟨1, [90], 2⟩
  s0 : ss[0]? = some [115, 101, 116]
  s1 : ss[1]? = some [115, 101, 116]
  m2 : Ms 2 = tab2
  good : ∀ x ∈ xs, Good x.word ∧ x.word ≠ []
  fair : ∀ k, k ≤ xs.length → Fair (Ms k) k
  tells : ∀ k x s, xs[k]? = some x → ss[k]? = some s → Tells (Ms k) x s (Ms (k + 1))

/-- Steps in memory. -/
def StepsAt (w : World) (g : Nat) (xs : List Step) : Prop :=
  ∀ j x, xs[j]? = some x → w.cell? ⟨g, j * 3, none⟩ = some (.int .i64 x.kind) ∧ w.cell? ⟨g, j * 3 + 1, none⟩ = some (.string (strOf x.word)) ∧ w.cell? ⟨g, j * 3 + 2, none⟩ = some (.int .i64 x.n)

section
variable {w w' : World} {t B k mp n : Nat} {D : Node → Prop} {Ms : Nat → Tab} {xs : List Step} {ss : List Word} {v : Value}

/-- The trie behind k steps. -/
def St (B : Nat) (Ms : Nat → Tab) (mp n t k : Nat) (w : World) (D : Node → Prop) : Prop :=
  match k with
  | 0 => EmptyAt B w t mp n ∧ t + 2 < w.heap.size ∧ ∀ X, ¬ D X
  | 1 => FirstAt B w t D
  | k + 2 => ImplAt B w t D (Ms (k + 2))

/-- What the steps have said so far, apart from the trie. -/
def OutAt (B : Nat) (w : World) (v : Value) (D : Node → Prop) (ss : List Word) : Prop := w.ownsRow B 9 1 v ss.length (ss.map strV) ∧ (∀ g, v.ownBlock = some g → ¬ TB D g) ∧ (ss = [] → v = .slice none 0 0)

theorem fresh_below {w0 : World} {mp n : Int} {m b : Nat} (hF : Fresh w0 mp n m b w) (hb : Below w.heap.size w w') : Fresh w0 mp n m b w' := by
  have hk := Below.kept_of hb (fun _ => False)
  exact ⟨hk.lt hF.node (fun h => h), ⟨hk.lt hF.list.list (fun h => h), let ⟨j, a, b⟩ := hF.list.arr; ⟨j, hk.lt a (fun h => h), b⟩, hF.list.small⟩, hF.below.trans (hb.mono (by have := hF.below.size; omega)), hF.at_, by have := hF.size; have := hb.size; omega⟩
theorem St.below (h : St B Ms mp n t k w D) (hb : Below w.heap.size w w') : St B Ms mp n t k w' D := by
  match k, h with
  | 0, ⟨⟨w0, hF, hBt⟩, h2, h3⟩ => exact ⟨⟨w0, fresh_below hF hb, hBt⟩, by have := hb.size; omega, h3⟩
  | 1, h => exact ⟨h.trie.below hb, h.low, h.top, h.has, h.high⟩
  | k + 2, h => exact ImplAt.below h hb
theorem St.kept {S : Nat → Prop} (h : St B Ms mp n t (k + 1) w D) (hk : Kept S w w') (hs : ∀ g, S g → ¬ TB D g) : St B Ms mp n t (k + 1) w' D := by
  match k, h with
  | 0, h => exact ⟨h.trie.kept hk hs, h.low, h.top, h.has, h.high⟩
  | k + 1, h => exact ImplAt.same h (h.good.trie.kept hk hs)
theorem St.lt (h : St B Ms mp n t (k + 1) w D) {g : Nat} (hg : TB D g) : g < w.heap.size := by
  match k, h with
  | 0, h => exact h.trie.lt hg
  | k + 1, h => exact h.good.trie.lt hg
theorem OutAt.below {ss : List Word} (h : OutAt B w v D ss) (hb : Below w.heap.size w w') : OutAt B w' v D ss := ⟨by
    obtain ⟨h1, h2 | ⟨g, cap, cur, a1, a2, a3, a4⟩⟩ := h.1
    · exact ⟨h1, .inl h2⟩
    · exact ⟨h1, .inr ⟨g, cap, cur, a1, a2, (Below.kept_of hb (fun _ => False)).lt a3 (fun h => h), a4⟩⟩, h.2⟩

theorem OutAt.went {ss : List Word} {D' : Node → Prop} (h : OutAt B w v D ss) (hw : Went w w' D D') : OutAt B w' v D' ss := by
  have hlt := h.1.lt
  refine ⟨?_, fun g hg ht => ?_, h.2.2⟩
  · obtain ⟨h1, h2 | ⟨g, cap, cur, rfl, a2, a3, a4⟩⟩ := h.1
    · exact ⟨h1, .inl h2⟩
    · exact ⟨h1, .inr ⟨g, cap, cur, rfl, a2, hw.kept.lt a3 (h.2.1 g rfl), a4⟩⟩
  · rcases hw.blocks g ht with h1 | h1
    · exact h.2.1 g hg h1
    · have := (hlt g hg).2; omega

/-- A step is done. -/
theorem play_step (hs : Script xs ss Ms) (hmp : 1 ≤ mp) (hB : B ≤ w.heap.size) (htab : TabB B w) (h : St B Ms mp n t k w D) (ho : OutAt B w v D (ss.take k)) {x : Step} {s : Word} (hx : xs[k]? = some x) (hsk : ss[k]? = some s) :
    Calls Tryz.prog 13 #[ptrV t, stepV x] w fun e w' => e = .returned (.string (strOf s)) ∧ ∃ D', St B Ms mp n t (k + 1) w' D' ∧ OutAt B w' v D' (ss.take k) ∧ Below B w w' := by
  have hk : k < xs.length := by
    rcases Nat.lt_or_ge k xs.length with h | h
    · exact h
    · rw [List.getElem?_eq_none h] at hx; cases hx
  have hhi := hs.hi
  match k, h with
  | 0, ⟨h1, h2, h3⟩ =>
    rw [hs.x0] at hx; injection hx with hx; subst hx
    rw [hs.s0] at hsk; injection hsk with hsk; subst hsk
    have hv := ho.2.2 (by simp)
    subst hv
    refine (tell_first h1 hmp hB h2).mono ?_
    rintro e w' ⟨rfl, D', hD, hb⟩
    exact ⟨rfl, D', hD, ⟨World.ownsRow_nil _ _ _ _, (fun g hg => by simp [Value.ownBlock] at hg), fun _ => rfl⟩, hb⟩
  | 1, h =>
    have h : FirstAt B w t D := h
    rw [hs.x1] at hx; injection hx with hx; subst hx
    rw [hs.s1] at hsk; injection hsk with hsk; subst hsk
    refine (tell_second h hB).mono ?_
    rintro e w' ⟨rfl, D', hD, hw⟩
    refine ⟨rfl, D', ?_, ho.went hw, (hw.kept.mono fun k _ hk => h.high k hk).below hB⟩
    show ImplAt B w' t D' (Ms 2)
    rw [hs.m2]; exact hD
  | k + 2, h =>
    have h : ImplAt B w t D (Ms (k + 2)) := h
    obtain ⟨g1, g2⟩ := hs.good x (List.mem_of_getElem? hx)
    refine (tell_calls h hB htab (hs.fair (k + 2) (by omega)) (by omega) (hs.tells _ _ _ hx hsk) g1 g2).mono ?_
    rintro e w' ⟨rfl, D', hD, hw⟩
    exact ⟨rfl, D', hD, ho.went hw, (hw.kept.mono fun k _ hk => h.high k hk).below hB⟩

theorem tb_not9 (h : TrieAt w t D) {g : Nat} (hg : TB D g) {cur : Array Value} {fr : Nat × Nat} : w.heap[g]? ≠ some (.cells cur 9 fr) := by
  intro e
  obtain ⟨Y, hY, hk⟩ := hg
  have hN := h.at_ Y hY
  obtain ⟨K, hK, _⟩ := hN.kids
  rcases hk with rfl | rfl | rfl | rfl
  · rw [hN.node] at e; simp at e
  · cases hd : Y.d with
    | false => rw [hd] at hK; obtain ⟨l, hs, _⟩ := hK; rw [hs.list] at e; simp at e
    | true => rw [hd] at hK; obtain ⟨mx, T, hs, _⟩ := hK; rw [hs.list] at e; simp at e
  · cases hd : Y.d with
    | false => rw [hd] at hK; obtain ⟨l, hs, _⟩ := hK; obtain ⟨junk, ha, _⟩ := hs.arr; rw [ha] at e; simp at e
    | true => rw [hd] at hK; obtain ⟨mx, T, hs, _⟩ := hK; rw [hs.arr] at e; simp at e
  · obtain ⟨c, fr', e2, _⟩ := hN.arr; rw [e2] at e; simp at e
theorem st_trie (h : St B Ms mp n t (k + 1) w D) : TrieAt w t D := by
  match k, h with
  | 0, h => exact (show FirstAt B w t D from h).trie
  | k + 1, h => exact (show ImplAt B w t D (Ms (k + 2)) from h).good.trie
theorem row_not (h : TrieAt w t D) {base m : Nat} {u : Value} {zs : List Value} (hu : w.ownsRow base 9 1 u m zs) : ∀ g, u.ownBlock = some g → ¬ TB D g := by
  intro g hg ht
  obtain ⟨_, ⟨rfl, _⟩ | ⟨g', cap, cur, rfl, a2, a3, a4⟩⟩ := hu
  · simp [Value.ownBlock] at hg
  · simp [Value.ownBlock] at hg; subst hg
    exact tb_not9 h ht a3

/-- What is said is noted. -/
theorem play_note {w1 : World} {u : Value} {s : Word} (h : St B Ms mp n t (k + 1) w D) (ho : OutAt B w v D (ss.take k)) (hsk : ss[k]? = some s) (hB : B ≤ w.heap.size) {o : Obj}
    (hu : w1.ownsRow B 9 1 u ((ss.take k).length + 1) ((ss.take k).map strV ++ [strV s])) (hg : (w.alloc o).grownBy w1 v.ownBlock) : St B Ms mp n t (k + 1) w1 D ∧ OutAt B w1 u D (ss.take (k + 1)) ∧ Below B w w1 := by
  have hkp : Kept (fun g => v.ownBlock = some g ∨ w.heap.size ≤ g) w w1 := by
    have : Kept (fun g => v.ownBlock = some g) (w.alloc o) w1 := ⟨hg.os, hg.tape, hg.output, hg.size, fun k hk hs => hg.block k hk (fun e => hs e.symm)⟩
    exact ((Kept.refl _ w).alloc o).trans (this.mono fun k _ e => .inl e)
  have hnt : ∀ g, (v.ownBlock = some g ∨ w.heap.size ≤ g) → ¬ TB D g := by
    rintro g (e | e) ht
    · exact ho.2.1 g e ht
    · have := h.lt ht; omega
  have e : ss.take (k + 1) = ss.take k ++ [s] := by
    rw [List.take_add_one, hsk]; rfl
  refine ⟨h.kept hkp hnt, ⟨by rw [e]; simpa using hu, row_not (st_trie (h.kept hkp hnt)) hu, fun e2 => ?_⟩, (hkp.mono fun g _ hg2 => ?_).below hB⟩
  · rw [e] at e2; simp at e2
  · rcases hg2 with e | e
    · exact (ho.1.lt g e).1
    · show B ≤ g; omega

set_option maxRecDepth 100000 in
set_option maxHeartbeats 4000000 in
theorem iplay_calls {w : World} {a b sg cap : Nat} (hs : Script xs ss Ms) (ha : 1 ≤ a) (ha2 : a ≤ 12) (hb : 1 ≤ b) (hb2 : b ≤ 9) (hx : StepsAt w sg xs) (hcap : xs.length ≤ cap) (hlt : sg < w.heap.size) (htab : TabB w.heap.size w) :
    Calls Tryz.prog 5 #[.int .i64 a, .int .i64 b, .slice (some ⟨sg, 0, none⟩) xs.length cap] w fun e w' => ∃ v u L, e = .returned (.tuple #[v, u]) ∧ Below w.heap.size w w' ∧ w'.ownsRow w.heap.size 9 1 v ss.length (ss.map strV) ∧ w'.ownsRow w.heap.size 9 1 u L.length (L.map strV) ∧ Keys (Ms xs.length) [] L := by
  have HE := Lib.hid (empty_calls w a b ha ha2 hb hb2)
  have hhi := hs.hi
  have hlo := hs.lo
  have H := Lib.hid (And.intro hs (And.intro hx htab)); clear hs hx htab
  obtain ⟨i0, hi9, hz0, hz1, hz2⟩ := info_parts info9
  go_enter Tryz.func5, Tryz.ntmps5
  go_wp2_with (go_at_call 12; refine HE.out.mono ?_; rintro e w1 ⟨t, rfl, hE, hB1⟩; have HB1 := Lib.hid (And.intro hE hB1); clear hE hB1)
  go_loopw [9, 17] (fun v iv wr => ∃ (k : Nat) (D : Node → Prop), iv = .int .i64 k ∧ k ≤ xs.length ∧ Hid (St w.heap.size Ms a b t k wr D ∧ OutAt w.heap.size wr v D (ss.take k) ∧ Below w.heap.size w wr)) (fun _ iv _ => xs.length - (intOf iv).toNat)
  case atStart =>
    refine ⟨0, fun _ => False, rfl, by omega, Lib.hid ⟨⟨HB1.out.1, ?_, fun X h => h⟩, ⟨World.ownsRow_nil _ _ _ _, (fun g hg => by simp [Value.ownBlock] at hg), fun _ => rfl⟩, HB1.out.2⟩⟩
    obtain ⟨w0, hF, _⟩ := HB1.out.1
    exact hF.size
  case round =>
    obtain ⟨k, D, rfl, hk, HR⟩ := hrel
    by_cases hlt2 : k < xs.length
    · obtain ⟨x, hxk⟩ : ∃ x, xs[k]? = some x := ⟨xs[k], List.getElem?_eq_getElem hlt2⟩
      obtain ⟨s, hsk⟩ : ∃ s, ss[k]? = some s := ⟨ss[k]'(by rw [H.out.1.len]; exact hlt2), List.getElem?_eq_getElem _⟩
      obtain ⟨q0, q1, q2⟩ := H.out.2.1 k x hxk
      have hkb := Below.kept_of HR.out.2.2 (fun _ => False)
      have g0 := hkb.cell q0 (fun h => h)
      have g1 := hkb.cell q1 (fun h => h)
      have g2 := hkb.cell q2 (fun h => h)
      have hsz := HR.out.2.2.size
      have HS : Hid (Calls Tryz.prog 13 #[ptrV t, .agg #[.int .i64 x.kind, .string (strOf x.word), .int .i64 x.n]] (wr.alloc (.cells #[.int .i64 x.kind, .string (strOf x.word), .int .i64 x.n] 33)) fun e w' => e = .returned (.string (strOf s)) ∧ ∃ D', Hid (St w.heap.size Ms a b t (k + 1) w' D' ∧ OutAt w.heap.size w' u9 D' (ss.take k) ∧ Below w.heap.size w w')) := Lib.hid (by
        have hb0 : Below wr.heap.size wr (wr.alloc (.cells #[.int .i64 x.kind, .string (strOf x.word), .int .i64 x.n] 33)) := (Below.refl _ _).alloc (Nat.le_refl _) _
        have hb1 := HR.out.2.2.trans (hb0.mono hsz)
        refine (play_step H.out.1 ha (Nat.le_trans hsz hb0.size) (fun u hu => H.out.2.2 u (hb1.trans hu)) (HR.out.1.below hb0) (HR.out.2.1.below hb0) hxk hsk).mono ?_
        rintro e w' ⟨rfl, D', h1, h2, h3⟩
        exact ⟨rfl, D', Lib.hid ⟨h1, h2, hb1.trans h3⟩⟩)
      have HSK := Lib.hid (And.intro hxk hsk)
      have hlen : (ss.take k).length = k := by rw [List.length_take, H.out.1.len]; omega
      have HLn := Lib.hid hlen
      clear hlen hxk hsk q0 q1 q2 hkb
      go_wp2_with (first
        | (go_at_call 13; refine HS.out.mono ?_; rintro e w2 ⟨rfl, D', HD⟩; have hsz2 := HD.out.2.2.size)
        | (at_builtin; refine wpList_append_own _ rfl (.tmp 21) (.tmp 25) 24 rfl w.heap.size 9 i0 (.string ByteArray.empty) 1 16 Tryz.underlying24 hi9 hz0 hz1 hz2 rfl (by decide) u9 (ss.take k).length ((ss.take k).map strV) rfl (HD.out.2.1.1.alloc _) ⟨w2.heap.size, 0, none⟩ 1 1 [strV s] rfl rfl (one_vals _ _ _) (by intro u hu; simp at hu; subst hu; rfl) (by rw [HLn.out]; unfold maxLen; omega) (by rw [HLn.out]; omega) (by simp; omega) ?_; intro v' w3 hown3 hgr3 _; have HO := Lib.hid (play_note HD.out.1 HD.out.2.1 HSK.out.2 hsz2 hown3 hgr3); clear hown3 hgr3))
      go_roundw
      case rel => exact ⟨k + 1, D', by go_num, hlt2, Lib.hid ⟨HO.out.1, HO.out.2.1, HD.out.2.2.trans HO.out.2.2⟩⟩
      case measure => simp [intOf]; omega
    · have hkx : k = xs.length := by omega
      have HK : Hid (Calls Tryz.prog 14 #[ptrV t] wr fun e w' => ∃ u L, e = .returned u ∧ Below w.heap.size w w' ∧ w'.ownsRow w.heap.size 9 1 u9 ss.length (ss.map strV) ∧ w'.ownsRow w.heap.size 9 1 u L.length (L.map strV) ∧ Keys (Ms xs.length) [] L) := Lib.hid (by
        obtain ⟨m, hm⟩ : ∃ m, xs.length = m + 2 := ⟨xs.length - 2, by omega⟩
        have hst := HR.out.1
        rw [hkx, hm] at hst
        have hst : ImplAt w.heap.size wr t D (Ms (m + 2)) := hst
        have hout := HR.out.2.1
        rw [hkx, ← H.out.1.len, List.take_length] at hout
        have hsz := HR.out.2.2.size
        refine (keys_calls hst.good.trie hst.good.top hst.lens (hst.room (H.out.1.fair (m + 2) (by omega)) (by omega))).mono ?_
        rintro e w' ⟨L, u, rfl, a1, a2, a3, a4⟩
        refine ⟨u, L, rfl, HR.out.2.2.trans ((a4.mono fun k _ hk => hst.high k hk).below hsz), ?_, ?_, ?_⟩
        · exact (hout.went (Went.none a4)).1
        · obtain ⟨c1, c2⟩ := a3
          exact ⟨c1, c2.imp (fun h => h) fun ⟨g, cap, cur, d1, d2, d3⟩ => ⟨g, cap, cur, d1, by omega, d3⟩⟩
        · rw [hm]
          refine hst.words ⟨a1.1, fun k => ?_⟩
          rw [a1.2]
          exact ⟨fun h => ⟨h, List.nil_prefix⟩, fun h => h.1⟩)
      have HX := Lib.hid hkx
      clear hkx
      go_wp2_with (go_at_call 14; refine HK.out.mono ?_; rintro e w2 ⟨u, L, rfl, h1, h2, h3, h4⟩; have HF := Lib.hid (And.intro h1 (And.intro h2 (And.intro h3 h4))); clear h1 h2 h3 h4)
      go_ret2
      exact ⟨u9, u, L, rfl, HF.out⟩
end
end Go.Proofs.YtpopiaahdanpeaaGreatDoor
