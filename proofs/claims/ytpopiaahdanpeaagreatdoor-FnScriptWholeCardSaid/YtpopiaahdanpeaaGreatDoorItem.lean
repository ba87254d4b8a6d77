/- under and keys. impl.item, impl.empty. -/
import Derived.Test.YtpopiaahdanpeaaGreatDoorTold
import Derived.Lib.ConvBytes
import Derived.Test.YtpopiaahdanpeaaGreatDoorDelete
namespace Go.Proofs.YtpopiaahdanpeaaGreatDoor
open Go Go.RowKit
set_option linter.unusedVariables false

section
variable {w : World} {t : Nat} {D : Node → Prop} {X : Node}

/-- A key's bytes, new. -/
structure KeyAt (W w1 : World) (kg kc : Nat) (key : Word) : Prop where
  bytes : BytesAt w1 kg 0 key
  arr : ArrAt w1 kg kc
  room : key.length ≤ kc
  below : Below W.heap.size W w1
  new : W.heap.size ≤ kg
  lt : kg < w1.heap.size

theorem key_made (W : World) (key : Word) : KeyAt W (Lib.bytesWorld W 5 (strOf key)) W.heap.size (grownCap W key.length 0 5) key := by
  have hs := strOf_size key
  have hg := grownCap_ge W key.length 0 5
  have hnew := Lib.bytesWorld_at_new W 5 (strOf key)
  have hsz : (Lib.bytesCells W 5 (strOf key)).size = grownCap W key.length 0 5 := by
    have hd : (strOf key).data.size = key.length := hs
    simp only [Lib.bytesCells, Array.size_append, Array.size_map, Array.size_replicate, hd, hs]; omega
  refine ⟨fun i hi => ?_, ⟨_, _, hnew, by rw [hsz]; exact Nat.le_refl _, fun i hi => ?_⟩, hg, ?_, Nat.le_refl _, by rw [Lib.bytesWorld_size]; omega⟩
  · rw [Nat.zero_add, Lib.bytesWorld_cell W 5 (strOf key) i (by rw [hs]; exact hi)]
    simp [strOf, List.getD, hi]
  · simp only [World.frozen?, hnew]
    rw [hsz]
    simp; omega
  · refine ⟨rfl, rfl, rfl, by rw [Lib.bytesWorld_size]; omega, fun k hk => Lib.bytesWorld_at_old W 5 (strOf key) k hk⟩

theorem joined_len : ∀ (L : List Word), (∀ k ∈ L, k.length ≤ 5) → (joined L).length ≤ 6 * L.length
  | [], _ => by simp [joined]
  | k :: L, h => by
    have := joined_len L (fun x hx => h x (by simp [hx]))
    have h1 := h k (by simp)
    simp only [joined, List.flatMap_cons, List.length_append, List.length_cons, List.length_nil] at this ⊢
    omega

/-- The text told so far. -/
def UVi (vb : Nat) (w : World) (L : List Word) : Prop := w.heap[vb]? = some (.cells #[.string (strOf (joined L))] 9 (0, 0)) ∧ ∀ k ∈ L, k.length ≤ 5

theorem under_visitor {pp pg vb : Nat} (hp : ¬ TB D pp) (hg : ¬ TB D pg) (hne : pp ≠ pg) (hb : ¬ TB D vb) (h1 : vb ≠ pp) (h2 : vb ≠ pg) : Visitor t D pp pg 48 vb (fun k => k = vb) (UVi vb) := by
  refine ⟨by rintro k rfl; exact ⟨hb, h1, h2⟩, hp, hg, hne, fun w done word cap x hv hd hw hl hc => ?_, fun w w' done hv hk => ⟨?_, hv.2⟩⟩
  · have hj := joined_len done hv.2
    refine (under_step hv.1 hw hl (by omega)).mono ?_
    rintro e w' ⟨rfl, rfl⟩
    refine ⟨rfl, ⟨?_, fun k hk => ?_⟩, (Kept.refl (fun k => k = vb) w).setCell (.inl rfl) _⟩
    · rw [heap_setCell_at hv.1, joined_snoc]; rfl
    · rcases List.mem_append.1 hk with hk | hk
      · exact hv.2 k hk
      · simp at hk; subst hk; exact hl
  · exact hk.lt hv.1 (by rintro (h | h | h); exact hb h; exact h1 h; exact h2 h)

theorem under_calls (h : TrieAt w t D) (htop : ∀ X, D X → X.blk = t → X.word = [] ∧ X.mp = 10) (hgood : ∀ Y, D Y → Y.word.length ≤ 5) (hroom : ∀ p, RoomI D p) (key : Word) (hkl : key.length ≤ 5) (hpos : 0 < key.length) :
    Calls Tryz.prog 28 #[ptrV t, .string (strOf key)] w fun e w' => ∃ L, e = .returned (.string (strOf (joined L))) ∧ (Asc L ∧ ∀ k, k ∈ L ↔ (∃ v, Has D k v) ∧ key <+: k) ∧ TrieAt w' t D ∧ Kept (TB D) w w' := by
  have htb : ∀ k, TB D k → k < w.heap.size := by
    rintro k ⟨Y, hY, hk⟩
    have := (h.at_ Y hY).lts
    rcases hk with rfl | rfl | rfl | rfl
    · exact this.1
    · exact this.2.1
    · exact this.2.2.1
    · exact this.2.2.2
  have hcv := fun W => Lib.run_convert_string_bytes (P := Tryz.prog) W 9 56 5 (strOf key) Tryz.underlying9 Tryz.underlying56 Tryz.underlying5
  have e1 := strOf_size key
  have HV : Hid (Calls Tryz.prog 47 #[ptrV t, .slice (some ⟨w.heap.size + 1, 0, none⟩) key.length (grownCap (w.alloc (.cells #[.string { data := #[] }] 9)) key.length 0 5), .func (.func 48) #[] #[ptrV w.heap.size]]
      (Lib.bytesWorld (w.alloc (.cells #[.string { data := #[] }] 9)) 5 (strOf key)) fun e w' => e = .returned .nilIface ∧ ∃ L, (Asc L ∧ ∀ k, k ∈ L ↔ (∃ v, Has D k v) ∧ key <+: k) ∧ TrieAt w' t D ∧ w'.cell? ⟨w.heap.size, 0, none⟩ = some (.string (strOf (joined L))) ∧ Kept (TB D) w w') := Lib.hid (by
    have hk := key_made (w.alloc (.cells #[.string { data := #[] }] 9)) key
    have hsz : (w.alloc (.cells #[.string { data := #[] }] 9)).heap.size = w.heap.size + 1 := by simp
    rw [hsz] at hk
    have hb0 : Below w.heap.size w (w.alloc (.cells #[.string { data := #[] }] 9)) := (Below.refl _ _).alloc (Nat.le_refl _) _
    have hb : Below w.heap.size w (Lib.bytesWorld (w.alloc (.cells #[.string { data := #[] }] 9)) 5 (strOf key)) := hb0.trans (hk.below.mono (by simp))
    have hlt := hk.lt
    have hvb : (Lib.bytesWorld (w.alloc (.cells #[.string { data := #[] }] 9)) 5 (strOf key)).heap[w.heap.size]? = some (.cells #[.string (strOf (joined []))] 9 (0, 0)) := by
      rw [hk.below.block _ (by simp)]; exact hNew w _
    have hnt : ∀ k, w.heap.size ≤ k → ¬ TB D k := fun k hk ht => by have := htb k ht; omega
    refine (visitSub_calls (own := fun k => k = w.heap.size) (Vi := UVi w.heap.size) (h.below hb) htop hgood hroom hk.bytes hk.arr hk.room (hnt _ (by omega)) hkl hpos enter48
      (fun pp pg h1 h2 h3 => under_visitor (hnt _ (by omega)) (hnt _ (by omega)) h3 (hnt _ (Nat.le_refl _)) (by omega) (by omega)) (fun w' hk' => ⟨hk'.lt hvb (by omega), fun k hk => by simp at hk⟩)).mono ?_
    rintro e w' ⟨rfl, L, a1, a2, a3, a4⟩
    refine ⟨rfl, L, a1, a2, cell_of_heap a3.1 0, (Below.kept_of hb _).trans' a4 (fun k hk hs => ?_)⟩
    rcases hs with h | h | h
    · exact h
    · have h : k = w.heap.size := h
      omega
    · omega)
  clear h htop hgood hroom htb
  go_enter Tryz.func28, Tryz.ntmps28
  go_wp2_with (go_at_call 47; refine HV.out.mono ?_; rintro e w' ⟨rfl, L, a1, a2, a3, a4⟩; have HL := Lib.hid (And.intro a1 (And.intro a2 a4)); clear a1 a2 a4)
  go_ret
  exact ⟨L, rfl, HL.out.1, HL.out.2.1, HL.out.2.2⟩

/-- The words told so far, in a slice. -/
def KVi (vb base : Nat) (w : World) (L : List Word) : Prop := ∃ v, w.heap[vb]? = some (.cells #[v] 24 (0, 0)) ∧ w.ownsRow base 9 1 v L.length (L.map strV) ∧ base ≤ w.heap.size

theorem keys_visitor {pp pg vb base : Nat} (hp : ¬ TB D pp) (hg : ¬ TB D pg) (hne : pp ≠ pg) (hb : ∀ k, vb ≤ k → ¬ TB D k) (h1 : vb < pp) (h2 : vb < pg) (h3 : pp < base) (h4 : pg < base) : Visitor t D pp pg 30 vb (fun k => k = vb ∨ base ≤ k) (KVi vb base) := by
  refine ⟨fun k hk => ⟨hb k (by omega), by omega, by omega⟩, hp, hg, hne, fun w done word cap x hv hd hw hl hc => ?_, fun w w' done hv hk => ?_⟩
  · obtain ⟨v, a1, a2, a3⟩ := hv
    refine (keys_step (base := base) a1 a2 (by omega) a3 hw hl (by omega)).mono ?_
    rintro e w' ⟨rfl, v', b1, b2, b3⟩
    exact ⟨rfl, ⟨v', b1, b2, Nat.le_trans a3 b3.size⟩, b3⟩
  · obtain ⟨v, a1, a2, a3⟩ := hv
    refine ⟨v, hk.lt a1 ?_, ownsRow_kept a2 hk (fun g hg => ?_), Nat.le_trans a3 hk.size⟩
    · rintro (h | h | h)
      · exact hb vb (Nat.le_refl _) h
      · omega
      · omega
    · rintro (h | h | h)
      · exact hb g (by omega) h
      · omega
      · omega

theorem keys_calls (h : TrieAt w t D) (htop : ∀ X, D X → X.blk = t → X.word = [] ∧ X.mp = 10) (hgood : ∀ Y, D Y → Y.word.length ≤ 5) (hroom : ∀ p, RoomI D p) :
    Calls Tryz.prog 14 #[ptrV t] w fun e w' => ∃ L v, e = .returned v ∧ (Asc L ∧ ∀ k, k ∈ L ↔ ∃ v, Has D k v) ∧ TrieAt w' t D ∧ w'.ownsRow w.heap.size 9 1 v L.length (L.map strV) ∧ Kept (TB D) w w' := by
  have htb : ∀ k, TB D k → k < w.heap.size := by
    rintro k ⟨Y, hY, hk⟩
    have := (h.at_ Y hY).lts
    rcases hk with rfl | rfl | rfl | rfl
    · exact this.1
    · exact this.2.1
    · exact this.2.2.1
    · exact this.2.2.2
  have hnt : ∀ k, w.heap.size ≤ k → ¬ TB D k := fun k hk ht => by have := htb k ht; omega
  have HV : Hid (Calls Tryz.prog 29 #[ptrV t, .func (.func 30) #[] #[ptrV w.heap.size]] (w.alloc (.cells #[.slice none 0 0] 24)) fun e w' => e = .returned .nilIface ∧ ∃ L v, (Asc L ∧ ∀ k, k ∈ L ↔ ∃ v, Has D k v) ∧ TrieAt w' t D ∧ w'.cell? ⟨w.heap.size, 0, none⟩ = some v ∧ w'.ownsRow w.heap.size 9 1 v L.length (L.map strV) ∧ Kept (TB D) w w') := Lib.hid (by
    have hb0 : Below w.heap.size w (w.alloc (.cells #[.slice none 0 0] 24)) := (Below.refl _ _).alloc (Nat.le_refl _) _
    have hsz : (w.alloc (.cells #[.slice none 0 0] 24)).heap.size = w.heap.size + 1 := by simp
    obtain ⟨R, hR, hRt, _⟩ := h.wf.root
    refine (visit_calls (own := fun k => k = w.heap.size ∨ w.heap.size + 3 ≤ k) (Vi := KVi w.heap.size (w.heap.size + 3)) (h.below hb0) hR hRt (htop R hR hRt).1 hgood (hroom _) enter30
      (by rw [hsz]; exact keys_visitor (hnt _ (by omega)) (hnt _ (by omega)) (by omega) hnt (by omega) (by omega) (by omega) (by omega)) (fun w' hb hs => ?_)).mono ?_
    · rw [hsz] at hs
      exact ⟨_, (hb.block _ (by rw [hsz]; omega)).trans (hNew w _), World.ownsRow_nil _ _ _ _, by omega⟩
    · rintro e w' ⟨rfl, L, ⟨a1, a2⟩, a3, ⟨v, b1, b2, b3⟩, a5⟩
      refine ⟨rfl, L, v, ⟨a1, fun k => ?_⟩, a3, cell_of_heap b1 0, ?_, (Below.kept_of hb0 _).trans' a5 (fun k hk hs => ?_)⟩
      · rw [a2]; exact ⟨fun h => h.1, fun h => ⟨h, List.nil_prefix⟩⟩
      · obtain ⟨c1, c2⟩ := b2
        refine ⟨c1, c2.imp (fun h => h) fun ⟨g, cap, cur, d1, d2, d3⟩ => ⟨g, cap, cur, d1, by omega, d3⟩⟩
      · rcases hs with h | h | h
        · exact h
        · omega
        · omega)
  clear h htop hgood hroom htb hnt
  go_enter Tryz.func14, Tryz.ntmps14
  go_wp2_with (go_at_call 29; refine HV.out.mono ?_; rintro e w' ⟨rfl, L, v, a1, a2, a3, a4, a5⟩; have HL := Lib.hid (And.intro a1 (And.intro a2 (And.intro a4 a5))); clear a1 a2 a4 a5)
  go_ret
  exact ⟨L, v, rfl, HL.out.1, HL.out.2.1, HL.out.2.2.1, HL.out.2.2.2⟩
end
end Go.Proofs.YtpopiaahdanpeaaGreatDoor

namespace Go.Proofs.YtpopiaahdanpeaaGreatDoor
open Go Go.RowKit
set_option linter.unusedVariables false

section
variable {w w' : World} {t B : Nat} {D : Node → Prop} {M : Tab}

theorem nodup_len : ∀ {L A : List Word}, L.Nodup → (∀ k ∈ L, k ∈ A) → L.length ≤ A.length
  | [], A, _, _ => by simp
  | k :: L, A, hn, hs => by
    have hn := List.nodup_cons.1 hn
    have hk := hs k (by simp)
    have := nodup_len (A := A.erase k) hn.2 (fun x hx => (List.mem_erase_of_ne (by rintro rfl; exact hn.1 hx)).2 (hs x (by simp [hx])))
    rw [List.length_erase_of_mem hk] at this
    have := List.length_pos_of_mem hk
    simp; omega
theorem Asc.nodup {L : List Word} (h : Asc L) : L.Nodup := List.Pairwise.imp (fun {a b} (h : a < b) (e : a = b) => word_irrefl a (by rw [← e] at h; exact h)) h

/-- The trie of the script. -/
structure ImplAt (B : Nat) (w : World) (t : Nat) (D : Node → Prop) (M : Tab) : Prop where
  good : Good5 w t D
  has : ∀ k v, Has D k v ↔ M k = some v
  high : ∀ k, TB D k → B ≤ k
/-- What a step turns. -/
structure Went (w w' : World) (D D' : Node → Prop) : Prop where
  kept : Kept (TB D) w w'
  blocks : ∀ k, TB D' k → TB D k ∨ w.heap.size ≤ k

theorem TrieAt.lt (h : TrieAt w t D) {k : Nat} (hk : TB D k) : k < w.heap.size := by
  obtain ⟨Y, hY, hk⟩ := hk
  have := (h.at_ Y hY).lts
  rcases hk with rfl | rfl | rfl | rfl
  · exact this.1
  · exact this.2.1
  · exact this.2.2.1
  · exact this.2.2.2
theorem ImplAt.lens (h : ImplAt B w t D M) : ∀ Y, D Y → Y.word.length ≤ 5 := fun Y hY => (h.good.low.good Y hY).len
theorem ImplAt.room {i : Nat} (h : ImplAt B w t D M) (hf : Fair M i) (hi : i ≤ 100) (p : Word) : RoomI D p := by
  intro L hL hs
  obtain ⟨A, hA, hm⟩ := hf.few
  have := nodup_len hL.nodup (fun k hk => hm k (by
    obtain ⟨⟨v, hv⟩, _⟩ := hs k hk
    rw [(h.has k v).1 hv]; simp))
  omega
theorem ImplAt.words (h : ImplAt B w t D M) {p : Word} {L : List Word} (hL : Asc L ∧ ∀ k, k ∈ L ↔ (∃ v, Has D k v) ∧ p <+: k) : Keys M p L := by
  refine ⟨hL.1, fun k => ?_⟩
  rw [hL.2]
  constructor
  · rintro ⟨⟨v, hv⟩, hp⟩; exact ⟨by rw [(h.has k v).1 hv]; simp, hp⟩
  · rintro ⟨hk, hp⟩
    cases e : M k with
    | none => exact (hk e).elim
    | some v => exact ⟨⟨v, (h.has k v).2 e⟩, hp⟩
theorem Keys.ext {p : Word} {L L' : List Word} (h : Keys M p L) (h' : Keys M p L') : L = L' := Asc.ext h.1 h'.1 fun k => by rw [h.2, h'.2]

theorem ImplAt.below (h : ImplAt B w t D M) (hb : Below w.heap.size w w') : ImplAt B w' t D M :=
  ⟨⟨h.good.trie.below hb, h.good.low, h.good.top, h.good.a, h.good.z⟩, h.has, h.high⟩
theorem ImplAt.same (h : ImplAt B w t D M) (ht : TrieAt w' t D) : ImplAt B w' t D M := ⟨⟨ht, h.good.low, h.good.top, h.good.a, h.good.z⟩, h.has, h.high⟩
theorem Went.after {w1 : World} {D' : Node → Prop} (hb : Below w.heap.size w w1) (h : Went w1 w' D D') (hlt : ∀ k, TB D k → k < w.heap.size) : Went w w' D D' := by
  refine ⟨(Below.kept_of hb _).trans h.kept, fun k hk => ?_⟩
  rcases h.blocks k hk with h1 | h1
  · exact .inl h1
  · have := hb.size; exact .inr (by omega)
theorem Went.none (k : Kept (TB D) w w') : Went w w' D D := ⟨k, fun _ h => .inl h⟩
theorem Went.high {D' : Node → Prop} (h : Went w w' D D') (hB : B ≤ w.heap.size) (hh : ∀ k, TB D k → B ≤ k) : ∀ k, TB D' k → B ≤ k := fun k hk => by
  rcases h.blocks k hk with h1 | h1
  · exact hh k h1
  · omega

theorem assert_none (w : World) : (Instr.typeAssert (itemV none) 65 3 true).run Tryz.prog w = .ok (.tuple #[.int .i64 0, .bool false]) w := by kernel_rfl
theorem assert_some (v : Int) (w : World) : (Instr.typeAssert (itemV (some v)) 65 3 true).run Tryz.prog w = .ok (.tuple #[.int .i64 v, .bool true]) w := by kernel_rfl

set_option maxRecDepth 100000 in
set_option maxHeartbeats 1000000 in
theorem item_calls (h : ImplAt B w t D M) {key : Word} (hkl : key.length ≤ 5) (hpos : 0 < key.length) :
    Calls Tryz.prog 27 #[ptrV t, .string (strOf key)] w fun e w' => e = .returned (.tuple #[.int .i64 ((M key).getD 0), .bool (M key).isSome]) ∧ Below w.heap.size w w' := by
  have hcv := fun W => Lib.run_convert_string_bytes (P := Tryz.prog) W 9 56 5 (strOf key) Tryz.underlying9 Tryz.underlying56 Tryz.underlying5
  have e1 := strOf_size key
  have HG : Hid (∀ u, Below w.heap.size w u → Calls Tryz.prog 45 #[ptrV t, .slice (some ⟨u.heap.size, 0, none⟩) key.length (grownCap u key.length 0 5)] (Lib.bytesWorld u 5 (strOf key)) fun e w' => e = .returned (itemV (M key)) ∧ Below w.heap.size w w') := Lib.hid (fun u hu => by
    have hk := key_made u key
    have hb := hu.trans (hk.below.mono hu.size)
    refine (get_calls (h.good.trie.below hb) key u.heap.size 0 _ hk.bytes (by omega) hpos hk.room (fun X hX => Nat.le_trans (h.lens X hX) (by omega))).mono ?_
    rintro e w' ⟨o, rfl, hd, ho⟩
    have : o = M key := by
      apply Option.ext
      intro v
      rw [ho, h.has]
    obtain ⟨n, rfl⟩ := hd
    exact ⟨by rw [this], below_drewN hb n⟩)
  have HM : Hid (∀ u, Below w.heap.size w u → Calls Tryz.prog 46 #[ptrV t, .slice (some ⟨u.heap.size, 0, none⟩) key.length (grownCap u key.length 0 5)] (Lib.bytesWorld u 5 (strOf key)) fun e w' => e = .returned (.bool (M key).isSome) ∧ Below w.heap.size w w') := Lib.hid (fun u hu => by
    have hk := key_made u key
    have hb := hu.trans (hk.below.mono hu.size)
    refine (match_calls (h.good.trie.below hb) key u.heap.size 0 _ hk.bytes (by omega) hpos hk.room (fun X hX => Nat.le_trans (h.lens X hX) (by omega))).mono ?_
    rintro e w' ⟨o, rfl, hd, ho⟩
    have : o = M key := by
      apply Option.ext
      intro v
      rw [ho, h.has]
    obtain ⟨n, rfl⟩ := hd
    exact ⟨by rw [this], below_drewN hb n⟩)
  have as0 := assert_none
  have as1 := assert_some
  clear h
  cases hm : M key with
  | none =>
    rw [hm] at HG HM
    go_enter Tryz.func27, Tryz.ntmps27
    go_wp2_with (go_at_call 45; refine (HG.out _ (Below.refl _ _)).mono ?_; rintro e w1 ⟨rfl, hb⟩)
    go_ret2
    exact ⟨rfl, hb⟩
  | some v =>
    rw [hm] at HG HM
    go_enter Tryz.func27, Tryz.ntmps27
    go_wp2_with (first | (go_at_call 45; refine (HG.out _ (Below.refl _ _)).mono ?_; rintro e w1 ⟨rfl, hb⟩; have HB := Lib.hid hb; clear hb) | (go_at_call 46; refine (HM.out _ HB.out).mono ?_; rintro e w2 ⟨rfl, hb⟩))
    go_ret2
    exact ⟨rfl, hb⟩
end
end Go.Proofs.YtpopiaahdanpeaaGreatDoor
