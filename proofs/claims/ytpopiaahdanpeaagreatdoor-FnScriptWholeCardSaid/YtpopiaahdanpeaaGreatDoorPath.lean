/- The walk of findSubtreePath. -/
import Derived.Test.YtpopiaahdanpeaaGreatDoorFind
import Derived.Deep.AppendLies
namespace Go.Proofs.YtpopiaahdanpeaaGreatDoor
open Go Go.RowKit
set_option linter.unusedVariables false

theorem BytesAt.kept {S : Nat → Prop} {w w' : World} {g o : Nat} {l : List UInt8} (h : BytesAt w g o l) (k : Kept S w w') (hs : ¬ S g) : BytesAt w' g o l :=
  fun i hi => k.cell (h i hi) hs
theorem ArrAt.kept {S : Nat → Prop} {w w' : World} {g n : Nat} (h : ArrAt w g n) (k : Kept S w w') (hs : ¬ S g) : ArrAt w' g n := by
  obtain ⟨cur, fr, h1, h2, h3⟩ := h
  refine ⟨cur, fr, k.lt h1 hs, h2, fun i hi => ?_⟩
  rw [World.frozen?_of_block (w := w) (by rw [k.lt h1 hs, h1])]; exact h3 i hi
theorem kids_kept {S : Nat → Prop} {w w' : World} {d : Bool} {lb ab cc : Nat} {K : UInt8 → Option Nat} (h : KidsAt w d lb ab cc K) (k : Kept S w w') (h1 : ¬ S lb) (h2 : ¬ S ab) : KidsAt w' d lb ab cc K := by
  cases d with
  | false =>
    obtain ⟨l, s, r⟩ := h
    obtain ⟨j, a, b⟩ := s.arr
    exact ⟨l, ⟨k.lt s.list h1, ⟨j, k.lt a h2, b⟩, s.small⟩, r⟩
  | true => obtain ⟨mx, T, s, r⟩ := h; exact ⟨mx, T, ⟨k.lt s.list h1, k.lt s.arr h2, s.size, s.top, s.low, s.head, s.cnt⟩, r⟩
theorem NodeAt.kept {S : Nat → Prop} {w w' : World} {t : Nat} {D : Node → Prop} {X : Node} (h : NodeAt w t D X) (k : Kept S w w') (h1 : ¬ S X.blk) (h2 : ¬ S X.lb) (h3 : ¬ S X.ab) (h4 : ¬ S X.g) : NodeAt w' t D X :=
  ⟨k.lt h.node h1, h.bytes.kept k h4, h.arr.kept k h4, h.room, let ⟨K, a, b⟩ := h.kids; ⟨K, kids_kept a k h2 h3, b⟩⟩
theorem kids_lt {w : World} {d : Bool} {lb ab cc : Nat} {K : UInt8 → Option Nat} (h : KidsAt w d lb ab cc K) : lb < w.heap.size ∧ ab < w.heap.size := by
  cases d with
  | false => obtain ⟨l, s, r⟩ := h; obtain ⟨j, a, b⟩ := s.arr; exact ⟨lt_of_block s.list, lt_of_block a⟩
  | true => obtain ⟨mx, T, s, r⟩ := h; exact ⟨lt_of_block s.list, lt_of_block s.arr⟩
theorem NodeAt.lts {w : World} {t : Nat} {D : Node → Prop} {X : Node} (h : NodeAt w t D X) : X.blk < w.heap.size ∧ X.lb < w.heap.size ∧ X.ab < w.heap.size ∧ X.g < w.heap.size := by
  obtain ⟨K, a, b⟩ := h.kids
  obtain ⟨cur, fr, h1, _⟩ := h.arr
  exact ⟨lt_of_block h.node, (kids_lt a).1, (kids_lt a).2, lt_of_block h1⟩
theorem NodeAt.below {w w' : World} {t : Nat} {D : Node → Prop} {X : Node} (h : NodeAt w t D X) (k : Below w.heap.size w w') : NodeAt w' t D X := by
  obtain ⟨a, b, c, d⟩ := h.lts
  exact h.kept (Kept.of_below k) (by omega) (by omega) (by omega) (by omega)
theorem TrieAt.below {w w' : World} {t : Nat} {D : Node → Prop} (h : TrieAt w t D) (k : Below w.heap.size w w') : TrieAt w' t D := ⟨h.wf, fun X hX => (h.at_ X hX).below k⟩
theorem BytesAt.below {w w' : World} {g o : Nat} {l : List UInt8} (h : BytesAt w g o l) (k : Below w.heap.size w w') : BytesAt w' g o l := by
  intro i hi
  have := h i hi
  rw [k.cell (World.block_lt_of_cell? _ _ this)]; exact this

/-- A chain of nodes from the root down. -/
structure Chain (t : Nat) (D : Node → Prop) (l : List Node) : Prop where
  mem : ∀ Y ∈ l, D Y
  head : ∀ Y, l[0]? = some Y → Y.blk = t
  kid : ∀ i Y Z, l[i]? = some Y → l[i + 1]? = some Z → ∃ b, Kid t D Y b Z
theorem Chain.one {t : Nat} {D : Node → Prop} {R : Node} (hR : D R) (hb : R.blk = t) : Chain t D [R] :=
  ⟨fun Y hY => by simp at hY; subst hY; exact hR, fun Y hY => by simp at hY; subst hY; exact hb, fun i Y Z hY hZ => by simp at hZ⟩
theorem Chain.snoc {t : Nat} {D : Node → Prop} {l : List Node} {X V : Node} {b : UInt8} (h : Chain t D (l ++ [X])) (hk : Kid t D X b V) : Chain t D (l ++ [X] ++ [V]) := by
  refine ⟨fun Y hY => ?_, fun Y hY => ?_, fun i Y Z hY hZ => ?_⟩
  · rcases List.mem_append.1 hY with hY | hY
    · exact h.mem Y hY
    · simp at hY; subst hY; exact hk.1
  · rw [List.getElem?_append_left (by simp)] at hY; exact h.head Y hY
  · by_cases hi : i + 1 < (l ++ [X]).length
    · rw [List.getElem?_append_left hi] at hZ
      rw [List.getElem?_append_left (by omega)] at hY
      exact h.kid i Y Z hY hZ
    · have hi2 : i + 1 = (l ++ [X]).length := by
        rcases Nat.lt_or_ge (i + 1) (l ++ [X] ++ [V]).length with h' | h'
        · simp at hi h' ⊢; omega
        · rw [List.getElem?_eq_none h'] at hZ; cases hZ
      have hZ' : Z = V := by
        rw [hi2, List.getElem?_append_right (Nat.le_refl _)] at hZ; simp at hZ; exact hZ.symm
      have hY' : Y = X := by
        have hil : i = l.length := by simp at hi2; exact hi2
        subst hil
        rw [List.getElem?_append_left (by simp), List.getElem?_append_right (Nat.le_refl _)] at hY
        simp at hY; exact hY.symm
      subst hZ'; subst hY'; exact ⟨b, hk⟩

/-- What findSubtreePath gives where the key is a node's word. -/
def PathOf (w : World) (t : Nat) (D : Node → Prop) (key : List UInt8) (e : Ending) (w' : World) : Prop :=
  ∃ v xs X v3, e = .returned (.tuple #[v, .bool true, v3]) ∧ w'.ownsRow w.heap.size 40 1 v (xs.length + 1) ((xs ++ [X]).map fun Y => ptrV Y.blk) ∧ Chain t D (xs ++ [X]) ∧ X.word = key ∧ xs.length ≤ 101 ∧ Below w.heap.size w w'

theorem cell_one_val (w : World) (n : Nat) (v : Value) (t : TypeId) : ∀ j u, [v][j]? = some u → ((w.alloc (.cells #[v] t)).cell? ((⟨w.heap.size, 0, none⟩ : Addr).add j)) = some u := by
  intro j u h
  cases j with
  | zero => simp at h; subst h; simp [Addr.add]
  | succ j => simp at h

theorem Down.exact {t : Nat} {D : Node → Prop} {key rest : List UInt8} {X X0 : Node} (h : WF t D) (hd : Down t D key X rest) (hX0 : D X0) (hw : X0.word = key) (hf : key <+: X.word) : X.word = key := by
  have := hd.ext h hX0 (by rw [hw]; exact List.prefix_rfl)
  rw [hw] at this
  exact (this.eq_of_length (by have := this.length_le; have := hf.length_le; omega))

set_option maxRecDepth 100000 in
set_option maxHeartbeats 2000000 in
theorem findSubtreePath_calls {w : World} {t : Nat} {D : Node → Prop} (h : TrieAt w t D) (key : List UInt8) (kg ko kc : Nat) (hk : BytesAt w kg ko key) (hkl : key.length ≤ 100) (hkc : key.length ≤ kc) (hlen : ∀ X, D X → X.word.length ≤ 100)
    {X0 : Node} (hX0 : D X0) (hX0w : X0.word = key) :
    Calls Tryz.prog 41 #[ptrV t, .slice (some ⟨kg, ko, none⟩) key.length kc] w (PathOf w t D key) := by
  obtain ⟨R, hR, hRt, hRl⟩ := h.wf.root
  have hm := meth_next
  have hn := nil_next
  have hcn := call_next
  obtain ⟨i0, hi, hz0, hz1, hz2⟩ := info_parts info40
  have H := Lib.hid (And.intro h hlen); clear h hlen
  have HK := Lib.hid hk; clear hk
  have HX0 := Lib.hid (And.intro hX0 hX0w); clear hX0 hX0w
  go_enter Tryz.func41, Tryz.ntmps41
  go_wp2
  go_loopg [1, 4, 5, 6, 7, 8, 9, 10] (2 * key.length + 1) (fun k v1 v4 v5 v6 v7 v8 _ _ wr => ∃ (X : Node) (rest : List UInt8) (o c : Nat) (xs : List Node), v1 = .slice (some ⟨kg, o, none⟩) rest.length c ∧ v7 = ptrV X.blk ∧
    rest.length ≤ c ∧ rest.length ≤ 100 ∧ 2 * rest.length + (if X.blk = t then 1 else 0) ≤ k ∧ xs.length + rest.length + (if X.blk = t then 1 else 0) ≤ 101 ∧ w.heap.size ≤ wr.heap.size ∧
    Hid (BytesAt w kg o rest ∧ Down t D key X rest ∧ Chain t D (xs ++ [X]) ∧ wr.ownsRow w.heap.size 40 1 v8 xs.length (xs.map fun Y => ptrV Y.blk) ∧ Below w.heap.size w wr))
  case atStart => exact ⟨R, key, ko, kc, [], rfl, by rw [hRt], hkc, hkl, by rw [if_pos hRt]; omega, by rw [if_pos hRt]; simp; omega, Nat.le_refl _, Lib.hid ⟨HK.out, Down.start H.out.1.wf hR hRt key, Chain.one hR hRt, World.ownsRow_nil _ _ _ _, Below.refl _ _⟩⟩
  case round =>
    obtain ⟨X, rest, o, c, xs, rfl, rfl, h1, h2, h3, h4, hsz, HD⟩ := hrel
    have hNw := H.out.1.at_ X HD.out.2.1.mem
    have hpl := H.out.1.wf.plen_le HD.out.2.1.mem
    have hprel := X.pre_len hpl
    have hwl := H.out.2 X HD.out.2.1.mem
    have hroom := hNw.room
    have hLl := lcp_le_left rest X.pre
    have hLr := lcp_le_right rest X.pre
    rw [hprel] at hLr
    have HL : Hid (∀ u, Below w.heap.size w u → Calls Tryz.prog 54 #[ptrV X.blk, .slice (some ⟨kg, o, none⟩) rest.length c] u fun e w' => e = .returned (.int .i64 (lcp rest X.pre)) ∧ ∃ n, w' = u.drewN n) := fun u hu =>
      lcp_calls u X.blk X.g X.off X.cap kg o c rest X.pre (by omega) (by omega) (by rw [hprel]; exact (hNw.below hu).c0) (hNw.below hu).bytes (HD.out.1.below hu)
    obtain ⟨o1, hs1, hb1, _⟩ := slice_tail rest HD.out.1 (lcp rest X.pre) hLl h1
    obtain ⟨o2, hs2, hb2, _⟩ := slice_tail X.pre hNw.bytes (lcp rest X.pre) (lcp_le_right rest X.pre) (by rw [hprel]; exact hroom)
    rw [hprel] at hs2
    have HB := Lib.hid hb1
    clear hb1 hb2
    have HN := Lib.hid hNw; clear hNw
    have HP := Lib.hid hprel; clear hprel
    obtain ⟨L, hL⟩ : ∃ L, lcp rest X.pre = L := ⟨_, rfl⟩
    rw [hL] at hLl hLr hs1 hs2 HL HB
    have HL0 := Lib.hid hL; clear hL
    have hxl : xs.length ≤ 101 := by omega
    go_upto_region 4 with (
      at_builtin
      with_reducible refine wpList_append_lies _ rfl (.tmp 12) (.tmp 14) 77 rfl w.heap.size 40 i0 (.pointer none) 1 8 Tryz.underlying77 hi hz0 hz1 hz2 rfl (by decide) _ xs.length _ ?c1 (HD.out.2.2.2.1.alloc _) ⟨wr.heap.size, 0, none⟩ 1 1 [ptrV X.blk] ?c2 rfl ?c3 ?c4 (by decide) (by unfold maxLen; omega) (by omega) ?c5 _ rfl ?_
      go_must (
        case c1 => rfl
        case c2 => rfl
        case c3 => exact cell_one_val _ 0 _ _
        case c4 => intro u hu; simp at hu; subst hu; rfl
        case c5 => simp; omega
        intro g cap w1 hown hgrow hat hlt))
    have hB1 : Below w.heap.size w w1 := (HD.out.2.2.2.2.alloc hsz _).grown hgrow (by simp; omega) (fun k hk => (HD.out.2.2.2.1.lt k hk).1)
    have hsz1 : w.heap.size ≤ w1.heap.size := hB1.size
    have hN1 := HN.out.below hB1
    have c0 := hN1.c0
    have c4 := hN1.c4
    have HW := Lib.hid (And.intro hown (And.intro hB1 hN1))
    clear hown hgrow hat hlt hB1 hN1
    have hlen2 : (rest.drop L).length = rest.length - L := by simp
    by_cases hf : L = rest.length
    · have hz : (((rest.length - L : Nat) : Int) == 0) = true := by simp; omega
      have HF := Lib.hid hf; clear hf hlen2
      go_wp2_with (go_at_call 54; refine (HL.out _ HW.out.2.1).mono ?_; rintro e w' ⟨rfl, n, rfl⟩)
      all_goals
        go_ret3
        exact ⟨_, xs, X, _, rfl, by rw [List.map_append]; exact HW.out.1, HD.out.2.2.1, HD.out.2.1.exact H.out.1.wf HX0.out.1 HX0.out.2 (HD.out.2.1.found (by rw [HL0.out, HF.out])), hxl, ⟨HW.out.2.1.os, HW.out.2.1.tape, HW.out.2.1.output, HW.out.2.1.size, HW.out.2.1.block⟩⟩
    · have hz : (((rest.length - L : Nat) : Int) == 0) = false := by simp; omega
      have hX0 : ∃ Y, D Y ∧ key <+: Y.word := ⟨X0, HX0.out.1, by rw [HX0.out.2]; exact List.prefix_rfl⟩
      by_cases hp : L < X.plen
      · exact (HD.out.2.1.parts H.out.1.wf (by rw [HL0.out]; omega) (by rw [HL0.out, HP.out]; exact hp) hX0).elim
      · obtain rfl : X.plen = L := by omega
        obtain ⟨K, hK, hKiff⟩ := HW.out.2.2.kids
        have hfb := (H.out.1.below HW.out.2.1).kidfb hKiff
        obtain ⟨b, hbd⟩ : ∃ b, (rest.drop X.plen)[0]? = some b := ⟨(rest.drop X.plen)[0]'(by simp; omega), by rw [List.getElem?_eq_getElem]⟩
        have hb1 : w1.cell? ⟨kg, o1, none⟩ = some (.int .u8 b.toNat) := by
          have h0 : 0 < (rest.drop X.plen).length := by simp; omega
          have := HB.out.below HW.out.2.1 0 h0
          rw [List.getElem?_eq_getElem h0] at hbd
          cases hbd
          simpa using this
        have hi0 : (0 : Int) < ((rest.length - X.plen : Nat) : Int) := by omega
        have hi1 : 0 < rest.length - X.plen := by omega
        have HX := Lib.hid (fun m => kids_next (w := w1.drewN m) (d := X.d) (lb := X.lb) (ab := X.ab) (cc := X.cc) (K := K) (kids_drewN hK m) (fun y c hy => (hfb y c hy)) b)
        cases hKb : K b with
        | none =>
          exact (HD.out.2.1.ends H.out.1.wf (by rw [HL0.out, HP.out]) (by rw [HP.out]; exact hbd) (by rintro ⟨V, hV⟩; have := (hKiff b V.blk).2 ⟨V, hV, rfl⟩; rw [hKb] at this; cases this) hX0).elim
        | some cb =>
          rw [hKb] at HX; simp only [optV] at HX
          obtain ⟨V, hV, rfl⟩ := (hKiff b cb).1 hKb
          have hpos : 2 * (rest.length - X.plen) < gk ∧ xs.length + 1 + (rest.length - X.plen) ≤ 101 := by
            by_cases hXt : X.blk = t
            · rw [if_pos hXt] at h3 h4; omega
            · have := (H.out.1.wf.up X HD.out.2.1.mem hXt).1; rw [if_neg hXt] at h3 h4; omega
          have HR : Hid (BytesAt w kg o1 (rest.drop X.plen) ∧ Down t D key V (rest.drop X.plen) ∧ Chain t D (xs ++ [X] ++ [V])) :=
            Lib.hid ⟨HB.out, by have := HD.out.2.1.next (by rw [HL0.out, HP.out]) (b := b) (by rw [HP.out]; exact hbd) hV; rw [HP.out] at this; exact this, HD.out.2.2.1.snoc hV⟩
          have hVt := hV.2.1
          clear hKiff hfb hK hKb hbd hV hX0
          go_wp2_with (go_at_call 54; refine (HL.out _ HW.out.2.1).mono ?_; rintro e w' ⟨rfl, n, rfl⟩)
          go_quiet (((with_reducible refine (HX.out _).mono ?_); rintro e w' ⟨rfl, m', rfl⟩; exact ⟨rfl, _, by rw [World.drewN_drewN, Nat.add_assoc]⟩))
          go_wp2
          go_roundg (2 * (rest.length - X.plen))
          case measure => exact hpos.1
          case rel => exact ⟨V, rest.drop X.plen, o1, c - X.plen, xs ++ [X], by rw [hlen2], rfl, by omega, by omega, by rw [if_neg hVt]; omega, by rw [if_neg hVt]; simp; omega, hsz1, Lib.hid ⟨HR.out.1, HR.out.2.1, HR.out.2.2, by rw [List.map_append, List.length_append]; exact HW.out.1, ⟨HW.out.2.1.os, HW.out.2.1.tape, HW.out.2.1.output, HW.out.2.1.size, HW.out.2.1.block⟩⟩⟩
end Go.Proofs.YtpopiaahdanpeaaGreatDoor
