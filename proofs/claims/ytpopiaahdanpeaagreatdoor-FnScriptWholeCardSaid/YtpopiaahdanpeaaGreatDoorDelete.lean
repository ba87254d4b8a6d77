/- The walk of Delete. -/
import Derived.Test.YtpopiaahdanpeaaGreatDoorDelMem
import Derived.Deep.DeepCutAuto
import Derived.Laws.OwnMore
import Derived.Lib.Builder
namespace Go.Proofs.YtpopiaahdanpeaaGreatDoor
open Go Go.RowKit
set_option linter.unusedVariables false

theorem wp_scope_fwd1 {P : Program} {Q : Exit → Act → World → Prop} {c r0 : Code} {a : Act} {w : World} (h0 : findLabel c 0 = some r0)
    (h : ∀ J0 : Act → World → Prop, (∀ a w, r0.wp P (fwd noWay noWay noWay Q) a w → J0 a w) → c.wp P (fwd J0 noWay noWay Q) a w) : (Code.scope c).wp P Q a w := by
  have hI : InScope P c Q c a w := by
    refine inScope_of (J := fun _ _ _ => True) (h (InScope P c Q r0) ?_) ?_ fwd_other
    · intro a w hw
      refine inScope_of (J := fun _ _ _ => True) hw ?_ fwd_other
      intro l a w hl
      rcases l with _ | _ | _ | l <;> exact hl.elim
    · intro l a w hl
      rcases l with _ | _ | _ | l
      · exact ⟨r0, h0, hl⟩
      · exact hl.elim
      · exact hl.elim
      · exact hl.elim
  intro b k cs
  obtain ⟨e, a', w', hq, harr⟩ := hI b k cs
  exact ⟨e, a', w', hq, .of_steps (.one step_scope) harr⟩

section
variable {w w1 w' : World} {t : Nat} {D : Node → Prop} {key : List UInt8}

/-- The path in memory. -/
structure PathAt (w : World) (t : Nat) (D : Node → Prop) (g m : Nat) (l : List Node) : Prop where
  chain : Chain t D l
  len : l.length = m + 2
  cell : ∀ i Y, l[i]? = some Y → w.cell? ⟨g, i, none⟩ = some (ptrV Y.blk)
  block : ∃ cur, w.heap[g]? = some (.cells cur 40 (0, 0))

theorem path_at (h : Good5 w t D) (hne : key ≠ []) {e : Ending} (hp : PathOf w t D key e w1) : ∃ l X m g cap v3, e = .returned (.tuple #[.slice (some ⟨g, 0, none⟩) (m + 2 : Nat) cap, .bool true, v3]) ∧ PathAt w1 t D g m l ∧ l[m + 1]? = some X ∧ X.word = key ∧
    m ≤ 100 ∧ m + 2 ≤ cap ∧ w.heap.size ≤ g ∧ Below w.heap.size w w1 := by
  obtain ⟨v, xs, X, v3, rfl, hr, hc, hX, hl, hb⟩ := hp
  have hx0 : xs ≠ [] := by
    rintro rfl
    have := hc.head X rfl
    have h2 := (h.top X (hc.mem X (by simp)) this).1
    exact hne (by rw [← hX, h2])
  obtain ⟨m, hm⟩ : ∃ m, xs.length = m + 1 := ⟨xs.length - 1, by have := List.length_pos_iff.2 hx0; omega⟩
  rcases hr.2 with ⟨_, h0⟩ | ⟨g, cap, cur, rfl, hg1, hg2, hg3, hg4, hg5, hg6⟩
  · omega
  · have hr' := hr
    refine ⟨xs ++ [X], X, m, g, cap, v3, by rw [hm], ⟨hc, by simp [hm], fun i Y hY => ?_, cur, hg2⟩, by rw [← hm]; simp, hX, by omega, by omega, hg1, hb⟩
    have hi : i < (xs ++ [X]).length := by
      rcases Nat.lt_or_ge i (xs ++ [X]).length with h' | h'
      · exact h'
      · rw [List.getElem?_eq_none h'] at hY; cases hY
    rw [hr'.cellAt i (by simpa using hi), List.getElem?_map, hY]; rfl

theorem Chain.lt {l : List Node} (hc : Chain t D l) (hw : WF t D) : ∀ k i Y Z, l[i]? = some Y → l[i + k + 1]? = some Z → Y.word.length < Z.word.length := by
  have one : ∀ i Y Z, l[i]? = some Y → l[i + 1]? = some Z → Y.word.length < Z.word.length := by
    intro i Y Z hY hZ
    obtain ⟨b, hk⟩ := hc.kid i Y Z hY hZ
    obtain ⟨u1, u2, _⟩ := hw.up Z hk.1 hk.2.1
    have := congrArg List.length hk.2.2.1
    rw [Node.par_len] at this; omega
  intro k
  induction k with
  | zero => intro i Y Z hY hZ; exact one i Y Z hY hZ
  | succ k ih =>
    intro i Y Z hY hZ
    have hlt : i + k + 1 < l.length := by
      rcases Nat.lt_or_ge (i + (k + 1) + 1) l.length with h' | h'
      · omega
      · rw [List.getElem?_eq_none h'] at hZ; cases hZ
    have h1 := ih i Y l[i + k + 1] hY (List.getElem?_eq_getElem hlt)
    have h2 := one (i + k + 1) l[i + k + 1] Z (List.getElem?_eq_getElem hlt) (by rw [show i + k + 1 + 1 = i + (k + 1) + 1 by omega]; exact hZ)
    omega

theorem path_clear {l : List Node} {X : Node} {g m : Nat} (h : Good5 w t D) (hp : PathAt w t D g m l) (hX : l[m + 1]? = some X) (hnA : X.word ≠ [65]) (hnZ : X.word ≠ [90]) (e1 : w1 = w.setCell ⟨X.blk, 1, none⟩ .nilIface) :
    ∃ D1 l1 X1, Next w w1 t D D1 (fun k v => k ≠ X.word ∧ Has D k v) ∧ Good5 w1 t D1 ∧ PathAt w1 t D1 g m l1 ∧ l1[m + 1]? = some X1 ∧ X1.item = none ∧ X1.blk = X.blk ∧ X1.word = X.word ∧ (∀ i, i ≤ m → l1[i]? = l[i]?) := by
  have hXm := hp.chain.mem X (List.mem_of_getElem? hX)
  have hn := clear_next h.trie h.low h.top hXm
  rw [← e1] at hn
  have hlen := hp.len
  have hlt : ∀ i Y, l[i]? = some Y → i ≤ m → Y.word.length < X.word.length := by
    intro i Y hY hi
    refine hp.chain.lt h.trie.wf (m - i) i Y X hY ?_
    rw [show i + (m - i) + 1 = m + 1 by omega]; exact hX
  have hget : ∀ i, i ≤ m → (l.take (m + 1) ++ [{ X with item := none }])[i]? = l[i]? := by
    intro i hi
    rw [List.getElem?_append_left (by simp; omega), List.getElem?_take_of_lt (by omega)]
  have hlast : (l.take (m + 1) ++ [{ X with item := none }])[m + 1]? = some { X with item := none } := by
    rw [List.getElem?_append_right (by simp; omega)]
    simp [hlen]
  have hl1 : (l.take (m + 1) ++ [{ X with item := none }]).length = m + 2 := by simp [hlen]
  have hcase : ∀ i Y, (l.take (m + 1) ++ [{ X with item := none }])[i]? = some Y → (i ≤ m ∧ l[i]? = some Y) ∨ (i = m + 1 ∧ Y = { X with item := none }) := by
    intro i Y hY
    rcases Nat.lt_or_ge i (m + 1) with hi | hi
    · exact .inl ⟨by omega, by rw [← hget i (by omega)]; exact hY⟩
    · have : i < m + 2 := by
        rcases Nat.lt_or_ge i (m + 2) with h' | h'
        · exact h'
        · rw [List.getElem?_eq_none (by omega)] at hY; cases hY
      obtain rfl : i = m + 1 := by omega
      rw [hlast] at hY; injection hY with hY; exact .inr ⟨rfl, hY.symm⟩
  refine ⟨_, l.take (m + 1) ++ [{ X with item := none }], { X with item := none }, hn, ?_, ⟨⟨fun Y hY => ?_, fun Y hY => ?_, fun i Y Z hY hZ => ?_⟩, hl1, fun i Y hY => ?_, ?_⟩, hlast, rfl, rfl, rfl, hget⟩
  · obtain ⟨va, ha⟩ := h.a
    obtain ⟨vz, hz⟩ := h.z
    exact hn.good5 ⟨va, Ne.symm hnA, ha⟩ ⟨vz, Ne.symm hnZ, hz⟩
  · obtain ⟨i, hi, hY'⟩ := List.mem_iff_getElem.1 hY
    rcases hcase i Y (by rw [List.getElem?_eq_getElem hi, hY']) with ⟨hi, hY3⟩ | ⟨_, rfl⟩
    · refine .inl ⟨hp.chain.mem Y (List.mem_of_getElem? hY3), fun e => ?_⟩
      have := hlt i Y hY3 hi
      rw [e] at this; omega
    · exact .inr rfl
  · rcases hcase 0 Y hY with ⟨_, hY⟩ | ⟨h0, _⟩
    · exact hp.chain.head Y hY
    · omega
  · rcases hcase i Y hY with ⟨hi, hY⟩ | ⟨hi, rfl⟩
    · rcases hcase (i + 1) Z hZ with ⟨hi2, hZ3⟩ | ⟨hi2, rfl⟩
      · obtain ⟨b, hk⟩ := hp.chain.kid i Y Z hY hZ3
        refine ⟨b, .inl ⟨hk.1, fun e => ?_⟩, hk.2⟩
        have := hlt (i + 1) Z hZ3 hi2
        rw [e] at this; omega
      · obtain ⟨b, hk⟩ := hp.chain.kid i Y X hY (by rw [hi2]; exact hX)
        exact ⟨b, .inr rfl, hk.2⟩
    · rcases hcase (i + 1) Z hZ with ⟨hi2, _⟩ | ⟨hi2, _⟩ <;> omega
  · have hc : ∀ Z : Node, l[i]? = some Z → w1.cell? ⟨g, i, none⟩ = some (ptrV Z.blk) := by
      intro Z hZ
      rw [e1]
      refine cSeB (hp.cell i Z hZ) ?_
      obtain ⟨cur, hg⟩ := hp.block
      intro e
      have := (h.trie.at_ X hXm).node
      rw [e, hg] at this; simp at this
    rcases hcase i Y hY with ⟨_, hY⟩ | ⟨rfl, rfl⟩
    · exact hc Y hY
    · exact hc X hX
  · obtain ⟨cur, hg⟩ := hp.block
    refine ⟨cur, ?_⟩
    rw [e1]
    refine hSe hg ?_
    intro e
    have e : g = X.blk := e
    have := (h.trie.at_ X hXm).node
    rw [← e, hg] at this; simp at this

theorem Next.of_below {D' : Node → Prop} {H : List UInt8 → Int → Prop} (hb : Below w.heap.size w w1) (a : Next w1 w' t D D' H) : Next w w' t D D' H := by
  have hs := hb.size
  refine ⟨a.trie, a.low, a.top, a.has, ((Kept.of_below hb).mono fun k hk h => by omega).trans a.kept, fun Y hY k hk => ?_⟩
  rcases a.blocks Y hY k hk with h | h
  · exact .inl h
  · exact .inr (by omega)
theorem del_fin {w2 : World} {D1 D' : Node → Prop} {X : Node} (hb : Below w.heap.size w w1) (hn1 : Next w1 w2 t D D1 (fun k v => k ≠ X.word ∧ Has D k v)) (hX : X.word = key) (a : Next w2 w' t D1 D' (Has D1)) :
    ∃ D', Next w w' t D D' (fun k v => k ≠ key ∧ Has D k v) :=
  ⟨D', Next.of_below hb ((hn1.trans a).to fun k v => by rw [hn1.has, hX])⟩

theorem tail_compact {n P : Node} (h : Good5 w t D) (hn : D n) (hpar : n.blk ≠ t → D P ∧ P.word = n.par) : Calls Tryz.prog 43 #[ptrV n.blk] w fun e w1 => (e = .returned (ptrV n.blk) ∧ Drawn w w1) ∨
    (n.blk ≠ t ∧ ∃ D' C b, e = .returned (ptrV C.blk) ∧ C.blk ≠ n.blk ∧ Hid (Comp w w1 t D D' P n C b) ∧ w1.cell? ⟨n.blk, 0, none⟩ = some (.slice (some ⟨n.g, n.off, none⟩) n.plen n.cap) ∧ w1.cell? ⟨n.g, n.off, none⟩ = some (.int .u8 b.toNat) ∧
      w1.cell? ⟨P.blk, 4, none⟩ = some (.iface (tyOf P.d) (ptrV P.lb)) ∧ (∃ cur, w1.heap[n.blk]? = some (.cells cur 73 (0, 0))) ∧ ∃ cur, w1.heap[C.blk]? = some (.cells cur 73 (0, 0))) := by
  refine (compact_any h hn).mono ?_
  rintro e w1 ⟨hc, hr⟩
  by_cases hb : n.blk = t
  · exact .inl (hr hb)
  · obtain ⟨hP, hPw⟩ := hpar hb
    rcases comp_two h.trie.wf (fun Y hY _ => h.trie.at_ Y hY) hP hn hPw hb (h.trie.at_ P hP).raw hc with h1 | ⟨D', C, b, h1, h2, h3, h4, h5⟩
    · exact .inl h1
    · exact .inr ⟨hb, D', C, b, h1, h3, Lib.hid h2, cell_of_heap h4 0, h5, cell_of_heap h2.raw.node 4, ⟨_, h4⟩, _, (h2.all C h2.child.1 h2.ne).node⟩

theorem under40 : Tryz.prog.underlying 40 = some (.pointer 73) := by kernel_rfl
theorem info73m : (Tryz.prog.info? 73).map (fun i => i.size) = some 5 := by kernel_rfl
theorem info73 : ∃ j, Tryz.prog.info? 73 = some j ∧ j.size ≠ 0 := by
  cases h : Tryz.prog.info? 73 with
  | none => have := info73m; rw [h] at this; cases this
  | some j =>
    have := info73m; rw [h] at this
    simp only [Option.map_some, Option.some.injEq] at this
    exact ⟨j, rfl, by omega⟩
theorem ptr_neq_same (a : Nat) (w : World) : (binOp .neq 40 (ptrV a) (ptrV a)).run Tryz.prog w = .ok (.bool false) w := by
  obtain ⟨j, hj, _⟩ := info73
  exact Lib.run_neq_ptr_same w ⟨a, 0, none⟩ under40 hj
theorem ptr_neq_other {a b : Nat} {w : World} {ca cb : Array Value} (hne : a ≠ b) (ha : w.heap[a]? = some (.cells ca 73 (0, 0))) (hb : w.heap[b]? = some (.cells cb 73 (0, 0))) : (binOp .neq 40 (ptrV a) (ptrV b)).run Tryz.prog w = .ok (.bool true) w := by
  obtain ⟨j, hj, hsz⟩ := info73
  have hn : (⟨a, 0, none⟩ : Addr) ≠ ⟨b, 0, none⟩ := fun e => hne (by injection e)
  have h : ∀ d : Nat, (Op.equalIn (d + 1) 40 (.pointer (some ⟨a, 0, none⟩)) (.pointer (some ⟨b, 0, none⟩))).run Tryz.prog w = .ok false w := fun d => by
    simp [Op.equalIn, run_underlying under40, sizeOf, typeInfo, hj, hsz, run_sameAddr_other w hn ha hb]
  unfold ptrV
  simp only [binOp]
  simp [Op.equal, Op.maxDepth, h 9999]
theorem drawn_drew (w : World) : Drawn w w.drew := ⟨1, rfl⟩
theorem Comp.drawn {u : World} {D' : Node → Prop} {m n C : Node} {b : UInt8} (c : Comp w w1 t D D' m n C b) (hd : Drawn w1 u) : Comp w u t D D' m n C b :=
  ⟨c.wf, fun Y hY hne => (c.all Y hY hne).same hd.heap, c.mem, c.raw.same hd.heap, c.ne, c.hb, c.child, fun K hK => hd.kids (c.kids K hK), c.kid,
    let ⟨g, o, n, cp, f1, f2⟩ := c.fb; ⟨g, o, n, cp, hd.cell f1, hd.cell f2⟩, c.has, c.kept.trans (hd.kept _), c.blocks, c.src⟩
theorem meth_replace (d : Bool) (a : Addr) (w : World) : (method 277 (tyOf d) (.pointer (some a)) "loop.example/pub-triescripts/pub/patricia.replace").run Tryz.prog w = .ok (replaceFn d, .pointer (some a)) w := by
  cases d <;> kernel_rfl
theorem nil_replace (d : Bool) (a : Addr) (w : World) : (nilAhead 277 (tyOf d) (.pointer (some a)) "loop.example/pub-triescripts/pub/patricia.replace").run Tryz.prog w = .ok (some false) w := by
  cases d <;> kernel_rfl
theorem call_replace (d : Bool) (args : Array Value) (w : World) : (callFunc (replaceFn d) args).run Tryz.prog w = .ok (.enter (replaceFn d) args) w := by
  cases d <;> kernel_rfl

theorem kids_fun {Y : Node} {K K2 : UInt8 → Option Nat} (hK : ∀ b c, K b = some c ↔ ∃ V, Kid t D Y b V ∧ V.blk = c) (hK2 : ∀ b c, K2 b = some c ↔ ∃ V, Kid t D Y b V ∧ V.blk = c) : K = K2 := by
  funext b
  cases h : K b with
  | some c => exact ((hK2 b c).2 ((hK b c).1 h)).symm
  | none =>
    cases h2 : K2 b with
    | none => rfl
    | some c => have := (hK b c).2 ((hK2 b c).1 h2); rw [h] at this; cases this

theorem int_pred {i : Nat} (h : 0 < i) : ((i : Int) - 1) = ((i - 1 : Nat) : Int) := by omega
theorem inv_down {l : List Node} {Y : Node} {m i : Nat} (hlY : l[i]? = some Y) (h0 : 0 < i) (h : ∀ Z, D Z → Y.word <+: Z.word → Z.item = none) : i - 1 ≤ m → ∃ Y', l[i - 1 + 1]? = some Y' ∧ ∀ Z, D Z → Y'.word <+: Z.word → Z.item = none :=
  fun _ => ⟨Y, by rw [Nat.sub_add_cancel h0]; exact hlY, h⟩
theorem not_minus (i : Nat) : ((i : Int) == -1) = false := by
  cases hh : ((i : Int) == -1) with
  | false => rfl
  | true => have := eq_of_beq hh; omega
theorem is_zero {i : Nat} (h : i = 0) : ((i : Int) == 0) = true := by subst h; rfl
theorem not_zero {i : Nat} (h : 0 < i) : ((i : Int) == 0) = false := by
  cases hh : ((i : Int) == 0) with
  | false => rfl
  | true => have := eq_of_beq hh; omega

/-- The parent's value in the path. -/
theorem path_par {l : List Node} {Y : Node} {g m i : Nat} (hw : WF t D) (hp : PathAt w t D g m l) (hY : l[i]? = some Y) (hi : i ≤ m) :
    ∃ PV Q, (i = 0 → PV = .pointer none ∧ Y.blk = t) ∧ (0 < i → w.cell? ⟨g, i - 1, none⟩ = some PV ∧ PV = ptrV Q.blk ∧ Y.blk ≠ t) ∧ (Y.blk ≠ t → D Q ∧ Q.word = Y.par ∧ PV = ptrV Q.blk) := by
  rcases Nat.eq_zero_or_pos i with rfl | h0
  · have := hp.chain.head Y hY
    exact ⟨.pointer none, Y, fun _ => ⟨rfl, this⟩, fun h => absurd h (Nat.lt_irrefl 0), fun h => absurd this h⟩
  · have hlt : i - 1 < l.length := by rw [hp.len]; omega
    have hQ : l[i - 1]? = some l[i - 1] := List.getElem?_eq_getElem hlt
    obtain ⟨b, hk⟩ := hp.chain.kid (i - 1) l[i - 1] Y hQ (by rw [Nat.sub_add_cancel h0]; exact hY)
    exact ⟨ptrV l[i - 1].blk, l[i - 1], fun h => by omega, fun _ => ⟨hp.cell _ _ hQ, rfl, hk.2.1⟩, fun _ => ⟨hp.chain.mem _ (List.mem_of_getElem? hQ), hk.2.2.1.symm, rfl⟩⟩

theorem remove_step {l : List Node} {Y Z : Node} {g m i : Nat} {b : UInt8} (h : Good5 w t D) (hp : PathAt w t D g m l) (hY : l[i]? = some Y) (hZ : l[i + 1]? = some Z) (hclean : ∀ U, D U → Z.word <+: U.word → U.item = none) (hb : Z.pre[0]? = some b)
    {u : World} (hu : Drawn w u) : Calls Tryz.prog (removeFn Y.d) #[ptrV Y.lb, .int .u8 b.toNat] u fun e w' => e = .returned (.tuple #[]) ∧ ∃ D3 Y3, Next w w' t D D3 (Has D) ∧ D3 Y3 ∧ Y3.blk = Y.blk ∧ Y3.par = Y.par ∧ ∀ Q, D Q → Q.word = Y.par → Y.blk ≠ t → D3 Q := by
  have hw := h.trie.wf
  have hYm := hp.chain.mem Y (List.mem_of_getElem? hY)
  obtain ⟨b', hk⟩ := hp.chain.kid i Y Z hY hZ
  obtain rfl : b' = b := by have := hk.2.2.2; rw [hb] at this; injection this with this; exact this.symm
  obtain ⟨z1, z2, _⟩ := hw.up Z hk.1 hk.2.1
  obtain ⟨K, hK, hKi⟩ := (h.trie.at_ Y hYm).kids
  have hKb : K b' ≠ none := by rw [(hKi b' Z.blk).2 ⟨Z, hk, rfl⟩]; simp
  have hbig : Y.d = true → 65 < b'.toNat := by
    intro hd
    have hYt := h.thin Y hYm hd
    have hzw := kid_word hw hk
    rw [(h.top Y hYm hYt).1] at hzw
    obtain ⟨f1, f2, _⟩ := (h.low.good Z hk.1).first hzw
    rcases Nat.lt_or_ge 65 b'.toNat with h' | h'
    · exact h'
    · exfalso
      have e65 : b' = 65 := UInt8.toNat_inj.1 (by show b'.toNat = 65; omega)
      have hz := f2 e65
      obtain ⟨v, A, hA, e1, e2⟩ := h.a
      have := hclean A hA (by rw [hz, e1]; exact List.prefix_rfl)
      rw [this] at e2; cases e2
  refine (kids_remove (hu.kids hK) (fun y c hy => let ⟨g, o, n, cp, f1, f2⟩ := h.trie.kidfb hKi y c hy; ⟨g, o, n, cp, hu.cell f1, hu.cell f2⟩) b' hKb hbig).mono ?_
  rintro e w' ⟨rfl, ab', q1, q2, q3⟩
  have c := cut_out h.trie h.low h.top hk.1 hk.2.1 hYm hk.2.2.1.symm hb hKi q1 ((hu.kept _).trans q2) (by rw [← hu.heap]; exact q3)
  refine ⟨rfl, _, relist Y Y.d Y.lb ab', c.next.to (fun k v => ?_), .inr rfl, rfl, rfl, fun Q hQ hQw hYt => ?_⟩
  · constructor
    · exact fun h => h.1
    · rintro ⟨U, hU, e1, e2⟩
      refine ⟨⟨U, hU, e1, e2⟩, fun hp => ?_⟩
      have := hclean U hU (by rw [e1]; exact hp)
      rw [this] at e2; cases e2
  · obtain ⟨y1, y2, _⟩ := hw.up Y hYm hYt
    have hzl : Z.word.length = Y.word.length + Z.plen := by
      have := congrArg List.length hk.2.2.1; rw [Z.par_len] at this; omega
    have hql : Q.word.length = Y.word.length - Y.plen := by rw [hQw, Y.par_len]
    refine .inl ⟨⟨hQ, fun hp => ?_⟩, fun e => ?_⟩
    · have := hp.length_le; omega
    · rw [e] at hql; omega

theorem idx_wrap {i m : Nat} (h : i ≤ m) (hm : m ≤ 100) : IntKind.i64.wrap ((i : Int) + 1) = (i : Int) + 1 := IntWalk.i64_in _ (by omega)
theorem idx_lt {i m : Nat} (h : i ≤ m) : (i : Int) + 1 < (m : Int) + 2 := by omega
theorem idx_lt' {i m : Nat} (h : i ≤ m) : i + 1 < m + 2 := by omega
theorem idx_nat (i : Nat) : ((i : Int) + 1).toNat = i + 1 := by omega
theorem idx_ge (i : Nat) : (0 : Int) ≤ (i : Int) + 1 := by omega
theorem stop_eq (n : Nat) : Value.bool (decide ((2 : Int) ≤ (n : Int))) = Value.bool ((none : Option Int).isSome || decide (2 ≤ n)) := by
  congr 1
  rw [show (none : Option Int).isSome = false from rfl, Bool.false_or]
  exact decide_eq_decide.2 (by omega)

theorem path_stop {l : List Node} {X Y : Node} {m i : Nat} {K K2 : UInt8 → Option Nat} (hlX : l[m + 1]? = some X) (hXi : X.item = none) (hK : ∀ b c, K b = some c ↔ ∃ V, Kid t D X b V ∧ V.blk = c) (hc : cnt K = 0)
    (hlY : l[i]? = some Y) (hK2 : ∀ b c, K2 b = some c ↔ ∃ V, Kid t D Y b V ∧ V.blk = c) (hi : i ≤ m + 1) (hs : (Y.item.isSome || decide (2 ≤ cnt K2)) = true) : i ≤ m := by
  rcases Nat.lt_or_ge i (m + 1) with h | h
  · omega
  · obtain rfl : i = m + 1 := by omega
    rw [hlX] at hlY; injection hlY with e; subst e
    have h0 : cnt K2 = 0 := by rw [← kids_fun hK hK2, hc]
    rcases Bool.or_eq_true_iff.1 hs with h | h
    · rw [hXi] at h; cases h
    · have := of_decide_eq_true h; omega

theorem last_zero {l : List Node} {X Y : Node} {m i : Nat} {K K2 : UInt8 → Option Nat} (hlX : l[m + 1]? = some X) (hK : ∀ b c, K b = some c ↔ ∃ V, Kid t D X b V ∧ V.blk = c) (hc : cnt K = 0)
    (hlY : l[i]? = some Y) (hK2 : ∀ b c, K2 b = some c ↔ ∃ V, Kid t D Y b V ∧ V.blk = c) : i = m + 1 → cnt K2 = 0 := by
  intro hi
  rw [hi, hlX] at hlY
  have e := Option.some.inj hlY
  rw [e] at hK
  have e2 := kids_fun hK hK2
  exact e2 ▸ hc

theorem path_go {l : List Node} {Y : Node} {g m i : Nat} {K2 : UInt8 → Option Nat} (h : Good5 w t D) (hp : PathAt w t D g m l) (hlY : l[i]? = some Y) (hK2 : ∀ b c, K2 b = some c ↔ ∃ V, Kid t D Y b V ∧ V.blk = c) (hi : i ≤ m + 1)
    (hI : i ≤ m → ∃ Y', l[i + 1]? = some Y' ∧ ∀ Z, D Z → Y'.word <+: Z.word → Z.item = none) (hlast : i = m + 1 → cnt K2 = 0) (hs : (Y.item.isSome || decide (2 ≤ cnt K2)) = false) : 0 < i ∧ ∀ Z, D Z → Y.word <+: Z.word → Z.item = none := by
  obtain ⟨s1, s2⟩ := Bool.or_eq_false_iff.1 hs
  have hY := hp.chain.mem Y (List.mem_of_getElem? hlY)
  have hw := h.trie.wf
  have hc2 : cnt K2 < 2 := by simpa using s2
  have hYi : Y.item = none := by simpa using s1
  constructor
  · rcases Nat.eq_zero_or_pos i with rfl | h0
    · have := h.cnt hY (hp.chain.head Y hlY) hK2; omega
    · exact h0
  · intro Z hZ hYZ
    by_cases e : Y.word = Z.word
    · rw [← hw.winj Y Z hY hZ e]; exact hYi
    · obtain ⟨V, b, hV, hVZ, _⟩ := hw.kid_on_path hY _ Z (Nat.le_refl _) hZ hYZ e
      have hKb : K2 b ≠ none := by rw [(hK2 b V.blk).2 ⟨V, hV, rfl⟩]; simp
      rcases Nat.lt_or_ge i (m + 1) with hlt | hge
      · obtain ⟨Y', hY', hall⟩ := hI (by omega)
        obtain ⟨b', hk⟩ := hp.chain.kid i Y Y' hlY hY'
        have hKb' : K2 b' ≠ none := by rw [(hK2 b' Y'.blk).2 ⟨Y', hk, rfl⟩]; simp
        have hbb : b = b' := by
          by_cases e : b = b'
          · exact e
          · have := cnt_two e hKb hKb'; omega
        subst hbb
        rw [hw.kid_unique hV hk] at hVZ
        exact hall Z hZ hVZ
      · have := hlast (by omega)
        exact (hKb (cnt_zero this b)).elim

set_option maxRecDepth 100000 in
set_option maxHeartbeats 4000000 in
theorem delete_calls (h : Good5 w t D) (key : List UInt8) (kg ko kc : Nat) (hk : BytesAt w kg ko key) (hkc : key.length ≤ kc) (hgk : Good key) (hne : key ≠ []) (hnA : key ≠ [65]) (hnZ : key ≠ [90]) (hhas : ∃ v, Has D key v) :
    Calls Tryz.prog 25 #[ptrV t, .slice (some ⟨kg, ko, none⟩) key.length kc] w fun e w' => e = .returned (.bool true) ∧ ∃ D', Next w w' t D D' (fun k v => k ≠ key ∧ Has D k v) := by
  obtain ⟨u0, X0, hX0, hX0w, hX0i⟩ := hhas
  have hkl := hgk.len
  have HPth := Lib.hid (findSubtreePath_calls h.trie key kg ko kc hk (by omega) hkc h.len hX0 hX0w)
  obtain ⟨R, hR, hRt, _⟩ := h.trie.wf.root
  have c0 := (h.trie.at_ R hR).c0
  rw [hRt] at c0
  have s1 := slice_eq
  have hie := item_eql
  have hine := item_neq
  have hig := item_guard
  have H := Lib.hid (And.intro h (And.intro hgk (And.intro hne (And.intro hnA (And.intro hnZ (And.intro hX0 (And.intro hX0w hX0i))))))); clear h hgk hnA hnZ hX0 hX0w hX0i hk
  go_enter Tryz.func25, Tryz.ntmps25
  go_wp2_with fail
  refine wp_scope_fwd1 rfl ?_
  intro J0 hJ0
  go_upto_region 6 with (go_at_call 41; refine HPth.out.mono ?_; rintro e w1 hp; obtain ⟨l, X, m, g, cap, v3, rfl, hp, hlX, hXk, hm, hcap, hg, hb⟩ := path_at H.out.1 H.out.2.2.1 hp)
  have h1 : Good5 w1 t D := Good5.mk (H.out.1.trie.below hb) H.out.1.low H.out.1.top H.out.1.a H.out.1.z
  have hlen := hp.len
  obtain ⟨P, hlP⟩ : ∃ P, l[m]? = some P := ⟨l[m]'(by omega), List.getElem?_eq_getElem _⟩
  have cX := hp.cell (m + 1) X hlX
  have cP := hp.cell m P hlP
  have hXm := hp.chain.mem X (List.mem_of_getElem? hlX)
  have hXi : X.item = some u0 := by
    have := H.out.1.trie.wf.winj X X0 hXm H.out.2.2.2.2.2.1 (by rw [hXk, H.out.2.2.2.2.2.2.1])
    rw [this]; exact H.out.2.2.2.2.2.2.2
  have x1 := (h1.trie.at_ X hXm).c1
  rw [hXi] at x1
  have xf := (h1.trie.at_ X hXm).free 1
  have hnn : (((m + 2 : Nat) : Int) != 1) = true := by simp; omega
  have HP := Lib.hid (And.intro h1 (And.intro hp (And.intro hlX (And.intro hlP (And.intro hXk (And.intro hb hg)))))); clear h1 hp hlX hlP hb hg hXi hXm hlen
  go_upto_region 16 with fail
  generalize hw2 : w1.setCell ⟨X.blk, 1, none⟩ Value.nilIface = w2
  obtain ⟨D1, l1, X1, hn1, h2, hp1, hl1, hi1, hb1, hk1, hsame⟩ := path_clear HP.out.1 HP.out.2.1 HP.out.2.2.1 (by rw [HP.out.2.2.2.2.1]; exact H.out.2.2.2.1) (by rw [HP.out.2.2.2.2.1]; exact H.out.2.2.2.2.1) hw2.symm
  obtain ⟨K, hK, hKi⟩ := (h2.trie.at_ X1 (hp1.chain.mem X1 (List.mem_of_getElem? hl1))).kids
  have x4 := (h2.trie.at_ X1 (hp1.chain.mem X1 (List.mem_of_getElem? hl1))).c4
  rw [hb1] at x4
  have HKL := Lib.hid (kids_length hK)
  have hcn := cnt_le K
  have hml := meth_length
  have hcl := call_length
  have hnl := nil_length
  clear hw2 c0 cX cP x1 xf hnn
  have HQ := Lib.hid (And.intro hn1 (And.intro h2 (And.intro hp1 (And.intro hl1 (And.intro hi1 (And.intro hb1 (And.intro hk1 (And.intro hsame (And.intro hK hKi))))))))); clear hn1 h2 hp1 hl1 hi1 hb1 hk1 hsame hK hKi
  by_cases hc0 : cnt K = 0
  · have hz : ((cnt K : Int) != 0) = false := by simp; omega
    go_wp2_with (with_reducible refine HKL.out.mono ?_; rintro e w' ⟨rfl, rfl⟩)
    go_loopg [10, 11] (m + 2) (fun k v10 _ wr => ∃ i : Nat, v10 = .int .i64 i ∧ i < k ∧ i ≤ m + 1 ∧ w2 = wr ∧ Hid (i ≤ m → ∃ Y', l1[i + 1]? = some Y' ∧ ∀ Y, D1 Y → Y'.word <+: Y.word → Y.item = none))
    case atStart => exact ⟨m + 1, congrArg (Value.int .i64) (by omega), by omega, by omega, rfl, Lib.hid (fun h => by omega)⟩
    case round =>
      obtain ⟨i, rfl, hi1, hi2, rfl, HI⟩ := hrel
      obtain ⟨Y, hlY⟩ : ∃ Y, l1[i]? = some Y := ⟨l1[i]'(by rw [HQ.out.2.2.1.len]; omega), List.getElem?_eq_getElem _⟩
      have hYm := HQ.out.2.2.1.chain.mem Y (List.mem_of_getElem? hlY)
      have cY := HQ.out.2.2.1.cell i Y hlY
      have y1 := (HQ.out.2.1.trie.at_ Y hYm).c1
      have y4 := (HQ.out.2.1.trie.at_ Y hYm).c4
      obtain ⟨K2, hK2, hKi2⟩ := (HQ.out.2.1.trie.at_ Y hYm).kids
      have HKL2 := Lib.hid (kids_length hK2)
      have hcn2 := cnt_le K2
      have hge : decide ((0 : Int) ≤ (i : Int)) = true := by simp
      have hlast := last_zero HQ.out.2.2.2.1 HQ.out.2.2.2.2.2.2.2.2.2 hc0 hlY hKi2
      have HY := Lib.hid (And.intro hlY (And.intro hYm (And.intro hKi2 hlast))); clear hlY hYm hKi2 hlast hK2
      clear x4
      go_upto_region 23 with fail
      go_cut [86] (fun s wx => s = .bool (Y.item.isSome || decide (2 ≤ cnt K2)) ∧ w2 = wx)
      case first =>
        cases hYi : Y.item with
        | none =>
          rw [hYi] at y1
          go_wp2_with (with_reducible refine HKL2.out.mono ?_; rintro e w' ⟨rfl, rfl⟩)
          go_meet
          exact ⟨by rw [hYi]; exact stop_eq _, rfl⟩
        | some v =>
          rw [hYi] at y1
          go_wp2_with fail
          go_meet
          exact ⟨by rw [hYi]; rfl, rfl⟩
      case rest =>
        obtain ⟨rfl, rfl⟩ := hcut
        clear y1 y4
        cases hs : (Y.item.isSome || decide (2 ≤ cnt K2)) with
        | false =>
          have HG := Lib.hid (path_go HQ.out.2.1 HQ.out.2.2.1 HY.out.1 HY.out.2.2.1 hi2 HI.out HY.out.2.2.2 hs)
          have h0 := HG.out.1
          have HI' : Hid (i - 1 ≤ m → ∃ Y', l1[i - 1 + 1]? = some Y' ∧ ∀ Z, D1 Z → Y'.word <+: Z.word → Z.item = none) := Lib.hid (inv_down HY.out.1 h0 HG.out.2)
          have hr1 : i - 1 < i := Nat.sub_lt h0 Nat.one_pos
          have hr2 : i - 1 ≤ m + 1 := Nat.le_trans (Nat.sub_le _ _) hi2
          have hr3 : ((i : Int) - 1) = ((i - 1 : Nat) : Int) := int_pred h0
          clear hge HKL2 hs cY
          go_wp2_with fail
          go_roundg i
          case measure => exact hi1
          case rel => exact ⟨i - 1, rfl, hr1, hr2, rfl, HI'⟩
        | true =>
          have him := path_stop HQ.out.2.2.2.1 HQ.out.2.2.2.2.1 HQ.out.2.2.2.2.2.2.2.2.2 hc0 HY.out.1 HY.out.2.2.1 hi2 hs
          clear hge HKL2 hs hcn2 hi1 hi2
          have hmi := not_minus i
          obtain ⟨PV, Q, hv0, hv1, hv2⟩ := path_par HQ.out.2.1.trie.wf HQ.out.2.2.1 HY.out.1 him
          obtain ⟨Z, hlZ, hclean⟩ := HI.out him
          have hZm := HQ.out.2.2.1.chain.mem Z (List.mem_of_getElem? hlZ)
          have hZt : Z.blk ≠ t := (HQ.out.2.2.1.chain.kid i Y Z HY.out.1 hlZ).choose_spec.2.1
          have cZ := HQ.out.2.2.1.cell (i + 1) Z hlZ
          have z0 := (HQ.out.2.1.trie.at_ Z hZm).c0
          obtain ⟨bz, hbz, zb, zpl⟩ := (HQ.out.2.1.trie.at_ Z hZm).first HQ.out.2.1.trie.wf hZm hZt
          have zpl2 : (0 : Int) < (Z.plen : Int) := Int.natCast_pos.2 zpl
          have y4 := (HQ.out.2.1.trie.at_ Y HY.out.2.1).c4
          have ix1 := idx_wrap him hm
          have ix2 := idx_lt him
          have ix3 := idx_lt' him
          have ix4 := idx_nat i
          have ix5 := idx_ge i
          have hmr := meth_remove
          have hnr := nil_remove
          have hcr := call_remove
          have HRm := Lib.hid (fun u (hu : Drawn w2 u) => remove_step HQ.out.2.1 HQ.out.2.2.1 HY.out.1 hlZ hclean hbz hu)
          have HZ := Lib.hid (And.intro hlZ (And.intro hv0 (And.intro hv1 hv2))); clear hlZ hv0 hv1 hv2 hclean hZm hZt hbz
          by_cases h0 : i = 0
          · have hi0 := is_zero h0
            have hpv := (HZ.out.2.1 h0).1
            have HI0 := Lib.hid (HZ.out.2.1 h0).2
            clear h0
            go_upto_region 31 with fail
            go_cut [5] (fun s wx => ∃ D3 Y3, Next w2 wx t D1 D3 (Has D1) ∧ D3 Y3 ∧ Y3.blk = Y.blk ∧ Y3.par = Y.par ∧ ∀ Q, D1 Q → Q.word = Y.par → Y.blk ≠ t → D3 Q)
            case first =>
              go_region_with (with_reducible refine (HRm.out _ (drawn_drew _)).mono ?_; rintro e wd ⟨rfl, hd⟩)
              all_goals (go_wp2_with fail; go_meet; exact hd)
            case rest =>
              obtain ⟨D3, Y3, hn3, hY3, hY3b, _⟩ := hcut
              have hYt := HI0
              have h3 : Good5 wc t D3 := hn3.good5 HQ.out.2.1.a HQ.out.2.1.z
              have HC0 : Hid (Calls Tryz.prog 43 #[ptrV Y.blk] wc fun e w' => e = .returned (ptrV Y.blk) ∧ Drawn wc w') := Lib.hid (by
                have := compact_any h3 hY3
                rw [hY3b] at this
                refine this.mono ?_
                rintro e w' ⟨_, hr⟩
                exact hr hYt.out)
              have hpn := ptr_neq_same
              have HN3 := Lib.hid (And.intro hn3 h3); clear hn3 h3 hY3 hY3b
              go_wp2_with fail
              go_step3
              go_simp
              go_wp2_with (go_at_call 43; refine HC0.out.mono ?_; rintro e w4 ⟨rfl, hd⟩)
              rw [fwd_ret]; go_ret
              exact ⟨rfl, del_fin HP.out.2.2.2.2.2.1 HQ.out.1 HP.out.2.2.2.2.1 (HN3.out.1.more hd)⟩
          · have h0 := Nat.pos_of_ne_zero h0
            have hi0 := not_zero h0
            have hcv := (HZ.out.2.2.1 h0).1
            have hr3 := int_pred h0
            have hQv := (HZ.out.2.2.1 h0).2.1
            have HYt := Lib.hid (HZ.out.2.2.1 h0).2.2
            go_upto_region 31 with fail
            subst hQv
            go_cut [5] (fun s wx => ∃ D3 Y3, Next w2 wx t D1 D3 (Has D1) ∧ D3 Y3 ∧ Y3.blk = Y.blk ∧ Y3.par = Y.par ∧ ∀ Q, D1 Q → Q.word = Y.par → Y.blk ≠ t → D3 Q)
            case first =>
              go_region_with (with_reducible refine (HRm.out _ (drawn_drew _)).mono ?_; rintro e wd ⟨rfl, hd⟩)
              all_goals (go_wp2_with fail; go_meet; exact hd)
            case rest =>
              obtain ⟨D3, Y3, hn3, hY3, hY3b, hY3p, hY3q⟩ := hcut
              have h3 : Good5 wc t D3 := hn3.good5 HQ.out.2.1.a HQ.out.2.1.z
              have hQ1 := HZ.out.2.2.2 HYt.out
              have HPm : Hid (D3 Q ∧ Q.word = Y3.par) := Lib.hid ⟨hY3q Q hQ1.1 hQ1.2.1 HYt.out, by rw [hY3p]; exact hQ1.2.1⟩
              have HC := tail_compact (P := Q) h3 hY3 (fun _ => HPm.out)
              rw [hY3b] at HC
              have HC := Lib.hid HC
              have hpn := ptr_neq_same
              have hmr2 := meth_replace
              have hnr2 := nil_replace
              have hcr2 := call_replace
              have HN3 := Lib.hid (And.intro hn3 (And.intro h3 (And.intro hY3 hY3b))); clear hn3 h3 hY3 hY3b hY3p hY3q hQ1
              go_wp2_with fail
              go_step3
              go_simp
              go_upto_region 33 with (go_at_call 43; refine HC.out.mono ?_; rintro e w3 (⟨rfl, hd⟩ | ⟨hXt, D4, C, b, rfl, hCX, hC, s0, s1, s4, ⟨cu1, s5⟩, cu2, s6⟩))
              · go_wp2_with fail
                rw [fwd_ret]; go_ret
                exact ⟨rfl, del_fin HP.out.2.2.2.2.2.1 HQ.out.1 HP.out.2.2.2.2.1 (HN3.out.1.more hd)⟩
              · have hpo := ptr_neq_other hCX s6 s5
                have hpl : 0 < Y3.plen := (HN3.out.2.1.trie.wf.up Y3 HN3.out.2.2.1 (by rw [HN3.out.2.2.2]; exact hXt)).1
                have hpl2 : (0 : Int) < (Y3.plen : Int) := Int.natCast_pos.2 hpl
                have HR := Lib.hid (fun u (hu : Drawn w3 u) => replace_calls HN3.out.2.1 HN3.out.2.2.1 (by rw [HN3.out.2.2.2]; exact hXt) HPm.out.1 HPm.out.2 (hC.out.drawn hu) (by rw [HN3.out.2.2.2]; exact hu.cell s0) (hu.cell s1))
                clear s5 s6 hpn
                go_upto_region 36 with fail
                go_cut [11] (fun s wx => ∃ D4 P2, Next wc wx t D3 D4 (Has D3) ∧ D4 P2 ∧ P2.blk = Q.blk)
                case first =>
                  go_region_with (with_reducible refine (HR.out _ (drawn_drew _)).mono ?_; rintro e wd ⟨rfl, hd⟩)
                  all_goals (go_wp2_with fail; go_meet; exact hd)
                case rest =>
                  obtain ⟨D4, P2, hcut⟩ := hcut
                  have h4 := hcut.1.good5 HN3.out.2.1.a HN3.out.2.1.z
                  have HS := compact_store h4 hcut.2.1
                  rw [hcut.2.2] at HS
                  have HS := Lib.hid HS
                  have HU := Lib.hid (And.intro hcut h4); clear hcut h4
                  go_upto_region 38 with (go_at_call 43; refine HS.out.mono ?_; rintro e w5 ⟨b5, g5, o5, p5, c5, x5, m5, n5, d5, l5, rfl, y1, ⟨g6, o6, p6, c6, x6, m6, n6, d6, l6, y2⟩, hd5⟩; obtain ⟨⟨j0, j1, j2, j3, j4⟩, _⟩ := five y1; obtain ⟨_, k0, k1, k2, k3, k4⟩ := five y2)
                  go_wp2_with fail
                  rw [fwd_ret]; go_ret
                  obtain ⟨D5, hN5⟩ := hd5 _ rfl
                  exact ⟨rfl, del_fin HP.out.2.2.2.2.2.1 HQ.out.1 HP.out.2.2.2.2.1 (HN3.out.1.trans ((HU.out.1.1.trans hN5).to fun k v => (HU.out.1.1.has k v).trans (HN3.out.1.has k v)))⟩
  · have hz : ((cnt K : Int) != 0) = true := by simp; omega
    go_wp2_with (with_reducible refine HKL.out.mono ?_; rintro e w' ⟨rfl, rfl⟩)
    go_step3
    go_simp
    refine hJ0 _ _ ?_
    have HC := Lib.hid (tail_compact (n := X1) (P := P) HQ.out.2.1 (HQ.out.2.2.1.chain.mem X1 (List.mem_of_getElem? HQ.out.2.2.2.1)) (fun _ => by
      obtain ⟨b, hk⟩ := HQ.out.2.2.1.chain.kid m P X1 (by rw [HQ.out.2.2.2.2.2.2.2.1 m (Nat.le_refl _)]; exact HP.out.2.2.2.1) HQ.out.2.2.2.1
      exact ⟨HQ.out.2.2.1.chain.mem P (List.mem_of_getElem? (by rw [HQ.out.2.2.2.2.2.2.2.1 m (Nat.le_refl _)]; exact HP.out.2.2.2.1)), hk.2.2.1.symm⟩))
    rw [HQ.out.2.2.2.2.2.1] at HC
    have hpn := ptr_neq_same
    have hmr := meth_replace
    have hnr := nil_replace
    have hcr := call_replace
    go_upto_region 33 with (go_at_call 43; refine HC.out.mono ?_; rintro e w3 (⟨rfl, hd⟩ | ⟨hXt, D3, C, b, rfl, hCX, hC, z0, z1, z4, ⟨cu1, z5⟩, cu2, z6⟩))
    · go_wp2_with fail
      rw [fwd_ret]; go_ret
      exact ⟨rfl, del_fin HP.out.2.2.2.2.2.1 HQ.out.1 HP.out.2.2.2.2.1 (Next.refl HQ.out.2.1.trie HQ.out.2.1.low HQ.out.2.1.top hd)⟩
    · have hpo := ptr_neq_other hCX z6 z5
      have hX1 := HQ.out.2.2.1.chain.mem X1 (List.mem_of_getElem? HQ.out.2.2.2.1)
      have HPm : Hid (D1 P ∧ P.word = X1.par) := Lib.hid (by
        obtain ⟨b, hk⟩ := HQ.out.2.2.1.chain.kid m P X1 (by rw [HQ.out.2.2.2.2.2.2.2.1 m (Nat.le_refl _)]; exact HP.out.2.2.2.1) HQ.out.2.2.2.1
        exact ⟨HQ.out.2.2.1.chain.mem P (List.mem_of_getElem? (by rw [HQ.out.2.2.2.2.2.2.2.1 m (Nat.le_refl _)]; exact HP.out.2.2.2.1)), hk.2.2.1.symm⟩)
      have hpl : 0 < X1.plen := (HQ.out.2.1.trie.wf.up X1 hX1 (by rw [HQ.out.2.2.2.2.2.1]; exact hXt)).1
      have hpl2 : (0 : Int) < (X1.plen : Int) := by omega
      have HR := Lib.hid (fun u (hu : Drawn w3 u) => replace_calls HQ.out.2.1 hX1 (by rw [HQ.out.2.2.2.2.2.1]; exact hXt) HPm.out.1 HPm.out.2 (hC.out.drawn hu) (by rw [HQ.out.2.2.2.2.2.1]; exact hu.cell z0) (hu.cell z1))
      clear z5 z6 hX1 hpn
      go_upto_region 36 with fail
      go_cut [11] (fun s wx => ∃ D4 P2, Next w2 wx t D1 D4 (Has D1) ∧ D4 P2 ∧ P2.blk = P.blk)
      case first =>
        go_region_with (with_reducible refine (HR.out _ (drawn_drew _)).mono ?_; rintro e wd ⟨rfl, hd⟩)
        all_goals (go_wp2_with fail; go_meet; exact hd)
      case rest =>
        obtain ⟨D4, P2, hcut⟩ := hcut
        have h4 : Good5 wc t D4 := hcut.1.good5 HQ.out.2.1.a HQ.out.2.1.z
        have HS := compact_store h4 hcut.2.1
        rw [hcut.2.2] at HS
        have HS := Lib.hid HS
        have HU := Lib.hid (And.intro hcut h4); clear hcut h4
        go_upto_region 38 with (go_at_call 43; refine HS.out.mono ?_; rintro e w5 ⟨b5, g5, o5, p5, c5, x5, m5, n5, d5, l5, rfl, y1, ⟨g6, o6, p6, c6, x6, m6, n6, d6, l6, y2⟩, hd5⟩; obtain ⟨⟨j0, j1, j2, j3, j4⟩, _⟩ := five y1; obtain ⟨_, k0, k1, k2, k3, k4⟩ := five y2)
        go_wp2_with fail
        rw [fwd_ret]; go_ret
        obtain ⟨D5, hN5⟩ := hd5 _ rfl
        exact ⟨rfl, del_fin HP.out.2.2.2.2.2.1 HQ.out.1 HP.out.2.2.2.2.1 ((HU.out.1.1.trans hN5).to HU.out.1.1.has)⟩
end
end Go.Proofs.YtpopiaahdanpeaaGreatDoor
