/- A script grows by a step. What the last lines of a round of spec.Play leave. -/
import Derived.Test.YtpopiaahdanpeaaGreatDoorSTell
import Derived.Test.YtpopiaahdanpeaaGreatDoorIPlay
import Derived.Test.YtpopiaahdanpeaaGreatDoorSMap
namespace Go.Proofs.YtpopiaahdanpeaaGreatDoor
open Go Go.RowKit
set_option linter.unusedVariables false

/-- A step that the law lets by. -/
structure Valid (M : Tab) (x : Step) : Prop where
  good : Good x.word ∧ x.word ≠ []
  n0 : 0 ≤ x.n
  n1 : x.n ≤ 255
  kind : x.kind = 0 ∨ x.kind = 1 ∨ (x.kind = 2 ∧ M x.word ≠ none ∧ x.word ≠ [65] ∧ x.word ≠ [90]) ∨ (x.kind = 3 ∧ ∃ c : UInt8, x.word = [c] ∧ 97 ≤ c.toNat ∧ ∃ k, M k ≠ none ∧ [c] <+: k) ∨ x.kind = 4 ∨ x.kind = 5

section
variable {w : World} {b n i : Nat} {M : Tab}

theorem stell_calls {B : Nat} (hB : B ≤ w.heap.size) (htab : TabB B w) (h : MapAt w b n M) (hn : n ≤ 1000) (hf : Fair M i) {x : Step} (hx : Valid M x) :
    Calls Tryz.prog 9 #[.map (some b), stepV x] w fun e w' => ∃ s M', Tells M x s M' ∧ STold w b n s M' e w' := by
  obtain ⟨kind, k, m⟩ := x
  have hk := hx.good.1.len
  have hlen : ∀ y, M y ≠ none → y.length ≤ 5 := fun y hy => by
    cases e : M y with
    | none => exact (hy e).elim
    | some v => exact (hf.good y v e).1.len
  have hc := hx.kind
  simp only at hc hk
  rcases hc with rfl | rfl | ⟨rfl, h1, h2, h3⟩ | ⟨rfl, c, h1, h2, h3⟩ | rfl | rfl
  · cases hm : M k with
    | none => exact (stell_insNew h hn hk hm hx.n0 hx.n1).mono fun e w' he => ⟨_, _, .insNew hm, he⟩
    | some v => exact (stell_insOld h hn hk hm hx.n0 hx.n1).mono fun e w' he => ⟨_, _, .insOld hm, he⟩
  · exact (stell_set h hn hk hx.n0 hx.n1).mono fun e w' he => ⟨_, _, .set, he⟩
  · cases hm : M k with
    | none => exact (h1 hm).elim
    | some v => exact (stell_del h hn hk hm hx.n0 hx.n1).mono fun e w' he => ⟨_, _, .del hm h2 h3, he⟩
  · subst h1
    exact (stell_cut h hn hlen hk h3).mono fun e w' he => ⟨_, _, .cut h2 h3, he⟩
  · cases hm : M k with
    | none => exact (stell_getNo hB htab h hn hk hm).mono fun e w' he => ⟨_, _, .getNo hm, he⟩
    | some v => exact (stell_getYes hB htab h hn hk hm (hf.good k v hm).2.2.1 (hf.good k v hm).2.2.2).mono fun e w' he => ⟨_, _, .getYes hm, he⟩
  · exact (stell_under h hn hlen hk).mono fun e w' ⟨L, hL, he⟩ => ⟨_, _, .under hL, he⟩

theorem Fair.put (h : Fair M i) {k : Word} {m : Int} (hg : Good k ∧ k ≠ []) (h0 : 0 ≤ m) (h1 : m ≤ 255) : Fair (M.put k (some m)) (i + 1) := by
  obtain ⟨A, hA, hm⟩ := h.few
  refine ⟨fun y v hy => ?_, k :: A, by simp; omega, fun y hy => ?_⟩
  · unfold Tab.put at hy
    by_cases e : y = k
    · rw [if_pos e] at hy; injection hy with hy; subst e; subst hy; exact ⟨hg.1, hg.2, h0, h1⟩
    · rw [if_neg e] at hy; exact h.good y v hy
  · unfold Tab.put at hy
    by_cases e : y = k
    · simp [e]
    · rw [if_neg e] at hy; exact List.mem_cons_of_mem _ (hm y hy)
theorem Fair.less {M' : Tab} (h : Fair M i) (hs : ∀ y, M' y ≠ none → M' y = M y) : Fair M' (i + 1) := by
  obtain ⟨A, hA, hm⟩ := h.few
  refine ⟨fun y v hy => h.good y v ?_, A, by omega, fun y hy => hm y ?_⟩
  · rw [← hs y (by rw [hy]; simp)]; exact hy
  · rw [← hs y hy]; exact hy

theorem tells_fair {M' : Tab} {x : Step} {s : Word} (h : Fair M i) (ht : Tells M x s M') (hx : Valid M x) : Fair M' (i + 1) ∧ (M [65] ≠ none → M' [65] ≠ none) ∧ (M [90] ≠ none → M' [90] ≠ none) := by
  have hput : ∀ (k y : Word) (v : Int), M y ≠ none → M.put k (some v) y ≠ none := fun k y v hy => by
    unfold Tab.put
    by_cases e : y = k
    · rw [if_pos e]; simp
    · rw [if_neg e]; exact hy
  cases ht with
  | insNew h1 => exact ⟨h.put hx.good hx.n0 hx.n1, hput _ _ _, hput _ _ _⟩
  | insOld h1 => exact ⟨h.less fun _ _ => rfl, id, id⟩
  | set => exact ⟨h.put hx.good hx.n0 hx.n1, hput _ _ _, hput _ _ _⟩
  | @del k _ _ h1 h2 h3 =>
    refine ⟨h.less fun y hy => ?_, fun hy => ?_, fun hy => ?_⟩
    · unfold Tab.put at hy ⊢
      by_cases e : y = k
      · rw [if_pos e] at hy; exact (hy rfl).elim
      · rw [if_neg e]
    · unfold Tab.put; rw [if_neg (Ne.symm h2)]; exact hy
    · unfold Tab.put; rw [if_neg (Ne.symm h3)]; exact hy
  | @cut c _ h1 h2 =>
    have hnot : ∀ b : UInt8, b.toNat < 97 → ¬ [c] <+: [b] := fun b hb ⟨s, hs⟩ => by simp at hs; rw [hs.1] at h1; omega
    refine ⟨h.less fun y hy => ?_, fun hy => ?_, fun hy => ?_⟩
    · unfold Tab.cut at hy ⊢
      by_cases e : [c] <+: y
      · rw [if_pos e] at hy; exact (hy rfl).elim
      · rw [if_neg e]
    · unfold Tab.cut; rw [if_neg (hnot 65 (by decide))]; exact hy
    · unfold Tab.cut; rw [if_neg (hnot 90 (by decide))]; exact hy
  | getYes h1 => exact ⟨h.less fun _ _ => rfl, id, id⟩
  | getNo h1 => exact ⟨h.less fun _ _ => rfl, id, id⟩
  | under h1 => exact ⟨h.less fun _ _ => rfl, id, id⟩

/-- The tables, and one more. -/
def next (Ms : Nat → Tab) (i : Nat) (M : Tab) : Nat → Tab := fun k => if k ≤ i then Ms k else M
theorem next_old {Ms : Nat → Tab} {i : Nat} {M : Tab} {k : Nat} (h : k ≤ i) : next Ms i M k = Ms k := if_pos h
theorem next_new {Ms : Nat → Tab} {i : Nat} {M : Tab} : next Ms i M (i + 1) = M := if_neg (by omega)

theorem Script.snoc {xs : List Step} {ss : List Word} {Ms : Nat → Tab} (h : Script xs ss Ms) (h60 : xs.length < 60) {x : Step} {s : Word} {M' : Tab} (ht : Tells (Ms xs.length) x s M') (hx : Valid (Ms xs.length) x) :
    Script (xs ++ [x]) (ss ++ [s]) (next Ms xs.length M') := by
  have hlo := h.lo
  have hlen := h.len
  refine ⟨by simp [hlen], by simp; omega, by simp; omega, ?_, ?_, ?_, ?_, ?_, fun y hy => ?_, fun k hk => ?_, fun k y u hy hu => ?_⟩
  · rw [List.getElem?_append_left (by omega)]; exact h.x0
  · rw [List.getElem?_append_left (by omega)]; exact h.x1
  · rw [List.getElem?_append_left (by omega)]; exact h.s0
  · rw [List.getElem?_append_left (by omega)]; exact h.s1
  · rw [next_old hlo]; exact h.m2
  · rcases List.mem_append.1 hy with hy | hy
    · exact h.good y hy
    · simp at hy; subst hy; exact hx.good
  · by_cases e : k ≤ xs.length
    · rw [next_old e]; exact h.fair k e
    · obtain rfl : k = xs.length + 1 := by simp at hk; omega
      rw [next_new]; exact (tells_fair (h.fair _ (Nat.le_refl _)) ht hx).1
  · by_cases e : k < xs.length
    · rw [next_old (by omega), next_old (by omega)]
      rw [List.getElem?_append_left e] at hy
      rw [List.getElem?_append_left (by omega)] at hu
      exact h.tells k y u hy hu
    · have hk : k < (xs ++ [x]).length := by
        rcases Nat.lt_or_ge k (xs ++ [x]).length with h' | h'
        · exact h'
        · rw [List.getElem?_eq_none h'] at hy; cases hy
      obtain rfl : k = xs.length := by simp at hk; omega
      rw [next_old (Nat.le_refl _), next_new]
      rw [List.getElem?_append_right (Nat.le_refl _)] at hy
      rw [List.getElem?_append_right (by omega)] at hu
      simp at hy
      simp [hlen] at hu
      subst hy; subst hu; exact ht
end
end Go.Proofs.YtpopiaahdanpeaaGreatDoor

namespace Go.Proofs.YtpopiaahdanpeaaGreatDoor
open Go Go.RowKit
set_option linter.unusedVariables false

/-- A step's cells. -/
def cells3 (x : Step) : List Value := [.int .i64 x.kind, .string (strOf x.word), .int .i64 x.n]
theorem cells3_len : ∀ xs : List Step, (xs.flatMap cells3).length = xs.length * 3
  | [] => rfl
  | x :: xs => by rw [List.flatMap_cons, List.length_append, cells3_len xs]; simp [cells3]; omega

/-- What lies in memory between two rounds (v5: the steps, v7: what they say, b: the map). -/
structure RoundAt (w wr : World) (v5 v7 : Value) (b : Nat) (xs : List Step) (ss : List Word) (Ms : Nat → Tab) : Prop where
  script : Script xs ss Ms
  steps : wr.ownsRow w.heap.size 33 3 v5 xs.length (xs.flatMap cells3)
  told : wr.ownsRow w.heap.size 9 1 v7 ss.length (ss.map strV)
  map : MapAt wr b xs.length (Ms xs.length)
  below : Below w.heap.size w wr
  high : w.heap.size ≤ b
  a : Ms xs.length [65] ≠ none
  z : Ms xs.length [90] ≠ none

theorem row_keep {w w' : World} {S : Nat → Prop} {base e size m : Nat} {v : Value} {zs : List Value} (h : w.ownsRow base e size v m zs) (hk : Kept S w w') (hs : ∀ g cur, v.ownBlock = some g → w.heap[g]? = some (.cells cur e (0, 0)) → ¬ S g) : w'.ownsRow base e size v m zs := by
  obtain ⟨h1, h2 | ⟨g, cap, cur, rfl, a2, a3, a4⟩⟩ := h
  · exact ⟨h1, .inl h2⟩
  · exact ⟨h1, .inr ⟨g, cap, cur, rfl, a2, hk.lt a3 (hs g cur rfl a3), a4⟩⟩
theorem grown_kept {w w' : World} {o : Obj} {r : Option Nat} (hg : (w.alloc o).grownBy w' r) : Kept (fun g => r = some g) w w' :=
  ((Kept.refl _ w).alloc o).trans ⟨hg.os, hg.tape, hg.output, hg.size, fun k hk hs => hg.block k hk (fun e => hs e.symm)⟩
theorem row_at {w : World} {base e size m g : Nat} {v : Value} {zs : List Value} (h : w.ownsRow base e size v m zs) (hg : v.ownBlock = some g) : ∃ cur, w.heap[g]? = some (.cells cur e (0, 0)) := by
  obtain ⟨h1, ⟨rfl, _⟩ | ⟨g', cap, cur, rfl, a2, a3, a4⟩⟩ := h
  · simp [Value.ownBlock] at hg
  · simp [Value.ownBlock] at hg; subst hg; exact ⟨cur, a3⟩
theorem MapAt.obj {w : World} {b n : Nat} {M : Tab} (h : MapAt w b n M) : ∃ es c, w.heap[b]? = some (.map es c) := by
  obtain ⟨D, ⟨es, clock, hb, _⟩, _⟩ := h.ex; exact ⟨es, clock, hb⟩

/-- What lies in memory within a round's last lines. -/
structure TailAt (w wx : World) (v5 v7 : Value) (b n : Nat) (xs : List Step) (ss : List Word) (M : Tab) : Prop where
  steps : wx.ownsRow w.heap.size 33 3 v5 xs.length (xs.flatMap cells3)
  told : wx.ownsRow w.heap.size 9 1 v7 ss.length (ss.map strV)
  map : MapAt wx b n M
  below : Below w.heap.size w wx

section
variable {w wr wx wy : World} {v5 v7 v : Value} {b n xb : Nat} {xs : List Step} {ss : List Word} {Ms : Nat → Tab} {M M' : Tab} {x : Step} {s : Word} {o : Obj}

theorem RoundAt.tail (h : RoundAt w wr v5 v7 b xs ss Ms) (hb : Below wr.heap.size wr wx) : TailAt w wx v5 v7 b xs.length xs ss (Ms xs.length) := by
  have hk := Below.kept_of hb (fun _ => False)
  exact ⟨row_keep h.steps hk (fun _ _ _ _ h => h), row_keep h.told hk (fun _ _ _ _ h => h), h.map.kept hk (fun h => h), h.below.trans (hb.mono h.below.size)⟩

theorem TailAt.note (h : TailAt w wx v5 v7 b n xs ss M) (hown : wy.ownsRow w.heap.size 33 3 v (xs.length + 1) (xs.flatMap cells3 ++ cells3 x)) (hg : (wx.alloc o).grownBy wy v5.ownBlock) : TailAt w wy v v7 b n (xs ++ [x]) ss M := by
  have hk := grown_kept hg
  refine ⟨by simpa using hown, row_keep h.told hk (fun g cur h1 h2 h3 => ?_), h.map.kept hk (fun h3 => ?_), h.below.trans ((hk.mono fun k _ e => (h.steps.lt k e).1).below h.below.size)⟩
  · obtain ⟨cur2, e⟩ := row_at h.steps h3
    rw [e] at h2; simp at h2
  · obtain ⟨cur2, e⟩ := row_at h.steps h3
    obtain ⟨es, c, e2⟩ := h.map.obj
    rw [e] at e2; cases e2
theorem TailAt.box (h : TailAt w wx v5 v7 b n xs ss M) {cs : Array Value} {T : TypeId} (hx : wx.heap[xb]? = some (.cells cs T (0, 0))) (hne : v5.ownBlock ≠ some xb) (hg : (wx.alloc o).grownBy wy v5.ownBlock) : wy.heap[xb]? = some (.cells cs T (0, 0)) :=
  (grown_kept hg).lt hx hne
theorem TailAt.tell {e : Ending} (h : TailAt w wx v5 v7 b n xs ss M) (hs : STold wx b n s M' e wy) (hb : w.heap.size ≤ b) : TailAt w wy v5 v7 b (n + 1) xs ss M' := by
  obtain ⟨_, h2, h3⟩ := hs
  obtain ⟨es, c, e2⟩ := h.map.obj
  exact ⟨row_keep h.steps h3 (fun g cur _ h5 e => by subst e; rw [e2] at h5; cases h5), row_keep h.told h3 (fun g cur _ h5 e => by subst e; rw [e2] at h5; cases h5), h2, h.below.trans ((h3.mono fun k _ e => by show w.heap.size ≤ k; omega).below h.below.size)⟩
theorem TailAt.done (h : TailAt w wx v5 v7 b (xs.length + 1) (xs ++ [x]) ss M') (hr : RoundAt w wr v5 v7 b xs ss Ms ∨ (∃ u5, RoundAt w wr u5 v7 b xs ss Ms)) (h60 : xs.length < 60) (ht : Tells (Ms xs.length) x s M') (hx : Valid (Ms xs.length) x)
    (hown : wy.ownsRow w.heap.size 9 1 v (ss.length + 1) (ss.map strV ++ [strV s])) (hg : (wx.alloc o).grownBy wy v7.ownBlock) : RoundAt w wy v5 v b (xs ++ [x]) (ss ++ [s]) (next Ms xs.length M') := by
  have hR : ∃ u5, RoundAt w wr u5 v7 b xs ss Ms := by rcases hr with h | h; exact ⟨_, h⟩; exact h
  obtain ⟨u5, hR⟩ := hR
  have hk := grown_kept hg
  have hf := tells_fair (hR.script.fair _ (Nat.le_refl _)) ht hx
  have hl : (xs ++ [x]).length = xs.length + 1 := by simp
  refine ⟨hR.script.snoc h60 ht hx, row_keep h.steps hk (fun g cur h1 h2 h3 => ?_), by simpa using hown, ?_, h.below.trans ((hk.mono fun k _ e => (h.told.lt k e).1).below h.below.size), hR.high, ?_, ?_⟩
  · obtain ⟨cur2, e⟩ := row_at h.told h3
    rw [e] at h2; simp at h2
  · rw [hl, next_new]
    refine h.map.kept hk (fun h3 => ?_)
    obtain ⟨cur2, e⟩ := row_at h.told h3
    obtain ⟨es, c, e2⟩ := h.map.obj
    rw [e] at e2; cases e2
  · rw [hl, next_new]; exact hf.2.1 hR.a
  · rw [hl, next_new]; exact hf.2.2 hR.z
end
theorem three_vals (x : Step) (w : World) : ∀ j u, (cells3 x)[j]? = some u → (w.alloc (.cells #[.int .i64 x.kind, .string (strOf x.word), .int .i64 x.n] 33)).cell? ((⟨w.heap.size, 0, none⟩ : Addr).add j) = some u := by
  intro j u hu
  rw [addr_add, Nat.zero_add, cell_of_heap (hNew w _)]
  rw [← hu]
  simp [cells3]
theorem three_one (x : Step) : ∀ u ∈ cells3 x, u.oneCell' = true := by
  intro u hu
  simp only [cells3, List.mem_cons, List.not_mem_nil, or_false] at hu
  rcases hu with rfl | rfl | rfl <;> rfl
end Go.Proofs.YtpopiaahdanpeaaGreatDoor
