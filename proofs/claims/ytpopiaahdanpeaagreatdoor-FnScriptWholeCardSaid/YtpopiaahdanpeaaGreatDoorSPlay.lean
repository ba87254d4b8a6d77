/- spec.Play. -/
import Derived.Test.YtpopiaahdanpeaaGreatDoorSPlayT
import Derived.Deep.DeepCutAuto
import Derived.Deep.RegionHeld3
namespace Go.Proofs.YtpopiaahdanpeaaGreatDoor
open Go Go.RowKit
set_option linter.unusedVariables false

theorem info33 : (Tryz.prog.info? 33).map (fun i => (i.zero, i.size, i.bytes)) = some (some (.agg #[.int .i64 0, .string ByteArray.empty, .int .i64 0]), 3, 32) := by kernel_rfl

/-- What spec.Play gives. -/
def SPlayed (w : World) (e : Ending) (w' : World) : Prop :=
  ∃ (sg cap : Nat) (v7 v : Value) (xs : List Step) (ss : List Word) (Ms : Nat → Tab) (L : List Word), e = .returned (.tuple #[.slice (some ⟨sg, 0, none⟩) xs.length cap, v7, v]) ∧ Script xs ss Ms ∧ xs.length ≤ cap ∧ sg < w'.heap.size ∧ StepsAt w' sg xs ∧
    w'.ownsRow w.heap.size 9 1 v7 ss.length (ss.map strV) ∧ w'.ownsRow w.heap.size 9 1 v L.length (L.map strV) ∧ Keys (Ms xs.length) [] L ∧ Below w.heap.size w w'
theorem cells_at : ∀ (xs : List Step) (j : Nat) (x : Step), xs[j]? = some x → ∀ c, c < 3 → (xs.flatMap cells3)[j * 3 + c]? = (cells3 x)[c]?
  | [], j, x, h, c, hc => by simp at h
  | y :: ys, 0, x, h, c, hc => by
    simp at h; subst h
    rw [List.flatMap_cons, List.getElem?_append_left (by simp [cells3]; omega)]; simp
  | y :: ys, j + 1, x, h, c, hc => by
    have := cells_at ys j x (by simpa using h) c hc
    rw [List.flatMap_cons, List.getElem?_append_right (by simp [cells3]; omega), ← this]
    congr 1; simp [cells3]; omega
theorem steps_at {w : World} {base sg cap : Nat} {xs : List Step} (h : w.ownsRow base 33 3 (.slice (some ⟨sg, 0, none⟩) xs.length cap) xs.length (xs.flatMap cells3)) : StepsAt w sg xs := by
  intro j x hx
  have hj : j < xs.length := by
    rcases Nat.lt_or_ge j xs.length with h' | h'
    · exact h'
    · rw [List.getElem?_eq_none h'] at hx; cases hx
  have h0 := h.cellAt (j * 3) (by omega)
  have h1 := h.cellAt (j * 3 + 1) (by omega)
  have h2 := h.cellAt (j * 3 + 2) (by omega)
  rw [cells_at xs j x hx 1 (by omega)] at h1
  rw [cells_at xs j x hx 2 (by omega)] at h2
  rw [show j * 3 = j * 3 + 0 from rfl, cells_at xs j x hx 0 (by omega)] at h0
  exact ⟨h0, h1, h2⟩
theorem splay_end {w wr w3 : World} {sg cap b : Nat} {v7 v : Value} {xs : List Step} {ss : List Word} {Ms : Nat → Tab} {L : List Word} (h : RoundAt w wr (.slice (some ⟨sg, 0, none⟩) xs.length cap) v7 b xs ss Ms) (hL : Keys (Ms xs.length) [] L) (hv : w3.ownsRow wr.heap.size 9 1 v L.length (L.map strV)) (hb : Below wr.heap.size wr w3) :
    SPlayed w (.returned (.tuple #[.slice (some ⟨sg, 0, none⟩) xs.length cap, v7, v])) w3 := by
  have hk := Below.kept_of hb (fun _ => False)
  have hs := row_keep h.steps hk (fun _ _ _ _ h => h)
  have hc : xs.length ≤ cap := by
    obtain ⟨_, ⟨h1, _⟩ | ⟨g, c, cur, e, _, _, h3, _⟩⟩ := hs
    · cases h1
    · injection e with _ _ e; omega
  have hlt := (hs.lt sg rfl).2
  exact ⟨sg, cap, v7, v, xs, ss, Ms, L, rfl, h.script, hc, hlt, steps_at hs, row_keep h.told hk (fun _ _ _ _ h => h), row_mono hv h.below.size, hL, h.below.trans (hb.mono h.below.size)⟩
theorem tab_later {w w9 : World} (h : TabB w.heap.size w) (hb : Below w.heap.size w w9) : TabB w9.heap.size w9 := fun u hu => h u (hb.trans (hu.mono hb.size))
theorem data_at {w wr wx w6 : World} {dg o : Nat} {l : Word} (hlt : dg < w.heap.size) (h1 : Below w.heap.size w wr) (h2 : Below wr.heap.size wr wx) (h3 : Below wx.heap.size wx w6) (hb : BytesAt w6 dg o l) : BytesAt w dg o l := by
  intro i hi
  rw [← hb i hi]
  have hs1 := h1.size
  have hs2 := h2.size
  rw [World.cell?_of_block (w := w) (w' := w6) ?_]
  rw [h3.block dg (by omega), h2.block dg (by omega), h1.block dg hlt]

/-- The kinds by a byte's last digit. -/
def kindOf (r : Nat) : Nat := [0, 0, 0, 1, 1, 2, 2, 3, 4, 5].getD r 0
abbrev kinds : Array Value := #[.int .i64 0, .int .i64 0, .int .i64 0, .int .i64 1, .int .i64 1, .int .i64 2, .int .i64 2, .int .i64 3, .int .i64 4, .int .i64 5]
theorem kind_cell (wr : World) (x0 : Nat) : (wr.alloc (.cells kinds 3)).cell? ⟨wr.heap.size, x0 % 10, none⟩ = some (.int .i64 (kindOf (x0 % 10) : Nat)) := by
  have h := hNew wr (.cells kinds 3)
  rw [cell_of_heap h]
  have : x0 % 10 < 10 := Nat.mod_lt _ (by decide)
  generalize x0 % 10 = r at this
  have : r = 0 ∨ r = 1 ∨ r = 2 ∨ r = 3 ∨ r = 4 ∨ r = 5 ∨ r = 6 ∨ r = 7 ∨ r = 8 ∨ r = 9 := by omega
  rcases this with rfl | rfl | rfl | rfl | rfl | rfl | rfl | rfl | rfl | rfl <;> rfl
def lenOf : Value → Nat
  | .slice _ n _ => n
  | _ => 0

theorem kind_le {r : Nat} (h : r < 10) : kindOf r ≤ 5 := by
  have : r = 0 ∨ r = 1 ∨ r = 2 ∨ r = 3 ∨ r = 4 ∨ r = 5 ∨ r = 6 ∨ r = 7 ∨ r = 8 ∨ r = 9 := by omega
  rcases this with rfl | rfl | rfl | rfl | rfl | rfl | rfl | rfl | rfl | rfl <;> decide
theorem slice_one {g o n c : Nat} (h : 1 < n) (hc : n ≤ c) (u : World) :
    (Instr.slice 22 (.slice (some ⟨g, o, none⟩) n c) (some (.int .i64 1)) none none).run Tryz.prog u = .ok (.slice (some ⟨g, o + 1, none⟩) (n - 1 : Nat) (c - 1 : Nat)) u := by
  have : c ≠ 1 := by omega
  go_simp
  intro; omega
theorem slice_past {w : World} {dg o c : Nat} {rest : Word} (hb : BytesAt w dg o rest) (k : Nat) (hk : k ≤ rest.length) (hl : rest.length ≤ c) {z : Int} (hz : z = k) :
    ∃ o', (∀ u, (Instr.slice 22 (.slice (some ⟨dg, o, none⟩) rest.length c) (some (.int .i64 z)) none none).run Tryz.prog u = .ok (.slice (some ⟨dg, o', none⟩) (rest.length - k) (c - k)) u) ∧ BytesAt w dg o' (rest.drop k) := by
  subst hz
  refine ⟨if c = k then o else o + k, fun u => ?_, ?_⟩
  · by_cases h : c = k
    · go_simp
    · go_simp
  · intro i hi
    have : c ≠ k := by intro e; simp at hi; omega
    rw [if_neg this]
    have := hb (k + i) (by simp at hi; omega)
    rw [show o + k + i = o + (k + i) by omega, this]
    simp

/-- What the first turn makes of a step's kind and word. -/
def OneOf (M : Tab) (kd : Nat) (k : Word) (kd' : Nat) (k' : Word) : Prop := (kd ≠ 2 ∧ kd' = kd ∧ k' = k) ∨ (kd = 2 ∧ Good k' ∧ k' ≠ [] ∧ M k' ≠ none ∧ ((kd' = 2 ∧ k' ≠ [65] ∧ k' ≠ [90]) ∨ kd' = 4))
theorem all_words {u : World} {b n : Nat} {M : Tab} (h : MapAt u b n M) (hn : n ≤ 1000) (ha : M [65] ≠ none) :
    Calls Tryz.prog 11 #[.map (some b), .string { data := #[] }] u fun e w' => ∃ (g cap : Nat) (L : List Word), e = .returned (.slice (some ⟨g, 0, none⟩) L.length cap) ∧ Keys M [] L ∧ L.length ≤ 1000 ∧ 0 < L.length ∧ u.heap.size ≤ g ∧ (∀ j (hj : j < L.length), w'.cell? ⟨g, j, none⟩ = some (strV L[j])) ∧ Below u.heap.size u w' := by
  refine (begins_calls (p := []) h hn).mono ?_
  rintro e w' ⟨v, L, rfl, a1, a2, a3, a4⟩
  have hA := (a1.2 [65]).2 ⟨ha, List.nil_prefix⟩
  rcases row_form a3 with ⟨rfl, rfl⟩ | ⟨g, cap, rfl, f1, f2, f3⟩
  · simp at hA
  · exact ⟨g, cap, L, rfl, a1, by omega, List.length_pos_of_mem hA, f2, f3, a4⟩

theorem one_four {wr w4 : World} {xb x0 : Nat} {M : Tab} {k y : Word} (h : w4.heap[xb]? = some (.cells #[.int .i64 2, .string (strOf y), .int .i64 x0] 33 (0, 0)) ∧ Below wr.heap.size wr w4) (hy : Good y ∧ y ≠ [] ∧ M y ≠ none) (hxb : wr.heap.size ≤ xb) :
    ∃ (kd' : Nat) (k' : Word), Hid ((w4.setCell ⟨xb, 0, none⟩ (.int .i64 4)).heap[xb]? = some (.cells #[.int .i64 kd', .string (strOf k'), .int .i64 x0] 33 (0, 0)) ∧ Below wr.heap.size wr (w4.setCell ⟨xb, 0, none⟩ (.int .i64 4)) ∧ OneOf M 2 k kd' k') :=
  ⟨4, y, Lib.hid ⟨by rw [heap_setCell_at h.1]; rfl, h.2.setCell hxb _, .inr ⟨rfl, hy.1, hy.2.1, hy.2.2, .inr rfl⟩⟩⟩
theorem str_one (a : UInt8) (r : Word) (u : World) : (Instr.slice 9 (.string (strOf (a :: r))) none (some (.int .i64 1)) none).run Tryz.prog u = .ok (.string (strOf [a])) u := by
  have hs := strOf_size (a :: r)
  have he : (strOf (a :: r)).extract 0 1 = strOf [a] := by
    apply ByteArray.ext
    rw [ByteArray.data_extract]
    simp [strOf]
  have hl : (a :: r).length = r.length + 1 := rfl
  rw [hl] at hs
  go_simp
  intro h; omega
theorem valid_three {k : Word} {a : UInt8} {r : Word} {x0 : Nat} (h : Told k) (hk : k = a :: r) (hx : x0 < 256) : (∀ M, Valid M ⟨5, [a], x0⟩) ∧ ∀ M, (∃ y, M y ≠ none ∧ [a] <+: y) → Valid M ⟨3, [a], x0⟩ := by
  obtain ⟨a', r', e, h1, h2, _⟩ := h
  rw [hk] at e
  injection e with e1 e2
  subst e1
  have hg : Good [a] ∧ ([a] : Word) ≠ [] := ⟨.inr (.inr (.inr ⟨a, [], rfl, h1, h2, by simp, by simp⟩)), by simp⟩
  exact ⟨fun M => ⟨hg, by simp, by simp; omega, .inr (.inr (.inr (.inr (.inr rfl))))⟩, fun M hm => ⟨hg, by simp, by simp; omega, .inr (.inr (.inr (.inl ⟨rfl, a, rfl, h1, hm⟩)))⟩⟩
theorem some_key {M : Tab} {p : Word} {L : List Word} (h : Keys M p L) (hL : ¬ L.length = 0) : ∃ y, M y ≠ none ∧ p <+: y := by
  cases L with
  | nil => exact (hL rfl).elim
  | cons y L => exact ⟨y, (h.2 y).1 (by simp)⟩
theorem valid_of {M : Tab} {kd kd' x0 : Nat} {k k' : Word} (h : OneOf M kd k kd' k') (hT : Told k) (h5 : kd ≤ 5) (h3 : kd' ≠ 3) (hx : x0 < 256) : Valid M ⟨kd', k', x0⟩ := by
  rcases h with ⟨h1, rfl, rfl⟩ | ⟨rfl, h1, h2, h4, ⟨rfl, h6, h7⟩ | rfl⟩
  · refine ⟨hT.good, by simp, by simp; omega, ?_⟩
    have : kd' = 0 ∨ kd' = 1 ∨ kd' = 4 ∨ kd' = 5 := by omega
    rcases this with rfl | rfl | rfl | rfl
    · exact .inl rfl
    · exact .inr (.inl rfl)
    · exact .inr (.inr (.inr (.inr (.inl rfl))))
    · exact .inr (.inr (.inr (.inr (.inr rfl))))
  · exact ⟨⟨h1, h2⟩, by simp, by simp; omega, .inr (.inr (.inl ⟨rfl, h4, h6, h7⟩))⟩
  · exact ⟨⟨h1, h2⟩, by simp, by simp; omega, .inr (.inr (.inr (.inr (.inl rfl))))⟩
theorem two_five {wr w4 : World} {xb x0 : Nat} {M : Tab} {k : Word} {kd : Int} (h : w4.heap[xb]? = some (.cells #[.int .i64 kd, .string (strOf k), .int .i64 x0] 33 (0, 0)) ∧ Below wr.heap.size wr w4) (hy : ∀ M, Valid M ⟨5, k, x0⟩) (hxb : wr.heap.size ≤ xb) :
    ∃ x : Step, Hid ((w4.setCell ⟨xb, 0, none⟩ (.int .i64 5)).heap[xb]? = some (.cells (cells3 x).toArray 33 (0, 0)) ∧ Below wr.heap.size wr (w4.setCell ⟨xb, 0, none⟩ (.int .i64 5)) ∧ Valid M x) :=
  ⟨⟨5, k, x0⟩, Lib.hid ⟨by rw [heap_setCell_at h.1]; rfl, h.2.setCell hxb _, hy M⟩⟩
theorem str_is (y k : Word) : ((strOf y).toList == k) = decide (y = k) := by
  rw [strOf_list]
  by_cases e : y = k
  · simp [e]
  · simp [e]

theorem box_two (wr : World) (o : Obj) (cs : Array Value) : ((wr.alloc o).alloc (.cells cs 33)).drew.heap[wr.heap.size + 1]? = some (.cells cs 33 (0, 0)) ∧ wr.heap.size ≤ wr.heap.size + 1 ∧ Below wr.heap.size wr ((wr.alloc o).alloc (.cells cs 33)).drew := by
  refine ⟨?_, by omega, ?_⟩
  · have := hNew (wr.alloc o) (.cells cs 33)
    rw [World.size_alloc] at this
    exact this
  · exact (((Below.refl _ _).alloc (Nat.le_refl _) _).alloc (by simp) _).drew
theorem box_one (wr : World) (o : Obj) (cs : Array Value) : ((wr.alloc (.cells cs 33)).alloc o).drew.heap[wr.heap.size]? = some (.cells cs 33 (0, 0)) ∧ wr.heap.size ≤ wr.heap.size ∧ Below wr.heap.size wr ((wr.alloc (.cells cs 33)).alloc o).drew := by
  refine ⟨?_, by omega, ?_⟩
  · exact hAl (hNew wr (.cells cs 33))
  · exact (((Below.refl _ _).alloc (Nat.le_refl _) _).alloc (by simp) _).drew
/-- The first two steps. -/
def xs0 : List Step := [⟨1, [65], 1⟩, ⟨1, [90], 2⟩]
def ss0 : List Word := [[115, 101, 116], [115, 101, 116]]
def Ms0 : Nat → Tab := fun k => match k with | 0 => fun _ => none | 1 => tab1 | _ => tab2
theorem fair0 : Fair (fun _ => none) 0 := ⟨(fun k v h => by cases h), [], by simp, fun k h => (h rfl).elim⟩
theorem good65 : Good [65] ∧ ([65] : Word) ≠ [] := ⟨.inr (.inl rfl), by simp⟩
theorem good90 : Good [90] ∧ ([90] : Word) ≠ [] := ⟨.inr (.inr (.inl rfl)), by simp⟩
theorem fair1 : Fair tab1 1 := fair0.put good65 (by decide) (by decide)
theorem fair2 : Fair tab2 2 := fair1.put good90 (by decide) (by decide)
theorem script0 : Script xs0 ss0 Ms0 := by
  refine ⟨rfl, by decide, by decide, rfl, rfl, rfl, rfl, rfl, fun x hx => ?_, fun k hk => ?_, fun k x s hx hs => ?_⟩
  · simp only [xs0, List.mem_cons, List.not_mem_nil, or_false] at hx
    rcases hx with rfl | rfl
    · exact good65
    · exact good90
  · match k, hk with
    | 0, _ => exact fair0
    | 1, _ => exact fair1
    | 2, _ => exact fair2
  · match k with
    | 0 => simp [xs0] at hx; simp [ss0] at hs; subst hx; subst hs; exact .set
    | 1 => simp [xs0] at hx; simp [ss0] at hs; subst hx; subst hs; exact .set
    | k + 2 => simp [xs0] at hx
theorem map0 (w : World) : MapAt (w.alloc (.map #[] 0)) w.heap.size 0 (fun _ => none) := ⟨.map [], World.ownsMap_made _ _ _ _, MapIs.empty⟩

/-- The two steps' cells. -/
abbrev six : Array Value := #[.int .i64 1, .string { data := #[65] }, .int .i64 1, .int .i64 1, .string { data := #[90] }, .int .i64 2]
theorem first_tell {u : World} {b : Nat} (h : MapAt u b 0 (fun _ => none)) : Calls Tryz.prog 9 #[.map (some b), .agg #[.int .i64 1, .string { data := #[65] }, .int .i64 1]] u fun e w' => e = .returned (.string { data := #[115, 101, 116] }) ∧ MapAt w' b 1 tab1 ∧ Kept (fun k => k = b) u w' :=
  stell_set (k := [65]) (m := 1) h (by omega) (by decide) (by decide) (by decide)
theorem second_tell {u : World} {b : Nat} (h : MapAt u b 1 tab1) : Calls Tryz.prog 9 #[.map (some b), .agg #[.int .i64 1, .string { data := #[90] }, .int .i64 2]] u fun e w' => e = .returned (.string { data := #[115, 101, 116] }) ∧ MapAt w' b 2 tab2 ∧ Kept (fun k => k = b) u w' :=
  stell_set (k := [90]) (m := 2) h (by omega) (by decide) (by decide) (by decide)

theorem map_ne_cells {u : World} {b n g : Nat} {M : Tab} (h : MapAt u b n M) {cs : Array Value} {T : TypeId} {fr : Nat × Nat} (hg : u.heap[g]? = some (.cells cs T fr)) : g ≠ b := by
  rintro rfl
  obtain ⟨D, ⟨es, clock, hb, _⟩, _⟩ := h.ex
  rw [hb] at hg; cases hg

theorem round0 {w w1 w2 : World} {b : Nat} (hsix : w1.heap[w.heap.size]? = some (.cells six 33 (0, 0))) (hb1 : Below w.heap.size w w1) (hk : Kept (fun k => k = b) w1 w2) (hm : MapAt w2 b 2 tab2) (hb : w.heap.size ≤ b) (hne : w.heap.size ≠ b) :
    RoundAt w (w2.alloc (.cells #[.string { data := #[115, 101, 116] }, .string { data := #[115, 101, 116] }] 9)) (.slice (some ⟨w.heap.size, 0, none⟩) 2 2) (.slice (some ⟨w2.heap.size, 0, none⟩) 2 2) b xs0 ss0 Ms0 := by
  have hsz := hk.size
  have hsz1 := hb1.size
  have hka : Kept (fun _ => False) w2 (w2.alloc (.cells #[.string { data := #[115, 101, 116] }, .string { data := #[115, 101, 116] }] 9)) := (Kept.refl _ _).alloc _
  refine ⟨script0, ⟨rfl, .inr ⟨w.heap.size, 2, six, rfl, Nat.le_refl _, ?_, by decide, by decide, rfl, rfl⟩⟩, ⟨rfl, .inr ⟨w2.heap.size, 2, _, rfl, by omega, hNew w2 _, by decide, by decide, rfl, rfl⟩⟩, hm.kept hka (fun h => h), ?_, hb, by decide, by decide⟩
  · exact hka.lt (hk.lt hsix hne) (fun h => h)
  · exact hb1.trans (((hk.mono fun k _ e => (by show w.heap.size ≤ k; omega)).trans (hka.mono fun k _ h => h.elim)).below (by omega))

set_option maxRecDepth 100000 in
set_option maxHeartbeats 8000000 in
theorem splay_calls {w : World} {a : Option Addr} {dg o cap : Nat} {data : Word} (hd : 1 < data.length → a = some ⟨dg, o, none⟩ ∧ dg < w.heap.size ∧ BytesAt w dg o data) (hcap : data.length ≤ cap) (hbig : data.length ≤ 2147483647) (htab : TabB w.heap.size w) :
    Calls Tryz.prog 4 #[.slice a data.length cap] w (SPlayed w) := by
  have hmm := @run_makeMap Tryz.prog
  have H := Lib.hid (And.intro hd htab); clear hd htab
  go_enter Tryz.func4, Tryz.ntmps4
  go_upto_region 3 with fail
  generalize hw1 : (w.alloc (Obj.cells six 33)).alloc (Obj.map #[] 0) = w1
  have hs1 : (w.alloc (Obj.cells six 33)).heap.size = w.heap.size + 1 := by simp
  have hsix : w1.heap[w.heap.size]? = some (.cells six 33 (0, 0)) := by rw [← hw1]; exact hAl (hNew w _)
  have hb1 : Below w.heap.size w w1 := by rw [← hw1]; exact ((Below.refl _ _).alloc (Nat.le_refl _) _).alloc (by simp) _
  have hm1 : MapAt w1 (w.heap.size + 1) 0 (fun _ => none) := by rw [← hw1, ← hs1]; exact map0 _
  have H1 := Lib.hid (And.intro hsix (And.intro hb1 hm1))
  have c0 := cell_of_heap hsix 0
  have c1 := cell_of_heap hsix 1
  have c2 := cell_of_heap hsix 2
  have c3 := cell_of_heap hsix 3
  have c4 := cell_of_heap hsix 4
  have c5 := cell_of_heap hsix 5
  simp at c0 c1 c2 c3 c4 c5
  have hne : ¬ (w.heap.size = w.heap.size + 1) := by omega
  clear hw1 hsix hb1 hm1 hmm
  have HF1 := Lib.hid (fun u (hu : Drawn w1 u) => first_tell (u := u) (b := w.heap.size + 1) (H1.out.2.2.kept (hu.kept (fun _ => False)) (fun h => h)))
  have HF2 := Lib.hid (fun u (hu : MapAt u (w.heap.size + 1) 1 tab1) => second_tell (u := u) hu)
  go_cut [7] (fun tv wx => Hid (RoundAt w wx (.slice (some ⟨w.heap.size, 0, none⟩) 2 2) tv (w.heap.size + 1) xs0 ss0 Ms0))
  case first =>
    go_region_held3 (fun u => u.cell? ⟨w.heap.size, 0, none⟩ = some (.int .i64 1) ∧ u.cell? ⟨w.heap.size, 1, none⟩ = some (.string { data := #[65] }) ∧ u.cell? ⟨w.heap.size, 2, none⟩ = some (.int .i64 1) ∧ u.cell? ⟨w.heap.size, 3, none⟩ = some (.int .i64 1) ∧ u.cell? ⟨w.heap.size, 4, none⟩ = some (.string { data := #[90] }) ∧ u.cell? ⟨w.heap.size, 5, none⟩ = some (.int .i64 2))
      (first | exact ⟨c0, c1, c2, c3, c4, c5⟩ | exact ⟨k0, k1, k2, k3, k4, k5⟩ | exact ⟨cAl m0, cAl m1, cAl m2, cAl m3, cAl m4, cAl m5⟩ | exact ⟨m0, m1, m2, m3, m4, m5⟩)
      (first
      | ((with_reducible refine (HF1.out _ (drawn_one _)).mono ?_); rintro e wA ⟨rfl, hmA, hkA⟩; have k0 := hkA.cell (v := .int .i64 1) c0 hne; have k1 := hkA.cell (v := .string { data := #[65] }) c1 hne; have k2 := hkA.cell (v := .int .i64 1) c2 hne; have k3 := hkA.cell (v := .int .i64 1) c3 hne; have k4 := hkA.cell (v := .string { data := #[90] }) c4 hne; have k5 := hkA.cell (v := .int .i64 2) c5 hne; have HA := Lib.hid (And.intro hmA hkA); clear hmA hkA)
      | ((with_reducible refine (HF2.out _ HA.out.1).mono ?_); rintro e wB ⟨rfl, hmB, hkB⟩; have m0 := hkB.cell (v := .int .i64 1) k0 hne; have m1 := hkB.cell (v := .string { data := #[65] }) k1 hne; have m2 := hkB.cell (v := .int .i64 1) k2 hne; have m3 := hkB.cell (v := .int .i64 1) k3 hne; have m4 := hkB.cell (v := .string { data := #[90] }) k4 hne; have m5 := hkB.cell (v := .int .i64 2) k5 hne; have HB := Lib.hid (And.intro hmB hkB); clear hmB hkB))
    all_goals
      go_wp2_with fail
      go_meet
      exact Lib.hid (round0 H1.out.1 H1.out.2.1 (((Kept.drew (Kept.refl (fun k => k = w.heap.size + 1) w1)).trans HA.out.2).trans HB.out.2) HB.out.1 (by omega) hne)
  case rest =>
    have HR0 := hcut
    clear hcut c0 c1 c2 c3 c4 c5 HF1 HF2
    go_wp2_with fail
    go_loopw [0, 5, 7] (fun d v5 v7 wr => ∃ (rest : Word) (a' : Option Addr) (o' c' : Nat) (xs : List Step) (ss : List Word) (Ms : Nat → Tab), d = .slice a' rest.length c' ∧ rest.length ≤ c' ∧ rest.length ≤ 2147483647 ∧ Hid ((1 < rest.length → a' = some ⟨dg, o', none⟩ ∧ dg < w.heap.size ∧ BytesAt w dg o' rest) ∧ RoundAt w wr v5 v7 (w.heap.size + 1) xs ss Ms)) (fun d _ _ _ => lenOf d)
    case atStart => exact ⟨data, a, o, cap, xs0, ss0, Ms0, rfl, hcap, hbig, Lib.hid ⟨H.out.1, HR0.out⟩⟩
    case round =>
      clear HR0 H1
      obtain ⟨rest, a', o', c', xs, ss, Ms, rfl, hr1, hr2, HR⟩ := hrel
      have hlo := HR.out.2.script.lo
      have hhi := HR.out.2.script.hi
      obtain ⟨sg, cap5, h5, hsg1, hsg2⟩ := HR.out.2.steps.form (by omega)
      subst h5
      by_cases hc1 : 1 < rest.length
      · obtain ⟨ha, hlt, HBy⟩ := HR.out.1 hc1
        subst ha
        have HBy := Lib.hid HBy
        by_cases hc2 : xs.length < 60
        · have hkb := Below.kept_of HR.out.2.below (fun _ => False)
          have d0 := hkb.cell (HBy.out 0 (by omega)) (fun h => h)
          rw [Nat.add_zero] at d0
          have hx0 : (rest[0]).toNat < 256 := rest[0].toNat_lt
          obtain ⟨x0, hx0e⟩ : ∃ x0, rest[0].toNat = x0 := ⟨_, rfl⟩
          rw [hx0e] at d0 hx0
          clear hx0e hkb
          have hkc := kind_cell wr x0
          have hkc1 : ∀ o, ((wr.alloc (.cells kinds 3)).alloc o).cell? ⟨wr.heap.size, x0 % 10, none⟩ = some (.int .i64 (kindOf (x0 % 10) : Nat)) := fun o => cAl (kind_cell wr x0)
          have hkc2 : ∀ o, ((wr.alloc o).alloc (.cells kinds 3)).cell? ⟨wr.heap.size + 1, x0 % 10, none⟩ = some (.int .i64 (kindOf (x0 % 10) : Nat)) := fun o => by
            have := kind_cell (wr.alloc o) x0
            rwa [World.size_alloc] at this
          have d1 : ∀ o, (wr.alloc o).cell? ⟨dg, o', none⟩ = some (.int .u8 x0) := fun o => cAl d0
          have d2 : ∀ o o2, ((wr.alloc o).alloc o2).cell? ⟨dg, o', none⟩ = some (.int .u8 x0) := fun o o2 => cAl (cAl d0)
          have hl0 : 0 < rest.length := by omega
          have hm10 : x0 % 10 < 10 := Nat.mod_lt _ (by decide)
          go_upto_region 5 with fail
          go_cut [8] (fun pv wx => ∃ xb, pv = ptrV xb ∧ Hid (wx.heap[xb]? = some (.cells #[.int .i64 (kindOf (x0 % 10)), .string ByteArray.empty, .int .i64 x0] 33 (0, 0)) ∧ wr.heap.size ≤ xb ∧ Below wr.heap.size wr wx))
          case first =>
            go_region
            · go_wp2_with fail
              go_meet
              exact ⟨_, rfl, Lib.hid (box_two wr _ _)⟩
            · go_wp2_with fail
              go_meet
              exact ⟨_, rfl, Lib.hid (box_one wr _ _)⟩
          case rest =>
            obtain ⟨xb, rfl, HX⟩ := hcut
            obtain ⟨kd, hkd, hk6⟩ : ∃ kd, kindOf (x0 % 10) = kd ∧ kd ≤ 5 := ⟨_, rfl, kind_le hm10⟩
            rw [hkd] at HX
            clear hkd hkc hkc1 hkc2 d0 d1 d2 hl0 hm10
            have hs1 : ∀ u, (Instr.slice 22 (.slice (some ⟨dg, o', none⟩) rest.length c') (some (.int .i64 1)) none none).run Tryz.prog u = .ok (.slice (some ⟨dg, o' + 1, none⟩) (rest.length - 1) (c' - 1)) u := slice_one (by omega) hr1
            have HWd : Hid (Calls Tryz.prog 10 #[.slice (some ⟨dg, o' + 1, none⟩) (rest.length - 1) (c' - 1)] wc fun e w' => ∃ (k : Word) (m : Nat), e = .returned (.tuple #[.string (strOf k), .int .i64 m]) ∧ Told k ∧ m ≤ rest.length - 1 ∧ Below wc.heap.size wc w') := Lib.hid (by
              have hl : (rest.drop 1).length = rest.length - 1 := by simp
              have hkb := (Below.kept_of HR.out.2.below (fun _ => False)).trans (Below.kept_of HX.out.2.2 (fun _ => False))
              have hb : BytesAt wc dg (o' + 1) (rest.drop 1) := (BytesAt.kept HBy.out hkb (fun h => h)).drop 1
              have := word_calls (cap := c' - 1) hb (by omega) (by omega)
              rw [hl] at this
              exact this)
            go_upto_region 7 with ((go_at_call 10; refine HWd.out.mono ?_; rintro e w6 ⟨k, m, rfl, hT, hm, hb6⟩))
            obtain ⟨o2, hs2, hb2⟩ := slice_past (w := w6) (dg := dg) (o := o') (c := c') (rest := rest) (BytesAt.kept HBy.out (((Below.kept_of HR.out.2.below (fun _ => False)).trans (Below.kept_of HX.out.2.2 (fun _ => False))).trans (Below.kept_of hb6 (fun _ => False))) (fun h => h)) (1 + m) (by omega) hr1 (z := 1 + (m : Int)) (by omega)
            have hx6 : w6.heap[xb]? = some (.cells #[.int .i64 kd, .string ByteArray.empty, .int .i64 x0] 33 (0, 0)) := (Below.kept_of hb6 (fun _ => False)).lt HX.out.1 (fun h => h)
            have x6a := cell_of_heap hx6 0
            have x6b := cell_of_heap hx6 1
            simp at x6a x6b
            have x6f := free_of_heap hx6 1
            have HBt := Lib.hid (data_at (w := w) hlt HR.out.2.below HX.out.2.2 hb6 hb2)
            have H6 := Lib.hid (And.intro hT (And.intro hb2 (And.intro hx6 (HX.out.2.2.trans (hb6.mono HX.out.2.2.size))))); clear hT hb2 hx6 hb6
            go_upto_region 9 with fail
            generalize hw2 : w6.setCell ⟨xb, 1, none⟩ (Value.string (strOf k)) = w2
            have hx2 : w2.heap[xb]? = some (.cells #[.int .i64 kd, .string (strOf k), .int .i64 x0] 33 (0, 0)) := by rw [← hw2, heap_setCell_at H6.out.2.2.1]; rfl
            have hb2 : Below wr.heap.size wr w2 := by rw [← hw2]; exact H6.out.2.2.2.setCell HX.out.2.1 _
            have y0 := cell_of_heap hx2 0
            have y1 := cell_of_heap hx2 1
            have y2 := cell_of_heap hx2 2
            simp at y0 y1 y2
            have yf0 := free_of_heap hx2 0
            have yf1 := free_of_heap hx2 1
            have H2 := Lib.hid (And.intro hx2 hb2); clear hx2 hb2 hw2 x6a x6b x6f hs1 hs2
            go_upto_if 61 with fail
            go_cut [11] (fun _ wx => ∃ (kd' : Nat) (k' : Word), Hid (wx.heap[xb]? = some (.cells #[.int .i64 kd', .string (strOf k'), .int .i64 x0] 33 (0, 0)) ∧ Below wr.heap.size wr wx ∧ OneOf (Ms xs.length) kd k kd' k'))
            case first =>
              by_cases h2 : kd = 2
              · subst h2
                have HBg : Hid (Calls Tryz.prog 11 #[.map (some (w.heap.size + 1)), .string { data := #[] }] w2 fun e w' => ∃ (g cap : Nat) (L : List Word), e = .returned (.slice (some ⟨g, 0, none⟩) L.length cap) ∧ Keys (Ms xs.length) [] L ∧ L.length ≤ 1000 ∧ 0 < L.length ∧ w2.heap.size ≤ g ∧ (∀ j (hj : j < L.length), w'.cell? ⟨g, j, none⟩ = some (strV L[j])) ∧ Below w2.heap.size w2 w') := Lib.hid (all_words (HR.out.2.map.kept (Below.kept_of H2.out.2 (fun _ => False)) (fun h => h)) (by omega) HR.out.2.a)
                go_upto_region 11 with (go_at_call 11; refine HBg.out.mono ?_; rintro e w3 ⟨g, cg, L, rfl, a1, a2, a3, a4, a5, a6⟩)
                have hmod : x0 % L.length < L.length := Nat.mod_lt _ a3
                have cw := a5 _ hmod
                have z2 := (Below.kept_of a6 (fun _ => False)).cell y2 (fun h => h)
                have z1 := (Below.kept_of a6 (fun _ => False)).cell y1 (fun h => h)
                have z0 := (Below.kept_of a6 (fun _ => False)).cell y0 (fun h => h)
                have hx3 := (Below.kept_of a6 (fun _ => False)).lt H2.out.1 (fun h => h)
                have zf0 := free_of_heap hx3 0
                have zf1 := free_of_heap hx3 1
                have HL := Lib.hid (And.intro a1 (And.intro a4 (And.intro a5 (And.intro a6 hx3)))); clear a1 a4 a5 a6 hx3 y0 y1 y2 yf0 yf1
                go_upto_region 12 with fail
                obtain ⟨y, hy⟩ : ∃ y, L[x0 % L.length] = y := ⟨_, rfl⟩
                rw [hy]
                have hym : (Ms xs.length) y ≠ none := by rw [← hy]; exact ((HL.out.1.2 _).1 (List.getElem_mem hmod)).1
                have hyg : Hid (Good y ∧ y ≠ [] ∧ (Ms xs.length) y ≠ none) := Lib.hid (by
                  cases e : (Ms xs.length) y with
                  | none => exact (hym e).elim
                  | some u => have := (HR.out.2.script.fair _ (Nat.le_refl _)).good y u e; exact ⟨this.1, this.2.1, by simp⟩)
                generalize hw4 : w3.setCell ⟨xb, 1, none⟩ (Value.string (strOf y)) = w4
                have hx4 : w4.heap[xb]? = some (.cells #[.int .i64 2, .string (strOf y), .int .i64 x0] 33 (0, 0)) := by rw [← hw4, heap_setCell_at HL.out.2.2.2.2]; rfl
                have hb4 : Below wr.heap.size wr w4 := by rw [← hw4]; exact (H2.out.2.trans (HL.out.2.2.2.1.mono H2.out.2.size)).setCell HX.out.2.1 _
                have t1 := cell_of_heap hx4 1
                have t0 := cell_of_heap hx4 0
                simp at t0 t1
                have tf0 := free_of_heap hx4 0
                have H4 := Lib.hid (And.intro hx4 hb4); clear hx4 hb4 hw4 cw hy hym z0 z1 z2 zf0 zf1 hmod
                by_cases e65 : y = [65]
                · have q65 := str_is y [65]
                  rw [decide_eq_true e65] at q65
                  have r65 : (strOf y).toList = [65] := by rw [strOf_list]; exact e65
                  clear e65
                  go_wp2_with fail
                  go_meet
                  exact one_four H4.out hyg.out HX.out.2.1
                · have q65 := str_is y [65]
                  rw [decide_eq_false e65] at q65
                  by_cases e90 : y = [90]
                  · have q90 := str_is y [90]
                    rw [decide_eq_true e90] at q90
                    have r65 : ¬ (strOf y).toList = [65] := by rw [strOf_list]; exact e65
                    have r90 : (strOf y).toList = [90] := by rw [strOf_list]; exact e90
                    clear e65 e90
                    go_wp2_with fail
                    go_meet
                    exact one_four H4.out hyg.out HX.out.2.1
                  · have q90 := str_is y [90]
                    rw [decide_eq_false e90] at q90
                    have r65 : ¬ (strOf y).toList = [65] := by rw [strOf_list]; exact e65
                    have r90 : ¬ (strOf y).toList = [90] := by rw [strOf_list]; exact e90
                    have HE := Lib.hid (And.intro e65 e90)
                    clear e65 e90
                    go_wp2_with fail
                    go_meet
                    exact ⟨2, y, Lib.hid ⟨H4.out.1, H4.out.2, .inr ⟨rfl, hyg.out.1, hyg.out.2.1, hyg.out.2.2, .inl ⟨rfl, HE.out⟩⟩⟩⟩
              · have h2b : ((kd : Int) == 2) = false := by simp; omega
                have HE := Lib.hid h2
                clear h2
                go_wp2_with fail
                go_meet
                exact ⟨kd, k, Lib.hid ⟨H2.out.1, H2.out.2, .inl ⟨HE.out, rfl, rfl⟩⟩⟩
            case rest =>
              obtain ⟨kd', k', HC1⟩ := hcut
              clear y0 y1 y2 yf0 yf1
              generalize hwc : wc = w5 at *
              have hx5 := HC1.out.1
              have y0 := cell_of_heap hx5 0
              have y1 := cell_of_heap hx5 1
              simp at y0 y1
              have yf0 := free_of_heap hx5 0
              have yf1 := free_of_heap hx5 1
              clear hx5
              go_upto_if 84 with fail
              go_cut [93] (fun _ wx => ∃ x : Step, Hid (wx.heap[xb]? = some (.cells (cells3 x).toArray 33 (0, 0)) ∧ Below wr.heap.size wr wx ∧ Valid (Ms xs.length) x))
              case first =>
                by_cases h3 : kd' = 3
                · subst h3
                  obtain ⟨a, r, hka⟩ : ∃ a r, k = a :: r := by obtain ⟨a, r, e, _⟩ := H6.out.1; exact ⟨a, r, e⟩
                  have hsk := str_one a r
                  rw [← hka] at hsk
                  have hse : (strOf k).extract 0 1 = strOf [a] := by rw [hka]; apply ByteArray.ext; rw [ByteArray.data_extract]; simp [strOf]
                  have hss := strOf_size k
                  have hkp : 1 ≤ k.length := by rw [hka]; simp
                  have hV := valid_three (x0 := x0) H6.out.1 hka hx0
                  have HBg : Hid (∀ u, Below wr.heap.size wr u → Calls Tryz.prog 11 #[.map (some (w.heap.size + 1)), .string (strOf [a])] u fun e w' => ∃ (v : Value) (L : List Word), e = .returned v ∧ Keys (Ms xs.length) [a] L ∧ (v = .slice none 0 0 ∧ L = [] ∨ ∃ g cap, v = .slice (some ⟨g, 0, none⟩) L.length cap) ∧ L.length ≤ 1000 ∧ Below u.heap.size u w') := Lib.hid (fun u hu => by
                    refine (begins_calls (p := [a]) (HR.out.2.map.kept (Below.kept_of hu (fun _ => False)) (fun h => h)) (by omega)).mono ?_
                    rintro e w' ⟨v, L, rfl, a1, a2, a3, a4⟩
                    refine ⟨v, L, rfl, a1, ?_, by omega, a4⟩
                    rcases row_form a3 with h | ⟨g, cap, h, _⟩
                    · exact .inl h
                    · exact .inr ⟨g, cap, h⟩)
                  have HVV := Lib.hid hV
                  clear hV hka
                  go_upto_region 16 with fail
                  generalize hw6 : w5.setCell ⟨xb, 1, none⟩ (Value.string (strOf [a])) = w8
                  have hx8 : w8.heap[xb]? = some (.cells #[.int .i64 3, .string (strOf [a]), .int .i64 x0] 33 (0, 0)) := by rw [← hw6, heap_setCell_at HC1.out.1]; rfl
                  have hb8 : Below wr.heap.size wr w8 := by rw [← hw6]; exact HC1.out.2.1.setCell HX.out.2.1 _
                  have t1 := cell_of_heap hx8 1
                  have t0 := cell_of_heap hx8 0
                  simp at t0 t1
                  have H8 := Lib.hid (And.intro hx8 hb8); clear hx8 hb8 hw6 y0 y1 yf0 yf1 hsk
                  go_upto_if 93 with ((go_at_call 11; refine (HBg.out _ H8.out.2).mono ?_; rintro e w9 ⟨v, L, rfl, a1, ⟨rfl, rfl⟩ | ⟨g, cg, rfl⟩, a3, a4⟩))
                  · have hx9 := (Below.kept_of a4 (fun _ => False)).lt H8.out.1 (fun h => h)
                    have s0 := cell_of_heap hx9 0
                    simp at s0
                    have sf := free_of_heap hx9 0
                    have H9 := Lib.hid (And.intro hx9 (H8.out.2.trans (a4.mono H8.out.2.size))); clear hx9 a1 a4
                    go_wp2_with fail
                    go_meet
                    exact two_five H9.out HVV.out.1 HX.out.2.1
                  · have hx9 := (Below.kept_of a4 (fun _ => False)).lt H8.out.1 (fun h => h)
                    have s0 := cell_of_heap hx9 0
                    simp at s0
                    have sf := free_of_heap hx9 0
                    have H9 := Lib.hid (And.intro hx9 (H8.out.2.trans (a4.mono H8.out.2.size))); clear hx9 a4
                    by_cases hL : L.length = 0
                    · have hLb : ((L.length : Int) == 0) = true := by simp [hL]
                      clear hL a1
                      go_wp2_with fail
                      go_meet
                      exact two_five H9.out HVV.out.1 HX.out.2.1
                    · have hLb : ((L.length : Int) == 0) = false := by simp; intro h; rw [h] at hL; simp at hL
                      have hVX := Lib.hid (HVV.out.2 (Ms xs.length) (some_key a1 hL))
                      clear hL a1
                      go_wp2_with fail
                      go_meet
                      exact ⟨⟨3, [a], x0⟩, Lib.hid ⟨H9.out.1, H9.out.2, hVX.out⟩⟩
                · have h3b : ((kd' : Int) == 3) = false := by simp; omega
                  have HVX := Lib.hid (valid_of HC1.out.2.2 H6.out.1 hk6 h3 hx0)
                  clear h3
                  go_wp2_with fail
                  go_meet
                  exact ⟨⟨kd', k', x0⟩, Lib.hid ⟨HC1.out.1, HC1.out.2.1, HVX.out⟩⟩
              case rest =>
                obtain ⟨x, HC2⟩ := hcut
                clear y0 y1 yf0 yf1 HC1
                go_upto_region 18 with fail
                have hxb := HX.out.2.1
                have b0 := cell_of_heap HC2.out.1 0
                have b1 := cell_of_heap HC2.out.1 1
                have b2 := cell_of_heap HC2.out.1 2
                simp [cells3] at b0 b1 b2
                obtain ⟨i0, hi9, hz0, hz1, hz2⟩ := info_parts info9
                obtain ⟨i33, hi33, hy0, hy1, hy2⟩ := info_parts info33
                have HTl := Lib.hid (HR.out.2.tail HC2.out.2.1)
                have hszc := HTl.out.below.size
                have hss := HR.out.2.script.len
                have hne5 : ¬ (Value.slice (some ⟨sg, 0, none⟩) xs.length cap5).ownBlock = some xb := by simp [Value.ownBlock]; omega
                go_wp2_with (first
                  | (at_builtin; refine wpList_append_own _ rfl (.tmp 95) (.tmp 97) 23 rfl w.heap.size 33 i33 (.agg #[.int .i64 0, .string ByteArray.empty, .int .i64 0]) 3 32 Tryz.underlying23 hi33 hy0 hy1 hy2 rfl (by decide) (.slice (some ⟨sg, 0, none⟩) xs.length cap5) xs.length (xs.flatMap cells3) rfl (HTl.out.steps.alloc _) ⟨wc.heap.size, 0, none⟩ 1 1 (cells3 x) rfl rfl (three_vals x _) (three_one x) (by unfold maxLen; omega) (by omega) (by simp; omega) ?_; intro v9 w9 hown9 hgr9 _; obtain ⟨sg9, cap9, hv9, hg91, hg92⟩ := hown9.form (by omega); subst hv9; have hN9 := HTl.out.note hown9 hgr9; have hX9 := HTl.out.box HC2.out.1 hne5 hgr9; have e0 := cell_of_heap hX9 0; have e1 := cell_of_heap hX9 1; have e2 := cell_of_heap hX9 2; simp [cells3] at e0 e1 e2; have H9 := Lib.hid hN9; have hsz9 := hN9.below.size; have HTT := Lib.hid (stell_calls (i := xs.length) (Nat.le_refl _) (tab_later H.out.2 hN9.below) hN9.map (by omega) (HR.out.2.script.fair _ (Nat.le_refl _)) HC2.out.2.2); clear hown9 hgr9 hN9 hX9)
                  | (go_at_call 9; refine HTT.out.mono ?_; rintro e wT ⟨s, M', ht, hst⟩; obtain ⟨he, _⟩ := id hst; subst he; have HT10 := Lib.hid (And.intro ht (H9.out.tell hst HR.out.2.high)); clear ht hst; have hszT := HT10.out.2.below.size)
                  | (at_builtin; refine wpList_append_own _ rfl (.tmp 99) (.tmp 103) 24 rfl w.heap.size 9 i0 (.string ByteArray.empty) 1 16 Tryz.underlying24 hi9 hz0 hz1 hz2 rfl (by decide) u7 ss.length (ss.map strV) rfl (HT10.out.2.told.alloc _) ⟨wT.heap.size, 0, none⟩ 1 1 [strV s] rfl rfl (one_vals _ _ _) (by intro u hu; simp at hu; subst hu; rfl) (by unfold maxLen; omega) (by omega) (by simp; omega) ?_; intro v11 w11 hown11 hgr11 _; have HD := Lib.hid (HT10.out.2.done (.inr ⟨_, HR.out.2⟩) hc2 HT10.out.1 HC2.out.2.2 hown11 hgr11); clear hown11 hgr11))
                have hlen9 : xs.length + 1 = (xs ++ [x]).length := by simp
                go_roundw
                case rel => exact ⟨rest.drop (1 + m), some ⟨dg, o2, none⟩, o2, c' - (1 + m), xs ++ [x], ss ++ [s], _, by rw [List.length_drop], by rw [List.length_drop]; omega, by rw [List.length_drop]; omega, Lib.hid ⟨fun _ => ⟨rfl, hlt, HBt.out⟩, HD.out⟩⟩
                case measure => simp [lenOf]; omega
        · -- the steps are full
          have hd1 : decide (1 < rest.length) = true := by simp; omega
          have hd2 : decide ((1 : Int) < (rest.length : Int)) = true := by simp; omega
          have hd3 : decide (xs.length < 60) = false := by simp; omega
          have hd4 : decide ((xs.length : Int) < 60) = false := by simp; omega
          have HEnd : Hid (Calls Tryz.prog 11 #[.map (some (w.heap.size + 1)), .string { data := #[] }] wr fun e w' => ∃ (v : Value) (L : List Word), e = .returned v ∧ Keys (Ms xs.length) [] L ∧ w'.ownsRow wr.heap.size 9 1 v L.length (L.map strV) ∧ Below wr.heap.size wr w') := Lib.hid (by
            refine (begins_calls (p := []) HR.out.2.map (by omega)).mono ?_
            rintro e w' ⟨v, L, rfl, a1, a2, a3, a4⟩
            exact ⟨v, L, rfl, a1, a3, a4⟩)
          go_wp2_with (go_at_call 11; refine HEnd.out.mono ?_; rintro e w3 ⟨v, L, rfl, a1, a3, a4⟩; have HE := Lib.hid (And.intro a1 (And.intro a3 a4)); clear a1 a3 a4)
          go_ret3
          exact splay_end HR.out.2 HE.out.1 HE.out.2.1 HE.out.2.2
      · -- no more bytes
        have hd1 : decide (1 < rest.length) = false := by simp; omega
        have hd2 : decide ((1 : Int) < (rest.length : Int)) = false := by simp; omega
        have HEnd : Hid (Calls Tryz.prog 11 #[.map (some (w.heap.size + 1)), .string { data := #[] }] wr fun e w' => ∃ (v : Value) (L : List Word), e = .returned v ∧ Keys (Ms xs.length) [] L ∧ w'.ownsRow wr.heap.size 9 1 v L.length (L.map strV) ∧ Below wr.heap.size wr w') := Lib.hid (by
          refine (begins_calls (p := []) HR.out.2.map (by omega)).mono ?_
          rintro e w' ⟨v, L, rfl, a1, a2, a3, a4⟩
          exact ⟨v, L, rfl, a1, a3, a4⟩)
        go_wp2_with (go_at_call 11; refine HEnd.out.mono ?_; rintro e w3 ⟨v, L, rfl, a1, a3, a4⟩; have HE := Lib.hid (And.intro a1 (And.intro a3 a4)); clear a1 a3 a4)
        go_ret3
        exact splay_end HR.out.2 HE.out.1 HE.out.2.1 HE.out.2.2
end Go.Proofs.YtpopiaahdanpeaaGreatDoor
