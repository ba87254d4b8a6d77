/- Put's split, from the two halves to the trie behind it. -/
import Derived.Test.YtpopiaahdanpeaaGreatDoorComp
namespace Go.Proofs.YtpopiaahdanpeaaGreatDoor
open Go Go.RowKit
set_option linter.unusedVariables false

structure SplitDone (wn we : World) (t : Nat) (D D3 : Node → Prop) (X m3 : Node) (L : Nat) (b : UInt8) : Prop where
  trie : TrieAt we t D3
  mem : D3 m3
  word : m3.word = X.word.take (X.word.length - X.plen + L)
  item : m3.item = none
  blk : m3.blk = X.blk
  cc : m3.cc = 8
  d : m3.d = false
  mp : m3.mp = 10
  plen : m3.plen = L
  hb : X.pre[L]? = some b
  kid : ∃ c, ∀ b' k, upd (fun _ => none) b (some c) b' = some k ↔ ∃ V, Kid t D3 m3 b' V ∧ V.blk = k
  has : ∀ k v, Has D3 k v ↔ Has D k v
  kept : Kept (TB D) wn we
  blocks : ∀ Y, D3 Y → ∀ k, NB Y k → TB D k ∨ wn.heap.size ≤ k
  src : ∀ Y, D3 Y → Y ≠ m3 → ∃ Z, D Z ∧ Y.word = Z.word ∧ Y.d = Z.d ∧ Y.cc = Z.cc ∧ Y.mp = Z.mp ∧ (Y.blk = Z.blk ∨ Y.blk ≠ t)

theorem split_done {wn w3 wc : World} {t : Nat} {D : Node → Prop} {X : Node} {L : Nat} {e : Ending} (h : TrieAt wn t D) (hX : D X) (hL : L < X.plen) (hpos : X.blk ≠ t → 0 < L) (s : SplitAt wn w3 X L)
    (hc : ComOut w3 t (splitN D X (midOf X L wn.heap.size) (restOf X L wn.heap.size)) (restOf X L wn.heap.size) e wc) :
    ∃ c b, e = .returned (ptrV c) ∧ KidsAt wc false (wn.heap.size + 3) (wn.heap.size + 2) 8 (fun _ => none) ∧ FB wc c b ∧
      wc.heap[X.blk]? = some (.cells #[.slice (some ⟨X.g, X.off, none⟩) L X.cap, .nilIface, .int .i64 10, .int .i64 8, .iface 94 (ptrV (wn.heap.size + 3))] 73 (0, 0)) ∧ Kept (TB D) wn wc ∧
      ∀ wd d' lb' ab', Kept (fun k => k = wn.heap.size + 3 ∨ k = wn.heap.size + 2) wc wd → KidsAt wd d' lb' ab' 8 (upd (fun _ => none) b (some c)) →
        (lb' = wn.heap.size + 3 ∨ wc.heap.size ≤ lb') → (ab' = wn.heap.size + 2 ∨ wc.heap.size ≤ ab') → d' = false →
        ∀ we, we = wd.setCell ⟨X.blk, 4, none⟩ (.iface (tyOf d') (ptrV lb')) → ∃ D3 m3, SplitDone wn we t D D3 X m3 L b := by
  obtain ⟨b, hb, r⟩ := split_ready h hX hL hpos s
  have hs := split_halves h hX hL hpos
  obtain ⟨f1, f2, f3, f4, f5, f6, f7⟩ := hs.facts h.wf hX
  obtain ⟨x1, x2, x3, x4⟩ := (h.at_ X hX).lts
  have hnt : (restOf X L wn.heap.size).blk ≠ t := hs.xt
  obtain ⟨D'', C, b2, he, q⟩ := comp_of r.wf r.all r.mem r.mem2 f4.symm hnt r.raw hc
  obtain rfl : b2 = b := by have := q.hb; rw [r.hb] at this; injection this with this; exact this.symm
  have hsz := s.kept.size
  have hTB : ∀ k, TB (splitN D X (midOf X L wn.heap.size) (restOf X L wn.heap.size)) k → TB D k ∨ wn.heap.size ≤ k := by
    rintro k ⟨Y, ((⟨hY, _⟩ | rfl) | rfl), hk⟩
    · exact .inl ⟨Y, hY, hk⟩
    · rcases hk with rfl | rfl | rfl | rfl
      · exact .inl ⟨X, hX, .inl rfl⟩
      · exact .inr (by show wn.heap.size ≤ wn.heap.size + 3; omega)
      · exact .inr (by show wn.heap.size ≤ wn.heap.size + 2; omega)
      · exact .inl ⟨X, hX, .inr (.inr (.inr rfl))⟩
    · rcases hk with rfl | rfl | rfl | rfl
      · exact .inr (Nat.le_refl _)
      · exact .inl ⟨X, hX, .inr (.inl rfl)⟩
      · exact .inl ⟨X, hX, .inr (.inr (.inl rfl))⟩
      · exact .inl ⟨X, hX, .inr (.inr (.inr rfl))⟩
  have hXb : TB D X.blk := ⟨X, hX, .inl rfl⟩
  have k1 : Kept (fun k => TB D k ∨ wn.heap.size ≤ k) wn wc :=
    (s.kept.mono (fun k _ e => by rcases e with rfl | e; exact .inl hXb; exact .inr e)).trans (q.kept.mono fun k _ e => hTB k e)
  have hkids := q.kids _ r.kids
  have hnode := q.raw.node
  refine ⟨C.blk, b2, he, hkids, q.fb, hnode, k1.mono (fun k hk e => by rcases e with e | e; exact e; omega), ?_⟩
  rintro wd d' lb' ab' hk hK hlb hab rfl we rfl
  have hne := q.raw.ne q.raw
  have hkidIff : ∀ b' k, upd (fun _ => none) b2 (some C.blk) b' = some k ↔ ∃ V, Kid t D'' (midOf X L wn.heap.size) b' V ∧ V.blk = k := by
    intro b' k
    rw [q.kid b' k]
    unfold upd
    by_cases e : b' = b2
    · subst e
      rw [if_pos rfl]
      constructor
      · intro e2; injection e2 with e2; exact .inl ⟨rfl, e2⟩
      · rintro (⟨_, e2⟩ | ⟨e2, _⟩)
        · rw [e2]
        · exact (e2 rfl).elim
    · rw [if_neg e]
      constructor
      · intro e2; cases e2
      · rintro (⟨e2, _⟩ | ⟨_, V, hV, _⟩)
        · exact (e e2).elim
        · exact (e ((r.kid b' V).1 hV).2).elim
  have k2 : Kept (fun k => k = wn.heap.size + 3 ∨ k = wn.heap.size + 2 ∨ k = X.blk) wc (wd.setCell ⟨X.blk, 4, none⟩ (.iface (tyOf false) (ptrV lb'))) :=
    (hk.mono fun k _ e => by rcases e with e | e; exact .inl e; exact .inr (.inl e)).setCell (Or.inl (.inr (.inr rfl))) _
  have hn3 := hk.lt hnode (by show ¬ (X.blk = _ ∨ X.blk = _); omega)
  have hn3' : wd.heap[X.blk]? = some (.cells #[.slice (some ⟨X.g, X.off, none⟩) L X.cap, .nilIface, .int .i64 10, .int .i64 8, .iface 94 (ptrV (wn.heap.size + 3))] 73 (0, 0)) := hn3
  have hlt2 := kids_list_type hK (.inl hn3)
  have hK' : KidsAt (wd.setCell ⟨X.blk, 4, none⟩ (.iface (tyOf false) (ptrV lb'))) false lb' ab' 8 (upd (fun _ => none) b2 (some C.blk)) :=
    kids_kept hK ((Kept.refl (fun k => k = X.blk) wd).setCell (Or.inl rfl) _) (Ne.symm hlt2.1) (Ne.symm hlt2.2)
  have ht := relist_mem (m := midOf X L wn.heap.size) (d' := false) (lb' := lb') (ab' := ab') q.wf q.all q.mem q.raw k2 (by show (World.setCell _ _ _).heap[X.blk]? = _; rw [heap_setCell_at hn3']; rfl) hK' hkidIff hlb hab
  have hsw : ∀ Y, swapN D'' (midOf X L wn.heap.size) (relist (midOf X L wn.heap.size) false lb' ab') Y → Y ≠ relist (midOf X L wn.heap.size) false lb' ab' → D'' Y ∧ Y ≠ midOf X L wn.heap.size := by
    rintro Y (h | h) hne
    · exact h
    · exact (hne h).elim
  refine ⟨_, relist (midOf X L wn.heap.size) false lb' ab', ht, .inr rfl, rfl, rfl, rfl, rfl, rfl, rfl, rfl, hb, ⟨C.blk, fun b' k => (hkidIff b' k).trans (kid_swap q.mem (A := relist (midOf X L wn.heap.size) false lb' ab') rfl rfl rfl (Y := midOf X L wn.heap.size) rfl b' k).symm⟩, fun k v => ?_, ?_, fun Y hY k hk2 => ?_, fun Y hY hne => ?_⟩
  · have e1 : Has (swapN D'' (midOf X L wn.heap.size) (relist (midOf X L wn.heap.size) false lb' ab')) k v ↔ Has D'' k v := by
      constructor
      · rintro ⟨Y, ⟨hY, _⟩ | rfl, a, b⟩
        · exact ⟨Y, hY, a, b⟩
        · cases b
      · rintro ⟨Y, hY, a, b⟩
        refine ⟨Y, .inl ⟨hY, ?_⟩, a, b⟩
        rintro rfl; cases b
    rw [e1, q.has]
    constructor
    · rintro ⟨Y, ((⟨hY, _⟩ | rfl) | rfl), a, b⟩
      · exact ⟨Y, hY, a, b⟩
      · cases b
      · exact ⟨X, hX, a, b⟩
    · rintro ⟨Y, hY, a, b⟩
      by_cases e : Y = X
      · subst e; exact ⟨_, .inr rfl, a, b⟩
      · exact ⟨Y, .inl (.inl ⟨hY, e⟩), a, b⟩
  · refine (k1.trans (k2.mono fun k _ e => ?_)).mono (fun k hk e => by rcases e with e | e; exact e; omega)
    rcases e with rfl | rfl | rfl
    · exact .inr (by omega)
    · exact .inr (by omega)
    · exact .inl hXb
  · rcases hY with ⟨hY, _⟩ | rfl
    · rcases q.blocks Y hY k hk2 with e | e
      · exact hTB k e
      · exact .inr (by omega)
    · have hwc := k1.size
      rcases hk2 with rfl | rfl | rfl | rfl
      · exact .inl hXb
      · right; rcases hlb with e | e <;> omega
      · right; rcases hab with e | e <;> omega
      · exact .inl ⟨X, hX, .inr (.inr (.inr rfl))⟩
  · obtain ⟨h1, h2⟩ := hsw Y hY hne
    obtain ⟨Z, hZ, z1, z2, z3, z4, z5, z6⟩ := q.src Y h1 h2
    rcases hZ with (⟨hZ, _⟩ | rfl) | rfl
    · exact ⟨Z, hZ, z2, z3, z4, z5, .inl z6⟩
    · exact (z1 rfl).elim
    · exact ⟨X, hX, z2, z3, z4, z5, .inr (by rw [z6]; exact hnt)⟩
end Go.Proofs.YtpopiaahdanpeaaGreatDoor
