/- The walk of compact. -/
import Derived.Test.YtpopiaahdanpeaaGreatDoorPath
import Derived.Deep.RegionLawGrows
namespace Go.Proofs.YtpopiaahdanpeaaGreatDoor
open Go Go.RowKit
set_option linter.unusedVariables false

theorem meth_length (d : Bool) (a : Addr) (w : World) : (method 277 (tyOf d) (.pointer (some a)) "loop.example/pub-triescripts/pub/patricia.length").run Tryz.prog w = .ok (lenFn d, .pointer (some a)) w := by
  cases d <;> kernel_rfl
theorem nil_length (d : Bool) (a : Addr) (w : World) : (nilAhead 277 (tyOf d) (.pointer (some a)) "loop.example/pub-triescripts/pub/patricia.length").run Tryz.prog w = .ok (some false) w := by
  cases d <;> kernel_rfl
theorem call_length (d : Bool) (args : Array Value) (w : World) : (callFunc (lenFn d) args).run Tryz.prog w = .ok (.enter (lenFn d) args) w := by
  cases d <;> kernel_rfl
theorem meth_head (a : Addr) (w : World) : (method 277 (tyOf false) (.pointer (some a)) "loop.example/pub-triescripts/pub/patricia.head").run Tryz.prog w = .ok (101, .pointer (some a)) w := by
  kernel_rfl
theorem nil_head (a : Addr) (w : World) : (nilAhead 277 (tyOf false) (.pointer (some a)) "loop.example/pub-triescripts/pub/patricia.head").run Tryz.prog w = .ok (some false) w := by
  kernel_rfl
theorem item_neq (x : Option Int) (w : World) : (binOp .neq 65 (itemV x) .nilIface).run Tryz.prog w = .ok (.bool x.isSome) w := by
  cases x <;> kernel_rfl

theorem item_guard (op : BinOp) (k : Nat) (x : Option Int) (w : World) : (eqGuard op 65 (.tmp k) (.const .nilIface) (itemV x) .nilIface).run Tryz.prog w = .ok () w := by
  cases x <;> cases op <;> kernel_rfl

set_option maxRecDepth 100000 in
set_option maxHeartbeats 2000000 in
/-- A node with no child, or with two and more, stays. -/
theorem compact_len {w : World} {b lb ab cc : Nat} {d : Bool} {K : UInt8 → Option Nat} (h4 : w.cell? ⟨b, 4, none⟩ = some (.iface (tyOf d) (ptrV lb))) (hK : KidsAt w d lb ab cc K) (hn : cnt K ≠ 1) :
    Calls Tryz.prog 43 #[ptrV b] w fun e w' => e = .returned (ptrV b) ∧ ∃ n, w' = w.drewN n := by
  have hm := meth_length
  have hcl := call_length
  have hnl := nil_length
  have hle := cnt_le K
  have HL := Lib.hid (kids_length hK)
  have hne : ((cnt K : Int) != 1) = true := by simp; omega
  clear hK
  go_enter Tryz.func43, Tryz.ntmps43
  go_wp2_with (with_reducible refine HL.out.mono ?_; rintro e w' ⟨rfl, rfl⟩)
  go_ret
  exact ⟨rfl, 0, rfl⟩

set_option maxRecDepth 100000 in
set_option maxHeartbeats 4000000 in
/-- A node with one child stays if one of them has an item, or if the two parts are too long. -/
theorem compact_stay {w : World} {b lb ab cc c g off plen cap g2 off2 plen2 cap2 : Nat} {item item2 : Option Int} {mp : Int} {K : UInt8 → Option Nat}
    (h0 : w.cell? ⟨b, 0, none⟩ = some (.slice (some ⟨g, off, none⟩) plen cap)) (h1 : w.cell? ⟨b, 1, none⟩ = some (itemV item)) (h2 : w.cell? ⟨b, 2, none⟩ = some (.int .i64 mp))
    (h4 : w.cell? ⟨b, 4, none⟩ = some (.iface (tyOf false) (ptrV lb))) (hK : KidsAt w false lb ab cc K) (hn : cnt K = 1) {y : UInt8} (hy : K y = some c)
    (k0 : w.cell? ⟨c, 0, none⟩ = some (.slice (some ⟨g2, off2, none⟩) plen2 cap2)) (k1 : w.cell? ⟨c, 1, none⟩ = some (itemV item2)) (hp : plen ≤ 100) (hp2 : plen2 ≤ 100)
    (hs : item ≠ none ∨ item2 ≠ none ∨ mp < (plen : Int) + plen2) :
    Calls Tryz.prog 43 #[ptrV b] w fun e w' => e = .returned (ptrV b) ∧ ∃ n, w' = w.drewN n := by
  have hm := meth_length
  have hcl := call_length
  have hnl := nil_length
  have hm2 := meth_head
  have hnl2 := nil_head
  have HL := Lib.hid (kids_length hK)
  rw [hn] at HL
  obtain ⟨y', c', hy', hu, hhead⟩ := hK.one hn
  have : y = y' := by
    by_cases e : y = y'
    · exact e
    · have := hu y e; rw [hy] at this; cases this
  subst this
  rw [hy] at hy'
  cases hy'
  have HH := Lib.hid hhead
  clear hK hhead hu hn hy
  by_cases hi : item = none
  · subst hi
    have e1 := item_neq
    have e2 := item_guard
    by_cases hi2 : item2 = none
    · subst hi2
      have hbig : mp < (plen : Int) + plen2 := by rcases hs with h | h | h; exact (h rfl).elim; exact (h rfl).elim; exact h
      have hgt : decide ((plen : Int) + plen2 > mp) = true := by simp; omega
      have hgt2 : decide (mp < (plen : Int) + plen2) = true := by simp; omega
      have hw : IntKind.i64.wrap ((plen : Int) + (plen2 : Int)) = (plen : Int) + plen2 := IntWalk.i64_in _ (by omega)
      clear hs
      go_enter Tryz.func43, Tryz.ntmps43
      go_wp2_with (first | (go_at_call 101; refine HH.out.mono ?_; rintro e w' ⟨rfl, rfl⟩) | (with_reducible refine HL.out.mono ?_; rintro e w' ⟨rfl, rfl⟩))
      go_quiet (fail)
      go_wp2
      go_ret
      exact ⟨rfl, _, rfl⟩
    · obtain ⟨x, rfl⟩ := Option.ne_none_iff_exists'.1 hi2
      clear hs
      go_enter Tryz.func43, Tryz.ntmps43
      go_wp2_with (first | (go_at_call 101; refine HH.out.mono ?_; rintro e w' ⟨rfl, rfl⟩) | (with_reducible refine HL.out.mono ?_; rintro e w' ⟨rfl, rfl⟩))
      go_ret
      exact ⟨rfl, 0, rfl⟩
  · obtain ⟨x, rfl⟩ := Option.ne_none_iff_exists'.1 hi
    have e1 := item_neq
    have e2 := item_guard
    clear hs
    go_enter Tryz.func43, Tryz.ntmps43
    go_wp2_with (first | (go_at_call 101; refine HH.out.mono ?_; rintro e w' ⟨rfl, rfl⟩) | (with_reducible refine HL.out.mono ?_; rintro e w' ⟨rfl, rfl⟩))
    go_ret
    exact ⟨rfl, 0, rfl⟩

/-- The bytes as cells. -/
def byteVs (l : List UInt8) : List Value := l.map fun x => Value.int .u8 x.toNat
theorem byteVs_len (l : List UInt8) : (byteVs l).length = l.length := by simp [byteVs]
theorem byteVs_one (l : List UInt8) : ∀ u ∈ byteVs l, u.oneCell' = true := by
  intro u hu; obtain ⟨x, _, rfl⟩ := List.mem_map.1 hu; rfl
theorem addr_add (g o j : Nat) : (⟨g, o, none⟩ : Addr).add j = ⟨g, o + j, none⟩ := by unfold Addr.add; split <;> simp_all
theorem BytesAt.vals {w : World} {g o : Nat} {l : List UInt8} (h : BytesAt w g o l) : ∀ j u, (byteVs l)[j]? = some u → w.cell? ((⟨g, o, none⟩ : Addr).add j) = some u := by
  intro j u hu
  have hj : j < l.length := by
    rcases Nat.lt_or_ge j l.length with h' | h'
    · exact h'
    · rw [List.getElem?_eq_none (by simpa [byteVs] using h')] at hu; cases hu
  rw [addr_add, h j hj]
  simp [byteVs, hj] at hu
  rw [hu]
theorem info5 : (Tryz.prog.info? 5).map (fun i => (i.zero, i.size, i.bytes)) = some (some (.int .u8 0), 1, 1) := by kernel_rfl

theorem drewN_setCells (b : Nat) : ∀ (vs : List Value) (o : Nat) (w : World) (n : Nat), (w.drewN n).setCells b o vs = (w.setCells b o vs).drewN n
  | [], _, _, _ => rfl
  | v :: r, o, w, n => drewN_setCells b r (o + 1) (w.setCell ⟨b, o, none⟩ v) n

set_option maxRecDepth 100000 in
set_option maxHeartbeats 4000000 in
/-- A node and its only child become one, in the child's block: there is room behind the node's own part. -/
theorem compact_room {w : World} {b lb ab cc c g off plen cap g2 off2 plen2 cap2 : Nat} {mp : Int} {K : UInt8 → Option Nat} {pre pre2 : List UInt8} {v1 v2 v3 v4 : Value}
    (h0 : w.heap[b]? = some (.cells #[.slice (some ⟨g, off, none⟩) plen cap, .nilIface, .int .i64 mp, v1, .iface (tyOf false) (ptrV lb)] 73 (0, 0)))
    (hK : KidsAt w false lb ab cc K) (hn : cnt K = 1) {y : UInt8} (hy : K y = some c)
    (k0 : w.heap[c]? = some (.cells #[.slice (some ⟨g2, off2, none⟩) plen2 cap2, .nilIface, v2, v3, v4] 73 (0, 0))) (hbc : b ≠ c)
    (hp : pre.length = plen) (hp2 : pre2.length = plen2) (hb1 : BytesAt w g off pre) (hb2 : BytesAt w g2 off2 pre2) (ha : ArrAt w g (off + cap))
    (hpl : plen ≤ 100) (hpl2 : plen2 ≤ 100) (hs : (plen : Int) + plen2 ≤ mp) (hr : plen + plen2 ≤ cap) :
    Calls Tryz.prog 43 #[ptrV b] w fun e w' => e = .returned (ptrV c) ∧ ∃ n, w' = ((w.setCells g (off + plen) (byteVs pre2)).setCell ⟨c, 0, none⟩ (.slice (some ⟨g, off, none⟩) (plen + plen2) cap)).drewN n := by
  have hm := meth_length
  have hcl := call_length
  have hnl := nil_length
  have hm2 := meth_head
  have hnl2 := nil_head
  have e1 := item_neq none
  have e2 := fun op k => item_guard op k none
  simp only [itemV] at e1 e2
  have HL := Lib.hid (kids_length hK)
  rw [hn] at HL
  obtain ⟨y', c', hy', hu, hhead⟩ := hK.one hn
  have : y = y' := by
    by_cases e : y = y'
    · exact e
    · have := hu y e; rw [hy] at this; cases this
  subst this
  rw [hy] at hy'
  cases hy'
  have HH := Lib.hid hhead
  clear hK hhead hu hn hy
  have b0 := cell_of_heap h0 0
  have b1 := cell_of_heap h0 1
  have b2 := cell_of_heap h0 2
  have b4 := cell_of_heap h0 4
  have c0 := cell_of_heap k0 0
  have c1 := cell_of_heap k0 1
  have cf := free_of_heap k0 0
  simp at b0 b1 b2 b4 c0 c1
  have hgt : decide ((plen : Int) + plen2 > mp) = false := by simp; omega
  have hgt2 : decide (mp < (plen : Int) + plen2) = false := by simp; omega
  have hw : IntKind.i64.wrap ((plen : Int) + (plen2 : Int)) = (plen : Int) + plen2 := IntWalk.i64_in _ (by omega)
  obtain ⟨i0, hi, hz0, hz1, hz2⟩ := info_parts info5
  obtain ⟨news, hnews⟩ : ∃ news, news = byteVs pre2 := ⟨_, rfl⟩
  have hnl3 : news.length = plen2 * 1 := by rw [hnews, byteVs_len, hp2]; omega
  have hgb : g ≠ b := by rintro rfl; obtain ⟨cur, fr, e, _⟩ := ha; rw [h0] at e; simp at e
  have hgc : g ≠ c := by rintro rfl; obtain ⟨cur, fr, e, _⟩ := ha; rw [k0] at e; simp at e
  have hA : ∀ n, ((w.drewN n).setCells g (off + plen) news).cell? ⟨c, 0, none⟩ = some (.slice (some ⟨g2, off2, none⟩) plen2 cap2) := fun n => by
    rw [World.cell?_setCells_out _ _ _ _ _ (fun e => (hgc e.symm).elim)]; exact c0
  have hB : ∀ n, ((w.drewN n).setCells g (off + plen) news).frozen? ⟨c, 0, none⟩ = false := fun n => by
    rw [World.frozen?_setCells]; exact cf
  have hC : ∀ n, ((w.drewN n).setCells g (off + plen) news).cell? ⟨b, 1, none⟩ = some .nilIface := fun n => by
    rw [World.cell?_setCells_out _ _ _ _ _ (fun e => (hgb e.symm).elim)]; exact b1
  have hcb : ¬ c = b := fun e => hbc e.symm
  have hv : ∀ j u, news[j]? = some u → (w.cell? ((⟨g2, off2, none⟩ : Addr).add j)) = some u := by rw [hnews]; exact hb2.vals
  have hone : ∀ u ∈ news, u.oneCell' = true := by rw [hnews]; exact byteVs_one pre2
  have hsp : ∀ j, j < news.length → (w.cell? ⟨g, off + plen * 1 + j, none⟩).isSome = true ∧ w.frozen? ⟨g, off + plen * 1 + j, none⟩ = false := by
    intro j hj
    obtain ⟨cur, fr, e, hsz, hfz⟩ := ha
    have hlt : off + plen * 1 + j < off + cap := by omega
    refine ⟨?_, hfz _ hlt⟩
    rw [cell_of_heap e, Array.getElem?_eq_getElem (by omega)]; rfl
  have HS := Lib.hid (And.intro hv (And.intro hone hsp))
  have HE := Lib.hid hnews
  clear hv hone hsp h0 k0 hb1 hb2 ha hnews
  go_enter Tryz.func43, Tryz.ntmps43
  go_wp2_with (first | (go_at_call 101; refine HH.out.mono ?_; rintro e w' ⟨rfl, rfl⟩) | (with_reducible refine HL.out.mono ?_; rintro e w' ⟨rfl, rfl⟩))
  go_quiet (fail)
  go_wp2_with fail
  go_region_law (refine step_append_room rfl (.tmp 54) (.tmp 58) 56 rfl 5 i0 1 Tryz.underlying56 hi hz1 g off plen cap (by simp [Act.eval]) ⟨g2, off2, none⟩ plen2 cap2 news (by simp [Act.eval]) hnl3 HS.out.1 HS.out.2.1 hr HS.out.2.2 ?_)
  all_goals
    go_wp2
    go_ret
    exact ⟨rfl, nq + 1, by rw [HE.out, drewN_setCells]; rfl⟩

/-- A node and its only child have become one, in the child's block and new bytes. -/
def Regrown (w : World) (c plen plen2 : Nat) (pre pre2 : List UInt8) (e : Ending) (w' : World) : Prop :=
  e = .returned (ptrV c) ∧ ∃ g cap w1, w1.ownsRow w.heap.size 5 1 (.slice (some ⟨g, 0, none⟩) (plen + plen2) cap) (plen + plen2) (byteVs pre ++ byteVs pre2) ∧ Below w.heap.size w w1 ∧ ∃ n, w' = (w1.setCell ⟨c, 0, none⟩ (.slice (some ⟨g, 0, none⟩) (plen + plen2) cap)).drewN n

set_option maxRecDepth 100000 in
set_option maxHeartbeats 4000000 in
/-- The same where there is no room. -/
theorem compact_grow {w : World} {b lb ab cc c g off plen cap g2 off2 plen2 cap2 : Nat} {mp : Int} {K : UInt8 → Option Nat} {pre pre2 : List UInt8} {v1 v2 v3 v4 : Value}
    (h0 : w.heap[b]? = some (.cells #[.slice (some ⟨g, off, none⟩) plen cap, .nilIface, .int .i64 mp, v1, .iface (tyOf false) (ptrV lb)] 73 (0, 0)))
    (hK : KidsAt w false lb ab cc K) (hn : cnt K = 1) {y : UInt8} (hy : K y = some c)
    (k0 : w.heap[c]? = some (.cells #[.slice (some ⟨g2, off2, none⟩) plen2 cap2, .nilIface, v2, v3, v4] 73 (0, 0))) (hbc : b ≠ c)
    (hp : pre.length = plen) (hp2 : pre2.length = plen2) (hb1 : BytesAt w g off pre) (hb2 : BytesAt w g2 off2 pre2)
    (hpl : plen ≤ 100) (hpl2 : plen2 ≤ 100) (hpos : 0 < plen2) (hs : (plen : Int) + plen2 ≤ mp) (hr : cap < plen + plen2) :
    Calls Tryz.prog 43 #[ptrV b] w (Regrown w c plen plen2 pre pre2) := by
  have hm := meth_length
  have hcl := call_length
  have hnl := nil_length
  have hm2 := meth_head
  have hnl2 := nil_head
  have e1 := item_neq none
  have e2 := fun op k => item_guard op k none
  simp only [itemV] at e1 e2
  have HL := Lib.hid (kids_length hK)
  rw [hn] at HL
  obtain ⟨y', c', hy', hu, hhead⟩ := hK.one hn
  have : y = y' := by
    by_cases e : y = y'
    · exact e
    · have := hu y e; rw [hy] at this; cases this
  subst this
  rw [hy] at hy'
  cases hy'
  have HH := Lib.hid hhead
  clear hK hhead hu hn hy
  have b0 := cell_of_heap h0 0
  have b1 := cell_of_heap h0 1
  have b2 := cell_of_heap h0 2
  have b4 := cell_of_heap h0 4
  have c0 := cell_of_heap k0 0
  have c1 := cell_of_heap k0 1
  have cf := free_of_heap k0 0
  simp at b0 b1 b2 b4 c0 c1
  have hgt : decide ((plen : Int) + plen2 > mp) = false := by simp; omega
  have hgt2 : decide (mp < (plen : Int) + plen2) = false := by simp; omega
  have hw : IntKind.i64.wrap ((plen : Int) + (plen2 : Int)) = (plen : Int) + plen2 := IntWalk.i64_in _ (by omega)
  obtain ⟨i0, hi, hz0, hz1, hz2⟩ := info_parts info5
  obtain ⟨news, hnews⟩ : ∃ news, news = byteVs pre2 := ⟨_, rfl⟩
  obtain ⟨olds, holds⟩ : ∃ olds, olds = byteVs pre := ⟨_, rfl⟩
  have hnl3 : news.length = plen2 * 1 := by rw [hnews, byteVs_len, hp2]; omega
  have hol3 : olds.length = plen * 1 := by rw [holds, byteVs_len, hp]; omega
  have hv : ∀ j u, news[j]? = some u → (w.cell? ((⟨g2, off2, none⟩ : Addr).add j)) = some u := by rw [hnews]; exact hb2.vals
  have ho : ∀ a, (some ⟨g, off, none⟩ : Option Addr) = some a → ∀ j u, olds[j]? = some u → (w.cell? (a.add j)) = some u := by rw [holds]; intro a e; cases e; exact hb1.vals
  have hone : ∀ u ∈ news, u.oneCell' = true := by rw [hnews]; exact byteVs_one pre2
  have hcb : ¬ c = b := fun e => hbc e.symm
  have hltb := lt_of_block h0
  have hltc := lt_of_block k0
  have HS := Lib.hid (And.intro hv (And.intro hone ho))
  have HE := Lib.hid (And.intro hnews holds)
  have HQ := Lib.hid (And.intro h0 k0)
  clear hv hone ho h0 k0 hb1 hb2 hnews holds
  go_enter Tryz.func43, Tryz.ntmps43
  go_wp2_with (first | (go_at_call 101; refine HH.out.mono ?_; rintro e w' ⟨rfl, rfl⟩) | (with_reducible refine HL.out.mono ?_; rintro e w' ⟨rfl, rfl⟩))
  go_quiet (fail)
  go_wp2_with fail
  go_region_law (
    refine step_append_grows rfl (.tmp 54) (.tmp 58) 56 rfl 5 i0 (.int .u8 0) 1 1 Tryz.underlying56 hi hz0 hz1 hz2 rfl (by decide) (some ⟨g, off, none⟩) plen cap olds (by simp [Act.eval]) (fun e => by cases e) hol3 HS.out.2.2 ⟨g2, off2, none⟩ plen2 cap2 news (by simp [Act.eval]) hnl3 HS.out.1 HS.out.2.1 hr (by unfold maxLen; omega) (by omega) ?_
    intro v' w1 hown hgrow
    obtain ⟨g', cap', rfl, hg1, hg2⟩ := hown.form (by omega)
    have q1 : w1.cell? ⟨c, 0, none⟩ = some (.slice (some ⟨g2, off2, none⟩) plen2 cap2) := hgrow.cell c0 (by simp)
    have q2 : w1.cell? ⟨b, 1, none⟩ = some .nilIface := hgrow.cell b1 (by simp)
    have q3 : w1.frozen? ⟨c, 0, none⟩ = false := (World.frozen?_of_block (hgrow.block c hltc (by simp))).trans cf
    have HW := Lib.hid (And.intro hown hgrow)
    clear hown hgrow)
  all_goals
    go_wp2
    go_ret
    refine ⟨rfl, g', cap', w1, by rw [← HE.out.1, ← HE.out.2]; exact HW.out.1, ?_, 0, rfl⟩
    exact ⟨HW.out.2.os, HW.out.2.tape, HW.out.2.output, HW.out.2.size, fun k hk => HW.out.2.block k hk (by simp)⟩
end Go.Proofs.YtpopiaahdanpeaaGreatDoor
