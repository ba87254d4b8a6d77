/- spec.Word. The reference's map, as a table; spec.begins. -/
import Derived.Test.YtpopiaahdanpeaaGreatDoorTold
import Derived.Test.YtpopiaahdanpeaaGreatDoorScript
import Derived.Laws.OwnMore
import Derived.Maps.OwnSet
import Derived.Maps.Views
import Derived.StringKeys
import Derived.Sort.KeysCollected
namespace Go.Proofs.YtpopiaahdanpeaaGreatDoor
open Go Go.RowKit
set_option linter.unusedVariables false

/-- A word that is told by bytes. -/
def Told (k : Word) : Prop := ∃ a r, k = a :: r ∧ 97 ≤ a.toNat ∧ a.toNat ≤ 122 ∧ r.length ≤ 4 ∧ ∀ y ∈ r, 97 ≤ y.toNat ∧ y.toNat ≤ 100
theorem Told.good {k : Word} (h : Told k) : Good k ∧ k ≠ [] := by
  obtain ⟨a, r, rfl, h⟩ := h
  exact ⟨.inr (.inr (.inr ⟨a, r, rfl, h⟩)), by simp⟩

/-- The letters so far. -/
def Part (l : Word) : Prop := l = [] ∨ ∃ a r, l = a :: r ∧ 97 ≤ a.toNat ∧ a.toNat ≤ 122 ∧ ∀ y ∈ r, 97 ≤ y.toNat ∧ y.toNat ≤ 100
theorem Part.told {l : Word} (h : Part l) (hn : l ≠ []) (hl : l.length ≤ 5) : Told l := by
  rcases h with h | ⟨a, r, rfl, h1, h2, h3⟩
  · exact (hn h).elim
  · exact ⟨a, r, rfl, h1, h2, by simp at hl; omega, h3⟩
theorem told_a : Told [97] := ⟨97, [], rfl, by decide, by decide, by simp, by simp⟩
theorem Part.snoc {l : Word} {y : UInt8} (h : Part l) (h1 : 97 ≤ y.toNat) (h2 : l = [] → y.toNat ≤ 122) (h3 : l ≠ [] → y.toNat ≤ 100) : Part (l ++ [y]) := by
  rcases h with rfl | ⟨a, r, rfl, h4, h5, h6⟩
  · exact .inr ⟨y, [], rfl, h1, h2 rfl, by simp⟩
  · refine .inr ⟨a, r ++ [y], rfl, h4, h5, fun z hz => ?_⟩
    rcases List.mem_append.1 hz with hz | hz
    · exact h6 z hz
    · simp at hz; subst hz; exact ⟨h1, h3 (by simp)⟩

theorem letter (x : Nat) (m : Int) (h1 : 0 < m) (h2 : m ≤ 26) : ∃ y : UInt8, (97 + (x : Int) % m) = (y.toNat : Int) ∧ 97 ≤ y.toNat ∧ (y.toNat : Int) < 97 + m := by
  have h3 := Int.emod_nonneg (x : Int) (Int.ne_of_gt h1)
  have h4 := Int.emod_lt_of_pos (x : Int) h1
  refine ⟨UInt8.ofNat (97 + (x : Int) % m).toNat, ?_, ?_, ?_⟩
  · simp; omega
  · simp; omega
  · simp; omega
theorem word_note {w wr w3 : World} {base : Nat} {v v' : Value} {l : Word} {y : UInt8} {z : Int} {o : Obj} (hb : Below base w wr) (hv : wr.ownsRow base 5 1 v l.length (byteVs l)) (hu : w3.ownsRow base 5 1 v' (l.length + 1) (byteVs l ++ [.int .u8 z]))
    (hg : (wr.alloc o).grownBy w3 v.ownBlock) (hz : z = y.toNat) (hB : base ≤ wr.heap.size) : w3.ownsRow base 5 1 v' (l ++ [y]).length (byteVs (l ++ [y])) ∧ Below base w w3 := by
  refine ⟨?_, hb.trans ?_⟩
  · rw [hz] at hu
    simpa [byteVs] using hu
  · have k1 : Kept (fun k => base ≤ k) wr (wr.alloc o) := (Kept.refl _ _).alloc _
    have k2 : Kept (fun k => base ≤ k) (wr.alloc o) w3 := ⟨hg.os, hg.tape, hg.output, hg.size, fun k hk hs => hg.block k hk (fun e => hs (hv.lt k e.symm).1)⟩
    exact (k1.trans k2).below hB
theorem run_str22 {W : World} {g o c : Nat} {l : List UInt8} (h : BytesAt W g o l) (n : Nat) (hn : n = l.length) : (convert 22 9 (.slice (some ⟨g, o, none⟩) n c)).run Tryz.prog W = .ok (.string (strOf l)) W := by
  subst hn
  have := run_convert_bytes_arg (P := Tryz.prog) W 22 5 (by kernel_rfl) (by kernel_rfl) g o l.length c (l.map fun b => (b.toNat : Int)) (by simp) (fun i hi => by
    rw [h i hi]; simp [List.getD, hi]) 9 (by kernel_rfl)
  rw [show strOfNums (l.map fun b => (b.toNat : Int)) = strOf l by simp [strOfNums, strOf, List.map_map, Function.comp_def]] at this
  exact this
theorem word_a (w : World) : (convert 22 9 (.slice (some ⟨w.heap.size, 0, none⟩) 1 1)).run Tryz.prog (w.alloc (.cells #[.int .u8 97] 5)) = .ok (.string (strOf [97])) (w.alloc (.cells #[.int .u8 97] 5)) :=
  run_str22 (l := [97]) (fun i hi => by
    have : i = 0 := by simp at hi; omega
    subst this
    exact World.cell?_alloc_new w #[.int .u8 97] 5 0) 1 rfl
theorem min_nat (x n : Nat) : min (1 + (x : Int) % 5 + 1) (n : Int) = ((min (x % 5 + 2) n : Nat) : Int) := by omega
theorem word_end {w w' : World} {k data : Word} {x : Nat} {z : Int} (h : z = ((min (x % 5 + 2) data.length : Nat) : Int)) (hk : Told k) (hb : Below w.heap.size w w') :
    ∃ (k' : Word) (m : Nat), Ending.returned (.tuple #[.string (strOf k), .int .i64 z]) = .returned (.tuple #[.string (strOf k'), .int .i64 m]) ∧ Told k' ∧ m ≤ data.length ∧ Below w.heap.size w w' :=
  ⟨k, _, by rw [h], hk, Nat.min_le_right _ _, hb⟩
theorem row_bytes {w : World} {base g cap : Nat} {l : Word} (h : w.ownsRow base 5 1 (.slice (some ⟨g, 0, none⟩) l.length cap) l.length (byteVs l)) : BytesAt w g 0 l := by
  intro i hi
  rw [Nat.zero_add, h.cellAt i (by omega)]
  simp [byteVs, hi]
theorem info5b : (Tryz.prog.info? 5).map (fun i => (i.zero, i.size, i.bytes)) = some (some (.int .u8 0), 1, 1) := by kernel_rfl

set_option maxRecDepth 100000 in
set_option maxHeartbeats 4000000 in
theorem word_calls {w : World} {dg o cap : Nat} {data : Word} (hd : BytesAt w dg o data) (hpos : 0 < data.length) (hbig : data.length ≤ 2147483647) :
    Calls Tryz.prog 10 #[.slice (some ⟨dg, o, none⟩) data.length cap] w fun e w' => ∃ (k : Word) (m : Nat), e = .returned (.tuple #[.string (strOf k), .int .i64 m]) ∧ Told k ∧ m ≤ data.length ∧ Below w.heap.size w w' := by
  have d0 := hd 0 hpos
  rw [Nat.add_zero] at d0
  have hlt : (data[0]).toNat < 256 := data[0].toNat_lt
  obtain ⟨i0, hi5, hz0, hz1, hz2⟩ := info_parts info5b
  have H := Lib.hid hd; clear hd
  obtain ⟨x0, hx0⟩ : ∃ x0, data[0].toNat = x0 := ⟨_, rfl⟩
  rw [hx0] at d0 hlt
  clear hx0
  have hn0 : (1 : Int) + (x0 : Int) % 5 ≤ 5 := by omega
  have hn1 : (1 : Int) ≤ 1 + (x0 : Int) % 5 := by omega
  by_cases h192 : 192 ≤ x0
  all_goals
    go_enter Tryz.func10, Tryz.ntmps10
    go_wp2_with fail
    go_loopw [5, 6, 7] (fun wd v iv wr => ∃ (j : Nat) (l : Word) (ww : Int), iv = .int .i64 j ∧ 1 ≤ j ∧ j ≤ 6 ∧ wd = .int .u8 ww ∧ Hid (j = l.length + 1 ∧ (ww = 4 ∨ ww = 26 ∧ l = []) ∧ Part l ∧ wr.ownsRow w.heap.size 5 1 v l.length (byteVs l) ∧ Below w.heap.size w wr)) (fun _ _ iv _ => 7 - (intOf iv).toNat)
    case atStart =>
      refine ⟨1, [], _, rfl, by omega, by omega, rfl, Lib.hid ⟨rfl, ?_, .inl rfl, World.ownsRow_lit _ _ _ (Nat.le_refl _) (by decide) rfl, (Below.refl _ _).alloc (Nat.le_refl _) _⟩⟩
      first | exact .inl rfl | exact .inr ⟨rfl, rfl⟩
    case round =>
      obtain ⟨j, l, ww, rfl, hj1, hj6, rfl, HR⟩ := hrel
      by_cases hc1 : (j : Int) ≤ 1 + (x0 : Int) % 5
      · by_cases hc2 : j < data.length
        · have dj := ((Below.kept_of HR.out.2.2.2.2 (fun _ => False)).cell (H.out j hc2) (fun h => h))
          have hlj : (data[j]).toNat < 256 := data[j].toNat_lt
          obtain ⟨xj, hxj⟩ : ∃ xj, data[j].toNat = xj := ⟨_, rfl⟩
          rw [hxj] at dj hlj
          clear hxj
          have hsz := HR.out.2.2.2.2.size
          have hll : l.length ≤ 5 := by have := HR.out.1; omega
          rcases HR.out.2.1 with hw | ⟨hw, hl⟩
          · subst hw
            have HV := Lib.hid HR.out.2.2.2.1
            obtain ⟨y, hy1, hy2, hy3⟩ := letter xj 4 (by decide) (by decide)
            go_wp2_with (at_builtin; refine wpList_append_own _ rfl (.tmp 33) (.tmp 41) 22 rfl w.heap.size 5 i0 (.int .u8 0) 1 1 Tryz.underlying22 hi5 hz0 hz1 hz2 rfl (by decide) u6 l.length (byteVs l) rfl (HV.out.alloc _) ⟨wr.heap.size, 0, none⟩ 1 1 [.int .u8 (y.toNat : Int)] rfl rfl (one_vals _ _ _) (by intro u hu; simp at hu; subst hu; rfl) (by unfold maxLen; omega) (by omega) (by simp; omega) ?_; intro v' w3 hown3 hgr3 _; have HO := Lib.hid (word_note HR.out.2.2.2.2 HV.out hown3 hgr3 rfl hsz); clear hown3 hgr3)
            go_roundw
            case rel => exact ⟨.int .u8 4, v', .int .i64 ((j + 1 : Nat) : Int), ⟨j + 1, rfl, by omega, by omega, l ++ [y], 4, rfl, Lib.hid ⟨by simp; exact HR.out.1, .inl rfl, HR.out.2.2.1.snoc hy2 (fun _ => by omega) (fun _ => by omega), HO.out⟩⟩, rfl, rfl, by go_num⟩
            case measure => simp [intOf]; omega
          · subst hw
            have HV := Lib.hid HR.out.2.2.2.1
            obtain ⟨y, hy1, hy2, hy3⟩ := letter xj 26 (by decide) (by decide)
            go_wp2_with (at_builtin; refine wpList_append_own _ rfl (.tmp 33) (.tmp 41) 22 rfl w.heap.size 5 i0 (.int .u8 0) 1 1 Tryz.underlying22 hi5 hz0 hz1 hz2 rfl (by decide) u6 l.length (byteVs l) rfl (HV.out.alloc _) ⟨wr.heap.size, 0, none⟩ 1 1 [.int .u8 (y.toNat : Int)] rfl rfl (one_vals _ _ _) (by intro u hu; simp at hu; subst hu; rfl) (by unfold maxLen; omega) (by omega) (by simp; omega) ?_; intro v' w3 hown3 hgr3 _; have HO := Lib.hid (word_note HR.out.2.2.2.2 HV.out hown3 hgr3 rfl hsz); clear hown3 hgr3)
            go_roundw
            case rel => exact ⟨.int .u8 4, v', .int .i64 ((j + 1 : Nat) : Int), ⟨j + 1, rfl, by omega, by omega, l ++ [y], 4, rfl, Lib.hid ⟨by simp; exact HR.out.1, .inl rfl, HR.out.2.2.1.snoc hy2 (fun _ => by omega) (fun h => (h hl).elim), HO.out⟩⟩, rfl, rfl, by go_num⟩
            case measure => simp [intOf]; omega
        · have hd : decide (j < data.length) = false := by simp; omega
          have hd' : decide ((j : Int) < (data.length : Int)) = false := by simp; omega
          have HN := Lib.hid hc1
          have hsz := HR.out.2.2.2.2.size
          have hll : l.length ≤ 5 := by have := HR.out.1; omega
          by_cases hl : l = []
          · have hc97 := word_a wr
            have HR2 := Lib.hid hl
            rcases HR.out.2.2.2.1.2 with ⟨hv, _⟩ | ⟨g', cap', cur, hv, _⟩
            all_goals
              subst hv
              rw [HR2.out] at *
              go_wp2_with fail
              go_ret2
              exact word_end (min_nat _ _) told_a (HR.out.2.2.2.2.trans ((Below.refl _ _).alloc hsz _))
          · obtain ⟨g', cap', hv, hg1, hg2⟩ := HR.out.2.2.2.1.form (List.length_pos_iff.2 hl)
            subst hv
            have hlp := List.length_pos_iff.2 hl
            have hcw := run_str22 (W := wr) (c := cap') (row_bytes HR.out.2.2.2.1) l.length rfl
            have HT := Lib.hid (HR.out.2.2.1.told hl hll)
            clear hl
            go_wp2_with fail
            go_ret2
            exact word_end (min_nat _ _) HT.out HR.out.2.2.2.2
      · have hd : decide ((j : Int) ≤ 1 + (x0 : Int) % 5) = false := by simp; omega
        have HN := Lib.hid hc1
        have hsz := HR.out.2.2.2.2.size
        have hll : l.length ≤ 5 := by have := HR.out.1; omega
        by_cases hl : l = []
        · have hc97 := word_a wr
          have HR2 := Lib.hid hl
          rcases HR.out.2.2.2.1.2 with ⟨hv, _⟩ | ⟨g', cap', cur, hv, _⟩
          all_goals
            subst hv
            rw [HR2.out] at *
            go_wp2_with fail
            go_ret2
            exact word_end (min_nat _ _) told_a (HR.out.2.2.2.2.trans ((Below.refl _ _).alloc hsz _))
        · obtain ⟨g', cap', hv, hg1, hg2⟩ := HR.out.2.2.2.1.form (List.length_pos_iff.2 hl)
          subst hv
          have hlp := List.length_pos_iff.2 hl
          have hcw := run_str22 (W := wr) (c := cap') (row_bytes HR.out.2.2.2.1) l.length rfl
          have HT := Lib.hid (HR.out.2.2.1.told hl hll)
          clear hl
          go_wp2_with fail
          go_ret2
          exact word_end (min_nat _ _) HT.out HR.out.2.2.2.2
end Go.Proofs.YtpopiaahdanpeaaGreatDoor

namespace Go.Proofs.YtpopiaahdanpeaaGreatDoor
open Go Go.RowKit
set_option linter.unusedVariables false

section
variable {D : DataW Unit} {M : Tab} {w w' : World} {b n : Nat}

/-- A datum of a map, as a table. -/
structure MapIs (D : DataW Unit) (M : Tab) : Prop where
  tidy : Maps.Tidy D
  has : ∀ k : Word, Maps.has D (.string k) = (M k).isSome
  at_ : ∀ k v, M k = some v → D.atKey (.string k) (.lit (.int .i64 0)) = .lit (.int .i64 v)

theorem keyLit (k : Word) : WideAt.IsKeyLit (.string k) := trivial
theorem lit_ne {a b : Word} (h : a ≠ b) : Lit.string a ≠ Lit.string b := fun e => h (by injection e)

theorem MapIs.empty : MapIs (.map []) (fun _ => none) := ⟨Maps.tidy_empty, fun k => rfl, fun k v h => by cases h⟩
theorem MapIs.put (h : MapIs D M) (k : Word) (v : Int) : MapIs (D.put (.string k) (.lit (.int .i64 v))) (M.put k (some v)) := by
  refine ⟨h.tidy.put (keyLit k) _, fun y => ?_, fun y u hu => ?_⟩
  · unfold Tab.put
    by_cases e : y = k
    · subst e; rw [Maps.has_put_same h.tidy.isMap (keyLit y)]; simp
    · rw [Maps.has_put_other (lit_ne e), h.has, if_neg e]
  · unfold Tab.put at hu
    by_cases e : y = k
    · subst e
      rw [if_pos rfl] at hu; injection hu with hu; subst hu
      exact Maps.atKey_put_same h.tidy.isMap (keyLit y) _ _
    · rw [if_neg e] at hu
      rw [Maps.atKey_put_other (lit_ne e)]; exact h.at_ y u hu
theorem MapIs.del (h : MapIs D M) (k : Word) : MapIs (D.del (.string k)) (M.put k none) := by
  refine ⟨h.tidy.del _, fun y => ?_, fun y u hu => ?_⟩
  · unfold Tab.put
    by_cases e : y = k
    · subst e; rw [Maps.has_del_same]; simp
    · rw [Maps.has_del_other (lit_ne e), h.has, if_neg e]
  · unfold Tab.put at hu
    by_cases e : y = k
    · rw [if_pos e] at hu; cases hu
    · rw [if_neg e] at hu
      rw [Maps.atKey_del_other (lit_ne e)]; exact h.at_ y u hu
theorem MapIs.look (h : MapIs D M) (k : Word) {c : Int} (hc : D.atKey (.string k) (.lit (.int .i64 0)) = .lit (.int .i64 c)) : c = (M k).getD 0 := by
  cases hm : M k with
  | none =>
    have := h.has k
    rw [hm] at this
    rw [Maps.atKey_of_not_has this] at hc
    injection hc with hc; injection hc with _ hc; exact hc.symm
  | some v =>
    rw [h.at_ k v hm] at hc
    injection hc with hc; injection hc with _ hc; exact hc.symm

/-- The map at block b is the table M. -/
structure MapAt (w : World) (b n : Nat) (M : Tab) : Prop where
  ex : ∃ D : DataW Unit, w.ownsMap Tryz.prog 9 (plainElem Tryz.prog 3) b n D ∧ MapIs D M

theorem MapAt.kept {S : Nat → Prop} (h : MapAt w b n M) (k : Kept S w w') (hs : ¬ S b) : MapAt w' b n M := by
  obtain ⟨D, ⟨es, clock, hb, F⟩, hM⟩ := h.ex
  exact ⟨D, ⟨es, clock, k.lt hb hs, F⟩, hM⟩

/-- A map's keys, of its datum. -/
theorem keys_of_map (hown : w.ownsMap Tryz.prog 9 (plainElem Tryz.prog 3) b n D) (h : MapIs D M) : (strKeys D).Nodup ∧ (∀ k, k ∈ strKeys D ↔ M k ≠ none) ∧ (strKeys D).length ≤ n := by
  obtain ⟨es, rfl, hp⟩ := h.tidy
  obtain ⟨es', e', hk⟩ := hown.keysOf
  have e : es' = es := by injection e' with e'; exact e'.symm
  subst e
  have hstr : ∀ p ∈ es', ∃ x : Word, p.1 = .string x := fun p hp => by
    obtain ⟨v, hv⟩ := hk p hp
    obtain ⟨x, _, h2, _⟩ := Maps.keyOf_str Tryz.underlying9 hv
    exact ⟨x, h2⟩
  refine ⟨?_, fun k => ?_, ?_⟩
  · show (es'.map fun p => Go.strOf p.1).Nodup
    rw [List.nodup_iff_pairwise_ne, List.pairwise_map]
    refine List.Pairwise.imp_of_mem (fun {a b} ha hb hne e => ?_) hp
    obtain ⟨x, hx⟩ := hstr a ha
    obtain ⟨y, hy⟩ := hstr b hb
    rw [hx, hy] at e
    have e : x = y := e
    exact hne (by rw [hx, hy, e])
  · have hh := h.has k
    rw [Maps.has_eq] at hh
    show k ∈ es'.map (fun p => Go.strOf p.1) ↔ _
    rw [List.mem_map]
    constructor
    · rintro ⟨p, hp, e⟩
      obtain ⟨x, hx⟩ := hstr p hp
      rw [hx] at e
      have e : x = k := e
      subst e
      intro hm
      rw [hm] at hh
      have : (es'.any fun p => p.1.sameKey (.string x)) = true := List.any_eq_true.2 ⟨p, hp, by rw [hx]; exact WideAt.sameKey_self (keyLit x)⟩
      rw [this] at hh; cases hh
    · intro hm
      have : (es'.any fun p => p.1.sameKey (.string k)) = true := by
        rw [hh]
        cases e : M k with
        | none => exact (hm e).elim
        | some v => rfl
      obtain ⟨p, hp, hs⟩ := List.any_eq_true.1 this
      refine ⟨p, hp, ?_⟩
      rw [(WideAt.sameKey_iff (keyLit k)).1 hs]; rfl
  · obtain ⟨es2, clock, _, F, hsz, e2⟩ := hown
    injection e2 with e2
    show (es'.map _).length ≤ n
    rw [List.length_map, e2, length_sorted]
    simpa using hsz

theorem word_lt_of {a b : Word} (h : a ≤ b) (hne : a ≠ b) : a < b := by
  rcases Classical.em (a < b) with h1 | h1
  · exact h1
  · exact (hne (List.le_antisymm h (List.not_lt.1 h1))).elim
theorem asc_sorted {ss : List Word} (hn : ss.Nodup) : Asc (ss.mergeSort (fun x y => decide (x ≤ y))) ∧ ∀ k, k ∈ ss.mergeSort (fun x y => decide (x ≤ y)) ↔ k ∈ ss := by
  have hp := List.mergeSort_perm ss (fun x y => decide (x ≤ y))
  refine ⟨?_, fun k => hp.mem_iff⟩
  have h1 : (ss.mergeSort (fun x y => decide (x ≤ y))).Pairwise (fun a b => decide (a ≤ b) = true) :=
    List.pairwise_mergeSort (fun a b c h1 h2 => by simp only [decide_eq_true_eq] at *; exact List.le_trans h1 h2) (fun a b => by simp only [Bool.or_eq_true, decide_eq_true_eq]; exact List.le_total a b) ss
  have h2 : (ss.mergeSort (fun x y => decide (x ≤ y))).Nodup := hp.nodup_iff.2 hn
  rw [List.nodup_iff_pairwise_ne] at h2
  exact (h1.and h2).imp fun {a b} ⟨h3, h4⟩ => word_lt_of (by simpa using h3) h4

/-- The keys, sorted. -/
theorem sortedKeys_calls (h : MapAt w b n M) (hn : n ≤ 1000) :
    Calls Tryz.prog 17 #[.func (.func 35) #[] #[.pointer (some ⟨w.heap.size, 0, none⟩)]] (w.alloc (.cells #[.map (some b)] 34)) fun e w' => ∃ (v : Value) (L : List Word), e = .returned v ∧ Keys M [] L ∧ L.length ≤ n ∧
      w'.ownsRow w.heap.size 9 1 v L.length (L.map strV) ∧ (v = .slice none 0 0 ↔ L = []) ∧ Below w.heap.size w w' := by
  obtain ⟨D, hown, hM⟩ := h.ex
  obtain ⟨k1, k2, k3⟩ := keys_of_map hown hM
  have hsz : Maps.size D = (strKeys D).length := by
    obtain ⟨es, rfl, _⟩ := hM.tidy
    show es.length = (es.map _).length
    simp
  refine (callsIn_wide.1 (Tryz.slices_Sorted_keys_17_18 b n D (plainElem Tryz.prog 3) w hown (by rw [hsz]; unfold maxLen; omega) (by rw [hsz]; omega))).mono ?_
  rintro e w' ⟨v, ss, rfl, hp, hrow, hnil, hb⟩
  have hnd : ss.Nodup := hp.nodup_iff.2 k1
  obtain ⟨a1, a2⟩ := asc_sorted hnd
  have hl : (ss.mergeSort (fun x y => decide (x ≤ y))).length = ss.length := (List.mergeSort_perm ss _).length_eq
  have hb0 : Below w.heap.size w (w.alloc (.cells #[.map (some b)] 34)) := (Below.refl _ _).alloc (Nat.le_refl _) _
  refine ⟨v, _, rfl, ⟨a1, fun k => ?_⟩, by rw [hl, hp.length_eq]; exact k3, ?_, ?_, hb0.trans (hb.mono (by simp))⟩
  · rw [a2, hp.mem_iff, k2]
    exact ⟨fun h => ⟨h, List.nil_prefix⟩, fun h => h.1⟩
  · rw [hl]
    obtain ⟨c1, c2⟩ := hrow
    refine ⟨c1, c2.imp (fun h => h) fun ⟨g, cap, cur, d1, d2, d3⟩ => ⟨g, cap, cur, d1, by simp at d2; omega, d3⟩⟩
  · rw [hnil]
    constructor
    · rintro rfl; exact List.mergeSort_nil
    · intro h0; exact List.eq_nil_of_length_eq_zero (by rw [← hl, h0]; rfl)

/-- the words that begin with p -/
def under (p : Word) (L : List Word) : List Word := L.filter fun k => Lib.hasPrefix k p
theorem under_keys {L : List Word} (h : Keys M [] L) (p : Word) : Keys M p (under p L) := by
  refine ⟨List.Pairwise.filter _ h.1, fun k => ?_⟩
  unfold under
  rw [List.mem_filter, h.2]
  have : Lib.hasPrefix k p = true ↔ p <+: k := by unfold Lib.hasPrefix; exact List.isPrefixOf_iff_prefix
  rw [this]
  exact ⟨fun h => ⟨h.1.1, h.2⟩, fun h => ⟨⟨h.1, List.nil_prefix⟩, h.2⟩⟩
theorem under_yes {L : List Word} {p : Word} {i : Nat} (hi : i < L.length) (h : Lib.hasPrefix L[i] p = true) : under p (L.take (i + 1)) = under p (L.take i) ++ [L[i]] := by
  unfold under
  rw [List.take_succ_eq_append_getElem hi, List.filter_append]
  simp [h]
theorem under_no {L : List Word} {p : Word} {i : Nat} (hi : i < L.length) (h : Lib.hasPrefix L[i] p = false) : under p (L.take (i + 1)) = under p (L.take i) := by
  unfold under
  rw [List.take_succ_eq_append_getElem hi, List.filter_append]
  simp [h]
theorem under_len (p : Word) (L : List Word) : (under p L).length ≤ L.length := List.length_filter_le _ _
theorem row_form {w : World} {base : Nat} {v : Value} {L : List Word} (h : w.ownsRow base 9 1 v L.length (L.map strV)) : (v = .slice none 0 0 ∧ L = []) ∨ ∃ g cap, v = .slice (some ⟨g, 0, none⟩) L.length cap ∧ g < w.heap.size ∧ base ≤ g ∧ ∀ j (hj : j < L.length), w.cell? ⟨g, j, none⟩ = some (strV L[j]) := by
  have hh := h
  obtain ⟨_, ⟨rfl, h0⟩ | ⟨g, cap, cur, rfl, a1, a2, a3⟩⟩ := h
  · exact .inl ⟨rfl, List.eq_nil_of_length_eq_zero h0⟩
  · refine .inr ⟨g, cap, rfl, lt_of_block a2, a1, fun j hj => ?_⟩
    rw [hh.cellAt j (by omega)]
    simp [hj]
/-- One word more in a slice of the call's own. -/
theorem str_note {w1 wr w3 : World} {v v' : Value} {L : List Word} {k : Word} {o : Obj} (hb : Below w1.heap.size w1 wr) (hv : wr.ownsRow w1.heap.size 9 1 v L.length (L.map strV)) (hu : w3.ownsRow w1.heap.size 9 1 v' (L.length + 1) (L.map strV ++ [strV k]))
    (hg : (wr.alloc o).grownBy w3 v.ownBlock) : w3.ownsRow w1.heap.size 9 1 v' (L ++ [k]).length ((L ++ [k]).map strV) ∧ Below w1.heap.size w1 w3 := by
  refine ⟨by simpa using hu, hb.trans ?_⟩
  have k1 : Kept (fun k => w1.heap.size ≤ k) wr (wr.alloc o) := (Kept.refl _ _).alloc _
  have k2 : Kept (fun k => w1.heap.size ≤ k) (wr.alloc o) w3 := ⟨hg.os, hg.tape, hg.output, hg.size, fun k hk hs => hg.block k hk (fun e => hs (hv.lt k e.symm).1)⟩
  exact (k1.trans k2).below hb.size
theorem row_mono {w : World} {base base' : Nat} {v : Value} {m size : Nat} {e : TypeId} {xs : List Value} (h : w.ownsRow base e size v m xs) (hb : base' ≤ base) : w.ownsRow base' e size v m xs := by
  obtain ⟨c1, c2⟩ := h
  exact ⟨c1, c2.imp (fun h => h) fun ⟨g, cap, cur, d1, d2, d3⟩ => ⟨g, cap, cur, d1, by omega, d3⟩⟩
theorem prefix_calls (k p : Word) (w : World) : Calls Tryz.prog 19 #[.string (strOf k), .string (strOf p)] w fun e w' => e = .returned (.bool (Lib.hasPrefix k p)) ∧ w = w' := by
  refine (Tryz.strings_HasPrefix (strOf k) (strOf p) w).mono ?_
  rintro e w' ⟨rfl, rfl⟩
  exact ⟨by simp [strOf], rfl⟩

set_option maxRecDepth 100000 in
set_option maxHeartbeats 4000000 in
theorem begins_calls {p : Word} (h : MapAt w b n M) (hn : n ≤ 1000) :
    Calls Tryz.prog 11 #[.map (some b), .string (strOf p)] w fun e w' => ∃ (v : Value) (L : List Word), e = .returned v ∧ Keys M p L ∧ L.length ≤ n ∧
      w'.ownsRow w.heap.size 9 1 v L.length (L.map strV) ∧ Below w.heap.size w w' := by
  have HK := Lib.hid (callsIn_wide.1 (Tryz.maps_Keys_18 (some b) w))
  have HS := Lib.hid (sortedKeys_calls h hn)
  clear h
  go_enter Tryz.func11, Tryz.ntmps11
  go_wp2_with (first
    | (go_at_call 18; refine HK.out.mono ?_; rintro e w' ⟨rfl, rfl⟩)
    | (go_at_call 17; refine HS.out.mono ?_; rintro e w1 ⟨v, L, rfl, a1, a2, a3, a4, a5⟩; rcases row_form a3 with ⟨rfl, rfl⟩ | ⟨g, cap, rfl, f1, f2, f3⟩))
  · have HL := Lib.hid (And.intro a1 (And.intro a3 a5)); clear a1 a2 a3 a4 a5
    go_loopw [5, 12] (fun v5 iv wr => v5 = .slice none 0 0 ∧ iv = .int .i64 0 ∧ w1 = wr) (fun _ _ _ => 0)
    case atStart => exact ⟨rfl, rfl, rfl⟩
    case round =>
      obtain ⟨rfl, rfl, rfl⟩ := hrel
      go_wp2
      go_ret
      refine ⟨_, [], rfl, ?_, by simp, World.ownsRow_nil _ _ _ _, HL.out.2.2⟩
      exact under_keys HL.out.1 p
  · have HL := Lib.hid (And.intro a1 (And.intro a3 (And.intro a5 f3))); clear a1 a3 a4 a5 f3
    obtain ⟨i0, hi9, hz0, hz1, hz2⟩ := info_parts info9
    have hL1 : L.length ≤ 1000 := Nat.le_trans a2 hn
    go_loopw [5, 12] (fun v5 iv wr => ∃ i : Nat, iv = .int .i64 i ∧ i ≤ L.length ∧ Hid (wr.ownsRow w1.heap.size 9 1 v5 (under p (L.take i)).length ((under p (L.take i)).map strV) ∧ Below w1.heap.size w1 wr)) (fun _ iv _ => L.length - (intOf iv).toNat)
    case atStart => exact ⟨0, rfl, by omega, Lib.hid ⟨World.ownsRow_nil _ _ _ _, Below.refl _ _⟩⟩
    case round =>
      obtain ⟨i, rfl, hi, HR⟩ := hrel
      by_cases hlt : i < L.length
      · have ci := (Below.kept_of HR.out.2 (fun _ => False)).cell (HL.out.2.2.2 i hlt) (fun h => h)
        have hul : (under p (L.take i)).length ≤ 1000 := Nat.le_trans (under_len _ _) (by rw [List.length_take]; omega)
        have hsz := HR.out.2.size
        cases hp : Lib.hasPrefix L[i] p with
        | true =>
          have HP := Lib.hid (fun W => prefix_calls L[i] p W)
          rw [hp] at HP
          have HU := Lib.hid (under_yes hlt hp)
          clear hp
          go_wp2_with (first
            | (go_at_call 19; refine (HP.out _).mono ?_; rintro e w' ⟨rfl, rfl⟩)
            | (at_builtin; refine wpList_append_own _ rfl (.tmp 19) (.tmp 21) 24 rfl w1.heap.size 9 i0 (.string ByteArray.empty) 1 16 Tryz.underlying24 hi9 hz0 hz1 hz2 rfl (by decide) u5 (under p (L.take i)).length ((under p (L.take i)).map strV) rfl (HR.out.1.alloc _) ⟨wr.heap.size, 0, none⟩ 1 1 [strV L[i]] rfl rfl (one_vals _ _ _) (by intro u hu; simp at hu; subst hu; rfl) (by unfold maxLen; omega) (by omega) (by simp; omega) ?_; intro v' w3 hown3 hgr3 _; have HO := Lib.hid (str_note HR.out.2 HR.out.1 hown3 hgr3); clear hown3 hgr3))
          go_roundw
          case rel => exact ⟨i + 1, by go_num, hlt, Lib.hid (by rw [HU.out]; exact HO.out)⟩
          case measure => simp [intOf]; omega
        | false =>
          have HP := Lib.hid (fun W => prefix_calls L[i] p W)
          rw [hp] at HP
          have HU := Lib.hid (under_no hlt hp)
          clear hp
          go_wp2_with (go_at_call 19; refine (HP.out _).mono ?_; rintro e w' ⟨rfl, rfl⟩)
          go_roundw
          case rel => exact ⟨i + 1, by go_num, hlt, Lib.hid (by rw [HU.out]; exact HR.out)⟩
          case measure => simp [intOf]; omega
      · have hil : i = L.length := by omega
        have HE := Lib.hid hil
        clear hil
        go_wp2
        go_ret
        have hh := HR.out
        rw [HE.out, List.take_length] at hh
        exact ⟨_, under p L, rfl, under_keys HL.out.1 p, Nat.le_trans (under_len _ _) a2, row_mono hh.1 HL.out.2.2.1.size, HL.out.2.2.1.trans (hh.2.mono HL.out.2.2.1.size)⟩
end
end Go.Proofs.YtpopiaahdanpeaaGreatDoor
