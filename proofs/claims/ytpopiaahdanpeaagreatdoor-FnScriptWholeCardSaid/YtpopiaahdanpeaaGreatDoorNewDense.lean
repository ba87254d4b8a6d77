/- The walk of newDenseChildList: a full small list of children and one more become a list by the first byte. -/
import Derived.Test.YtpopiaahdanpeaaGreatDoorDense
import Derived.Deep.DeepCutAuto
namespace Go.Proofs.YtpopiaahdanpeaaGreatDoor
open Go Go.RowKit
set_option linter.unusedVariables false

/-- mn and mx are the least and the greatest first byte of the first k children. -/
def MM (l : List (UInt8 × Nat)) (k mn mx : Nat) : Prop :=
  (∀ i (h : i < l.length), i < k → mn ≤ l[i].1.toNat ∧ l[i].1.toNat ≤ mx) ∧
  ((k = 0 ∧ mn = 255 ∧ mx = 0) ∨ ((∃ p ∈ l, p.1.toNat = mn) ∧ (∃ p ∈ l, p.1.toNat = mx)))
theorem MM.zero (l : List (UInt8 × Nat)) : MM l 0 255 0 := ⟨fun _ _ h => by omega, .inl ⟨rfl, rfl, rfl⟩⟩
theorem MM.step {l : List (UInt8 × Nat)} {k mn mx mn' mx' : Nat} (h : MM l k mn mx) (hk : k < l.length) (hmn : mn' = min mn l[k].1.toNat) (hmx : mx' = max mx l[k].1.toNat) : MM l (k + 1) mn' mx' := by
  obtain ⟨h1, h3⟩ := h
  have hb : l[k].1.toNat < 256 := l[k].1.toNat_lt
  refine ⟨fun i hi hik => ?_, .inr ?_⟩
  · clear h3
    by_cases e : i = k
    · subst e; omega
    · have := h1 i hi (by omega); omega
  · clear h1
    rcases h3 with ⟨h0, h1, h2⟩ | ⟨⟨p, hp, e1⟩, ⟨q, hq, e2⟩⟩
    · exact ⟨⟨l[k], List.getElem_mem hk, by omega⟩, ⟨l[k], List.getElem_mem hk, by omega⟩⟩
    · constructor
      · by_cases c : mn ≤ l[k].1.toNat
        · exact ⟨p, hp, by omega⟩
        · exact ⟨l[k], List.getElem_mem hk, by omega⟩
      · by_cases c : l[k].1.toNat ≤ mx
        · exact ⟨q, hq, by omega⟩
        · exact ⟨l[k], List.getElem_mem hk, by omega⟩
/-- mn and mx are the least and the greatest first byte of all of them. -/
def MMall (l : List (UInt8 × Nat)) (b : UInt8) (mn mx : Nat) : Prop :=
  (∀ p ∈ l, mn ≤ p.1.toNat ∧ p.1.toNat ≤ mx) ∧ mn ≤ b.toNat ∧ b.toNat ≤ mx ∧ ((∃ p ∈ l, p.1.toNat = mn) ∨ b.toNat = mn) ∧ ((∃ p ∈ l, p.1.toNat = mx) ∨ b.toNat = mx)
theorem MM.all {l : List (UInt8 × Nat)} {mn mx mn' mx' : Nat} {b : UInt8} (h : MM l l.length mn mx) (hl : 0 < l.length) (hmn : mn' = min mn b.toNat) (hmx : mx' = max mx b.toNat) : MMall l b mn' mx' := by
  obtain ⟨h1, h3⟩ := h
  rcases h3 with ⟨h0, _⟩ | ⟨⟨p, hp, e1⟩, ⟨q, hq, e2⟩⟩
  · omega
  refine ⟨fun p hp => ?_, by omega, by omega, ?_, ?_⟩
  · obtain ⟨i, hi, rfl⟩ := List.getElem_of_mem hp
    have := h1 i hi hi; omega
  · by_cases c : mn ≤ b.toNat
    · exact .inl ⟨p, hp, by omega⟩
    · exact .inr (by omega)
  · by_cases c : b.toNat ≤ mx
    · exact .inl ⟨q, hq, by omega⟩
    · exact .inr (by omega)

/-- The first k children lie in the new row. -/
def Fill (l : List (UInt8 × Nat)) (mn m k : Nat) (T : List (Option Nat)) : Prop :=
  T.length = m ∧ ∀ y, tab mn T y = look (l.take k) y

theorem Fill.zero (l : List (UInt8 × Nat)) (mn m : Nat) : Fill l mn m 0 (List.replicate m none) := by
  refine ⟨by simp, fun y => ?_⟩
  unfold tab
  split
  · by_cases h : y.toNat - mn < m
    · simp [h, look]
    · rw [List.getElem?_eq_none (by simpa using h)]; rfl
  · rfl

theorem look_snoc (l : List (UInt8 × Nat)) (b : UInt8) (c : Nat) (hb : b ∉ l.map (·.1)) (y : UInt8) : look (l ++ [(b, c)]) y = if y = b then some c else look l y := by
  unfold look
  rw [List.find?_append]
  by_cases e : y = b
  · subst e
    have : l.find? (fun p => p.1 == y) = none := by
      rw [List.find?_eq_none]; intro p hp; simp; intro e; exact hb (List.mem_map.2 ⟨p, hp, e⟩)
    simp [this]
  · have h2 : (b == y) = false := by simp; exact fun h => e h.symm
    simp [h2, e]

theorem Fill.step {l : List (UInt8 × Nat)} {mn m k : Nat} {T : List (Option Nat)} (h : Fill l mn m k T) (hk : k < l.length) (h1 : mn ≤ l[k].1.toNat) (h2 : l[k].1.toNat - mn < m)
    (hn : (l.map (·.1)).Nodup) : Fill l mn m (k + 1) (T.set (l[k].1.toNat - mn) (some l[k].2)) := by
  refine ⟨by simpa using h.1, fun y => ?_⟩
  rw [tab_set h1 (by rw [h.1]; exact h2), List.take_succ_eq_append_getElem hk, h.2 y]
  have : l[k] = (l[k].1, l[k].2) := rfl
  rw [this, look_snoc]
  intro hm
  obtain ⟨p, hp, e⟩ := List.mem_map.1 hm
  obtain ⟨i, hi, rfl⟩ := List.getElem_of_mem hp
  have hi' : i < k := by simp at hi; omega
  rw [List.getElem_take] at e
  rw [List.nodup_iff_pairwise_ne, List.pairwise_iff_getElem] at hn
  exact hn i k (by simp; omega) (by simpa using hk) hi' (by simpa using e)

theorem row_get {T : List (Option Nat)} {i : Nat} (h : i < T.length) : (T.map optV).toArray[i]? = some (optV T[i]) := by simp [h]
theorem SparseAt.alloc {w : World} {lb ab cap : Nat} {l : List (UInt8 × Nat)} (h : SparseAt w lb ab cap l) (o : Obj) : SparseAt (w.alloc o) lb ab cap l :=
  ⟨hAl h.list, let ⟨j, a, b⟩ := h.arr; ⟨j, hAl a, b⟩, h.small⟩

theorem look_some {l : List (UInt8 × Nat)} {p : UInt8 × Nat} (hp : p ∈ l) : ∃ c, look l p.1 = some c := by
  unfold look
  cases h : l.find? (fun q => q.1 == p.1) with
  | none => rw [List.find?_eq_none] at h; have := h p hp; simp at this
  | some q => exact ⟨q.2, rfl⟩
theorem head_of_tab {mn : Nat} {T : List (Option Nat)} {l : List (UInt8 × Nat)} (hT : ∀ y, tab mn T y = look l y) {p : UInt8 × Nat} (hp : p ∈ l) (e : p.1.toNat = mn) : ∃ c, T[0]? = some (some c) := by
  obtain ⟨c, hc⟩ := look_some hp
  have h := hT p.1
  rw [hc] at h
  unfold tab at h
  rw [if_pos (by omega), e, Nat.sub_self] at h
  cases h0 : T[0]? with
  | none => rw [h0] at h; cases h
  | some x =>
    rw [h0] at h
    cases x with
    | none => cases h
    | some y => exact ⟨y, rfl⟩

/-- What newDenseChildList gives. -/
def Densed (w : World) (l : List (UInt8 × Nat)) (b : UInt8) (c : Nat) (e : Ending) (w' : World) : Prop :=
  ∃ lb ab mn mx T, e = .returned (.iface 152 (ptrV lb)) ∧ DenseAt w' lb ab mn mx (l.length + 1) T ∧ (∀ y, tab mn T y = look (l ++ [(b, c)]) y) ∧
    MMall l b mn mx ∧ w.heap.size ≤ lb ∧ w.heap.size ≤ ab ∧ Kept (fun _ => False) w w'

set_option maxRecDepth 100000 in
set_option maxHeartbeats 1000000 in
theorem newDense_calls {w : World} {lb ab cap : Nat} {l : List (UInt8 × Nat)} (h : SparseAt w lb ab cap l) (hf : ∀ p ∈ l, FB w p.2 p.1) (hn : (l.map (·.1)).Nodup) (b : UInt8) (c : Nat)
    (hb : b ∉ l.map (·.1)) (hcb : FB w c b) (hl : 0 < l.length) :
    Calls Tryz.prog 108 #[ptrV lb, ptrV c] w (Densed w l b c) := by
  have hc := cell_of_heap h.list 0
  simp at hc
  have hsm := h.small
  have hle := h.le
  have hb2 : b.toNat < 256 := b.toNat_lt
  obtain ⟨cg, co, cn, ccp, cf1, cf2⟩ := hcb
  have H := Lib.hid (And.intro h (And.intro hf (And.intro hn hb))); clear h hf hn hb
  go_enter Tryz.func108, Tryz.ntmps108
  go_wp2
  go_loop [19, 5, 6, 8, 9] (fun i v5 v6 _ _ => ∃ k mn mx : Nat, i = .int .i64 k ∧ v5 = .int .i64 mn ∧ v6 = .int .i64 mx ∧ k ≤ l.length ∧ mn ≤ 255 ∧ mx ≤ 255 ∧ Hid (MM l k mn mx)) (fun i _ _ _ _ => l.length - (intOf i).toNat)
  case atStart => exact ⟨0, 255, 0, rfl, rfl, rfl, by omega, by omega, by omega, Lib.hid (MM.zero _)⟩
  case round =>
    obtain ⟨k, mn, mx, rfl, rfl, rfl, h1, hmn, hmx, HL⟩ := hrel
    by_cases hlt : k < l.length
    · have ck := H.out.1.cell k hlt
      obtain ⟨g, o, n, cp, f1, f2⟩ := H.out.2.1 l[k] (List.getElem_mem hlt)
      have hkb : l[k].1.toNat < 256 := l[k].1.toNat_lt
      have HR := Lib.hid (fun mn' mx' (a : mn' = min mn l[k].1.toNat) (b : mx' = max mx l[k].1.toNat) => HL.out.step hlt a b)
      clear HL
      by_cases hx : l[k].1.toNat < mn
      all_goals
        by_cases hy : mx < l[k].1.toNat
        all_goals
          go_wp2
          go_round
          case rel => exact ⟨k+1, _, _, by go_num, rfl, rfl, by omega, by omega, by omega, Lib.hid (HR.out _ _ (by omega) (by omega))⟩
          case measure => simp [intOf]; omega
    · obtain rfl : k = l.length := by omega
      have HR := Lib.hid (fun mn' mx' (a : mn' = min mn b.toNat) (b : mx' = max mx b.toNat) => HL.out.all hl a b)
      clear HL
      go_upto_if 48 with (fail)
      go_cut [5] (fun s wx => ∃ m : Nat, s = .int .i64 m ∧ Hid (m = min mn b.toNat) ∧ m ≤ 255 ∧ m ≤ b.toNat ∧ w = wx)
      case first =>
        by_cases hx : b.toNat < mn
        · go_wp2_with fail
          go_meet
          exact ⟨b.toNat, rfl, Lib.hid (by omega), by omega, by omega, rfl⟩
        · go_wp2_with fail
          go_meet
          exact ⟨mn, rfl, Lib.hid (by omega), by omega, by omega, rfl⟩
      case rest =>
        obtain ⟨m5, rfl, hm5, hm5b, hm5c, rfl⟩ := hcut
        go_upto_if 52 with (fail)
        go_cut [6] (fun s wx => ∃ m : Nat, s = .int .i64 m ∧ Hid (m = max mx b.toNat) ∧ m ≤ 255 ∧ b.toNat ≤ m ∧ w = wx)
        case first =>
          by_cases hx : mx < b.toNat
          · go_wp2_with fail
            go_meet
            exact ⟨b.toNat, rfl, Lib.hid (by omega), by omega, by omega, rfl⟩
          · go_wp2_with fail
            go_meet
            exact ⟨mx, rfl, Lib.hid (by omega), by omega, by omega, rfl⟩
        case rest =>
          obtain ⟨m6, rfl, hm6, hm6b, hm6c, rfl⟩ := hcut
          have HM := Lib.hid (HR.out m5 m6 hm5.out hm6.out)
          clear hm5 hm6 HR
          have ei : (m6 : Int) - (m5 : Int) = ((m6 - m5 : Nat) : Int) := by omega
          have hmk : ∀ w, (Instr.makeSlice 77 (.int .i64 (((m6 - m5 : Nat) : Int) + 1)) (.int .i64 (((m6 - m5 : Nat) : Int) + 1))).run Tryz.prog w = .ok (.slice (some ⟨w.heap.size, 0, none⟩) (m6 - m5 + 1) (m6 - m5 + 1)) (w.alloc (.cells (nilRow (m6 - m5 + 1)) 40)) := fun w => by
            have := mk_ptrs 77 Tryz.underlying77 (m6 - m5 + 1) (by omega) w
            rw [Int.natCast_add] at this
            exact this
          have a0 : ∀ o, (w.alloc o).cell? ⟨lb, 0, none⟩ = some (.slice (some ⟨ab, 0, none⟩) l.length cap) := fun o => cAl hc
          go_wp2
          go_loopw [64, 13] (fun i _ wr => ∃ k cur T, i = .int .i64 (k : Nat) ∧ k ≤ l.length ∧ wr = w.alloc (.cells cur 40) ∧ Hid (cur = (T.map optV).toArray ∧ Fill l m5 (m6 - m5 + 1) k T)) (fun i _ _ => l.length - (intOf i).toNat)
          case atStart => exact ⟨0, _, List.replicate (m6 - m5 + 1) none, rfl, by omega, rfl, Lib.hid ⟨by simp [nilRow, optV], Fill.zero _ _ _⟩⟩
          case round =>
            obtain ⟨k, cur, T, rfl, h1, rfl, HF⟩ := hrel
            by_cases hlt : k < l.length
            · have ck := cAl (o := .cells cur 40) (H.out.1.cell k hlt)
              obtain ⟨g, o, n, cp, f1', f2'⟩ := H.out.2.1 l[k] (List.getElem_mem hlt)
              have f1 := cAl (o := .cells cur 40) f1'
              have f2 := cAl (o := .cells cur 40) f2'
              clear f1' f2'
              have hkb : l[k].1.toNat < 256 := l[k].1.toNat_lt
              obtain ⟨hm1, hm2⟩ := HM.out.1 l[k] (List.getElem_mem hlt)
              have ej : (l[k].1.toNat : Int) - (m5 : Int) = ((l[k].1.toNat - m5 : Nat) : Int) := by omega
              have hcur : ∃ u, cur[l[k].1.toNat - m5]? = some u := by
                have h2 := HF.out.2.1
                rw [HF.out.1]; exact ⟨_, row_get (by omega)⟩
              obtain ⟨u, hcur⟩ := hcur
              have HR : Hid (cur.setIfInBounds (l[k].1.toNat - m5) (ptrV l[k].2) = ((T.set (l[k].1.toNat - m5) (some l[k].2)).map optV).toArray ∧ Fill l m5 (m6 - m5 + 1) (k + 1) (T.set (l[k].1.toNat - m5) (some l[k].2))) :=
                ⟨by rw [HF.out.1, show ptrV l[k].2 = optV (some l[k].2) from rfl, set_map_optV], HF.out.2.step hlt hm1 (by omega) H.out.2.2.1⟩
              clear HF
              go_wp2
              go_roundw
              case rel => exact ⟨k+1, _, _, by go_num, by omega, rfl, HR⟩
              case measure => simp [intOf]; omega
            · obtain rfl : k = l.length := by omega
              have g1 := cAl (o := .cells cur 40) cf1
              have g2 := cAl (o := .cells cur 40) cf2
              have ej : (b.toNat : Int) - (m5 : Int) = ((b.toNat - m5 : Nat) : Int) := by omega
              have hcur : ∃ u, cur[b.toNat - m5]? = some u := by
                have h2 := HF.out.2.1
                rw [HF.out.1]; exact ⟨_, row_get (by omega)⟩
              obtain ⟨u, hcur⟩ := hcur
              have hsp := Lib.hid (fun o => H.out.1.alloc o)
              go_wp2_with (go_at_call 102; refine (sp_length (hsp.out _)).mono ?_; rintro e w' ⟨rfl, rfl⟩)
              go_ret
              have HT := HF.out.2
              have hc1 : cur.setIfInBounds (b.toNat - m5) (ptrV c) = ((T.set (b.toNat - m5) (some c)).map optV).toArray := by
                rw [HF.out.1, show ptrV c = optV (some c) from rfl, set_map_optV]
              have hT2 : ∀ y, tab m5 (T.set (b.toNat - m5) (some c)) y = look (l ++ [(b, c)]) y := by
                intro y
                rw [tab_set hm5c (by rw [HT.1]; omega), look_snoc l b c H.out.2.2.2, HT.2 y, List.take_length]
              refine ⟨w.heap.size + 1, w.heap.size, m5, m6, T.set (b.toNat - m5) (some c), rfl, ⟨?_, ?_, ?_, hm6b, by omega, ?_, by omega⟩, hT2, HM.out, by omega, Nat.le_refl _, ((Kept.refl _ w).alloc _).alloc _⟩
              · rw [show w.heap.size + 1 = (w.alloc (Obj.cells (cur.setIfInBounds (b.toNat - m5) (ptrV c)) 40)).heap.size by simp, hNew]
                simp [HT.1]
              · rw [hAl (hNew w _), hc1]
              · simp [HT.1]; omega
              · rcases HM.out.2.2.2.1 with ⟨p, hp, e⟩ | e
                · exact head_of_tab hT2 (List.mem_append_left _ hp) e
                · exact head_of_tab hT2 (p := (b, c)) (by simp) e
end Go.Proofs.YtpopiaahdanpeaaGreatDoor
