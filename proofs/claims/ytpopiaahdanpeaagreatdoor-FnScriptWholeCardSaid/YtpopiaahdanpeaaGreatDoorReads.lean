/- The walks of the functions that only read: the common length of a key and a node's prefix, and length, head, next of the two kinds of lists. -/
import Derived.Test.YtpopiaahdanpeaaGreatDoorHeap
namespace Go.Proofs.YtpopiaahdanpeaaGreatDoor
open Go Go.RowKit
set_option linter.unusedVariables false

/-- length of the longest common prefix -/
def lcp : List UInt8 → List UInt8 → Nat
  | a :: r, b :: s => if a = b then lcp r s + 1 else 0
  | _, _ => 0

theorem lcp_step {ks ps : List UInt8} {k : Nat} (hk : k < ks.length) (hp : k < ps.length) (he : ks[k] = ps[k]) :
  lcp (ks.drop k) (ps.drop k) = lcp (ks.drop (k+1)) (ps.drop (k+1)) + 1 := by
  rw [List.drop_eq_getElem_cons hk, List.drop_eq_getElem_cons hp]; simp [lcp, he]
theorem lcp_ne {ks ps : List UInt8} {k : Nat} (hk : k < ks.length) (hp : k < ps.length) (he : ¬ ks[k] = ps[k]) :
  lcp (ks.drop k) (ps.drop k) = 0 := by
  rw [List.drop_eq_getElem_cons hk, List.drop_eq_getElem_cons hp]; simp [lcp, he]
theorem lcp_out {ks ps : List UInt8} {k : Nat} (h : ks.length ≤ k ∨ ps.length ≤ k) :
  lcp (ks.drop k) (ps.drop k) = 0 := by
  rcases h with h | h
  · rw [List.drop_eq_nil_of_le h]; simp [lcp]
  · rw [List.drop_eq_nil_of_le h]; cases ks.drop k <;> simp [lcp]

/-- A slice's bytes. -/
def BytesAt (w : World) (g o : Nat) (l : List UInt8) : Prop := ∀ i (h : i < l.length), w.cell? ⟨g, o + i, none⟩ = some (.int .u8 l[i].toNat)

set_option maxHeartbeats 1000000 in
theorem lcp_calls (w : World) (b g o c g2 o2 c2 : Nat) (ks ps : List UInt8) (hk : ks.length ≤ 1000) (hp : ps.length ≤ 1000)
   (hb : w.cell? ⟨b, 0, none⟩ = some (.slice (some ⟨g, o, none⟩) ps.length c))
   (hcp : BytesAt w g o ps) (hck : BytesAt w g2 o2 ks) :
   Calls Tryz.prog 54 #[.pointer (some ⟨b, 0, none⟩), .slice (some ⟨g2, o2, none⟩) ks.length c2] w fun e w' =>
     e = .returned (.int .i64 (lcp ks ps)) ∧ ∃ n, w' = w.drewN n := by
  have HP := Lib.hid hcp; clear hcp
  have HK := Lib.hid hck; clear hck
  go_enter Tryz.func54, Tryz.ntmps54
  go_wp2
  go_loopw [4] (fun i wr => ∃ k n : Nat, i = .int .i64 k ∧ k ≤ ks.length ∧ k ≤ ps.length ∧ wr = w.drewN n ∧ Hid (lcp ks ps = k + lcp (ks.drop k) (ps.drop k))) (fun i _ => ks.length - (intOf i).toNat)
  case atStart => exact ⟨0, 0, rfl, by omega, by omega, rfl, Lib.hid (by simp)⟩
  case round =>
    obtain ⟨k, n, rfl, h1, h2, rfl, H⟩ := hrel
    by_cases hlt : k < ks.length
    · by_cases hlt2 : k < ps.length
      · have c1 := HP.out k hlt2
        have c2 := HK.out k hlt
        by_cases he : ks[k] = ps[k]
        · have heB : ((ks[k].toNat : Int) == (ps[k].toNat : Int)) = true := by simp [he]
          go_wp2_with fail
          go_quiet (fail)
          go_wp2
          go_roundw
          case rel => exact ⟨k+1, _, by go_num, by omega, by omega, rfl, Lib.hid (by have := H.out; rw [lcp_step hlt hlt2 he] at this; omega)⟩
          case measure => simp [intOf]; omega
        · have heB : ((ks[k].toNat : Int) == (ps[k].toNat : Int)) = false := by
            simp; intro h; exact he (UInt8.toNat_inj.1 (by omega))
          go_wp2_with fail
          go_quiet (fail)
          go_wp2
          go_ret
          exact ⟨by have := H.out; rw [lcp_ne hlt hlt2 he] at this; rw [this]; rfl, _, World.drewN_drewN ..⟩
      · have hd : decide ((k : Int) < (ps.length : Int)) = false := by simp; omega
        have hd : decide (k < ps.length) = false := by simp; omega
        go_wp2_with fail
        go_quiet (fail)
        go_wp2
        go_ret
        exact ⟨by have := H.out; rw [lcp_out (.inr (by omega))] at this; rw [this]; rfl, _, World.drewN_drewN ..⟩
    · have hd : decide ((k : Int) < (ks.length : Int)) = false := by simp; omega
      have hd : decide (k < ks.length) = false := by simp; omega
      go_wp2_with fail
      go_quiet (fail)
      go_wp2
      go_ret
      exact ⟨by have := H.out; rw [lcp_out (.inl (by omega))] at this; rw [this]; rfl, _, World.drewN_drewN ..⟩

theorem sp_length {w : World} {lb ab cap : Nat} {l : List (UInt8 × Nat)} (h : SparseAt w lb ab cap l) :
    Calls Tryz.prog 102 #[ptrV lb] w fun e w' => e = .returned (.int .i64 l.length) ∧ w = w' := by
  have hc := cell_of_heap h.list 0
  simp at hc
  clear h
  go_enter Tryz.func102, Tryz.ntmps102
  go_wp2
  go_ret
  exact ⟨rfl, rfl⟩

theorem sp_head {w : World} {lb ab cap : Nat} {l : List (UInt8 × Nat)} (h : SparseAt w lb ab cap l) (hl : 0 < l.length) :
    Calls Tryz.prog 101 #[ptrV lb] w fun e w' => e = .returned (ptrV (l[0]).2) ∧ w = w' := by
  have hc := cell_of_heap h.list 0
  have h0 := h.cell 0 hl
  simp at hc
  clear h
  go_enter Tryz.func101, Tryz.ntmps101
  go_wp2
  go_ret
  exact ⟨rfl, rfl⟩

/-- the child that begins with a byte -/
def look (l : List (UInt8 × Nat)) (b : UInt8) : Option Nat := (l.find? fun p => p.1 == b).map (·.2)

theorem look_hit {l : List (UInt8 × Nat)} {k : Nat} {b : UInt8} (hk : k < l.length) (he : l[k].1 = b) : look (l.drop k) b = some l[k].2 := by
  rw [List.drop_eq_getElem_cons hk]; unfold look; rw [List.find?_cons_of_pos (by simp [he])]; rfl
theorem look_miss {l : List (UInt8 × Nat)} {k : Nat} {b : UInt8} (hk : k < l.length) (he : ¬ l[k].1 = b) : look (l.drop k) b = look (l.drop (k+1)) b := by
  rw [List.drop_eq_getElem_cons hk]; unfold look; rw [List.find?_cons_of_neg (by simp [he])]

set_option maxHeartbeats 400000 in
theorem sp_next {w : World} {lb ab cap : Nat} {l : List (UInt8 × Nat)} (h : SparseAt w lb ab cap l) (hf : ∀ p ∈ l, FB w p.2 p.1) (b : UInt8) :
    Calls Tryz.prog 103 #[ptrV lb, .int .u8 b.toNat] w fun e w' => e = .returned (optV (look l b)) ∧ w = w' := by
  have hc := cell_of_heap h.list 0
  simp at hc
  have hle := h.le
  have hsm := h.small
  have H := Lib.hid (And.intro h hf); clear h hf
  go_enter Tryz.func103, Tryz.ntmps103
  go_wp2
  go_loop [12] (fun i => ∃ k : Nat, i = .int .i64 k ∧ k ≤ l.length ∧ Hid (look l b = look (l.drop k) b)) (fun i => l.length - (intOf i).toNat)
  case atStart => exact ⟨0, rfl, by omega, Lib.hid (by simp)⟩
  case round =>
    obtain ⟨k, rfl, h1, HL⟩ := hrel
    by_cases hlt : k < l.length
    · have ck := H.out.1.cell k hlt
      obtain ⟨g, o, n, cp, f1, f2⟩ := H.out.2 l[k] (List.getElem_mem hlt)
      by_cases he : l[k].1 = b
      · have heB : ((l[k].1.toNat : Int) == (b.toNat : Int)) = true := by simp [he]
        have HR : Hid (look l b = some l[k].2) := by
          have := HL.out; rw [this]; exact Lib.hid (look_hit hlt he)
        clear he HL
        go_wp2
        go_ret
        exact ⟨by rw [HR.out]; rfl, rfl⟩
      · have heB : ((l[k].1.toNat : Int) == (b.toNat : Int)) = false := by
          simp; intro h; exact he (UInt8.toNat_inj.1 (by omega))
        have HR : Hid (look l b = look (l.drop (k+1)) b) := by
          have := HL.out; rw [this]; exact Lib.hid (look_miss hlt he)
        clear he HL
        go_wp2
        go_round
        case rel => exact ⟨k+1, by go_num, by omega, HR⟩
        case measure => simp [intOf]; omega
    · have HR : Hid (look l b = none) := by
        have := HL.out; rw [this, List.drop_eq_nil_of_le (by omega)]; exact Lib.hid rfl
      clear HL
      go_wp2
      go_ret
      exact ⟨by rw [HR.out]; rfl, rfl⟩

theorem de_length {w : World} {lb ab mn mx n : Nat} {T : List (Option Nat)} (h : DenseAt w lb ab mn mx n T) :
    Calls Tryz.prog 134 #[ptrV lb] w fun e w' => e = .returned (.int .i64 n) ∧ w = w' := by
  have hc := cell_of_heap h.list 2
  simp at hc
  clear h
  go_enter Tryz.func134, Tryz.ntmps134
  go_wp2
  go_ret
  exact ⟨rfl, rfl⟩

theorem tab_in {mn : Nat} {T : List (Option Nat)} {b : UInt8} (h1 : mn ≤ b.toNat) (h2 : b.toNat - mn < T.length) : tab mn T b = T[b.toNat - mn] := by
  simp [tab, h1, h2]
theorem tab_low {mn : Nat} {T : List (Option Nat)} {b : UInt8} (h1 : b.toNat < mn) : tab mn T b = none := by
  unfold tab; rw [if_neg (by omega)]
theorem tab_high {mn : Nat} {T : List (Option Nat)} {b : UInt8} (h1 : mn + T.length ≤ b.toNat) : tab mn T b = none := by
  unfold tab; split
  · rw [List.getElem?_eq_none (by omega)]; rfl
  · rfl

theorem de_next {w : World} {lb ab mn mx n : Nat} {T : List (Option Nat)} (h : DenseAt w lb ab mn mx n T) (b : UInt8) :
    Calls Tryz.prog 135 #[ptrV lb, .int .u8 b.toNat] w fun e w' => e = .returned (optV (tab mn T b)) ∧ ∃ n, w' = w.drewN n := by
  have c0 := cell_of_heap h.list 0
  have c1 := cell_of_heap h.list 1
  have c4 := cell_of_heap h.list 4
  simp at c0 c1 c4
  have hs := h.size
  have ht := h.top
  have hl := h.low
  have hb : b.toNat < 256 := b.toNat_lt
  by_cases h1 : b.toNat < mn
  · have hr := Lib.hid (tab_low (T := T) h1)
    clear h
    go_enter Tryz.func135, Tryz.ntmps135
    go_wp2
    go_ret
    exact ⟨by rw [hr.out]; rfl, 0, rfl⟩
  · by_cases h2 : mx < b.toNat
    · have hr := Lib.hid (tab_high (T := T) (mn := mn) (b := b) (by omega))
      clear h
      go_enter Tryz.func135, Tryz.ntmps135
      go_wp2
      go_ret
      exact ⟨by rw [hr.out]; rfl, 0, rfl⟩
    · have hr := Lib.hid (tab_in (T := T) (mn := mn) (b := b) (by omega) (by omega))
      have ci := h.cell (b.toNat - mn) (by omega)
      have ei : (b.toNat : Int) - (mn : Int) = ((b.toNat - mn : Nat) : Int) := by omega
      have hi : b.toNat - mn < T.length := by omega
      clear h
      go_enter Tryz.func135, Tryz.ntmps135
      go_wp2
      go_quiet (fail)
      go_wp2
      go_ret
      exact ⟨by rw [hr.out]; rfl, _, rfl⟩

end Go.Proofs.YtpopiaahdanpeaaGreatDoor
