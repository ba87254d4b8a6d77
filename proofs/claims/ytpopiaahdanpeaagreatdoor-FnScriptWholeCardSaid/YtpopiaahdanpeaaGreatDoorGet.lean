/- Insert, Set, Get, Match. -/
import Derived.Test.YtpopiaahdanpeaaGreatDoorPut
namespace Go.Proofs.YtpopiaahdanpeaaGreatDoor
open Go Go.RowKit
set_option linter.unusedVariables false

section
variable {w : World} {t : Nat} {D : Node → Prop}

theorem insert_calls (h : TrieAt w t D) (hl : Low t D) (key : List UInt8) (ht : Top t D key) (ha : ∃ v, Has D [65] v) (hgk : Good key) (kg ko kc : Nat) (x : Int) (hpos : 0 < key.length)
    (hkb : BytesAt w kg ko key) (hka : ArrAt w kg (ko + kc)) (hkc : key.length ≤ kc) (hkg : ¬ TB D kg) :
    Calls Tryz.prog 23 #[ptrV t, .slice (some ⟨kg, ko, none⟩) key.length kc, .iface 3 (.int .i64 x)] w (PutPost w t D key kg x false) := by
  have H := Lib.hid (put_calls h hl key ht ha hgk kg ko kc x false hpos hkb hka hkc hkg)
  clear h hl ht ha hgk hkb hka hkg
  go_enter Tryz.func23, Tryz.ntmps23
  go_wp2_with (go_at_call 40; refine H.out.mono ?_; rintro e w' (⟨D', rfl, hp⟩ | ⟨rfl, hp⟩))
  · go_ret
    exact .inl ⟨D', rfl, hp⟩
  · go_ret
    exact .inr ⟨rfl, rfl, hp.2⟩

theorem set_calls (h : TrieAt w t D) (hl : Low t D) (key : List UInt8) (ht : Top t D key) (ha : ∃ v, Has D [65] v) (hgk : Good key) (kg ko kc : Nat) (x : Int) (hpos : 0 < key.length)
    (hkb : BytesAt w kg ko key) (hka : ArrAt w kg (ko + kc)) (hkc : key.length ≤ kc) (hkg : ¬ TB D kg) :
    Calls Tryz.prog 24 #[ptrV t, .slice (some ⟨kg, ko, none⟩) key.length kc, .iface 3 (.int .i64 x)] w fun e w' => e = .returned (.tuple #[]) ∧ ∃ D', PutOut w w' t D D' key x kg := by
  have H := Lib.hid (put_calls h hl key ht ha hgk kg ko kc x true hpos hkb hka hkc hkg)
  clear h hl ht ha hgk hkb hka hkg
  go_enter Tryz.func24, Tryz.ntmps24
  go_wp2_with (go_at_call 40; refine H.out.mono ?_; rintro e w' (⟨D', rfl, hp⟩ | ⟨rfl, hp, _⟩))
  · refine bodyPost_end (results_none rfl _ _ _) rfl ?_
    exact ⟨rfl, D', hp.1⟩
  · cases hp

/-- What Get gives: the item, as Has says. -/
def GetPost (w : World) (D : Node → Prop) (key : List UInt8) (o : Option Int) (w' : World) : Prop := Drawn w w' ∧ ∀ v, o = some v ↔ Has D key v

theorem found_exact {X : Node} {key : List UInt8} (hw : WF t D) (hX : D X) (hkey : key ≠ []) (h1 : key <+: X.word) (h2 : X.par <+: key) (h3 : X.blk = t ∨ X.blk ≠ t ∧ X.par ≠ key) {Y : Node} (hY : D Y) (hYk : Y.word = key) : X.word = key := by
  by_cases e : Y.word = X.word
  · rw [← e, hYk]
  · exfalso
    have hg := hw.gap X Y hX hY (by rw [hYk]; exact h1) e
    have hpl := hw.plen_le hX
    have h4 := h2.length_le
    rw [X.par_len] at h4
    have h5 : X.par = key := h2.eq_of_length (by rw [X.par_len]; rw [hYk] at hg; omega)
    rcases h3 with h3 | ⟨_, h3⟩
    · rw [hw.root_par hX h3] at h5; exact hkey h5.symm
    · exact h3 h5

theorem get_calls (h : TrieAt w t D) (key : List UInt8) (kg ko kc : Nat) (hk : BytesAt w kg ko key) (hkl : key.length ≤ 100) (hpos : 0 < key.length) (hkc : key.length ≤ kc) (hlen : ∀ X, D X → X.word.length ≤ 100) :
    Calls Tryz.prog 45 #[ptrV t, .slice (some ⟨kg, ko, none⟩) key.length kc] w fun e w' => ∃ o, e = .returned (itemV o) ∧ GetPost w D key o w' := by
  have HF := Lib.hid (findSubtree_calls h key kg ko kc hk hkl hkc hlen)
  have H := Lib.hid h; clear h hk
  go_enter Tryz.func45, Tryz.ntmps45
  go_upto_region 2 with (go_at_call 44; refine HF.out.mono ?_; rintro e w' ⟨n, rfl, ⟨X, PV, o', c', hX, h1, h2, h3, rfl, h4, h5⟩ | ⟨h1, v0, v1, v3, rfl⟩⟩)
  · have hl2 := h1.length_le
    have c1 := (H.out.at_ X hX).c1
    have HX := Lib.hid (And.intro hX (And.intro h1 (And.intro h2 h3))); clear hX h1 h2 h3 h4
    have hkn : key ≠ [] := by rintro rfl; simp at hpos
    by_cases he : X.word.length = key.length
    · have hz : ((X.word.length - key.length : Nat) != 0) = false := by simp; omega
      have hz2 : (((X.word.length - key.length : Nat) : Int) != 0) = false := by simp; omega
      have HE := Lib.hid (HX.out.2.1.eq_of_length he.symm)
      clear he
      go_wp2_with fail
      go_ret
      refine ⟨X.item, rfl, ⟨_, rfl⟩, fun v => ⟨fun hv => ⟨X, HX.out.1, HE.out.symm, hv⟩, ?_⟩⟩
      rintro ⟨Y, hY, e1, e2⟩
      rw [← H.out.wf.winj Y X hY HX.out.1 (by rw [e1, HE.out])]; exact e2
    · have hz : ((X.word.length - key.length : Nat) != 0) = true := by simp; omega
      have hz2 : (((X.word.length - key.length : Nat) : Int) != 0) = true := by simp; omega
      have HE := Lib.hid he; clear he
      go_wp2_with fail
      go_ret
      refine ⟨none, rfl, ⟨_, rfl⟩, fun v => ⟨fun hv => (by cases hv), ?_⟩⟩
      rintro ⟨Y, hY, e1, e2⟩
      have := found_exact H.out.wf HX.out.1 hkn HX.out.2.1 HX.out.2.2.1 (by rcases HX.out.2.2.2 with ⟨q, _⟩ | ⟨q, q2, _⟩; exact .inl q; exact .inr ⟨q, q2⟩) hY e1
      exact (HE.out (congrArg List.length this)).elim
  · go_wp2_with fail
    go_ret
    refine ⟨none, rfl, ⟨_, rfl⟩, fun v => ⟨fun hv => ?_, ?_⟩⟩
    · cases hv
    · rintro ⟨Y, hY, e1, e2⟩
      exact (h1 ⟨Y, hY, by rw [e1]; exact List.prefix_rfl⟩).elim

theorem match_calls (h : TrieAt w t D) (key : List UInt8) (kg ko kc : Nat) (hk : BytesAt w kg ko key) (hkl : key.length ≤ 100) (hpos : 0 < key.length) (hkc : key.length ≤ kc) (hlen : ∀ X, D X → X.word.length ≤ 100) :
    Calls Tryz.prog 46 #[ptrV t, .slice (some ⟨kg, ko, none⟩) key.length kc] w fun e w' => ∃ o : Option Int, e = .returned (.bool o.isSome) ∧ GetPost w D key o w' := by
  have HF := Lib.hid (get_calls h key kg ko kc hk hkl hpos hkc hlen)
  have hne := item_neq
  have hig := item_guard
  clear h hk
  go_enter Tryz.func46, Tryz.ntmps46
  go_wp2_with (go_at_call 45; refine HF.out.mono ?_; rintro e w' ⟨o, rfl, hp⟩)
  go_ret
  exact ⟨o, rfl, hp⟩
end
end Go.Proofs.YtpopiaahdanpeaaGreatDoor
