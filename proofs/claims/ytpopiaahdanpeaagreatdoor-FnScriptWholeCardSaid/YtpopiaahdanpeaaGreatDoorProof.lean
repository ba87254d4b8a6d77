/-
  The statement 'FnScriptWhole' is proved: for every input the law returns true and leaves its arguments as they were. Its condition: the three package-level variables that the row lists hold what the program's text lays in them (the card ties that to the text).
-/
import Derived.Test.YtpopiaahdanpeaaGreatDoorRows
import Derived.Test.YtpopiaahdanpeaaGreatDoorTie
import Derived.Test.YtpopiaahdanpeaaGreatDoorCards
import Derived.Test.YtpopiaahdanpeaaGreatDoorLaw
import Derived.WalkKit
import Derived.ProofKit
import Derived.OpenShut
import Derived.ShutString
import Derived.ChangeOld
import Derived.Below
import Derived.LaidMore
import Derived.Stop.Joined
import Derived.Stop.LaidErr
import Derived.Lib.LaidTab
import Derived.WalkSmall
import Derived.SevenTiedAt
namespace Go.Proofs.YtpopiaahdanpeaaGreatDoor
open Go Go.ChangeShapes Go.WideShapes Go.ChangeAt Go.RowKit
set_option linter.unusedVariables false

theorem rowOwn : ownKnob Tryz.prog.godebug = none := by kernel_rfl
theorem rowLaidOut : laidOutB Tryz.prog = true := by kernel_rfl
theorem rowG0 : Tryz.prog.globalNamed "internal/strconv.uint64pow10" = some 0 := by kernel_rfl
theorem rowG0Type : (Tryz.prog.globals[0]?).map (·.type) = some 120 := by kernel_rfl
theorem rowCells5 : Tryz.prog.cellsOf 5 = 1 := by kernel_rfl

/-- The row's list of laid variables. -/
abbrev rowLaid : List (String × DataW Unit) := [("math/bits.deBruijn32tab", Rows.laid_math_bits_deBruijn32tab), ("math/bits.deBruijn64tab", Rows.laid_math_bits_deBruijn64tab), ("internal/strconv.uint64pow10", Rows.laid_internal_strconv_uint64pow10)]

/-- What the condition gives: the table of powers, and that it stays. -/
theorem tab_of_laid {W : World} (h : laidMetH Tryz.prog rowLaid W) : TabB W.heap.size W := by
  rw [MakeChecks.laidMetH_plain _ _ _ (by kernel_rfl)] at h
  have h3 : laidMet Tryz.prog [("internal/strconv.uint64pow10", Lib.tabData .u64 Lib.pow10Tab)] W := h.tail.tail
  have hT : Lib.TabIs Tryz.prog W "internal/strconv.uint64pow10" .u64 Lib.pow10Tab := Lib.tabIs_of_head (n := 20) (e := 104) rowG0 rowG0Type Tryz.underlying120 Tryz.underlying104 (by kernel_rfl) (by kernel_rfl) h3
  have hlt : 0 < W.heap.size := by
    have hc := hT.cell rowG0 0 (by decide)
    rcases Nat.eq_zero_or_pos W.heap.size with h0 | h0
    · simp [World.cell?, h0] at hc
    · exact h0
  intro u hu
  exact var?_below hu rowG0 hlt hT

/-- The door's own heap meets the condition. -/
theorem rowDoor (os : Os) (args : Array Value) : laidMetH Tryz.prog rowLaid ((World.doorLaid Tryz.prog 400 os).forCall (fun _ _ => 0) ⟨#[], args, []⟩).memory :=
  laidMetH_of_parts3 (fuel := 8) (laidMet_of_run' 8 (by kernel_rfl) (by kernel_rfl)) (by kernel_rfl) (by kernel_rfl)

/-- A slice of bytes that came in. -/
theorem bytes_in {w : World} {a : Option Addr} {len cap : Nat} {zs : List Int} (h : (a = none ∧ len = 0 ∧ cap = 0 ∧ zs = []) ∨
    ∃ x, a = some x ∧ len ≤ cap ∧ cap ≤ maxLen ∧ zs.length = cap ∧ (∀ i, i < zs.length → w.cell? (x.add i) = some (.int .u8 (zs.getD i 0))) ∧ ∀ n ∈ zs, (Lit.int .u8 n).wf = true) :
    len ≤ cap ∧ ∃ (data : Word) (dg o : Nat), data.length = len ∧ (1 < data.length → a = some ⟨dg, o, none⟩ ∧ dg < w.heap.size ∧ BytesAt w dg o data) := by
  rcases h with ⟨rfl, rfl, rfl, rfl⟩ | ⟨⟨b, off, spot⟩, rfl, hl, hm, hz, hc, hw⟩
  · exact ⟨Nat.le_refl _, [], 0, 0, rfl, fun h => by simp at h⟩
  · refine ⟨hl, (zs.take len).map fun n => UInt8.ofNat n.toNat, b, off, by simp; omega, fun h1 => ?_⟩
    have hlen : 1 < len := by simpa [hz, Nat.min_eq_left hl] using h1
    have h0 := hc 0 (by omega)
    have hs : spot = none := by simpa [Addr.add] using World.cell?_spot h0
    subst hs
    refine ⟨rfl, ?_, fun i hi => ?_⟩
    · rcases Nat.lt_or_ge b w.heap.size with h | h
      · exact h
      · simp [World.cell?, Addr.add, Array.getElem?_eq_none h] at h0
    · have hi' : i < len := by simp at hi; omega
      have := hc i (by omega)
      simp only [Addr.add] at this
      have hzl : i < zs.length := by omega
      have hwf := hw zs[i] (List.getElem_mem hzl)
      have hb : 0 ≤ zs[i] ∧ zs[i] ≤ 255 := by have := bounds_u8 hwf; omega
      have hg : zs.getD i 0 = zs[i] := by simp [List.getD, hzl]
      rw [hg] at this
      have he : (if i = 0 then (⟨b, off, none⟩ : Addr) else ⟨b, off + i, none⟩) = ⟨b, off + i, none⟩ := by
        split
        · subst i; rfl
        · rfl
      rw [he] at this
      rw [this]
      simp
      omega

set_option maxRecDepth 100000 in
theorem rowLifted (os : Os) (started : os.Started) (H : Type) (enc : TypeId × Value → H) :
    ReturnsInHanded {} Tryz.checked os 3 .any (fun w args => (Rows.fnScriptWholeSpec.pre enc Tryz.prog Tryz.f3 [] false w args ∧ laidMetH Tryz.prog rowLaid w) ∧ sizedMet enc Tryz.prog Tryz.f3 (OpenSpec.ofChange Rows.fnScriptWholeSpec) false w args)
      (Rows.fnScriptWholeSpec.post enc Tryz.prog Tryz.f3 false true false false) := by
  refine returnsInHanded_of_change_and (C := Tryz.checked) (X := fun w _ => laidMetH Tryz.prog rowLaid w) (fun _ _ _ hh h => h.of_heap hh) rowOwn started (by kernel_rfl) Tryz.func3
    (ChangeSpec.witness_shaped (enc := enc) (C := Tryz.checked) (os := os) (X := fun w _ => laidMetH Tryz.prog rowLaid w) false (World.doorLaid Tryz.prog 400 os) #[.int .u8 0, .int .u8 0, .slice none 0 0] 8 rfl (World.shaped_of_RefB (by kernel_rfl) (by kernel_rfl)) (by kernel_rfl) (by kernel_rfl) (by kernel_rfl) (rowDoor os _)) ?_
  intro W base args ds gs before hval0 hW _ _ hL _
  have hval : ∀ (j : Nat) t v, Tryz.f3.params[j]? = some t → args[j]? = some v → Value.okWide Tryz.prog W .any base t v := hval0
  have hW' := hW
  obtain ⟨p, q, hA0, hV, rfl, hfz, hnd⟩ := hW
  have hA : DataW.TrodAll enc Tryz.prog W 0 (fun _ => true) true Tryz.f3.params.toList args.toList ds p := hA0
  rw [Tryz.params3] at hA hval
  obtain ⟨v0, vs0, d0, ds0, p0, q0, hargs, rfl, rfl, h0, r0⟩ := trodAll_cons hA
  obtain ⟨v1, vs1, d1, ds1, p1, q1, rfl, rfl, rfl, h1, r1⟩ := trodAll_cons r0
  obtain ⟨v2, vs2, d2, ds2, p2, q2, rfl, rfl, rfl, h2, r2⟩ := trodAll_cons r1
  obtain ⟨rfl, rfl, rfl⟩ := trodAll_nil r2
  obtain rfl : args = #[v0, v1, v2] := by cases args; simp_all
  obtain ⟨rfl, rfl⟩ := trodVars_none hV
  obtain ⟨a0, rfl, rfl, rfl, w0⟩ := open_int Tryz.underlying5 (hval 0 5 v0 rfl rfl) h0
  obtain ⟨a1, rfl, rfl, rfl, w1⟩ := open_int Tryz.underlying5 (hval 1 5 v1 rfl rfl) h1
  obtain ⟨a2, len2, cap2, rfl⟩ := okWide_slice Tryz.underlying22 (hval 2 22 v2 rfl rfl)
  have k2 := h2
  have lt2 : ∀ x ∈ p2, x.block < W.heap.size := by obtain ⟨m, hm⟩ := k2; exact DataW.trod_lt m _ _ _ hm
  obtain ⟨hc2, data, dg, o, hlen, hdata⟩ : len2 ≤ cap2 ∧ ∃ (data : Word) (dg o : Nat), data.length = len2 ∧ (1 < data.length → a2 = some ⟨dg, o, none⟩ ∧ dg < W.heap.size ∧ BytesAt W dg o data) := by
    obtain ⟨fuel, hf⟩ := h2
    rcases open_ints Tryz.underlying22 Tryz.underlying5 rowCells5 hf with ⟨hcs, _⟩ | ⟨x, l, c, zs, hcs, _, hl, hm, hz, _, hcell, hwz⟩
    · simp [Value.cells] at hcs
      obtain ⟨rfl, rfl, rfl⟩ := hcs
      exact bytes_in (zs := []) (.inl ⟨rfl, rfl, rfl, rfl⟩)
    · simp [Value.cells] at hcs
      obtain ⟨rfl, rfl, rfl⟩ := hcs
      exact bytes_in (zs := zs) (.inr ⟨_, rfl, hl, hm, by simpa using hz, hcell, hwz⟩)
  clear hA0 hval0
  have b0 := bounds_u8 w0
  have b1 := bounds_u8 w1
  obtain ⟨n0, hn0, rfl⟩ : ∃ n : Nat, n < 256 ∧ a0 = n := ⟨a0.toNat, by omega, by omega⟩
  obtain ⟨n1, hn1, rfl⟩ : ∃ n : Nat, n < 256 ∧ a1 = n := ⟨a1.toNat, by omega, by omega⟩
  have walk : Calls Tryz.prog 3 #[.int .u8 n0, .int .u8 n1, .slice a2 len2 cap2] W fun e w' => e = .returned (.bool true) ∧ Below W.heap.size W w' := by
    by_cases hb : len2 ≤ 2147483647
    · subst hlen
      exact law_small n0 n1 hn0 hn1 a2 dg o cap2 data W hdata hc2 hb (tab_of_laid hL)
    · exact (law_big n0 n1 a2 len2 cap2 W hb).mono fun e w' ⟨he, hw⟩ => ⟨he, by rw [hw]; exact Below.refl _ _⟩
  refine walk.mono fun e W' ⟨he, bel⟩ => ?_
  subst he
  exact ⟨_, rfl, _, _, _, [], _, [], hW', trodAll_mk1 (shut_bool Tryz.underlying4 _), (trodAll_cons_mk (shut_int Tryz.underlying5 w0) (trodAll_cons_mk (shut_int Tryz.underlying5 w1) (trodAll_cons_mk (Below.trod rowLaidOut (by kernel_rfl) (of_decide_eq_true (by kernel_rfl)) k2 bel lt2) trodAll_mk0))), rfl, bel.frame _, fun h => by cases h⟩

/-- The row. -/
theorem fnScriptWhole_row : Rows.FnScriptWholeSaid :=
  OpenClaim.holds_of_wide 3 Tryz.f3 rfl rfl rfl rfl rfl rfl rfl ⟨rfl, rfl, rfl, rfl, rfl⟩ rfl rfl rfl rfl rfl (by kernel_rfl) Tryz.func3 (by kernel_rfl)
    (of_decide_eq_true (by kernel_rfl)) (by unfold Func.isWrapper; first | (rw [if_pos (by decide +kernel)]; kernel_rfl) | (rw [if_neg (by decide +kernel)]; exact ⟨rfl, rfl⟩))
    (fun os started H enc _ => rowLifted os started H enc)

/-- The card. -/
theorem fnScriptWhole_card : Rows.FnScriptWholeCardSaid :=
  Claim7.holds_tied_plain_at .later [] [.data, .data, .data] true (true, "64d4676c34448b91598d6a576141649458d15897b913646a5850c4c2d0f32610") true
    fnScriptWhole_row (fun _ h => by cases h) (by kernel_rfl) (fun _ h => by cases h) fnScriptWhole_row_tie rfl ⟨rfl, rfl⟩ (by kernel_rfl) rfl
    (fun f fn hf hfn => by
      obtain rfl : f = 3 := Option.some.inj ((show Tryz.prog.funcNamed "loop.example/pub-triescripts/laws.FnScriptWhole" = some 3 by kernel_rfl).symm.trans hf) |>.symm
      obtain rfl : fn = Tryz.f3 := (Option.some.inj (Tryz.func3.symm.trans hfn)).symm
      exact ⟨by kernel_rfl, fun j t ht => by
        rw [Tryz.params3] at ht
        have hm : t ∈ [5, 5, 22] := by simpa using Array.mem_of_getElem? ht
        have hall : ([5, 5, 22].all fun u => !Tryz.prog.wantsStandIn u) = true := by kernel_rfl
        exact (show Tryz.prog.wantsStandIn t = false by simpa using List.all_eq_true.1 hall t hm)⟩)
    (by kernel_rfl)
#print axioms fnScriptWhole_card
end Go.Proofs.YtpopiaahdanpeaaGreatDoor
