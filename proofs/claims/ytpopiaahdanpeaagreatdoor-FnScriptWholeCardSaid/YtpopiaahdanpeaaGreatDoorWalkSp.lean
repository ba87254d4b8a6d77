/- The walk of a small list. -/
import Derived.Test.YtpopiaahdanpeaaGreatDoorWalkMem
import Derived.Test.YtpopiaahdanpeaaGreatDoorScript
namespace Go.Proofs.YtpopiaahdanpeaaGreatDoor
open Go Go.RowKit
set_option linter.unusedVariables false

theorem meth_walk (d : Bool) (a : Addr) (w : World) : (method 277 (tyOf d) (.pointer (some a)) "loop.example/pub-triescripts/pub/patricia.walk").run Tryz.prog w = .ok (walkFn d, .pointer (some a)) w := by
  cases d <;> kernel_rfl
theorem nil_walk (d : Bool) (a : Addr) (w : World) : (nilAhead 277 (tyOf d) (.pointer (some a)) "loop.example/pub-triescripts/pub/patricia.walk").run Tryz.prog w = .ok (some false) w := by
  cases d <;> kernel_rfl
theorem call_walk (d : Bool) (args : Array Value) (w : World) : (callFunc (walkFn d) args).run Tryz.prog w = .ok (.enter (walkFn d) args) w := by
  cases d <;> kernel_rfl

/-- What a walk below the node X gives. -/
def WalkOut (w : World) (t : Nat) (D : Node → Prop) (pp pg cap : Nat) (own : Nat → Prop) (Vi : World → List (List UInt8) → Prop) (X : Node) (told : List (List UInt8)) (e : Ending) (w' : World) : Prop :=
  e = .returned .nilIface ∧ ∃ L, LsB D X.word L ∧ WAt w w' t D pp pg cap own Vi X.word X.word (told ++ L)

section
variable {w : World} {t : Nat} {D : Node → Prop} {X : Node} {pp pg vf vb cap : Nat} {own : Nat → Prop} {Vi : World → List (List UInt8) → Prop} {told : List (List UInt8)}

/-- The walks below the children. -/
def Kids (t : Nat) (D : Node → Prop) (pp pg cap vf vb : Nat) (own : Nat → Prop) (Vi : World → List (List UInt8) → Prop) (X : Node) : Prop :=
  ∀ V b, Kid t D X b V → ∀ u told, WAt u u t D pp pg cap own Vi V.word V.word told → Room D V.word told.length →
    Calls Tryz.prog (walkFn V.d) #[ptrV V.lb, ptrV pp, .func (.func vf) #[] #[ptrV vb]] u (WalkOut u t D pp pg cap own Vi V told)

/-- What the append of a child's part asks. -/
theorem push_facts {V : Node} {word : List UInt8} (hp : Pfx w pp pg cap word) (hN : NodeAt w t D V) (hl : V.pre.length = V.plen) (hlen : word.length + V.plen ≤ 32) :
    (byteVs V.pre).length = V.plen * 1 ∧ (∀ j u, (byteVs V.pre)[j]? = some u → (w.cell? ((⟨V.g, V.off, none⟩ : Addr).add j)) = some u) ∧ (∀ u ∈ byteVs V.pre, u.oneCell' = true) ∧ word.length + V.plen ≤ cap ∧
    ∀ j, j < (byteVs V.pre).length → (w.cell? ⟨pg, 0 + word.length * 1 + j, none⟩).isSome = true ∧ w.frozen? ⟨pg, 0 + word.length * 1 + j, none⟩ = false := by
  have hlo := hp.lo
  obtain ⟨cur, fr, e, hsz, hfz⟩ := hp.arr
  refine ⟨by rw [byteVs_len, hl]; omega, hN.bytes.vals, byteVs_one _, by omega, fun j hj => ?_⟩
  rw [byteVs_len] at hj
  have hlt : 0 + word.length * 1 + j < cap := by omega
  refine ⟨?_, hfz _ hlt⟩
  rw [cell_of_heap e, Array.getElem?_eq_getElem (by omega)]; rfl

theorem next_part {l : List (UInt8 × Nat)} {i : Nat} {p : Word} {L : List Word} {h : i < l.length} (hL : LsP D p (fun y => (∃ j, ∃ h : j < l.length, j < i ∧ l[j].1 = y) ∨ y = l[i].1) L) (_ : i < l.length) : LsP D p (fun y => ∃ j, ∃ h : j < l.length, j < i + 1 ∧ l[j].1 = y) L := by
  refine hL.congr fun y => ?_
  constructor
  · rintro (⟨j, hj, h1, h2⟩ | rfl)
    · exact ⟨j, hj, by omega, h2⟩
    · exact ⟨i, h, by omega, rfl⟩
  · rintro ⟨j, hj, h1, h2⟩
    by_cases e : j = i
    · subst e; exact .inr h2.symm
    · exact .inl ⟨j, hj, by omega, h2⟩
theorem drawn_one (w : World) : Drawn w w.drew := ⟨1, rfl⟩
theorem kid_sub {V : Node} {b : UInt8} (hw : WF t D) (hk : Kid t D X b V) : (V.word.length : Int) - (V.plen : Int) = (X.word.length : Int) := by have := (kid_len hw hk).1; omega
theorem kid_le {V : Node} {b : UInt8} (hw : WF t D) (hk : Kid t D X b V) : X.word.length ≤ V.word.length := by have := (kid_len hw hk).1; omega
theorem wrap_sub {a : Int} {n : Nat} (h : a = n) (hn : n ≤ 5) : IntKind.i64.wrap a = n := by rw [h]; exact IntWalk.i64_in _ (by omega)

set_option maxRecDepth 100000 in
set_option maxHeartbeats 4000000 in
theorem sp_walk (hv : Visitor t D pp pg vf vb own Vi) (hen : ∀ args w, (callFunc vf args).run Tryz.prog w = .ok (.enter vf args) w) (hgood : ∀ Y, D Y → Y.word.length ≤ 5) (h : WAt w w t D pp pg cap own Vi X.word X.word told) (hX : D X) (hd : X.d = false)
    (hroom : Room D X.word told.length) (ih : Kids t D pp pg cap vf vb own Vi X) :
    Calls Tryz.prog 107 #[ptrV X.lb, ptrV pp, .func (.func vf) #[] #[ptrV vb]] w (WalkOut w t D pp pg cap own Vi X told) := by
  obtain ⟨K, hK, hKi⟩ := (h.trie.at_ X hX).kids
  rw [hd] at hK
  obtain ⟨l0, hs0, hn0, hk0, hc0⟩ := hK
  have hle := hs0.le
  have hsm := hs0.small
  have hl12 : l0.length ≤ 12 := by omega
  have c0 := cell_of_heap hs0.list 0
  simp at c0
  have hst : SortAt w w X.lb X.ab X.cc l0 l0 := ⟨hs0, Kept.refl _ _, heads_of h.trie hX hKi hn0 hk0, hn0, rfl⟩
  have HSort := Lib.hid (sort_calls hst hl12)
  have HI := Lib.hid (And.intro hv (And.intro hgood (And.intro h (And.intro hX (And.intro hd (And.intro hroom (And.intro ih (And.intro hKi (And.intro hn0 (And.intro hk0 hc0)))))))))); clear hv hgood h hX hd hroom ih hKi hn0 hk0 hc0 hst hs0
  have hm := meth_walk
  have hnl := nil_walk
  have hcw := call_walk
  go_enter Tryz.func107, Tryz.ntmps107
  go_wp2_with (go_at_call 110; refine HSort.out.mono ?_; rintro e w1 ⟨rfl, l, hs, ho⟩; have c1 := cell_of_heap hs.at_.list 0; simp at c1; have hlen := hs.len; have HS := Lib.hid (And.intro hs ho); clear hs ho)
  obtain ⟨hTr, hlk⟩ := sorted_trie HI.out.2.2.1.trie HI.out.2.2.2.1 HI.out.2.2.2.2.1 HI.out.2.2.2.2.2.2.2.1 HI.out.2.2.2.2.2.2.2.2.1 HI.out.2.2.2.2.2.2.2.2.2.1 HI.out.2.2.2.2.2.2.2.2.2.2 HS.out.1 HS.out.2.1
  have hW1 : WAt w w1 t D pp pg cap own Vi X.word X.word told := by
    have hX := HI.out.2.2.2.1
    have hh := HI.out.1
    have hw := HI.out.2.2.1
    have hkk := HS.out.1.kept
    exact ⟨hTr, hw.pfx.kept hkk (fun e => hh.outp ⟨X, hX, .inr (.inr (.inl e))⟩) (fun e => hh.outg ⟨X, hX, .inr (.inr (.inl e))⟩), hh.stable _ _ _ hw.vi (hkk.mono fun k _ e => .inl ⟨X, hX, .inr (.inr (.inl e))⟩), hkk.mono fun k _ e => .inl ⟨X, hX, List.prefix_rfl, e⟩⟩
  have HL := Lib.hid (And.intro hTr (And.intro hlk hW1)); clear hTr hlk hW1
  clear c0 c1
  go_loopw [22] (fun iv wr => ∃ (i : Nat) (L : List Word), iv = .int .i64 i ∧ i ≤ l.length ∧ Hid (RAt w wr t D pp pg cap own Vi X (fun u => SparseAt u X.lb X.ab X.cc l) X.word (told ++ L) ∧ LsP D X.word (fun b => ∃ j, ∃ h : j < l.length, j < i ∧ l[j].1 = b) L)) (fun iv _ => l.length - (intOf iv).toNat)
  case atStart => exact ⟨0, [], rfl, by omega, Lib.hid ⟨⟨by rw [List.append_nil]; exact HL.out.2.2, HS.out.1.at_⟩, LsP.nil (by rintro b ⟨j, _, h, _⟩; omega) _⟩⟩
  case round =>
    obtain ⟨i, L, rfl, hi, HR⟩ := hrel
    by_cases hlt : i < l.length
    · obtain ⟨V, hV, hVb⟩ := (HI.out.2.2.2.2.2.2.2.1 l[i].1 l[i].2).1 (by rw [← HL.out.2.1]; exact look_of_mem HS.out.1.nodup (List.getElem_mem hlt))
      have ck := HR.out.1.2.cell i hlt
      rw [← hVb] at ck
      have hNV := HR.out.1.1.trie.at_ V hV.1
      have v0 := hNV.c0
      have v1 := hNV.c1
      have v4 := hNV.c4
      have pf := HR.out.1.1.pfx
      have p0 := cell_of_heap pf.box 0
      simp at p0
      have pfr := free_of_heap pf.box 0
      obtain ⟨q1, q2, q3, q4, q5⟩ := push_facts pf hNV (kid_len HR.out.1.1.trie.wf hV).2.2.2 (by have := kid_len HR.out.1.1.trie.wf hV; have := HI.out.2.1 V hV.1; omega)
      obtain ⟨news, hnews⟩ : ∃ news, byteVs V.pre = news := ⟨_, rfl⟩
      rw [hnews] at q1 q2 q3 q5
      obtain ⟨i0, hi5, hz0, hz1, hz2⟩ := info_parts info5
      have hlo := pf.lo
      have hhi := pf.hi
      have hwl := HI.out.2.1 X HI.out.2.2.2.1
      have hvl := HI.out.2.1 V hV.1
      have hkl : X.word.length + V.plen ≤ 5 := by have := (kid_len HR.out.1.1.trie.wf hV).1; omega
      have hA : (wr.drew.setCells pg X.word.length news).cell? ⟨pp, 0, none⟩ = some (.slice (some ⟨pg, 0, none⟩) X.word.length cap) := by
        rw [World.cell?_setCells_out _ _ _ _ _ (fun e => (HI.out.1.ne e).elim)]; exact p0
      have hB : (wr.drew.setCells pg X.word.length news).frozen? ⟨pp, 0, none⟩ = false := by
        rw [World.frozen?_setCells]; exact pfr
      have HQ := Lib.hid (And.intro q2 (And.intro q3 (And.intro q5 hnews)))
      have HV := Lib.hid (And.intro hV (And.intro hVb hNV))
      clear hV hVb hNV pf q2 q3 q5 hnews
      go_wp2_with fail
      have HP : Hid (∀ a, (∃ j, ∃ h : j < l.length, j < i ∧ l[j].1 = a) → a < l[i].1) := Lib.hid (by
        rintro a ⟨j, hj, hji, rfl⟩
        have := HS.out.2.2 j i hji (by omega)
        simp only [ky, List.getD, hj, hlt, List.getElem?_eq_getElem, Option.getD_some] at this
        exact UInt8.lt_iff_toNat_lt.2 this)
      go_cut [35] (fun _ wx => Hid (RAt w wx t D pp pg cap own Vi X (fun u => SparseAt u X.lb X.ab X.cc l) V.word (told ++ L)))
      case first =>
        go_region_law (refine step_append_room rfl (.tmp 29) (.tmp 33) 56 rfl 5 i0 1 Tryz.underlying56 hi5 hz1 pg 0 X.word.length cap (by simp [Act.eval]) ⟨V.g, V.off, none⟩ V.plen V.cap news (by simp [Act.eval]) q1 HQ.out.1 HQ.out.2.1 q4 HQ.out.2.2.1 ?_)
        all_goals
          go_wp2_with fail
          go_meet
          exact Lib.hid (RAt.push HI.out.1 (ofList_sparse X l) HI.out.2.2.2.1 HR.out.1 HV.out.1 hvl HQ.out.2.2.2)
      case rest =>
        have HC := hcut
        clear hcut v0 v1 v4 p0 pfr hA hB ck
        have v1 := (HC.out.1.trie.at_ V HV.out.1.1).c1
        have v4 := (HC.out.1.trie.at_ V HV.out.1.1).c4
        have ine := item_neq
        have iig := item_guard
        cases hit : V.item with
        | none =>
          rw [hit] at v1
          have hroomV := Room.kid HI.out.2.2.1.trie.wf HI.out.2.2.2.1 HV.out.1 HR.out.2 HP.out HI.out.2.2.2.2.2.1
          have HK := Lib.hid (HI.out.2.2.2.2.2.2.1 V _ HV.out.1 wc (told ++ L) (HC.out.again) (by simpa [itL, hit] using hroomV))
          go_wp2_with ((with_reducible refine HK.out.mono ?_); rintro e w3 ⟨rfl, M, hM1, hM2⟩)
          have HR3 : Hid (RAt w w3 t D pp pg cap own Vi X (fun u => SparseAt u X.lb X.ab X.cc l) V.word (told ++ (L ++ itL V ++ M))) := Lib.hid (by
            have := RAt.sub HI.out.1 (ofList_sparse X l) HI.out.2.2.2.1 HV.out.1 HC.out hM2
            simpa [itL, hit] using this)
          have HM := Lib.hid (And.intro hM1 hM2)
          clear hM1 hM2 v1 v4 HK hit
          have v0 := (HR3.out.1.trie.at_ V HV.out.1.1).c0
          have p0 := cell_of_heap HR3.out.1.pfx.box 0
          simp at p0
          have pfr := free_of_heap HR3.out.1.pfx.box 0
          have hsub := kid_sub HR3.out.1.trie.wf HV.out.1
          have hwr := wrap_sub hsub hwl
          have hsl := slice_high (g := pg) (o := 0) (n := V.word.length) (c := cap) (L := X.word.length) (kid_le HR3.out.1.trie.wf HV.out.1) (Nat.le_trans hvl (Nat.le_trans (by decide) hlo))
          go_cut [110] (fun _ wx => Hid (RAt w wx t D pp pg cap own Vi X (fun u => SparseAt u X.lb X.ab X.cc l) X.word (told ++ (L ++ itL V ++ M))))
          case first =>
            go_region
            all_goals
              go_wp2_with fail
              go_meet
              exact Lib.hid (RAt.pop HI.out.1 (ofList_sparse X l) HI.out.2.2.2.1 HR3.out HV.out.1 rfl)
          case rest =>
            have HF := hcut
            clear hcut v0 p0 pfr hsub hwr hsl
            have HN : Hid (i + 1 ≤ l.length ∧ LsP D X.word (fun b => ∃ j, ∃ h : j < l.length, j < i + 1 ∧ l[j].1 = b) (L ++ itL V ++ M)) := Lib.hid ⟨hlt, next_part (HR.out.2.kid HI.out.2.2.1.trie.wf HI.out.2.2.2.1 HV.out.1 HP.out HM.out.1) hlt⟩
            go_wp2
            go_roundw
            case rel => exact ⟨i + 1, L ++ itL V ++ M, by go_num, HN.out.1, Lib.hid ⟨HF.out, HN.out.2⟩⟩
            case measure => simp [intOf]; omega

        | some x =>
          rw [hit] at v1
          have p0 := cell_of_heap HC.out.1.pfx.box 0
          simp at p0
          have HT : Hid (∀ u, Drawn wc u → Calls Tryz.prog vf #[.slice (some ⟨pg, 0, none⟩) V.word.length cap, itemV (some x), ptrV vb] u fun e w' => e = .returned .nilIface ∧ Hid (RAt w w' t D pp pg cap own Vi X (fun u => SparseAt u X.lb X.ab X.cc l) V.word (told ++ L ++ [V.word]))) := Lib.hid fun u hu => by
            have hRu : RAt w u t D pp pg cap own Vi X (fun u => SparseAt u X.lb X.ab X.cc l) V.word (told ++ L) := HC.out.tell HI.out.1 (ofList_sparse X l) HI.out.2.2.2.1 (HI.out.1.stable _ _ _ HC.out.1.vi (hu.kept _)) (hu.kept _)
            have hr := (Room.kid HI.out.2.2.1.trie.wf HI.out.2.2.2.1 HV.out.1 HR.out.2 HP.out HI.out.2.2.2.2.2.1).now
            refine (HI.out.1.step u (told ++ L) V.word cap x hRu.1.vi (by simp only [List.length_append] at hr ⊢; omega) hRu.1.pfx.bytes hvl (by omega)).mono ?_
            rintro e w' ⟨rfl, h1, h2⟩
            exact ⟨rfl, Lib.hid (hRu.tell HI.out.1 (ofList_sparse X l) HI.out.2.2.2.1 h1 h2)⟩
          go_upto_region 7 with fail
          go_cut [9] (fun s wx => s = .nilIface ∧ Hid (RAt w wx t D pp pg cap own Vi X (fun u => SparseAt u X.lb X.ab X.cc l) V.word (told ++ L ++ [V.word])))
          case first =>
            go_region_with ((with_reducible refine (HT.out _ (drawn_one _)).mono ?_); rintro e wd ⟨rfl, hd⟩)
            all_goals (go_wp2_with fail; go_meet; exact ⟨rfl, hd⟩)
          case rest =>
            obtain ⟨rfl, HC2⟩ := hcut
            clear v1 v4 p0 HT
            have v4 := (HC2.out.1.trie.at_ V HV.out.1.1).c4
            have hroomV := Room.kid HI.out.2.2.1.trie.wf HI.out.2.2.2.1 HV.out.1 HR.out.2 HP.out HI.out.2.2.2.2.2.1
            have HK := Lib.hid (HI.out.2.2.2.2.2.2.1 V _ HV.out.1 wc (told ++ L ++ [V.word]) (HC2.out.again) (by simpa [itL, hit, Nat.add_assoc] using hroomV))
            go_wp2_with ((with_reducible refine HK.out.mono ?_); rintro e w3 ⟨rfl, M, hM1, hM2⟩)
            have HR3 : Hid (RAt w w3 t D pp pg cap own Vi X (fun u => SparseAt u X.lb X.ab X.cc l) V.word (told ++ (L ++ itL V ++ M))) := Lib.hid (by
              have := RAt.sub HI.out.1 (ofList_sparse X l) HI.out.2.2.2.1 HV.out.1 HC2.out hM2
              simpa [itL, hit] using this)
            have HM := Lib.hid (And.intro hM1 hM2)
            clear hM1 hM2 v4 HK hit
            have v0 := (HR3.out.1.trie.at_ V HV.out.1.1).c0
            have p0 := cell_of_heap HR3.out.1.pfx.box 0
            simp at p0
            have pfr := free_of_heap HR3.out.1.pfx.box 0
            have hsub := kid_sub HR3.out.1.trie.wf HV.out.1
            have hwr := wrap_sub hsub hwl
            have hsl := slice_high (g := pg) (o := 0) (n := V.word.length) (c := cap) (L := X.word.length) (kid_le HR3.out.1.trie.wf HV.out.1) (Nat.le_trans hvl (Nat.le_trans (by decide) hlo))
            go_cut [110] (fun _ wx => Hid (RAt w wx t D pp pg cap own Vi X (fun u => SparseAt u X.lb X.ab X.cc l) X.word (told ++ (L ++ itL V ++ M))))
            case first =>
              go_region
              all_goals
                go_wp2_with fail
                go_meet
                exact Lib.hid (RAt.pop HI.out.1 (ofList_sparse X l) HI.out.2.2.2.1 HR3.out HV.out.1 rfl)
            case rest =>
              have HF := hcut
              clear hcut v0 p0 pfr hsub hwr hsl
              have HN : Hid (i + 1 ≤ l.length ∧ LsP D X.word (fun b => ∃ j, ∃ h : j < l.length, j < i + 1 ∧ l[j].1 = b) (L ++ itL V ++ M)) := Lib.hid ⟨hlt, next_part (HR.out.2.kid HI.out.2.2.1.trie.wf HI.out.2.2.2.1 HV.out.1 HP.out HM.out.1) hlt⟩
              go_wp2
              go_roundw
              case rel => exact ⟨i + 1, L ++ itL V ++ M, by go_num, HN.out.1, Lib.hid ⟨HF.out, HN.out.2⟩⟩
              case measure => simp [intOf]; omega

    · have hil : i = l.length := by omega
      have HE := Lib.hid hil
      clear hil
      go_wp2
      go_ret
      refine ⟨rfl, L, HR.out.2.all HL.out.1.wf HI.out.2.2.2.1 (fun b V hV => ?_), ?_⟩
      · have := (HI.out.2.2.2.2.2.2.2.1 b V.blk).2 ⟨V, hV, rfl⟩
        rw [← HL.out.2.1] at this
        obtain ⟨j, hj, e⟩ := List.getElem_of_mem (look_mem this)
        exact ⟨j, hj, by rw [HE.out]; exact hj, by rw [e]⟩
      · exact HR.out.1.1
end
end Go.Proofs.YtpopiaahdanpeaaGreatDoor
