/- The walk of a dense list. -/
import Derived.Test.YtpopiaahdanpeaaGreatDoorWalkSp
namespace Go.Proofs.YtpopiaahdanpeaaGreatDoor
open Go Go.RowKit
set_option linter.unusedVariables false

section
variable {w : World} {t : Nat} {D : Node → Prop} {X : Node} {pp pg vf vb cap : Nat} {own : Nat → Prop} {Vi : World → List (List UInt8) → Prop} {told : List (List UInt8)}

/-- the first i bytes from 65 on -/
def upTo (i : Nat) (b : UInt8) : Prop := 65 ≤ b.toNat ∧ b.toNat < 65 + i
theorem upTo_next {i : Nat} {p : Word} {L : List Word} {b : UInt8} (h : LsP D p (fun y => upTo i y ∨ y = b) L) (hb : b.toNat = 65 + i) : LsP D p (upTo (i + 1)) L := by
  refine h.congr fun y => ?_
  unfold upTo
  constructor
  · rintro (⟨h1, h2⟩ | rfl)
    · exact ⟨h1, by omega⟩
    · omega
  · rintro ⟨h1, h2⟩
    by_cases e : y.toNat = 65 + i
    · exact .inr (UInt8.toNat_inj.1 (by omega))
    · exact .inl ⟨h1, by omega⟩

set_option maxRecDepth 100000 in
set_option maxHeartbeats 4000000 in
theorem de_walk (hv : Visitor t D pp pg vf vb own Vi) (hen : ∀ args w, (callFunc vf args).run Tryz.prog w = .ok (.enter vf args) w) (hgood : ∀ Y, D Y → Y.word.length ≤ 5) (h : WAt w w t D pp pg cap own Vi X.word X.word told) (hX : D X) (hd : X.d = true)
    (hroom : Room D X.word told.length) (ih : Kids t D pp pg cap vf vb own Vi X) :
    Calls Tryz.prog 139 #[ptrV X.lb, ptrV pp, .func (.func vf) #[] #[ptrV vb]] w (WalkOut w t D pp pg cap own Vi X told) := by
  obtain ⟨K, hK, hKi⟩ := (h.trie.at_ X hX).kids
  rw [hd] at hK
  obtain ⟨mx, T, hD, hT⟩ := hK
  have hsz := hD.size
  have htop := hD.top
  have hTl : T.length ≤ 191 := by omega
  have c0 := cell_of_heap hD.list 4
  simp at c0
  have HI := Lib.hid (And.intro hv (And.intro hgood (And.intro h (And.intro hX (And.intro hd (And.intro hroom (And.intro ih (And.intro hKi (And.intro hT hD))))))))); clear hv hgood h hX hd hroom ih hKi hT hD hsz htop
  have hm := meth_walk
  have hnl := nil_walk
  have hcw := call_walk
  go_enter Tryz.func139, Tryz.ntmps139
  go_wp2
  go_loopw [16] (fun iv wr => ∃ (i : Nat) (L : List Word), iv = .int .i64 i ∧ i ≤ T.length ∧ Hid (RAt w wr t D pp pg cap own Vi X (fun u => DenseAt u X.lb X.ab 65 mx (cnt K) T) X.word (told ++ L) ∧ LsP D X.word (upTo i) L)) (fun iv _ => T.length - (intOf iv).toNat)
  case atStart => exact ⟨0, [], rfl, by omega, Lib.hid ⟨⟨by rw [List.append_nil]; exact HI.out.2.2.1, HI.out.2.2.2.2.2.2.2.2.2⟩, LsP.nil (by rintro b ⟨h1, h2⟩; omega) _⟩⟩
  case round =>
    obtain ⟨i, L, rfl, hi, HR⟩ := hrel
    by_cases hlt : i < T.length
    · obtain ⟨bi, hbn⟩ : ∃ b : UInt8, b.toNat = 65 + i := ⟨UInt8.ofNat (65 + i), by simp; omega⟩
      have htb : tab 65 T bi = T[i] := by
        rw [tab_in (by omega) (by omega)]
        simp only [hbn, Nat.add_sub_cancel_left]
      have ck := HR.out.1.2.cell i hlt
      cases hTi : T[i] with
      | none =>
        rw [hTi] at ck
        simp only [optV] at ck
        have HN : Hid (i + 1 ≤ T.length ∧ LsP D X.word (upTo (i + 1)) L) := Lib.hid ⟨hlt, upTo_next (HR.out.2.none HI.out.2.2.1.trie.wf HI.out.2.2.2.1 (b := bi) (by
          rintro ⟨V, hV⟩
          have := (HI.out.2.2.2.2.2.2.2.1 bi V.blk).2 ⟨V, hV, rfl⟩
          rw [← HI.out.2.2.2.2.2.2.2.2.1, htb, hTi] at this
          cases this)) hbn⟩
        clear htb hTi
        go_wp2
        go_roundw
        case rel => exact ⟨i + 1, L, by go_num, HN.out.1, Lib.hid ⟨HR.out.1, HN.out.2⟩⟩
        case measure => simp [intOf]; omega
      | some cb =>
        obtain ⟨V, hV, hVb⟩ := (HI.out.2.2.2.2.2.2.2.1 bi cb).1 (by rw [← HI.out.2.2.2.2.2.2.2.2.1, htb, hTi])
        rw [hTi] at ck
        simp only [optV] at ck
        rw [← hVb] at ck
        have hNV := HR.out.1.1.trie.at_ V hV.1
        have v0 := hNV.c0
        have v1 := hNV.c1
        have v4 := hNV.c4
        have pf := HR.out.1.1.pfx
        have p0 := cell_of_heap pf.box 0
        simp at p0
        have pfr := free_of_heap pf.box 0
        clear htb hTi
        obtain ⟨q1, q2, q3, q4, q5⟩ := push_facts pf hNV (kid_len HR.out.1.1.trie.wf hV).2.2.2 (by have := kid_len HR.out.1.1.trie.wf hV; have := HI.out.2.1 V hV.1; omega)
        obtain ⟨news, hnews⟩ : ∃ news, byteVs V.pre = news := ⟨_, rfl⟩
        rw [hnews] at q1 q2 q3 q5
        obtain ⟨i0, hi5, hz0, hz1, hz2⟩ := info_parts info5
        have hlo := pf.lo
        have hhi := pf.hi
        have hwl := HI.out.2.1 X HI.out.2.2.2.1
        have hvl := HI.out.2.1 V hV.1
        have hkl : X.word.length + V.plen ≤ 5 := by have := (kid_len HR.out.1.1.trie.wf hV).1; omega
        have hA : (wr.drew.setCells pg X.word.length news).cell? ⟨pp, 0, none⟩ = some (.slice (some ⟨pg, 0, none⟩) X.word.length cap) := by
          rw [World.cell?_setCells_out _ _ _ _ _ (fun e => (HI.out.1.ne e).elim)]; exact p0
        have hB : (wr.drew.setCells pg X.word.length news).frozen? ⟨pp, 0, none⟩ = false := by
          rw [World.frozen?_setCells]; exact pfr
        have HQ := Lib.hid (And.intro q2 (And.intro q3 (And.intro q5 hnews)))
        have HV := Lib.hid (And.intro hV (And.intro hVb hNV))
        clear hV hVb hNV pf q2 q3 q5 hnews
        have HP : Hid (∀ a, upTo i a → a < bi) := Lib.hid (by
          rintro a ⟨h1, h2⟩
          exact UInt8.lt_iff_toNat_lt.2 (by omega))
        have HB := Lib.hid hbn
        clear hbn
        go_wp2_with fail
        go_cut [31] (fun _ wx => Hid (RAt w wx t D pp pg cap own Vi X (fun u => DenseAt u X.lb X.ab 65 mx (cnt K) T) V.word (told ++ L)))
        case first =>
          go_region_law (refine step_append_room rfl (.tmp 25) (.tmp 29) 56 rfl 5 i0 1 Tryz.underlying56 hi5 hz1 pg 0 X.word.length cap (by simp [Act.eval]) ⟨V.g, V.off, none⟩ V.plen V.cap news (by simp [Act.eval]) q1 HQ.out.1 HQ.out.2.1 q4 HQ.out.2.2.1 ?_)
          all_goals
            go_wp2_with fail
            go_meet
            exact Lib.hid (RAt.push HI.out.1 (ofList_dense X 65 mx (cnt K) T) HI.out.2.2.2.1 HR.out.1 HV.out.1 hvl HQ.out.2.2.2)
        case rest =>
          have HC := hcut
          clear hcut v0 v1 v4 p0 pfr hA hB ck
          have v1 := (HC.out.1.trie.at_ V HV.out.1.1).c1
          have v4 := (HC.out.1.trie.at_ V HV.out.1.1).c4
          have ine := item_neq
          have iig := item_guard
          cases hit : V.item with
          | none =>
            rw [hit] at v1
            have hroomV := Room.kid HI.out.2.2.1.trie.wf HI.out.2.2.2.1 HV.out.1 HR.out.2 HP.out HI.out.2.2.2.2.2.1
            have HK := Lib.hid (HI.out.2.2.2.2.2.2.1 V _ HV.out.1 wc (told ++ L) (HC.out.again) (by simpa [itL, hit] using hroomV))
            go_wp2_with ((with_reducible refine HK.out.mono ?_); rintro e w3 ⟨rfl, M, hM1, hM2⟩)
            have HR3 : Hid (RAt w w3 t D pp pg cap own Vi X (fun u => DenseAt u X.lb X.ab 65 mx (cnt K) T) V.word (told ++ (L ++ itL V ++ M))) := Lib.hid (by
              have := RAt.sub HI.out.1 (ofList_dense X 65 mx (cnt K) T) HI.out.2.2.2.1 HV.out.1 HC.out hM2
              simpa [itL, hit] using this)
            have HM := Lib.hid (And.intro hM1 hM2)
            clear hM1 hM2 v1 v4 HK hit
            have v0 := (HR3.out.1.trie.at_ V HV.out.1.1).c0
            have p0 := cell_of_heap HR3.out.1.pfx.box 0
            simp at p0
            have pfr := free_of_heap HR3.out.1.pfx.box 0
            have hsub := kid_sub HR3.out.1.trie.wf HV.out.1
            have hwr := wrap_sub hsub hwl
            have hsl := slice_high (g := pg) (o := 0) (n := V.word.length) (c := cap) (L := X.word.length) (kid_le HR3.out.1.trie.wf HV.out.1) (Nat.le_trans hvl (Nat.le_trans (by decide) hlo))
            go_cut [106] (fun _ wx => Hid (RAt w wx t D pp pg cap own Vi X (fun u => DenseAt u X.lb X.ab 65 mx (cnt K) T) X.word (told ++ (L ++ itL V ++ M))))
            case first =>
              go_region
              all_goals
                go_wp2_with fail
                go_meet
                exact Lib.hid (RAt.pop HI.out.1 (ofList_dense X 65 mx (cnt K) T) HI.out.2.2.2.1 HR3.out HV.out.1 rfl)
            case rest =>
              have HF := hcut
              clear hcut v0 p0 pfr hsub hwr hsl
              have HN : Hid (i + 1 ≤ T.length ∧ LsP D X.word (upTo (i + 1)) (L ++ itL V ++ M)) := Lib.hid ⟨hlt, upTo_next (HR.out.2.kid HI.out.2.2.1.trie.wf HI.out.2.2.2.1 HV.out.1 HP.out HM.out.1) HB.out⟩
              go_wp2
              go_roundw
              case rel => exact ⟨i + 1, L ++ itL V ++ M, by go_num, HN.out.1, Lib.hid ⟨HF.out, HN.out.2⟩⟩
              case measure => simp [intOf]; omega

          | some x =>
            rw [hit] at v1
            have p0 := cell_of_heap HC.out.1.pfx.box 0
            simp at p0
            have HT : Hid (∀ u, Drawn wc u → Calls Tryz.prog vf #[.slice (some ⟨pg, 0, none⟩) V.word.length cap, itemV (some x), ptrV vb] u fun e w' => e = .returned .nilIface ∧ Hid (RAt w w' t D pp pg cap own Vi X (fun u => DenseAt u X.lb X.ab 65 mx (cnt K) T) V.word (told ++ L ++ [V.word]))) := Lib.hid fun u hu => by
              have hRu : RAt w u t D pp pg cap own Vi X (fun u => DenseAt u X.lb X.ab 65 mx (cnt K) T) V.word (told ++ L) := HC.out.tell HI.out.1 (ofList_dense X 65 mx (cnt K) T) HI.out.2.2.2.1 (HI.out.1.stable _ _ _ HC.out.1.vi (hu.kept _)) (hu.kept _)
              have hr := (Room.kid HI.out.2.2.1.trie.wf HI.out.2.2.2.1 HV.out.1 HR.out.2 HP.out HI.out.2.2.2.2.2.1).now
              refine (HI.out.1.step u (told ++ L) V.word cap x hRu.1.vi (by simp only [List.length_append] at hr ⊢; omega) hRu.1.pfx.bytes hvl (by omega)).mono ?_
              rintro e w' ⟨rfl, h1, h2⟩
              exact ⟨rfl, Lib.hid (hRu.tell HI.out.1 (ofList_dense X 65 mx (cnt K) T) HI.out.2.2.2.1 h1 h2)⟩
            go_upto_region 7 with fail
            go_cut [9] (fun s wx => s = .nilIface ∧ Hid (RAt w wx t D pp pg cap own Vi X (fun u => DenseAt u X.lb X.ab 65 mx (cnt K) T) V.word (told ++ L ++ [V.word])))
            case first =>
              go_region_with ((with_reducible refine (HT.out _ (drawn_one _)).mono ?_); rintro e wd ⟨rfl, hd⟩)
              all_goals (go_wp2_with fail; go_meet; exact ⟨rfl, hd⟩)
            case rest =>
              obtain ⟨rfl, HC2⟩ := hcut
              clear v1 v4 p0 HT
              have v4 := (HC2.out.1.trie.at_ V HV.out.1.1).c4
              have hroomV := Room.kid HI.out.2.2.1.trie.wf HI.out.2.2.2.1 HV.out.1 HR.out.2 HP.out HI.out.2.2.2.2.2.1
              have HK := Lib.hid (HI.out.2.2.2.2.2.2.1 V _ HV.out.1 wc (told ++ L ++ [V.word]) (HC2.out.again) (by simpa [itL, hit, Nat.add_assoc] using hroomV))
              go_wp2_with ((with_reducible refine HK.out.mono ?_); rintro e w3 ⟨rfl, M, hM1, hM2⟩)
              have HR3 : Hid (RAt w w3 t D pp pg cap own Vi X (fun u => DenseAt u X.lb X.ab 65 mx (cnt K) T) V.word (told ++ (L ++ itL V ++ M))) := Lib.hid (by
                have := RAt.sub HI.out.1 (ofList_dense X 65 mx (cnt K) T) HI.out.2.2.2.1 HV.out.1 HC2.out hM2
                simpa [itL, hit] using this)
              have HM := Lib.hid (And.intro hM1 hM2)
              clear hM1 hM2 v4 HK hit
              have v0 := (HR3.out.1.trie.at_ V HV.out.1.1).c0
              have p0 := cell_of_heap HR3.out.1.pfx.box 0
              simp at p0
              have pfr := free_of_heap HR3.out.1.pfx.box 0
              have hsub := kid_sub HR3.out.1.trie.wf HV.out.1
              have hwr := wrap_sub hsub hwl
              have hsl := slice_high (g := pg) (o := 0) (n := V.word.length) (c := cap) (L := X.word.length) (kid_le HR3.out.1.trie.wf HV.out.1) (Nat.le_trans hvl (Nat.le_trans (by decide) hlo))
              go_cut [106] (fun _ wx => Hid (RAt w wx t D pp pg cap own Vi X (fun u => DenseAt u X.lb X.ab 65 mx (cnt K) T) X.word (told ++ (L ++ itL V ++ M))))
              case first =>
                go_region
                all_goals
                  go_wp2_with fail
                  go_meet
                  exact Lib.hid (RAt.pop HI.out.1 (ofList_dense X 65 mx (cnt K) T) HI.out.2.2.2.1 HR3.out HV.out.1 rfl)
              case rest =>
                have HF := hcut
                clear hcut v0 p0 pfr hsub hwr hsl
                have HN : Hid (i + 1 ≤ T.length ∧ LsP D X.word (upTo (i + 1)) (L ++ itL V ++ M)) := Lib.hid ⟨hlt, upTo_next (HR.out.2.kid HI.out.2.2.1.trie.wf HI.out.2.2.2.1 HV.out.1 HP.out HM.out.1) HB.out⟩
                go_wp2
                go_roundw
                case rel => exact ⟨i + 1, L ++ itL V ++ M, by go_num, HN.out.1, Lib.hid ⟨HF.out, HN.out.2⟩⟩
                case measure => simp [intOf]; omega
    · have hil : i = T.length := by omega
      have HE := Lib.hid hil
      clear hil
      go_wp2
      go_ret
      refine ⟨rfl, L, HR.out.2.all HI.out.2.2.1.trie.wf HI.out.2.2.2.1 (fun b V hV => ?_), ?_⟩
      · have := (HI.out.2.2.2.2.2.2.2.1 b V.blk).2 ⟨V, hV, rfl⟩
        rw [← HI.out.2.2.2.2.2.2.2.2.1] at this
        rw [HE.out]
        constructor
        · rcases Nat.lt_or_ge b.toNat 65 with h' | h'
          · rw [tab_low h'] at this; cases this
          · exact h'
        · rcases Nat.lt_or_ge b.toNat (65 + T.length) with h' | h'
          · exact h'
          · rw [tab_high h'] at this; cases this
      · exact HR.out.1.1
end
end Go.Proofs.YtpopiaahdanpeaaGreatDoor
