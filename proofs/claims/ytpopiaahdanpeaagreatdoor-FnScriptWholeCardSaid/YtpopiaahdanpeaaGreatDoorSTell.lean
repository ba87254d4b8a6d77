/- spec.tell: each kind of step. -/
import Derived.Test.YtpopiaahdanpeaaGreatDoorSMap
import Derived.Test.YtpopiaahdanpeaaGreatDoorIPlay
import Derived.Maps.OwnOps
namespace Go.Proofs.YtpopiaahdanpeaaGreatDoor
open Go Go.RowKit
set_option linter.unusedVariables false

section
variable {w w' : World} {b n i : Nat} {M : Tab}

theorem zero3 (w : World) : (zeroValue 3).run Tryz.prog w = .ok (.int .i64 0) w := by kernel_rfl
theorem keyOf_word (k : Word) (hk : k.length ≤ 5) : keyOf Tryz.prog 9 (.string (strOf k)) = some (.string k) := by
  have := WideMaps.keyOf_string_mk (P := Tryz.prog) (k := 9) Tryz.underlying9 (s := strOf k) (by rw [strOf_size]; unfold maxLen; omega)
  simpa [strOf] using this

/-- What the reference's tell gives. -/
def STold (w : World) (b n : Nat) (s : Word) (M' : Tab) (e : Ending) (w' : World) : Prop :=
  e = .returned (.string (strOf s)) ∧ MapAt w' b (n + 1) M' ∧ Kept (fun k => k = b) w w'

theorem box_cells (w : World) (kind : Int) (k : Word) (m : Int) : (w.alloc (.cells #[.int .i64 kind, .string (strOf k), .int .i64 m] 33)).heap[w.heap.size]? = some (.cells #[.int .i64 kind, .string (strOf k), .int .i64 m] 33 (0, 0)) := hNew w _
theorem MapAt.more (h : MapAt w b n M) : MapAt w b (n + 1) M := by
  obtain ⟨D, h1, h2⟩ := h.ex
  exact ⟨D, h1.mono (by omega), h2⟩

theorem int_wf {m : Int} (h0 : 0 ≤ m) (h1 : m ≤ 255) : (Lit.int .i64 m).wf = true := WalkArith.wf_i64 (by omega)
theorem turned_map {w2 : World} {o : Obj} {n' : Nat} {D' : DataW Unit} {M' : Tab} (hown : w2.ownsMap Tryz.prog 9 (plainElem Tryz.prog 3) b n' D') (ht : (w.alloc o).mapTurned w2 b) (hM : MapIs D' M') :
    MapAt w2 b n' M' ∧ Kept (fun k => k = b) w w2 := by
  refine ⟨⟨D', hown, hM⟩, ?_⟩
  obtain ⟨es, clock, es', clock', hb, rfl⟩ := ht
  refine ((Kept.refl (fun k => k = b) w).alloc o).trans ⟨rfl, rfl, rfl, by simp [ChangeMaps.setBlock], fun k hk hs => ?_⟩
  simp [ChangeMaps.setBlock, Ne.symm hs]

set_option maxRecDepth 100000 in
set_option maxHeartbeats 1000000 in
theorem stell_insNew (h : MapAt w b n M) (hn : n ≤ 1000) {k : Word} {m : Int} (hk : k.length ≤ 5) (hm : M k = none) (h0 : 0 ≤ m) (h1 : m ≤ 255) :
    Calls Tryz.prog 9 #[.map (some b), stepV ⟨0, k, m⟩] w (STold w b n (Lib.formatBool true) (M.put k (some m))) := by
  obtain ⟨D, hown, hM⟩ := h.ex
  have hhas := hM.has k
  rw [hm] at hhas
  simp only [Option.isSome_none] at hhas
  have hkey := keyOf_word k hk
  have hfb := Tryz.strconv_FormatBool true
  have hlt := hown.lt
  have HH := Lib.hid h
  have HM := Lib.hid (And.intro hM trivial)
  have HO := Lib.hid hown
  have HK := Lib.hid hkey
  have HW := Lib.hid (int_wf h0 h1)
  clear h hM hown hkey
  unfold stepV
  go_enter Tryz.func9, Tryz.ntmps9
  go_wp2_with (first
    | (at_lookup; refine wpList_lookup_own_ok_int _ rfl (.tmp 14) (.tmp 16) 34 rfl 9 3 .i64 (Maps.string_keyed Tryz.underlying9) Tryz.underlying34 Tryz.underlying3 (zero3 _) b n D rfl (HO.out.alloc _) _ _ rfl HK.out ?_; intro c hat hwc; obtain rfl := HM.out.1.look k hat; clear hat hwc)
    | (at_mapUpdate; refine wpList_mapUpdate_in _ rfl (.tmp 26) (.tmp 28) (.tmp 30) 34 rfl 9 3 (Maps.string_keyed Tryz.underlying9) Tryz.underlying34 (plainElem Tryz.prog 3) b n D rfl (HO.out.alloc _) (by unfold maxLen; omega) _ _ _ rfl rfl HK.out _ [] (plainElem_int Tryz.underlying3 HW.out) ?_; intro w1 hown1 ht1; have HN := Lib.hid (turned_map hown1 ht1 (HM.out.1.put k m)); clear hown1 ht1)
    | (go_at_call 15; refine (hfb _).mono ?_; rintro e w2 ⟨rfl, rfl⟩))
  go_ret
  exact ⟨rfl, HN.out⟩

set_option maxRecDepth 100000 in
set_option maxHeartbeats 1000000 in
theorem stell_insOld (h : MapAt w b n M) (hn : n ≤ 1000) {k : Word} {m : Int} (hk : k.length ≤ 5) {v : Int} (hm : M k = some v) (h0 : 0 ≤ m) (h1 : m ≤ 255) :
    Calls Tryz.prog 9 #[.map (some b), stepV ⟨0, k, m⟩] w (STold w b n (Lib.formatBool false) (M)) := by
  obtain ⟨D, hown, hM⟩ := h.ex
  have hhas := hM.has k
  rw [hm] at hhas
  simp only [Option.isSome_some] at hhas
  have hkey := keyOf_word k hk
  have hfb := Tryz.strconv_FormatBool false
  have hlt := hown.lt
  have HH := Lib.hid h
  have HM := Lib.hid (And.intro hM trivial)
  have HO := Lib.hid hown
  have HK := Lib.hid hkey
  have HW := Lib.hid (int_wf h0 h1)
  clear h hM hown hkey
  unfold stepV
  go_enter Tryz.func9, Tryz.ntmps9
  go_wp2_with (first
    | (at_lookup; refine wpList_lookup_own_ok_int _ rfl (.tmp 14) (.tmp 16) 34 rfl 9 3 .i64 (Maps.string_keyed Tryz.underlying9) Tryz.underlying34 Tryz.underlying3 (zero3 _) b n D rfl (HO.out.alloc _) _ _ rfl HK.out ?_; intro c hat hwc; obtain rfl := HM.out.1.look k hat; clear hat hwc)
    | (go_at_call 15; refine (hfb _).mono ?_; rintro e w2 ⟨rfl, rfl⟩))
  go_ret
  exact ⟨rfl, (HH.out.kept ((Kept.refl (fun _ => False) w).alloc _) (fun h => h)).more, (Kept.refl _ w).alloc _⟩

set_option maxRecDepth 100000 in
set_option maxHeartbeats 1000000 in
theorem stell_set (h : MapAt w b n M) (hn : n ≤ 1000) {k : Word} {m : Int} (hk : k.length ≤ 5)  (h0 : 0 ≤ m) (h1 : m ≤ 255) :
    Calls Tryz.prog 9 #[.map (some b), stepV ⟨1, k, m⟩] w (STold w b n ([115, 101, 116]) (M.put k (some m))) := by
  obtain ⟨D, hown, hM⟩ := h.ex
  have hhas := hM.has k
  have hkey := keyOf_word k hk
  have hfb := Tryz.strconv_FormatBool true
  have hlt := hown.lt
  have HH := Lib.hid h
  have HM := Lib.hid (And.intro hM trivial)
  have HO := Lib.hid hown
  have HK := Lib.hid hkey
  have HW := Lib.hid (int_wf h0 h1)
  generalize Maps.has D (.string k) = hb at hhas
  clear h hM hown hkey
  unfold stepV
  go_enter Tryz.func9, Tryz.ntmps9
  go_wp2_with (first
    | (at_lookup; refine wpList_lookup_own_ok_int _ rfl (.tmp 14) (.tmp 16) 34 rfl 9 3 .i64 (Maps.string_keyed Tryz.underlying9) Tryz.underlying34 Tryz.underlying3 (zero3 _) b n D rfl (HO.out.alloc _) _ _ rfl HK.out ?_; intro c hat hwc; obtain rfl := HM.out.1.look k hat; clear hat hwc)
    | (at_mapUpdate; refine wpList_mapUpdate_in _ rfl (.tmp 36) (.tmp 38) (.tmp 40) 34 rfl 9 3 (Maps.string_keyed Tryz.underlying9) Tryz.underlying34 (plainElem Tryz.prog 3) b n D rfl (HO.out.alloc _) (by unfold maxLen; omega) _ _ _ rfl rfl HK.out _ [] (plainElem_int Tryz.underlying3 HW.out) ?_; intro w1 hown1 ht1; have HN := Lib.hid (turned_map hown1 ht1 (HM.out.1.put k m)); clear hown1 ht1))
  go_ret
  exact ⟨rfl, HN.out⟩

set_option maxRecDepth 100000 in
set_option maxHeartbeats 1000000 in
theorem stell_del (h : MapAt w b n M) (hn : n ≤ 1000) {k : Word} {m : Int} (hk : k.length ≤ 5) {v : Int} (hm : M k = some v) (h0 : 0 ≤ m) (h1 : m ≤ 255) :
    Calls Tryz.prog 9 #[.map (some b), stepV ⟨2, k, m⟩] w (STold w b n (Lib.formatBool true) (M.put k none)) := by
  obtain ⟨D, hown, hM⟩ := h.ex
  have hhas := hM.has k
  rw [hm] at hhas
  simp only [Option.isSome_some] at hhas
  have hkey := keyOf_word k hk
  have hfb := Tryz.strconv_FormatBool true
  have hlt := hown.lt
  have HH := Lib.hid h
  have HM := Lib.hid (And.intro hM trivial)
  have HO := Lib.hid hown
  have HK := Lib.hid hkey
  have HW := Lib.hid (int_wf h0 h1)
  clear h hM hown hkey
  unfold stepV
  go_enter Tryz.func9, Tryz.ntmps9
  go_wp2_with (first
    | (at_lookup; refine wpList_lookup_own_ok_int _ rfl (.tmp 14) (.tmp 16) 34 rfl 9 3 .i64 (Maps.string_keyed Tryz.underlying9) Tryz.underlying34 Tryz.underlying3 (zero3 _) b n D rfl (HO.out.alloc _) _ _ rfl HK.out ?_; intro c hat hwc; obtain rfl := HM.out.1.look k hat; clear hat hwc)
    | (at_delete; refine wpList_delete_own _ rfl (.tmp 43) (.tmp 45) 34 9 rfl 3 (Maps.string_keyed Tryz.underlying9) Tryz.underlying34 (plainElem Tryz.prog 3) b n D rfl (HO.out.alloc _) _ _ rfl HK.out ?_; intro w1 hown1 ht1; have HN := Lib.hid (turned_map hown1 ht1 (HM.out.1.del k)); clear hown1 ht1)
    | (go_at_call 15; refine (hfb _).mono ?_; rintro e w2 ⟨rfl, rfl⟩))
  go_ret
  exact ⟨rfl, HN.out.1.more, HN.out.2⟩


set_option maxRecDepth 100000 in
set_option maxHeartbeats 1000000 in
theorem stell_getYes {B : Nat} (hB : B ≤ w.heap.size) (htab : TabB B w) (h : MapAt w b n M) (hn : n ≤ 1000) {k : Word} {m v : Int} (hk : k.length ≤ 5) (hm : M k = some v) (hv0 : 0 ≤ v) (hv1 : v ≤ 255) :
    Calls Tryz.prog 9 #[.map (some b), stepV ⟨4, k, m⟩] w (STold w b n (Lib.itoa v ++ [32] ++ Lib.formatBool true) M) := by
  obtain ⟨D, hown, hM⟩ := h.ex
  have hhas := hM.has k
  rw [hm] at hhas
  simp only [Option.isSome_some] at hhas
  have hkey := keyOf_word k hk
  have hfb := Tryz.strconv_FormatBool true
  have hlt := hown.lt
  have hv : 0 ≤ (v : Int) ∧ (v : Int) ≤ 255 := ⟨hv0, hv1⟩
  have HI : Hid (∀ u, Below w.heap.size w u → Calls Tryz.prog 16 #[.int .i64 v] u fun e w' => e = .returned (.string (strOf (Lib.itoa v))) ∧ Below w.heap.size w w') := Lib.hid (fun u hu => by
    refine (Tryz.strconv_Itoa v (by omega) (by omega) u (htab u (hu.mono hB))).mono ?_
    rintro e w' ⟨rfl, q, os, rfl⟩
    exact ⟨rfl, hu.trans (Lib.below_grow _ _ (hu.size) q os)⟩)
  have z1 := strOf_size (Lib.itoa v)
  have z2 := itoa_short hv.1 hv.2
  have z3 := strOf_size (Lib.formatBool true)
  have z4 : (Lib.formatBool true).length ≤ 5 := by decide
  have HH := Lib.hid h
  have HM := Lib.hid (And.intro hM trivial)
  have HO := Lib.hid hown
  have HK := Lib.hid hkey
  clear h hM hown hkey
  unfold stepV
  go_enter Tryz.func9, Tryz.ntmps9
  go_wp2_with (first
    | (at_lookup; refine wpList_lookup_own_ok_int _ rfl (.tmp 14) (.tmp 16) 34 rfl 9 3 .i64 (Maps.string_keyed Tryz.underlying9) Tryz.underlying34 Tryz.underlying3 (zero3 _) b n D rfl (HO.out.alloc _) _ _ rfl HK.out ?_; intro c hat hwc; obtain rfl := HM.out.1.look k hat; clear hat hwc)
    | (go_at_call 16; refine (HI.out _ ((Below.refl _ _).alloc (Nat.le_refl _) _)).mono ?_; rintro e w2 ⟨rfl, hb⟩; have HB2 := Lib.hid hb; clear hb)
    | (go_at_call 15; refine (hfb _).mono ?_; rintro e w2 ⟨rfl, rfl⟩))
  go_ret
  exact ⟨get_text _ _, (HH.out.kept (Below.kept_of HB2.out (fun _ => False)) (fun h => h)).more, Below.kept_of HB2.out _⟩

set_option maxRecDepth 100000 in
set_option maxHeartbeats 1000000 in
theorem stell_getNo {B : Nat} (hB : B ≤ w.heap.size) (htab : TabB B w) (h : MapAt w b n M) (hn : n ≤ 1000) {k : Word} {m : Int} (hk : k.length ≤ 5) (hm : M k = none) :
    Calls Tryz.prog 9 #[.map (some b), stepV ⟨4, k, m⟩] w (STold w b n (Lib.itoa 0 ++ [32] ++ Lib.formatBool false) M) := by
  obtain ⟨D, hown, hM⟩ := h.ex
  have hhas := hM.has k
  rw [hm] at hhas
  simp only [Option.isSome_none] at hhas
  have hkey := keyOf_word k hk
  have hfb := Tryz.strconv_FormatBool false
  have hlt := hown.lt
  have hv : 0 ≤ (0 : Int) ∧ (0 : Int) ≤ 255 := by decide
  have HI : Hid (∀ u, Below w.heap.size w u → Calls Tryz.prog 16 #[.int .i64 0] u fun e w' => e = .returned (.string (strOf (Lib.itoa 0))) ∧ Below w.heap.size w w') := Lib.hid (fun u hu => by
    refine (Tryz.strconv_Itoa 0 (by omega) (by omega) u (htab u (hu.mono hB))).mono ?_
    rintro e w' ⟨rfl, q, os, rfl⟩
    exact ⟨rfl, hu.trans (Lib.below_grow _ _ (hu.size) q os)⟩)
  have z1 := strOf_size (Lib.itoa 0)
  have z2 := itoa_short hv.1 hv.2
  have z3 := strOf_size (Lib.formatBool false)
  have z4 : (Lib.formatBool false).length ≤ 5 := by decide
  have HH := Lib.hid h
  have HM := Lib.hid (And.intro hM trivial)
  have HO := Lib.hid hown
  have HK := Lib.hid hkey
  clear h hM hown hkey
  unfold stepV
  go_enter Tryz.func9, Tryz.ntmps9
  go_wp2_with (first
    | (at_lookup; refine wpList_lookup_own_ok_int _ rfl (.tmp 14) (.tmp 16) 34 rfl 9 3 .i64 (Maps.string_keyed Tryz.underlying9) Tryz.underlying34 Tryz.underlying3 (zero3 _) b n D rfl (HO.out.alloc _) _ _ rfl HK.out ?_; intro c hat hwc; obtain rfl := HM.out.1.look k hat; clear hat hwc)
    | (go_at_call 16; refine (HI.out _ ((Below.refl _ _).alloc (Nat.le_refl _) _)).mono ?_; rintro e w2 ⟨rfl, hb⟩; have HB2 := Lib.hid hb; clear hb)
    | (go_at_call 15; refine (hfb _).mono ?_; rintro e w2 ⟨rfl, rfl⟩))
  go_ret
  exact ⟨get_text _ _, (HH.out.kept (Below.kept_of HB2.out (fun _ => False)) (fun h => h)).more, Below.kept_of HB2.out _⟩

/-- The table without some words. -/
def without (M : Tab) (L : List Word) : Tab := fun y => if y ∈ L then none else M y
theorem without_nil (M : Tab) : without M [] = M := by funext y; simp [without]
theorem without_snoc (M : Tab) (L : List Word) (k : Word) : without M (L ++ [k]) = (without M L).put k none := by
  funext y
  unfold without Tab.put
  by_cases e : y = k
  · simp [e]
  · simp [e]
theorem without_keys {p : Word} {L : List Word} (h : Keys M p L) : without M L = M.cut p := by
  funext y
  unfold without Tab.cut
  by_cases e : p <+: y
  · rw [if_pos e]
    by_cases e2 : y ∈ L
    · rw [if_pos e2]
    · rw [if_neg e2]
      cases hm : M y with
      | none => rfl
      | some v => exact (e2 ((h.2 y).2 ⟨by rw [hm]; simp, e⟩)).elim
  · rw [if_neg e, if_neg (fun h2 => e ((h.2 y).1 h2).2)]
theorem turned_again {w2 : World} {n' : Nat} {D' : DataW Unit} {M' : Tab} (hown : w2.ownsMap Tryz.prog 9 (plainElem Tryz.prog 3) b n' D') (ht : w.mapTurned w2 b) (hM : MapIs D' M') :
    MapAt w2 b n' M' ∧ Kept (fun k => k = b) w w2 := by
  refine ⟨⟨D', hown, hM⟩, ?_⟩
  obtain ⟨es, clock, es', clock', hb, rfl⟩ := ht
  refine ⟨rfl, rfl, rfl, by simp [ChangeMaps.setBlock], fun k hk hs => ?_⟩
  simp [ChangeMaps.setBlock, Ne.symm hs]

set_option maxRecDepth 100000 in
set_option maxHeartbeats 4000000 in
theorem stell_cut (h : MapAt w b n M) (hn : n ≤ 1000) (hlen : ∀ y, M y ≠ none → y.length ≤ 5) {k : Word} {m : Int} (hk : k.length ≤ 5) (hex : ∃ y, M y ≠ none ∧ k <+: y) :
    Calls Tryz.prog 9 #[.map (some b), stepV ⟨3, k, m⟩] w (STold w b n (Lib.formatBool true) (M.cut k)) := by
  obtain ⟨D, hown, hM⟩ := h.ex
  have hkey := keyOf_word k hk
  have hfb := Tryz.strconv_FormatBool true
  have hlt := hown.lt
  have HH := Lib.hid h
  have HM := Lib.hid (And.intro hM trivial)
  have HO := Lib.hid hown
  have HK := Lib.hid hkey
  have HB : Hid (Calls Tryz.prog 11 #[.map (some b), .string (strOf k)] (w.alloc (.cells #[.int .i64 3, .string (strOf k), .int .i64 m] 33)) fun e w' => ∃ (g cap : Nat) (L : List Word), e = .returned (.slice (some ⟨g, 0, none⟩) L.length cap) ∧ Keys M k L ∧ L.length ≤ 1000 ∧ 0 < L.length ∧
      g ≠ b ∧ (∀ j (hj : j < L.length), w'.cell? ⟨g, j, none⟩ = some (strV L[j])) ∧ Below w.heap.size w w') := Lib.hid (by
    have hb0 : Below w.heap.size w (w.alloc (.cells #[.int .i64 3, .string (strOf k), .int .i64 m] 33)) := (Below.refl _ _).alloc (Nat.le_refl _) _
    refine (begins_calls (p := k) (h.kept (Below.kept_of hb0 (fun _ => False)) (fun h => h)) hn).mono ?_
    rintro e w' ⟨v, L, rfl, a1, a2, a3, a4⟩
    rcases row_form a3 with ⟨rfl, rfl⟩ | ⟨g, cap, rfl, f1, f2, f3⟩
    · obtain ⟨y, h1, h2⟩ := hex
      have := (a1.2 y).2 ⟨h1, h2⟩
      simp at this
    · refine ⟨g, cap, L, rfl, a1, by omega, ?_, by simp at f2; omega, f3, hb0.trans (a4.mono (by simp))⟩
      obtain ⟨y, h1, h2⟩ := hex
      exact List.length_pos_of_mem ((a1.2 y).2 ⟨h1, h2⟩))
  have HX := Lib.hid hlen
  clear h hM hown hkey hlen hex
  generalize hhb : Maps.has D (.string k) = hb
  unfold stepV
  go_enter Tryz.func9, Tryz.ntmps9
  go_wp2_with (first
    | (at_lookup; refine wpList_lookup_own_ok_int _ rfl (.tmp 14) (.tmp 16) 34 rfl 9 3 .i64 (Maps.string_keyed Tryz.underlying9) Tryz.underlying34 Tryz.underlying3 (zero3 _) b n D rfl (HO.out.alloc _) _ _ rfl HK.out ?_; intro c hat hwc; obtain rfl := HM.out.1.look k hat; clear hat hwc)
    | (go_at_call 11; refine HB.out.mono ?_; rintro e w1 ⟨g, cap, L, rfl, a1, a2, a3, a4, a5, a6⟩; have HL := Lib.hid (And.intro a1 (And.intro a4 (And.intro a5 a6))); clear a1 a4 a5 a6))
  go_loopw [56] (fun iv wr => ∃ i : Nat, iv = .int .i64 i ∧ i ≤ L.length ∧ Hid (MapAt wr b n (without M (L.take i)) ∧ Kept (fun k => k = b) w1 wr)) (fun iv _ => L.length - (intOf iv).toNat)
  case atStart => exact ⟨0, rfl, by omega, Lib.hid ⟨by rw [List.take_zero, without_nil]; exact HH.out.kept (Below.kept_of HL.out.2.2.2 (fun _ => False)) (fun h => h), Kept.refl _ _⟩⟩
  case round =>
    obtain ⟨i, rfl, hi, HR⟩ := hrel
    by_cases hlt2 : i < L.length
    · obtain ⟨D2, hown2, hM2⟩ := HR.out.1.ex
      have ci := HR.out.2.cell (HL.out.2.2.1 i hlt2) HL.out.2.1
      have hk2 := keyOf_word L[i] (HX.out _ ((HL.out.1.2 _).1 (List.getElem_mem hlt2)).1)
      have HO2 := Lib.hid (And.intro hown2 (And.intro hM2 hk2))
      clear hown2 hM2 hk2
      go_wp2_with (at_delete; refine wpList_delete_own _ rfl (.tmp 60) (.tmp 61) 34 9 rfl 3 (Maps.string_keyed Tryz.underlying9) Tryz.underlying34 (plainElem Tryz.prog 3) b n D2 rfl HO2.out.1 _ _ rfl HO2.out.2.2 ?_; intro w2 hown1 ht1; have HN := Lib.hid (turned_again hown1 ht1 (HO2.out.2.1.del L[i])); clear hown1 ht1)
      go_roundw
      case rel => exact ⟨i + 1, by go_num, hlt2, Lib.hid ⟨by rw [List.take_succ_eq_append_getElem hlt2, without_snoc]; exact HN.out.1, HR.out.2.trans HN.out.2⟩⟩
      case measure => simp [intOf]; omega
    · have hil : i = L.length := by omega
      have HE := Lib.hid hil
      clear hil
      go_wp2_with (go_at_call 15; refine (hfb _).mono ?_; rintro e w2 ⟨rfl, rfl⟩)
      go_ret
      have hh := HR.out
      rw [HE.out, List.take_length, without_keys HL.out.1] at hh
      exact ⟨rfl, hh.1.more, (Below.kept_of HL.out.2.2.2 _).trans hh.2⟩

theorem joined_next {L : List Word} {i : Nat} (hi : i < L.length) : strOf (joined (L.take (i + 1))) = strOf (joined (L.take i)) ++ (strOf L[i] ++ ByteArray.mk #[44]) := by
  rw [List.take_succ_eq_append_getElem hi, joined_snoc, show ByteArray.mk #[44] = strOf [44] from rfl, strOf_app, strOf_app]

set_option maxRecDepth 100000 in
set_option maxHeartbeats 4000000 in
theorem stell_under (h : MapAt w b n M) (hn : n ≤ 1000) (hlen : ∀ y, M y ≠ none → y.length ≤ 5) {k : Word} {m : Int} (hk : k.length ≤ 5) :
    Calls Tryz.prog 9 #[.map (some b), stepV ⟨5, k, m⟩] w fun e w' => ∃ L, Keys M k L ∧ STold w b n (joined L) M e w' := by
  obtain ⟨D, hown, hM⟩ := h.ex
  have hkey := keyOf_word k hk
  have hlt := hown.lt
  have HH := Lib.hid h
  have HM := Lib.hid (And.intro hM trivial)
  have HO := Lib.hid hown
  have HK := Lib.hid hkey
  have HB : Hid (Calls Tryz.prog 11 #[.map (some b), .string (strOf k)] (w.alloc (.cells #[.int .i64 5, .string (strOf k), .int .i64 m] 33)) fun e w' => ∃ (v : Value) (L : List Word), e = .returned v ∧ Keys M k L ∧ L.length ≤ 1000 ∧
      w'.ownsRow w.heap.size 9 1 v L.length (L.map strV) ∧ Below w.heap.size w w') := Lib.hid (by
    have hb0 : Below w.heap.size w (w.alloc (.cells #[.int .i64 5, .string (strOf k), .int .i64 m] 33)) := (Below.refl _ _).alloc (Nat.le_refl _) _
    refine (begins_calls (p := k) (h.kept (Below.kept_of hb0 (fun _ => False)) (fun h => h)) hn).mono ?_
    rintro e w' ⟨v, L, rfl, a1, a2, a3, a4⟩
    exact ⟨v, L, rfl, a1, by omega, row_mono a3 (by simp), hb0.trans (a4.mono (by simp))⟩)
  have HX := Lib.hid hlen
  clear h hM hown hkey hlen
  generalize hhb : Maps.has D (.string k) = hb
  unfold stepV
  go_enter Tryz.func9, Tryz.ntmps9
  go_wp2_with (first
    | (at_lookup; refine wpList_lookup_own_ok_int _ rfl (.tmp 14) (.tmp 16) 34 rfl 9 3 .i64 (Maps.string_keyed Tryz.underlying9) Tryz.underlying34 Tryz.underlying3 (zero3 _) b n D rfl (HO.out.alloc _) _ _ rfl HK.out ?_; intro c hat hwc; obtain rfl := HM.out.1.look k hat; clear hat hwc)
    | (go_at_call 11; refine HB.out.mono ?_; rintro e w1 ⟨v, L, rfl, a1, a2, a3, a4⟩; rcases row_form a3 with ⟨rfl, rfl⟩ | ⟨g, cap, rfl, f1, f2, f3⟩))
  · have HL := Lib.hid (And.intro a1 a4); clear a1 a2 a3 a4
    go_loopw [10, 80] (fun ov iv wr => ov = .string (strOf []) ∧ iv = .int .i64 0 ∧ w1 = wr) (fun _ _ _ => 0)
    case atStart => exact ⟨rfl, rfl, rfl⟩
    case round =>
      obtain ⟨rfl, rfl, rfl⟩ := hrel
      go_wp2
      go_ret
      exact ⟨[], HL.out.1, rfl, (HH.out.kept (Below.kept_of HL.out.2 (fun _ => False)) (fun h => h)).more, Below.kept_of HL.out.2 _⟩
  · have HL := Lib.hid (And.intro a1 (And.intro a4 f3)); clear a1 a3 a4 f3
    go_loopw [10, 80] (fun ov iv wr => ∃ i : Nat, iv = .int .i64 i ∧ i ≤ L.length ∧ ov = .string (strOf (joined (L.take i))) ∧ w1 = wr) (fun _ iv _ => L.length - (intOf iv).toNat)
    case atStart => exact ⟨0, rfl, by omega, rfl, rfl⟩
    case round =>
      obtain ⟨i, rfl, hi, rfl, rfl⟩ := hrel
      by_cases hlt2 : i < L.length
      · have ci := HL.out.2.2 i hlt2
        have hl5 : ∀ y ∈ L, y.length ≤ 5 := fun y hy => HX.out _ ((HL.out.1.2 _).1 hy).1
        have z1 := strOf_size L[i]
        have z2 := hl5 _ (List.getElem_mem hlt2)
        have z3 := strOf_size (joined (L.take i))
        have z4 := joined_len (L.take i) (fun y hy => hl5 y (List.mem_of_mem_take hy))
        have z5 : (L.take i).length ≤ 1000 := by rw [List.length_take]; omega
        have HJ := Lib.hid (joined_next hlt2)
        clear hl5
        go_wp2_with fail
        go_roundw
        case rel => exact ⟨i + 1, by go_num, hlt2, by rw [HJ.out], trivial⟩
        case measure => simp [intOf]; omega
      · have hil : i = L.length := by omega
        have HE := Lib.hid hil
        clear hil
        go_wp2
        go_ret
        refine ⟨L, HL.out.1, ?_, (HH.out.kept (Below.kept_of HL.out.2.1 (fun _ => False)) (fun h => h)).more, Below.kept_of HL.out.2.1 _⟩
        have : L.take i = L := by rw [HE.out, List.take_length]
        exact congrArg (fun x => Ending.returned (.string (strOf (joined x)))) this
end
end Go.Proofs.YtpopiaahdanpeaaGreatDoor
