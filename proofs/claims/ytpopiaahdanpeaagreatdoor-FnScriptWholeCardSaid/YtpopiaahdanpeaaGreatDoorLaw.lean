/- Two equal slices of words are told equal; spec.Node, spec.Sparse. laws.FnScriptWhole: the walk. -/
import Derived.Test.YtpopiaahdanpeaaGreatDoorSMap
import Derived.Test.YtpopiaahdanpeaaGreatDoorShelf
import Derived.Test.YtpopiaahdanpeaaGreatDoorSPlay
import Derived.Test.YtpopiaahdanpeaaGreatDoorIPlay
import Derived.WalkSmall
namespace Go.Proofs.YtpopiaahdanpeaaGreatDoor
open Go Go.RowKit
set_option linter.unusedVariables false

theorem getD_strs (L : List Word) (j : Nat) (h : j < L.length) : (L.map strOf).getD j ByteArray.empty = strOf L[j] := by
  simp [List.getD, h]
theorem equal_calls {w : World} {B1 B2 : Nat} {v1 v2 : Value} {L : List Word} (h1 : w.ownsRow B1 9 1 v1 L.length (L.map strV)) (h2 : w.ownsRow B2 9 1 v2 L.length (L.map strV)) :
    Calls Tryz.prog 8 #[v1, v2] w fun e w' => e = .returned (.bool true) ∧ Drawn w w' := by
  have hL : L.length ≤ 9223372036854775807 := by
    obtain ⟨_, ⟨_, h0⟩ | ⟨g, cap, cur, _, _, _, c1, c2, _⟩⟩ := h1
    · omega
    · unfold maxLen at c2; omega
  rcases row_form h1 with ⟨rfl, hn⟩ | ⟨g1, c1, rfl, _, _, f1⟩
  · rcases row_form h2 with ⟨rfl, _⟩ | ⟨g2, c2, rfl, _, _, f2⟩
    · exact (Tryz.slices_Equal_string_empty none none 0 0 0 w (by decide)).mono fun e w' ⟨he, hw⟩ => ⟨by rw [he]; rfl, by rw [hw]; exact ⟨0, rfl⟩⟩
    · subst hn
      exact (Tryz.slices_Equal_string_empty none (some ⟨g2, 0, none⟩) 0 0 c2 w (by decide)).mono fun e w' ⟨he, hw⟩ => ⟨by rw [he]; rfl, by rw [hw]; exact ⟨0, rfl⟩⟩
  · rcases row_form h2 with ⟨rfl, hn⟩ | ⟨g2, c2, rfl, _, _, f2⟩
    · subst hn
      exact (Tryz.slices_Equal_string_empty (some ⟨g1, 0, none⟩) none c1 0 0 w (by decide)).mono fun e w' ⟨he, hw⟩ => ⟨by rw [he]; rfl, by rw [hw]; exact ⟨0, rfl⟩⟩
    · refine (Tryz.slices_Equal_string g1 0 L.length c1 g2 0 L.length c2 (L.map strOf) (L.map strOf) w (by simp) (by simp) (by omega) (by omega) (fun j hj => ?_) (fun j hj => ?_)).mono fun e w' ⟨he, hw⟩ => ⟨by rw [he]; simp, hw⟩
      · have hj' : j < L.length := by simpa using hj
        rw [getD_strs L j hj', Nat.zero_add]; exact f1 j hj'
      · have hj' : j < L.length := by simpa using hj
        rw [getD_strs L j hj', Nat.zero_add]; exact f2 j hj'

theorem node_calls (w : World) (n : Nat) (h : n < 256) : Calls Tryz.prog 6 #[.int .u8 n] w fun e w' => e = .returned (.int .i64 (1 + n % 12 : Nat)) ∧ w = w' := by
  have h1 : ((n : Int).tmod 12) = ((n % 12 : Nat) : Int) := rfl
  go_enter Tryz.func6, Tryz.ntmps6
  go_wp2
  go_ret
  exact ⟨by simp, rfl⟩
theorem sparse_calls (w : World) (n : Nat) (h : n < 256) : Calls Tryz.prog 7 #[.int .u8 n] w fun e w' => e = .returned (.int .i64 (1 + n % 9 : Nat)) ∧ w = w' := by
  have h1 : ((n : Int).tmod 9) = ((n % 9 : Nat) : Int) := rfl
  go_enter Tryz.func7, Tryz.ntmps7
  go_wp2
  go_ret
  exact ⟨by simp, rfl⟩
end Go.Proofs.YtpopiaahdanpeaaGreatDoor

namespace Go.Proofs.YtpopiaahdanpeaaGreatDoor
open Go Go.RowKit
set_option linter.unusedVariables false

/-- The two comparisons. -/
theorem equal_two {w w1 w4 : World} {v7 v u7 u : Value} {ss L L2 : List Word} {M : Tab} (hv7 : w1.ownsRow w.heap.size 9 1 v7 ss.length (ss.map strV)) (hv : w1.ownsRow w.heap.size 9 1 v L.length (L.map strV)) (hL : Keys M [] L)
    (hB : Below w1.heap.size w1 w4) (hu7 : w4.ownsRow w1.heap.size 9 1 u7 ss.length (ss.map strV)) (hu : w4.ownsRow w1.heap.size 9 1 u L2.length (L2.map strV)) (hL2 : Keys M [] L2) :
    Calls Tryz.prog 8 #[u7, v7] w4 (fun e w' => e = .returned (.bool true) ∧ Drawn w4 w') ∧ ∀ x, Drawn w4 x → Calls Tryz.prog 8 #[u, v] x fun e w' => e = .returned (.bool true) ∧ Drawn x w' := by
  obtain rfl := hL.ext hL2
  have k4 := Below.kept_of hB (fun _ => False)
  refine ⟨equal_calls hu7 (row_keep hv7 k4 (fun _ _ _ _ h => h)), fun x hx => ?_⟩
  have kx := hx.kept (fun _ => False)
  exact equal_calls (row_keep hu kx (fun _ _ _ _ h => h)) (row_keep (row_keep hv k4 (fun _ _ _ _ h => h)) kx (fun _ _ _ _ h => h))
theorem below_end {w w1 w4 w5 w6 : World} (h1 : Below w.heap.size w w1) (h4 : Below w1.heap.size w1 w4) (h5 : Drawn w4 w5) (h6 : Drawn w5 w6) : Below w.heap.size w w6 := by
  obtain ⟨a, rfl⟩ := h5
  obtain ⟨b, rfl⟩ := h6
  exact below_drewN (below_drewN (h1.trans (h4.mono h1.size)) a) b

theorem law_big (n m : Nat) (a : Option Addr) (len cap : Nat) (w : World) (hb : ¬ len ≤ 2147483647) :
    Calls Tryz.prog 3 #[.int .u8 n, .int .u8 m, .slice a len cap] w fun e w' => e = .returned (.bool true) ∧ w' = w := by
  have ht : decide (2147483647 < len) = true := by simp; omega
  have ht2 : decide ((2147483647 : Int) < (len : Int)) = true := by simp; omega
  go_enter Tryz.func3, Tryz.ntmps3
  go_wp2
  go_ret
  exact ⟨rfl, rfl⟩

set_option maxRecDepth 100000 in
set_option maxHeartbeats 4000000 in
theorem law_small (n m : Nat) (hn : n < 256) (hm : m < 256) (a : Option Addr) (dg o cap : Nat) (data : Word) (w : World) (hd : 1 < data.length → a = some ⟨dg, o, none⟩ ∧ dg < w.heap.size ∧ BytesAt w dg o data) (hcap : data.length ≤ cap) (hbig : data.length ≤ 2147483647) (htab : TabB w.heap.size w) :
    Calls Tryz.prog 3 #[.int .u8 n, .int .u8 m, .slice a data.length cap] w fun e w' => e = .returned (.bool true) ∧ Below w.heap.size w w' := by
  have HP := Lib.hid (splay_calls hd hcap hbig htab)
  have HT := Lib.hid htab
  obtain ⟨A, hA, hA1, hA2⟩ : ∃ A, 1 + n % 12 = A ∧ 1 ≤ A ∧ A ≤ 12 := ⟨_, rfl, by omega, by omega⟩
  obtain ⟨C, hC, hC1, hC2⟩ : ∃ C, 1 + m % 9 = C ∧ 1 ≤ C ∧ C ≤ 9 := ⟨_, rfl, by omega, by omega⟩
  have HN6 := Lib.hid (fun u => node_calls u n hn)
  have HN7 := Lib.hid (fun u => sparse_calls u m hm)
  rw [hA] at HN6
  rw [hC] at HN7
  clear hd htab hn hm hA hC
  have ht : decide (2147483647 < data.length) = false := by simp; omega
  have ht2 : decide ((2147483647 : Int) < (data.length : Int)) = false := by simp; omega
  go_enter Tryz.func3, Tryz.ntmps3
  go_wp2_with (first
    | (go_at_call 4; ((with_reducible refine HP.out.mono ?_); rintro e w1 ⟨sg, cg, v7, v, xs, ss, Ms, L, rfl, hS, hc1, hsg, hst, hv7, hv, hL, hB⟩); have HI := Lib.hid (iplay_calls (a := A) (b := C) hS hA1 hA2 hC1 hC2 hst hc1 hsg (tab_later HT.out hB)); have H1 := Lib.hid (And.intro hv7 (And.intro hv (And.intro hL hB))); clear hS hc1 hsg hst hv7 hv hL hB)
    | (go_at_call 6; refine (HN6.out _).mono ?_; rintro e w2 ⟨rfl, rfl⟩)
    | (go_at_call 7; refine (HN7.out _).mono ?_; rintro e w3 ⟨rfl, rfl⟩)
    | (go_at_call 5; refine HI.out.mono ?_; rintro e w4 ⟨u7, u, L2, rfl, hB4, hu7, hu, hL2⟩; have HE := Lib.hid (And.intro hB4 (equal_two H1.out.1 H1.out.2.1 H1.out.2.2.1 hB4 hu7 hu hL2)); clear hB4 hu7 hu hL2 HI)
    | (go_at_call 8; ((with_reducible refine HE.out.2.1.mono ?_); rintro e w5 ⟨rfl, hD5⟩))
    | (go_at_call 8; ((with_reducible refine (HE.out.2.2 _ hD5).mono ?_); rintro e w6 ⟨rfl, hD6⟩)))
  go_ret
  exact ⟨rfl, below_end H1.out.2.2.2 HE.out.1 hD5 hD6⟩
end Go.Proofs.YtpopiaahdanpeaaGreatDoor
