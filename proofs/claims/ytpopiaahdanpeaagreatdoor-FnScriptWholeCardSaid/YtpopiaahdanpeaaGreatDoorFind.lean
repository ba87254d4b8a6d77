/- The walks of findSubtree and findSubtreePath. -/
import Derived.Test.YtpopiaahdanpeaaGreatDoorTrie
namespace Go.Proofs.YtpopiaahdanpeaaGreatDoor
open Go Go.RowKit
set_option linter.unusedVariables false

theorem meth_next (d : Bool) (a : Addr) (w : World) : (method 277 (tyOf d) (.pointer (some a)) "loop.example/pub-triescripts/pub/patricia.next").run Tryz.prog w = .ok (nextFn d, .pointer (some a)) w := by
  cases d <;> kernel_rfl
theorem nil_next (d : Bool) (a : Addr) (w : World) : (nilAhead 277 (tyOf d) (.pointer (some a)) "loop.example/pub-triescripts/pub/patricia.next").run Tryz.prog w = .ok (some false) w := by
  cases d <;> kernel_rfl
theorem call_next (d : Bool) (args : Array Value) (w : World) : (callFunc (nextFn d) args).run Tryz.prog w = .ok (.enter (nextFn d) args) w := by
  cases d <;> kernel_rfl

theorem results_tmp4 {fn : Func} {t u v x : Tmp} (h : fn.results = #[.tmp t, .tmp u, .tmp v, .tmp x]) (tmps : Array Value) (P : Program) (w : World) :
    (results fn tmps).run P w = .ok (.tuple #[tmps.getD t undef, tmps.getD u undef, tmps.getD v undef, tmps.getD x undef]) w := by
  simp [results, h]


/-- What a slice's tail is. -/
theorem slice_tail {w : World} {g o c : Nat} (l : List UInt8) (hb : BytesAt w g o l) (k : Nat) (hk : k ≤ l.length) (hl : l.length ≤ c) :
    ∃ o', (∀ u, (Instr.slice 56 (.slice (some ⟨g, o, none⟩) l.length c) (some (.int .i64 k)) none none).run Tryz.prog u = .ok (.slice (some ⟨g, o', none⟩) (l.length - k) (c - k)) u) ∧ BytesAt w g o' (l.drop k) ∧ (k < c → o' = o + k) := by
  refine ⟨if c = k then o else o + k, fun u => ?_, ?_, fun h => by rw [if_neg (by omega)]⟩
  · by_cases h : c = k
    · go_simp
    · go_simp
  · intro i hi
    have : c ≠ k := by intro e; simp at hi; omega
    rw [if_neg this]
    have := hb (k + i) (by simp at hi; omega)
    rw [show o + k + i = o + (k + i) by omega, this]
    simp

theorem BytesAt.drop {w : World} {g o : Nat} {l : List UInt8} (h : BytesAt w g o l) (k : Nat) : BytesAt w g (o + k) (l.drop k) := by
  intro i hi
  have := h (k + i) (by simp at hi; omega)
  rw [show o + k + i = o + (k + i) by omega, this]
  simp
theorem BytesAt.nil (w : World) (g o : Nat) {l : List UInt8} (h : l.length = 0) : BytesAt w g o l := fun i hi => by omega

theorem kids_drewN {w : World} {d : Bool} {lb ab cc : Nat} {K : UInt8 → Option Nat} (h : KidsAt w d lb ab cc K) (m : Nat) : KidsAt (w.drewN m) d lb ab cc K := by
  cases d with
  | false => obtain ⟨l, s, r⟩ := h; exact ⟨l, ⟨s.list, s.arr, s.small⟩, r⟩
  | true => obtain ⟨mx, T, s, r⟩ := h; exact ⟨mx, T, ⟨s.list, s.arr, s.size, s.top, s.low, s.head, s.cnt⟩, r⟩

/-- What findSubtree gives. -/
def Found (w : World) (t : Nat) (D : Node → Prop) (key : List UInt8) (e : Ending) (w' : World) : Prop :=
  ∃ n, w' = w.drewN n ∧
    ((∃ X PV o' c', D X ∧ key <+: X.word ∧ X.par <+: key ∧ (X.blk = t ∧ PV = .pointer none ∨ X.blk ≠ t ∧ X.par ≠ key ∧ ∃ P, D P ∧ P.word = X.par ∧ PV = ptrV P.blk) ∧
        e = .returned (.tuple #[PV, ptrV X.blk, .bool true, .slice (some ⟨X.g, o', none⟩) (X.word.length - key.length) c']) ∧ BytesAt w X.g o' (X.word.drop key.length) ∧ X.word.length - key.length ≤ c') ∨
      ((¬ ∃ X, D X ∧ key <+: X.word) ∧ ∃ v0 v1 v3, e = .returned (.tuple #[v0, v1, .bool false, v3])))

/-- The parent's value on the way. -/
def ParV (t : Nat) (D : Node → Prop) (X : Node) (PV : Value) : Prop := X.blk = t ∧ PV = .pointer none ∨ X.blk ≠ t ∧ ∃ P, D P ∧ P.word = X.par ∧ PV = ptrV P.blk

theorem Node.word_drop (X : Node) (k : Nat) : X.word.drop (X.par.length + k) = X.pre.drop k := by
  conv => lhs; rw [← X.par_pre]
  rw [List.drop_append, List.drop_eq_nil_of_le (by omega), Nat.add_sub_cancel_left]; rfl

theorem found_yes {w : World} {t : Nat} {D : Node → Prop} {key rest : List UInt8} {X : Node} {PV : Value} {L o' n c' m : Nat} (hpl : X.plen ≤ X.word.length) (hd : Down t D key X rest) (hp : ParV t D X PV) (hL : lcp rest X.pre = L) (hr : L = rest.length)
    (hn : n = X.plen - L) (hb : BytesAt w X.g o' (X.pre.drop L)) (hc : n ≤ c') : Found w t D key (.returned (.tuple #[PV, ptrV X.blk, .bool true, .slice (some ⟨X.g, o', none⟩) n c'])) (w.drewN m) := by
  have hk : key.length = X.par.length + L := by rw [hd.eq, hr]; simp
  have hlen : X.word.length = X.par.length + X.plen := by rw [X.par_len]; omega
  have hn' : n = X.word.length - key.length := by omega
  refine ⟨m, rfl, .inl ⟨X, PV, o', c', hd.mem, hd.found (by rw [hL, hr]), by rw [hd.eq]; exact List.prefix_append _ _, ?_, by rw [← hn'], ?_, by omega⟩⟩
  · rcases hp with ⟨h1, h2⟩ | ⟨h1, h2⟩
    · exact .inl ⟨h1, h2⟩
    · refine .inr ⟨h1, ?_, h2⟩
      intro e
      obtain ⟨b, hb, _⟩ := hd.first h1
      have : rest = [] := by
        have := hd.eq; rw [← e] at this
        exact List.self_eq_append_right.1 this
      rw [this] at hb; cases hb
  · rw [hk, X.word_drop]; exact hb
theorem found_no {w : World} {t : Nat} {D : Node → Prop} {key : List UInt8} (h : ¬ ∃ X, D X ∧ key <+: X.word) (v0 v1 v3 : Value) (m : Nat) : Found w t D key (.returned (.tuple #[v0, v1, .bool false, v3])) (w.drewN m) :=
  ⟨m, rfl, .inr ⟨h, v0, v1, v3, rfl⟩⟩

set_option maxRecDepth 100000 in
set_option maxHeartbeats 2000000 in
theorem findSubtree_calls {w : World} {t : Nat} {D : Node → Prop} (h : TrieAt w t D) (key : List UInt8) (kg ko kc : Nat) (hk : BytesAt w kg ko key) (hkl : key.length ≤ 100) (hkc : key.length ≤ kc) (hlen : ∀ X, D X → X.word.length ≤ 100) :
    Calls Tryz.prog 44 #[ptrV t, .slice (some ⟨kg, ko, none⟩) key.length kc] w (Found w t D key) := by
  obtain ⟨R, hR, hRt, hRl⟩ := h.wf.root
  have hm := meth_next
  have hn := nil_next
  have H := Lib.hid (And.intro h hlen); clear h hlen
  have HK := Lib.hid hk; clear hk
  go_enter Tryz.func44, Tryz.ntmps44
  go_wp2
  go_loopg [1, 4, 5, 6, 7, 8, 9] (2 * key.length + 1) (fun k v1 v4 v5 v6 v7 _ _ wr => ∃ (X : Node) (rest : List UInt8) (o c m : Nat), v1 = .slice (some ⟨kg, o, none⟩) rest.length c ∧ v5 = ptrV X.blk ∧ v6 = .bool false ∧ v7 = .slice none 0 0 ∧ wr = w.drewN m ∧
    rest.length ≤ c ∧ rest.length ≤ 100 ∧ 2 * rest.length + (if X.blk = t then 1 else 0) ≤ k ∧ Hid (BytesAt w kg o rest ∧ Down t D key X rest ∧ ParV t D X v4))
  case atStart => exact ⟨R, key, ko, kc, 0, rfl, by rw [hRt], rfl, rfl, rfl, hkc, hkl, by rw [if_pos hRt]; omega, Lib.hid ⟨HK.out, Down.start H.out.1.wf hR hRt key, .inl ⟨hRt, rfl⟩⟩⟩
  case round =>
    obtain ⟨X, rest, o, c, m, rfl, rfl, rfl, rfl, rfl, h1, h2, h3, HD⟩ := hrel
    have hN := H.out.1.at_ X HD.out.2.1.mem
    have hpl := H.out.1.wf.plen_le HD.out.2.1.mem
    have hprel := X.pre_len hpl
    have hwl := H.out.2 X HD.out.2.1.mem
    have hroom := hN.room
    have c0 := hN.c0
    have c4 := hN.c4
    have hLl := lcp_le_left rest X.pre
    have hLr := lcp_le_right rest X.pre
    rw [hprel] at hLr
    have HL : Hid (∀ m, Calls Tryz.prog 54 #[ptrV X.blk, .slice (some ⟨kg, o, none⟩) rest.length c] (w.drewN m) fun e w' => e = .returned (.int .i64 (lcp rest X.pre)) ∧ ∃ n, w' = w.drewN n) := fun m => by
      refine (lcp_calls (w.drewN m) X.blk X.g X.off X.cap kg o c rest X.pre (by omega) (by omega) (by rw [hprel]; exact c0) hN.bytes HD.out.1).mono ?_
      rintro e w' ⟨rfl, n, rfl⟩
      exact ⟨rfl, _, World.drewN_drewN ..⟩
    obtain ⟨o1, hs1, hb1, _⟩ := slice_tail rest HD.out.1 (lcp rest X.pre) hLl h1
    obtain ⟨o2, hs2, hb2, _⟩ := slice_tail X.pre hN.bytes (lcp rest X.pre) (lcp_le_right rest X.pre) (by rw [hprel]; exact hroom)
    rw [hprel] at hs2
    have HB := Lib.hid (And.intro hb1 hb2)
    clear hb1 hb2
    have HN := Lib.hid hN; clear hN
    have HP := Lib.hid hprel; clear hprel
    obtain ⟨L, hL⟩ : ∃ L, lcp rest X.pre = L := ⟨_, rfl⟩
    rw [hL] at hLl hLr hs1 hs2 HL HB
    have HL0 := Lib.hid hL; clear hL
    by_cases hf : L = rest.length
    · have hz : (((rest.length - L : Nat) : Int) == 0) = true := by simp; omega
      have HF := Lib.hid hf; clear hf
      go_wp2_with (go_at_call 54; refine (HL.out _).mono ?_; rintro e w' ⟨rfl, n, rfl⟩)
      all_goals
        refine bodyPost_ret (results_tmp4 rfl _ _ _) rfl ?_
        first
          | exact found_yes hpl HD.out.2.1 HD.out.2.2 HL0.out HF.out rfl HB.out.2 (by omega)
          | exact found_yes hpl HD.out.2.1 HD.out.2.2 HL0.out HF.out rfl (HN.out.bytes.drop L) (by omega)
          | exact found_yes hpl HD.out.2.1 HD.out.2.2 HL0.out HF.out rfl (BytesAt.nil _ _ _ (by have := HP.out; simp; omega)) (by omega)
    · have hz : (((rest.length - L : Nat) : Int) == 0) = false := by simp; omega
      by_cases hp : L < X.plen
      · have HF := Lib.hid (HD.out.2.1.parts H.out.1.wf (by rw [HL0.out]; omega) (by rw [HL0.out, HP.out]; exact hp))
        go_wp2_with (go_at_call 54; refine (HL.out _).mono ?_; rintro e w' ⟨rfl, n, rfl⟩)
        all_goals
          refine bodyPost_ret (results_tmp4 rfl _ _ _) rfl ?_
          exact found_no HF.out _ _ _ _
      · obtain rfl : X.plen = L := by omega
        obtain ⟨K, hK, hKiff⟩ := HN.out.kids
        have hfb := H.out.1.kidfb hKiff
        obtain ⟨b, hbd⟩ : ∃ b, (rest.drop X.plen)[0]? = some b := ⟨(rest.drop X.plen)[0]'(by simp; omega), by rw [List.getElem?_eq_getElem]⟩
        have hb1 : ∀ m, (w.drewN m).cell? ⟨kg, o1, none⟩ = some (.int .u8 b.toNat) := fun m => by
          have h0 : 0 < (rest.drop X.plen).length := by simp; omega
          have := HB.out.1 0 h0
          rw [List.getElem?_eq_getElem h0] at hbd
          cases hbd
          simpa using this
        have hcn := call_next
        have hi0 : (0 : Int) < ((rest.length - X.plen : Nat) : Int) := by omega
        have hi1 : 0 < rest.length - X.plen := by omega
        have HX := Lib.hid (fun m => kids_next (w := w.drewN m) (d := X.d) (lb := X.lb) (ab := X.ab) (cc := X.cc) (K := K) (kids_drewN hK m) (fun y c hy => (hfb y c hy)) b)
        go_wp2_with (go_at_call 54; refine (HL.out _).mono ?_; rintro e w' ⟨rfl, n, rfl⟩)
        cases hKb : K b with
        | none =>
          rw [hKb] at HX; simp only [optV] at HX
          have HF := Lib.hid (HD.out.2.1.ends H.out.1.wf (by rw [HL0.out, HP.out]) (by rw [HP.out]; exact hbd) (by rintro ⟨V, hV⟩; have := (hKiff b V.blk).2 ⟨V, hV, rfl⟩; rw [hKb] at this; cases this))
          clear hKiff hfb hK hKb hbd
          go_quiet (((with_reducible refine (HX.out _).mono ?_); rintro e w' ⟨rfl, m', rfl⟩; exact ⟨rfl, _, by rw [World.drewN_drewN, Nat.add_assoc]⟩))
          go_wp2
          refine bodyPost_ret (results_tmp4 rfl _ _ _) rfl ?_
          exact found_no HF.out _ _ _ _
        | some cb =>
          rw [hKb] at HX; simp only [optV] at HX
          obtain ⟨V, hV, rfl⟩ := (hKiff b cb).1 hKb
          have hpos : 2 * (rest.length - X.plen) < gk := by
            by_cases hXt : X.blk = t
            · rw [if_pos hXt] at h3; omega
            · have := (H.out.1.wf.up X HD.out.2.1.mem hXt).1; rw [if_neg hXt] at h3; omega
          have HR : Hid (BytesAt w kg o1 (rest.drop X.plen) ∧ Down t D key V (rest.drop X.plen) ∧ ParV t D V (ptrV X.blk)) :=
            Lib.hid ⟨HB.out.1, by have := HD.out.2.1.next (by rw [HL0.out, HP.out]) (b := b) (by rw [HP.out]; exact hbd) hV; rw [HP.out] at this; exact this, .inr ⟨hV.2.1, X, HD.out.2.1.mem, hV.2.2.1.symm, rfl⟩⟩
          have hVt := hV.2.1
          have HV := Lib.hid hV
          have hlen2 : (rest.drop X.plen).length = rest.length - X.plen := by simp
          clear hKiff hfb hK hKb hbd hV
          go_quiet (((with_reducible refine (HX.out _).mono ?_); rintro e w' ⟨rfl, m', rfl⟩; exact ⟨rfl, _, by rw [World.drewN_drewN, Nat.add_assoc]⟩))
          go_wp2
          go_roundg (2 * (rest.length - X.plen))
          case measure => exact hpos
          case rel => exact ⟨V, rest.drop X.plen, o1, c - X.plen, _, by rw [hlen2], rfl, rfl, rfl, rfl, by omega, by omega, by rw [if_neg hVt]; omega, HR⟩
end Go.Proofs.YtpopiaahdanpeaaGreatDoor
