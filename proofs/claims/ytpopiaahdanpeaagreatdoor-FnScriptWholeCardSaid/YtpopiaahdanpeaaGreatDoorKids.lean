/- The two kinds of lists of children under one word: what each method does to the function from bytes to children. -/
import Derived.Test.YtpopiaahdanpeaaGreatDoorNewDense
namespace Go.Proofs.YtpopiaahdanpeaaGreatDoor
open Go Go.RowKit
set_option linter.unusedVariables false

/-- How many bytes have a child. -/
def cntL (K : UInt8 → Option Nat) : List Nat → Nat
  | [] => 0
  | i :: r => (if (K (UInt8.ofNat i)).isSome then 1 else 0) + cntL K r
def cnt (K : UInt8 → Option Nat) : Nat := cntL K (List.range 256)
def upd (K : UInt8 → Option Nat) (b : UInt8) (x : Option Nat) : UInt8 → Option Nat := fun y => if y = b then x else K y

theorem ofNat_inj {i j : Nat} (hi : i < 256) (hj : j < 256) (h : UInt8.ofNat i = UInt8.ofNat j) : i = j := by
  have := congrArg UInt8.toNat h
  simp at this; omega

theorem cntL_out (K : UInt8 → Option Nat) (b : UInt8) (x : Option Nat) : ∀ L : List Nat, (∀ i ∈ L, i < 256) → b.toNat ∉ L → cntL (upd K b x) L = cntL K L
  | [], _, _ => rfl
  | i :: r, h, hb => by
    have hi := h i (by simp)
    have hne : UInt8.ofNat i ≠ b := by intro e; subst e; apply hb; simp; left; omega
    simp only [cntL]
    rw [cntL_out K b x r (fun j hj => h j (by simp [hj])) (fun hm => hb (by simp [hm]))]
    simp [upd, hne]
theorem cntL_in (K : UInt8 → Option Nat) (b : UInt8) (x : Option Nat) : ∀ L : List Nat, (∀ i ∈ L, i < 256) → L.Nodup → b.toNat ∈ L →
    cntL (upd K b x) L + (if (K b).isSome then 1 else 0) = cntL K L + (if x.isSome then 1 else 0)
  | [], _, _, hb => by simp at hb
  | i :: r, h, hn, hb => by
    have hi := h i (by simp)
    rw [List.nodup_cons] at hn
    simp only [cntL]
    by_cases e : i = b.toNat
    · subst e
      rw [cntL_out K b x r (fun j hj => h j (by simp [hj])) hn.1]
      simp only [UInt8.ofNat_toNat, upd, if_true]
      omega
    · have hne : UInt8.ofNat i ≠ b := by intro e'; subst e'; apply e; simp; omega
      have := cntL_in K b x r (fun j hj => h j (by simp [hj])) hn.2 (by simp at hb; exact hb.resolve_left (fun h => e h.symm))
      have hu : upd K b x (UInt8.ofNat i) = K (UInt8.ofNat i) := by unfold upd; rw [if_neg hne]
      rw [hu]
      omega
theorem cnt_upd (K : UInt8 → Option Nat) (b : UInt8) (x : Option Nat) : cnt (upd K b x) + (if (K b).isSome then 1 else 0) = cnt K + (if x.isSome then 1 else 0) :=
  cntL_in K b x _ (fun i hi => by simpa using hi) List.nodup_range (by simpa using b.toNat_lt)
theorem cntL_le (K : UInt8 → Option Nat) : ∀ L : List Nat, cntL K L ≤ L.length
  | [] => by simp [cntL]
  | i :: r => by have := cntL_le K r; simp only [cntL, List.length_cons]; split <;> omega
theorem cnt_le (K : UInt8 → Option Nat) : cnt K ≤ 256 := by have := cntL_le K (List.range 256); simpa [cnt] using this
theorem cntL_zero (K : UInt8 → Option Nat) : ∀ L : List Nat, cntL K L = 0 → ∀ i ∈ L, K (UInt8.ofNat i) = none
  | [], _, i, hi => by simp at hi
  | j :: r, h, i, hi => by
    simp only [cntL] at h
    rcases List.mem_cons.1 hi with rfl | hi
    · cases hk : K (UInt8.ofNat i) with
      | none => rfl
      | some x => simp [hk] at h
    · exact cntL_zero K r (by omega) i hi
theorem cnt_zero {K : UInt8 → Option Nat} (h : cnt K = 0) (b : UInt8) : K b = none := by
  have := cntL_zero K _ h b.toNat (by simpa using b.toNat_lt)
  simpa using this
theorem cnt_none : cnt (fun _ => none) = 0 := by
  have : ∀ L, cntL (fun _ => none) L = 0 := by
    intro L; induction L with
    | nil => rfl
    | cons a r ih => simp [cntL, ih]
  exact this _
theorem cnt_pos {K : UInt8 → Option Nat} {b : UInt8} (h : K b ≠ none) : 0 < cnt K := by
  rcases Nat.eq_zero_or_pos (cnt K) with h0 | h0
  · exact (h (cnt_zero h0 b)).elim
  · exact h0
theorem cnt_two {K : UInt8 → Option Nat} {a b : UInt8} (hab : a ≠ b) (ha : K a ≠ none) (hb : K b ≠ none) : 2 ≤ cnt K := by
  have h1 := cnt_upd K b none
  have h2 : 0 < cnt (upd K b none) := cnt_pos (b := a) (by simpa [upd, hab] using ha)
  have h3 : (K b).isSome = true := by cases h : K b with
    | none => exact (hb h).elim
    | some x => rfl
  rw [h3] at h1
  simp at h1
  omega
theorem cnt_lt {K : UInt8 → Option Nat} {b : UInt8} (h : K b = none) : cnt K < 256 := by
  have h1 := cnt_upd K b (some 0)
  rw [h] at h1
  have h2 := cnt_le (upd K b (some 0))
  simp at h1
  omega

/-- The list at lb (its array at ab) is the function K from first bytes to children; d: it is a dense one; cc: a small one's capacity. -/
def KidsAt (w : World) (d : Bool) (lb ab cc : Nat) (K : UInt8 → Option Nat) : Prop :=
  match d with
  | false => ∃ l, SparseAt w lb ab cc l ∧ (l.map (·.1)).Nodup ∧ (∀ y, look l y = K y) ∧ l.length = cnt K
  | true => ∃ mx T, DenseAt w lb ab 65 mx (cnt K) T ∧ ∀ y, tab 65 T y = K y

def tyOf : Bool → TypeId | false => 94 | true => 152
def lenFn : Bool → FuncId | false => 102 | true => 134
def nextFn : Bool → FuncId | false => 103 | true => 135
def addFn : Bool → FuncId | false => 99 | true => 131
def removeFn : Bool → FuncId | false => 104 | true => 136
def replaceFn : Bool → FuncId | false => 105 | true => 137
def walkFn : Bool → FuncId | false => 107 | true => 139

theorem look_mem {l : List (UInt8 × Nat)} {b : UInt8} {c : Nat} (h : look l b = some c) : (b, c) ∈ l := by
  unfold look at h
  cases hf : l.find? (fun p => p.1 == b) with
  | none => rw [hf] at h; cases h
  | some p =>
    rw [hf] at h
    have h1 := List.mem_of_find?_eq_some hf
    have h2 := List.find?_some hf
    simp at h h2
    have : p = (b, c) := by cases p; simp_all
    rw [← this]; exact h1
theorem look_of_mem {l : List (UInt8 × Nat)} (hn : (l.map (·.1)).Nodup) {p : UInt8 × Nat} (hp : p ∈ l) : look l p.1 = some p.2 := by
  obtain ⟨c, hc⟩ := look_some hp
  have hm := look_mem hc
  obtain ⟨i, hi, e1⟩ := List.getElem_of_mem hp
  obtain ⟨j, hj, e2⟩ := List.getElem_of_mem hm
  have : i = j := by
    rw [List.nodup_iff_pairwise_ne, List.pairwise_iff_getElem] at hn
    rcases Nat.lt_trichotomy i j with h | h | h
    · exact (hn i j (by simpa using hi) (by simpa using hj) h (by simp [e1, e2])).elim
    · exact h
    · exact (hn j i (by simpa using hj) (by simpa using hi) h (by simp [e1, e2])).elim
  subst this
  rw [hc]
  have := e1.symm.trans e2
  rw [this]

section
variable {w : World} {d : Bool} {lb ab cc : Nat} {K : UInt8 → Option Nat}

theorem kids_length (h : KidsAt w d lb ab cc K) : Calls Tryz.prog (lenFn d) #[ptrV lb] w fun e w' => e = .returned (.int .i64 (cnt K)) ∧ w = w' := by
  cases d with
  | false =>
    obtain ⟨l, hs, _, _, hc⟩ := h
    rw [← hc]; exact sp_length hs
  | true =>
    obtain ⟨mx, T, hd, _⟩ := h
    exact de_length hd

theorem kids_fb {l : List (UInt8 × Nat)} (hn : (l.map (·.1)).Nodup) (hk : ∀ y, look l y = K y) (hf : ∀ y c, K y = some c → FB w c y) : ∀ p ∈ l, FB w p.2 p.1 :=
  fun p hp => hf _ _ (by rw [← hk, look_of_mem hn hp])

theorem kids_next (h : KidsAt w d lb ab cc K) (hf : ∀ y c, K y = some c → FB w c y) (b : UInt8) :
    Calls Tryz.prog (nextFn d) #[ptrV lb, .int .u8 b.toNat] w fun e w' => e = .returned (optV (K b)) ∧ ∃ n, w' = w.drewN n := by
  cases d with
  | false =>
    obtain ⟨l, hs, hn, hk, hc⟩ := h
    refine (sp_next hs (kids_fb hn hk hf) b).mono ?_
    rintro e w' ⟨rfl, rfl⟩
    exact ⟨by rw [hk], 0, rfl⟩
  | true =>
    obtain ⟨mx, T, hd, hk⟩ := h
    rw [← hk]; exact de_next hd b

theorem KidsAt.one {w : World} {lb ab cc : Nat} {K : UInt8 → Option Nat} (h : KidsAt w false lb ab cc K) (h1 : cnt K = 1) :
    ∃ b c, K b = some c ∧ (∀ y, y ≠ b → K y = none) ∧ Calls Tryz.prog 101 #[ptrV lb] w fun e w' => e = .returned (ptrV c) ∧ w = w' := by
  obtain ⟨l, hs, hn, hk, hc⟩ := h
  obtain ⟨p, rfl⟩ : ∃ p, l = [p] := by
    cases l with
    | nil => simp at hc; omega
    | cons p r => cases r with
      | nil => exact ⟨p, rfl⟩
      | cons q r => simp at hc; omega
  refine ⟨p.1, p.2, by rw [← hk]; simp [look], fun y hy => ?_, sp_head hs (by simp)⟩
  rw [← hk]
  have : (p.1 == y) = false := by simp; exact fun h => hy h.symm
  simp [look, this]

theorem look_none {l : List (UInt8 × Nat)} {b : UInt8} (h : look l b = none) : b ∉ l.map (·.1) := by
  intro hm
  obtain ⟨p, hp, rfl⟩ := List.mem_map.1 hm
  obtain ⟨c, hc⟩ := look_some hp
  rw [hc] at h; cases h
theorem look_iff {l : List (UInt8 × Nat)} (hn : (l.map (·.1)).Nodup) (y : UInt8) (c : Nat) : look l y = some c ↔ (y, c) ∈ l :=
  ⟨look_mem, fun h => look_of_mem hn h⟩
theorem look_congr {l m : List (UInt8 × Nat)} (hl : (l.map (·.1)).Nodup) (hm : (m.map (·.1)).Nodup) (h : ∀ p, p ∈ l ↔ p ∈ m) (y : UInt8) : look l y = look m y := by
  apply Option.ext
  intro c
  rw [look_iff hl, look_iff hm, h]
theorem set_last_perm (z : UInt8 × Nat) : ∀ (L : List (UInt8 × Nat)) (i : Nat) (hi : i < L.length), (L ++ [z]).Perm (L[i] :: L.set i z)
  | [], i, hi => by simp at hi
  | a :: r, 0, _ => by
    simp only [List.cons_append, List.getElem_cons_zero, List.set_cons_zero]
    exact (List.perm_append_singleton z r).cons a
  | a :: r, j + 1, hi => by
    simp only [List.cons_append, List.getElem_cons_succ, List.set_cons_succ]
    exact ((set_last_perm z r j (by simpa using hi)).cons a).trans (List.Perm.swap _ _ _)
theorem removed_perm (l : List (UInt8 × Nat)) (i : Nat) (hi : i < l.length) : l.Perm (l[i] :: (l.set i (l[l.length - 1]'(by omega))).take (l.length - 1)) := by
  have hne : l ≠ [] := by intro e; subst e; simp at hi
  obtain ⟨L, z, rfl⟩ : ∃ L z, l = L ++ [z] := ⟨l.dropLast, l.getLast hne, (List.dropLast_concat_getLast hne).symm⟩
  have hlen : (L ++ [z]).length - 1 = L.length := by simp
  have hz : (L ++ [z])[(L ++ [z]).length - 1]'(by omega) = z := by simp
  rw [hz, hlen]
  by_cases h : i < L.length
  · rw [List.set_append_left _ _ h, List.getElem_append_left h, List.take_append_of_le_length (by simp), List.take_of_length_le (by simp)]
    exact set_last_perm z L i h
  · have : i = L.length := by simp at hi; omega
    subst this
    rw [List.set_append_right _ _ (Nat.le_refl _)]
    simp

/-- A child more. -/
theorem kids_add (h : KidsAt w d lb ab cc K) (hf : ∀ y c, K y = some c → FB w c y) (b : UInt8) (c : Nat) (hb : K b = none) (hcb : FB w c b)
    (hroom : (d = false ∧ cnt K < cc) ∨ (K 65 ≠ none ∧ (∀ y, K y ≠ none → 65 ≤ y.toNat) ∧ 65 ≤ b.toNat)) :
    Calls Tryz.prog (addFn d) #[ptrV lb, ptrV c] w fun e w' => ∃ d' lb' ab', e = .returned (.iface (tyOf d') (ptrV lb')) ∧ KidsAt w' d' lb' ab' cc (upd K b (some c)) ∧
      Kept (fun k => k = lb ∨ k = ab) w w' ∧ (lb' = lb ∨ w.heap.size ≤ lb') ∧ (ab' = ab ∨ w.heap.size ≤ ab') ∧ (d = false → cnt K < cc → d' = false) := by
  have hcn := cnt_upd K b (some c)
  rw [hb] at hcn
  simp at hcn
  cases d with
  | false =>
    obtain ⟨l, hs, hn, hk, hc⟩ := h
    have hbl : b ∉ l.map (·.1) := look_none (by rw [hk, hb])
    by_cases hl : l.length < cc
    · refine (sp_add_room hs hl b c).mono ?_
      rintro e w' ⟨rfl, hs', hkept⟩
      refine ⟨false, lb, ab, rfl, ⟨_, hs', ?_, ?_, ?_⟩, hkept, .inl rfl, .inl rfl, fun _ _ => rfl⟩
      · rw [List.map_append, List.nodup_append]
        refine ⟨hn, by simp, ?_⟩
        intro x hx y hy e
        simp at hy
        subst hy; subst e
        exact hbl hx
      · intro y; rw [look_snoc l b c hbl, hk]; rfl
      · simp [hcn, hc]
    · have hle := hs.le
      have hr := hroom.resolve_left (by rintro ⟨_, h⟩; omega)
      have hl0 : 0 < l.length := by rw [hc]; exact cnt_pos hr.1
      have hd : decide ((l.length : Int) = (cc : Int)) = true := by simp; omega
      have hdn : ((l.length : Int) != (cc : Int)) = false := by simp; omega
      have c0 := cell_of_heap hs.list 0
      simp at c0
      have HN := Lib.hid (fun n => newDense_calls (w := w.drewN n) (lb := lb) (ab := ab) (cap := cc) (l := l) ⟨hs.list, hs.arr, hs.small⟩ (kids_fb hn hk hf) hn b c hbl hcb hl0)
      have H := Lib.hid (And.intro hs (And.intro hr (And.intro hk (And.intro hbl (And.intro hc hcn)))))
      clear hs hf hb hroom hr hk hbl hc hcn hcb hd
      show Calls Tryz.prog 99 _ _ _
      go_enter Tryz.func99, Tryz.ntmps99
      go_wp2
      go_quiet (fail)
      go_wp2_with (go_at_call 108; refine (HN.out _).mono ?_; rintro e w' ⟨lb', ab', mn, mx, T, rfl, hD⟩; have HD := Lib.hid hD; clear hD)
      go_ret
      obtain ⟨hs, hr, hk, hbl, hc, hcn⟩ := H.out
      obtain ⟨hD, hT, hM, hlb, hab, hkp⟩ := HD.out
      have hmn : mn = 65 := by
        obtain ⟨h1, h2, h3, h4, _⟩ := hM
        have hp : ∃ c65, (65, c65) ∈ l := by
          cases h : K 65 with
          | none => exact (hr.1 h).elim
          | some x => exact ⟨x, look_mem (by rw [hk, h])⟩
        obtain ⟨x, hx⟩ := hp
        have h65 : mn ≤ 65 := (h1 _ hx).1
        rcases h4 with ⟨p, hp, e⟩ | e
        · have := hr.2.1 p.1 (by obtain ⟨c', hc'⟩ := look_some hp; rw [← hk, hc']; simp)
          omega
        · have := hr.2.2
          omega
      subst hmn
      refine ⟨true, lb', ab', rfl, ⟨mx, T, ?_, ?_⟩, ⟨hkp.os, hkp.tape, hkp.output, hkp.size, fun k hk1 _ => hkp.block k hk1 (fun h => h)⟩, .inr hlb, .inr hab, fun _ h => by omega⟩
      · rw [hcn, ← hc]; exact hD
      · intro y; rw [hT, look_snoc l b c hbl, hk]; rfl
  | true =>
    obtain ⟨mx, T, hD, hk⟩ := h
    have hr := hroom.resolve_left (by rintro ⟨h, _⟩; cases h)
    refine (de_add hD b c (by rw [hk, hb]) hr.2.2 (cnt_lt hb) hcb).mono ?_
    rintro e w' ⟨rfl, ⟨ab', mx', T', hD', hT', hab⟩, hkept⟩
    refine ⟨true, lb, ab', rfl, ⟨mx', T', ?_, fun y => by rw [hT', hk]; rfl⟩, hkept, .inl rfl, hab, fun h => by cases h⟩
    rw [hcn]; exact hD'

/-- A child less. -/
theorem kids_remove (h : KidsAt w d lb ab cc K) (hf : ∀ y c, K y = some c → FB w c y) (b : UInt8) (hb : K b ≠ none) (hlow : d = true → 65 < b.toNat) :
    Calls Tryz.prog (removeFn d) #[ptrV lb, .int .u8 b.toNat] w fun e w' => e = .returned (.tuple #[]) ∧ ∃ ab', KidsAt w' d lb ab' cc (upd K b none) ∧
      Kept (fun k => k = lb ∨ k = ab) w w' ∧ (ab' = ab ∨ w.heap.size ≤ ab') := by
  have hcn := cnt_upd K b none
  have hs1 : (K b).isSome = true := by cases h : K b with
    | none => exact (hb h).elim
    | some x => rfl
  rw [hs1] at hcn
  simp at hcn
  cases d with
  | false =>
    obtain ⟨l, hs, hn, hk, hc⟩ := h
    have hbl : b ∈ l.map (·.1) := by
      cases h : K b with
      | none => exact (hb h).elim
      | some x => exact List.mem_map.2 ⟨_, look_mem (by rw [hk, h]), rfl⟩
    refine (sp_remove hs (kids_fb hn hk hf) b hbl).mono ?_
    rintro e w' ⟨rfl, ⟨i, hi, e1, hs'⟩, hkept⟩
    have hp := removed_perm l i hi
    have hn2 : ((l[i] :: (l.set i (l[l.length - 1]'(by omega))).take (l.length - 1)).map (·.1)).Nodup := (hp.map (·.1)).nodup_iff.1 hn
    rw [List.map_cons, List.nodup_cons] at hn2
    refine ⟨rfl, ab, ⟨_, hs', hn2.2, fun y => ?_, ?_⟩, hkept, .inl rfl⟩
    · by_cases hy : y = b
      · subst hy
        rw [show upd K y none y = none by simp [upd]]
        cases hlk : look ((l.set i (l[l.length - 1]'(by omega))).take (l.length - 1)) y with
        | none => rfl
        | some x => exact (hn2.1 (List.mem_map.2 ⟨_, look_mem hlk, by simp [e1]⟩)).elim
      · rw [show upd K b none y = K y by simp [upd, hy], ← hk]
        apply Option.ext
        intro c
        rw [look_iff hn2.2, look_iff hn, hp.mem_iff]
        constructor
        · intro h; exact List.mem_cons_of_mem _ h
        · intro h
          rcases List.mem_cons.1 h with h | h
          · exfalso; apply hy; rw [← e1, ← h]
          · exact h
    · have := hp.length_eq
      simp only [List.length_cons] at this
      omega
  | true =>
    obtain ⟨mx, T, hD, hk⟩ := h
    refine (de_remove hD b (by rw [hk]; exact hb) (hlow rfl) (cnt_pos hb)).mono ?_
    rintro e w' ⟨rfl, ⟨ab', mx', T', hD', hT', hab⟩, hkept⟩
    refine ⟨rfl, ab', ⟨mx', T', ?_, fun y => by rw [hT', hk]; rfl⟩, hkept, hab⟩
    rw [show cnt (upd K b none) = cnt K - 1 by omega]; exact hD'

/-- Another child in a child's place. -/
theorem kids_replace (h : KidsAt w d lb ab cc K) (hf : ∀ y c, K y = some c → FB w c y) (b : UInt8) (c : Nat) (hb : K b ≠ none) (hcb : FB w c b) :
    Calls Tryz.prog (replaceFn d) #[ptrV lb, .int .u8 b.toNat, ptrV c] w fun e w' => e = .returned (.tuple #[]) ∧ ∃ ab', KidsAt w' d lb ab' cc (upd K b (some c)) ∧
      Kept (fun k => k = ab) w w' ∧ (ab' = ab ∨ w.heap.size ≤ ab') := by
  have hcn := cnt_upd K b (some c)
  have hs1 : (K b).isSome = true := by cases h : K b with
    | none => exact (hb h).elim
    | some x => rfl
  rw [hs1] at hcn
  simp at hcn
  cases d with
  | false =>
    obtain ⟨l, hs, hn, hk, hc⟩ := h
    have hbl : b ∈ l.map (·.1) := by
      cases h : K b with
      | none => exact (hb h).elim
      | some x => exact List.mem_map.2 ⟨_, look_mem (by rw [hk, h]), rfl⟩
    refine (sp_replace hs (kids_fb hn hk hf) b c hbl hcb).mono ?_
    rintro e w' ⟨rfl, ⟨i, hi, e1, hs'⟩, hkept⟩
    have hm : (l.set i (b, c)).map (·.1) = l.map (·.1) := by
      rw [List.map_set]
      apply List.ext_getElem (by simp)
      intro j h1 h2
      rw [List.getElem_set]
      split
      · rename_i e; subst e; simp [e1]
      · rfl
    have hn2 : ((l.set i (b, c)).map (·.1)).Nodup := by rw [hm]; exact hn
    refine ⟨rfl, ab, ⟨_, hs', hn2, fun y => ?_, by simp [hcn, hc]⟩, hkept, .inl rfl⟩
    have hin : (b, c) ∈ l.set i (b, c) := by
      have : i < (l.set i (b, c)).length := by simpa using hi
      have := List.getElem_mem this
      simpa using this
    by_cases hy : y = b
    · subst hy
      rw [show upd K y (some c) y = some c by simp [upd]]
      exact look_of_mem hn2 hin
    · rw [show upd K b (some c) y = K y by simp [upd, hy], ← hk]
      apply Option.ext
      intro x
      rw [look_iff hn2, look_iff hn]
      constructor
      · intro h
        obtain ⟨j, hj, e⟩ := List.getElem_of_mem h
        rw [List.getElem_set] at e
        split at e
        · exfalso; apply hy; have := congrArg Prod.fst e; exact this.symm
        · rw [← e]; exact List.getElem_mem _
      · intro h
        obtain ⟨j, hj, e⟩ := List.getElem_of_mem h
        have hji : i ≠ j := by
          intro e'; subst e'; apply hy; rw [← e1, e]
        have : (l.set i (b, c))[j]'(by simpa using hj) = (y, x) := by rw [List.getElem_set_ne hji]; exact e
        rw [← this]; exact List.getElem_mem _
  | true =>
    obtain ⟨mx, T, hD, hk⟩ := h
    refine (de_replace hD b c (by rw [hk]; exact hb) hcb).mono ?_
    rintro e w' ⟨rfl, ⟨ab', mx', T', hD', hT', hab⟩, hkept⟩
    refine ⟨rfl, ab', ⟨mx', T', ?_, fun y => by rw [hT', hk]; rfl⟩, hkept, hab⟩
    rw [hcn]; exact hD'
end
end Go.Proofs.YtpopiaahdanpeaaGreatDoor
