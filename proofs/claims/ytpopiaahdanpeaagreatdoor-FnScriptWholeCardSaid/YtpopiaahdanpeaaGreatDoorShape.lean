/- The shape that the law's tries keep: the words, the lists' kinds, the root. -/
import Derived.Test.YtpopiaahdanpeaaGreatDoorSplitDone
namespace Go.Proofs.YtpopiaahdanpeaaGreatDoor
open Go Go.RowKit
set_option linter.unusedVariables false

/-- A word of the law, or a beginning of one. -/
def Good (l : List UInt8) : Prop := l = [] ∨ l = [65] ∨ l = [90] ∨ ∃ a r, l = a :: r ∧ 97 ≤ a.toNat ∧ a.toNat ≤ 122 ∧ r.length ≤ 4 ∧ ∀ y ∈ r, 97 ≤ y.toNat ∧ y.toNat ≤ 100
theorem Good.len {l : List UInt8} (h : Good l) : l.length ≤ 5 := by
  rcases h with rfl | rfl | rfl | ⟨a, r, rfl, _, _, h, _⟩
  · simp
  · simp
  · simp
  · simp; omega
theorem Good.one {p : List UInt8} {a : UInt8} (h : p <+: [a]) : p = [] ∨ p = [a] := by
  cases p with
  | nil => exact .inl rfl
  | cons b s =>
    obtain ⟨u, hu⟩ := h
    simp at hu
    obtain ⟨rfl, h2, h3⟩ := hu
    exact .inr (by rw [h2])
theorem Good.part {p l : List UInt8} (h : Good l) (hp : p <+: l) : Good p := by
  rcases h with rfl | rfl | rfl | ⟨a, r, rfl, h1, h2, h3, h4⟩
  · exact .inl (List.prefix_nil.1 hp)
  · rcases Good.one hp with e | e
    · exact .inl e
    · exact .inr (.inl e)
  · rcases Good.one hp with e | e
    · exact .inl e
    · exact .inr (.inr (.inl e))
  · cases p with
    | nil => exact .inl rfl
    | cons b s =>
      obtain ⟨rfl, h5⟩ := List.cons_prefix_cons.1 hp
      exact .inr (.inr (.inr ⟨b, s, rfl, h1, h2, by have := h5.length_le; omega, fun y hy => h4 y (h5.subset hy)⟩))
theorem Good.first {l : List UInt8} (h : Good l) {b : UInt8} (hb : l[0]? = some b) : 65 ≤ b.toNat ∧ (b = 65 → l = [65]) ∧ (b = 90 → l = [90]) := by
  rcases h with rfl | rfl | rfl | ⟨a, r, rfl, h1, h2, h3, h4⟩
  · cases hb
  · cases hb; exact ⟨by decide, fun _ => rfl, fun h => absurd h (by decide)⟩
  · cases hb; exact ⟨by decide, fun h => absurd h (by decide), fun _ => rfl⟩
  · simp at hb; subst hb
    refine ⟨by omega, ?_, ?_⟩
    · rintro rfl; simp at h1
    · rintro rfl; simp at h1
theorem Good.later {l : List UInt8} (h : Good l) {i : Nat} (hi : 0 < i) {b : UInt8} (hb : l[i]? = some b) : 97 ≤ b.toNat ∧ b.toNat ≤ 100 := by
  rcases h with rfl | rfl | rfl | ⟨a, r, rfl, h1, h2, h3, h4⟩
  · cases hb
  · rw [List.getElem?_eq_none (by simp; omega)] at hb; cases hb
  · rw [List.getElem?_eq_none (by simp; omega)] at hb; cases hb
  · obtain ⟨j, rfl⟩ : ∃ j, i = j + 1 := ⟨i - 1, by omega⟩
    simp at hb
    exact h4 b (List.mem_of_getElem? hb)

theorem cnt_four {K : UInt8 → Option Nat} (h : ∀ y, K y ≠ none → 97 ≤ y.toNat ∧ y.toNat ≤ 100) : cnt K ≤ 4 := by
  have h1 := cnt_upd K 97 none
  have h2 := cnt_upd (upd K 97 none) 98 none
  have h3 := cnt_upd (upd (upd K 97 none) 98 none) 99 none
  have h4 := cnt_upd (upd (upd (upd K 97 none) 98 none) 99 none) 100 none
  have h5 : upd (upd (upd (upd K 97 none) 98 none) 99 none) 100 none = fun _ => none := by
    funext y
    unfold upd
    by_cases e1 : y = 100
    · simp [e1]
    · by_cases e2 : y = 99
      · simp [e2]
      · by_cases e3 : y = 98
        · simp [e3]
        · by_cases e4 : y = 97
          · simp [e4]
          · simp only [if_neg e1, if_neg e2, if_neg e3, if_neg e4]
            by_cases hn : K y = none
            · exact hn
            · have := h y hn
              exfalso
              have hh : ∀ n : UInt8, y ≠ n → y.toNat ≠ n.toNat := fun n hn e => hn (UInt8.toNat_inj.1 e)
              have q1 := hh 100 e1
              have q2 := hh 99 e2
              have q3 := hh 98 e3
              have q4 := hh 97 e4
              simp at q1 q2 q3 q4
              omega
  rw [h5, cnt_none] at h4
  simp at h1 h2 h3 h4
  split at h1 <;> split at h2 <;> split at h3 <;> split at h4 <;> omega

section
variable {t : Nat} {D : Node → Prop}

theorem kid_word {X V : Node} {b : UInt8} (hw : WF t D) (hk : Kid t D X b V) : V.word[X.word.length]? = some b := by
  obtain ⟨h1, h2, _⟩ := hw.up V hk.1 hk.2.1
  have := hk.2.2.2
  rw [← hk.2.2.1]
  conv => lhs; rw [← V.par_pre]
  rw [List.getElem?_append_right (Nat.le_refl _), Nat.sub_self]; exact this

/-- What put asks of a trie's shape. -/
structure Low (t : Nat) (D : Node → Prop) : Prop where
  good : ∀ X, D X → Good X.word
  low : ∀ X, D X → X.blk ≠ t → X.d = false ∧ (8 ≤ X.cc ∨ X.word = [65])
structure Shape (t : Nat) (D : Node → Prop) : Prop extends Low t D where
  top : ∀ X, D X → X.blk = t → X.word = [] ∧ X.mp = 10
  a : ∃ v, Has D [65] v
  z : ∃ v, Has D [90] v

theorem Low.below (h : Low t D) (hw : WF t D) {X V : Node} {b : UInt8} (hX : X.word ≠ []) (hk : Kid t D X b V) : 97 ≤ b.toNat ∧ b.toNat ≤ 100 :=
  (h.good V hk.1).later (List.length_pos_iff.2 hX) (kid_word hw hk)
theorem Low.few (h : Low t D) (hw : WF t D) {X : Node} (hX : X.word ≠ []) {K : UInt8 → Option Nat} (hK : ∀ b c, K b = some c ↔ ∃ V, Kid t D X b V ∧ V.blk = c) : cnt K ≤ 4 := by
  refine cnt_four fun y hy => ?_
  cases e : K y with
  | none => exact (hy e).elim
  | some c => obtain ⟨V, hV, _⟩ := (hK y c).1 e; exact h.below hw hX hV
theorem Low.kid65 (hw : WF t D) {R : Node} (hR : D R) (hRw : R.word = []) {v : Int} (ha : Has D [65] v) : ∃ V, Kid t D R 65 V := by
  obtain ⟨A, hA, e, _⟩ := ha
  obtain ⟨V, b, hV, _, hb⟩ := hw.kid_on_path hR _ A (Nat.le_refl _) hA (by rw [hRw]; exact List.nil_prefix) (by rw [hRw, e]; simp)
  rw [hRw, e] at hb
  simp at hb; subst hb
  exact ⟨V, hV⟩
/-- There is room for a child more. -/
theorem Low.room (h : Low t D) (hw : WF t D) {X : Node} (hX : D X) {key : List UInt8} (hk : Good key) (hp : X.word <+: key) {y : UInt8} (hy : key[X.word.length]? = some y)
    (hroot : X.blk = t → X.word = [] ∧ ∃ v, Has D [65] v) {K : UInt8 → Option Nat} (hK : ∀ b c, K b = some c ↔ ∃ V, Kid t D X b V ∧ V.blk = c) :
    ((X.d = false ∧ cnt K < X.cc) ∨ (K 65 ≠ none ∧ (∀ y, K y ≠ none → 65 ≤ y.toNat) ∧ 65 ≤ y.toNat)) ∧ (X.blk ≠ t → X.d = false ∧ cnt K < X.cc) := by
  have hsome : ∀ b, K b ≠ none → ∃ V, Kid t D X b V := fun b hb => by
    cases e : K b with
    | none => exact (hb e).elim
    | some c => obtain ⟨V, hV, _⟩ := (hK b c).1 e; exact ⟨V, hV⟩
  by_cases hb : X.blk = t
  · obtain ⟨e, v, ha⟩ := hroot hb
    refine ⟨.inr ⟨?_, fun b hb => ?_, ?_⟩, fun hn => (hn hb).elim⟩
    · obtain ⟨V, hV⟩ := Low.kid65 hw hX e ha
      rw [(hK 65 V.blk).2 ⟨V, hV, rfl⟩]; simp
    · obtain ⟨V, hV⟩ := hsome b hb
      have := kid_word hw hV
      rw [e] at this
      exact ((h.good V hV.1).first this).1
    · rw [e] at hy; exact (hk.first hy).1
  · obtain ⟨h1, h2⟩ := h.low X hX hb
    have hne : X.word ≠ [] := by
      obtain ⟨u1, u2, _⟩ := hw.up X hX hb
      intro e; rw [e] at u2; simp at u2; omega
    have h8 : 8 ≤ X.cc := by
      rcases h2 with h2 | h2
      · exact h2
      · exfalso
        rw [h2] at hy hp
        have hk0 : key[0]? = some 65 := by
          obtain ⟨s, rfl⟩ := hp; rfl
        have := (hk.first hk0).2.1 rfl
        rw [this] at hy; simp at hy
    have := h.few hw hne hK
    exact ⟨.inl ⟨h1, by omega⟩, fun _ => ⟨h1, by omega⟩⟩
end
end Go.Proofs.YtpopiaahdanpeaaGreatDoor
