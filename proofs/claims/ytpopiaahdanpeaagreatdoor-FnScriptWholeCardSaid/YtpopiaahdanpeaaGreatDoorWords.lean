/- Lists of words in order; the words below a node, child by child. -/
import Derived.Test.YtpopiaahdanpeaaGreatDoorMem
namespace Go.Proofs.YtpopiaahdanpeaaGreatDoor
open Go Go.RowKit
set_option linter.unusedVariables false

/-- in order, each once -/
def Asc (L : List (List UInt8)) : Prop := L.Pairwise (· < ·)

theorem word_irrefl (a : List UInt8) : ¬ a < a := List.lt_irrefl a
theorem word_trans {a b c : List UInt8} (h : a < b) (k : b < c) : a < c := List.lt_trans h k

theorem Asc.ext : ∀ {L M : List (List UInt8)}, Asc L → Asc M → (∀ k, k ∈ L ↔ k ∈ M) → L = M
  | [], [], _, _, _ => rfl
  | [], b :: M, _, _, h => by have := (h b).2 (by simp); simp at this
  | a :: L, [], _, _, h => by have := (h a).1 (by simp); simp at this
  | a :: L, b :: M, hL, hM, h => by
    have hL' := List.pairwise_cons.1 hL
    have hM' := List.pairwise_cons.1 hM
    have e : a = b := by
      have h1 : a = b ∨ a ∈ M := by simpa using (h a).1 (by simp)
      have h2 : b = a ∨ b ∈ L := by simpa using (h b).2 (by simp)
      rcases h1 with h1 | h1
      · exact h1
      · rcases h2 with h2 | h2
        · exact h2.symm
        · exact (word_irrefl _ (word_trans (hL'.1 b h2) (hM'.1 a h1))).elim
    subst e
    congr 1
    refine Asc.ext hL'.2 hM'.2 fun k => ?_
    constructor
    · intro hk
      have h1 : k = a ∨ k ∈ M := by simpa using (h k).1 (by simp [hk])
      rcases h1 with h1 | h1
      · subst h1; exact (word_irrefl _ (hL'.1 k hk)).elim
      · exact h1
    · intro hk
      have h1 : k = a ∨ k ∈ L := by simpa using (h k).2 (by simp [hk])
      rcases h1 with h1 | h1
      · subst h1; exact (word_irrefl _ (hM'.1 k hk)).elim
      · exact h1

theorem lt_at : ∀ (p : List UInt8) {a b : UInt8} (s u : List UInt8), a < b → (p ++ a :: s) < (p ++ b :: u)
  | [], a, b, s, u, h => by
    have : a ≠ b := by rintro rfl; exact UInt8.lt_irrefl _ h
    simpa [List.cons_lt_cons_iff, this] using h
  | x :: p, a, b, s, u, h => by
    have := lt_at p s u h
    simpa [List.cons_lt_cons_iff] using this
theorem lt_longer : ∀ (p : List UInt8) (a : UInt8) (s : List UInt8), p < p ++ a :: s
  | [], a, s => List.nil_lt_cons _ _
  | x :: p, a, s => by have := lt_longer p a s; simpa [List.cons_lt_cons_iff] using this
theorem lt_of_prefix {p k : List UInt8} (h : p <+: k) (hne : k ≠ p) : p < k := by
  obtain ⟨s, rfl⟩ := h
  cases s with
  | nil => simp at hne
  | cons a s => exact lt_longer p a s
theorem lt_of_parts {p k m : List UInt8} {a b : UInt8} (hk : p ++ [a] <+: k) (hm : p ++ [b] <+: m) (h : a < b) : k < m := by
  obtain ⟨s, rfl⟩ := hk
  obtain ⟨u, rfl⟩ := hm
  simpa using lt_at p s u h

/-- The words below p whose next byte P lets by. -/
def LsP (D : Node → Prop) (p : List UInt8) (P : UInt8 → Prop) (L : List (List UInt8)) : Prop := Asc L ∧ ∀ k, k ∈ L ↔ (∃ v, Has D k v) ∧ ∃ b, P b ∧ p ++ [b] <+: k
/-- The words below p. -/
def LsB (D : Node → Prop) (p : List UInt8) (L : List (List UInt8)) : Prop := Asc L ∧ ∀ k, k ∈ L ↔ (∃ v, Has D k v) ∧ p <+: k ∧ k ≠ p
/-- A node's own word, if it has an item. -/
def itL (V : Node) : List (List UInt8) := match V.item with | none => [] | some _ => [V.word]

section
variable {t : Nat} {D : Node → Prop} {X V : Node} {P : UInt8 → Prop} {L M : List (List UInt8)} {b : UInt8}

theorem LsP.nil (h : ∀ b, ¬ P b) (p : List UInt8) : LsP D p P [] := ⟨List.Pairwise.nil, fun k => ⟨fun h => by simp at h, fun ⟨_, b, hb, _⟩ => (h b hb).elim⟩⟩

theorem Kid.begins (hw : WF t D) (hk : Kid t D X b V) : X.word ++ [b] <+: V.word := by
  obtain ⟨h1, h2, h3, h4⟩ := hk
  rw [← V.par_pre, h3, List.prefix_append_right_inj]
  cases hp : V.pre with
  | nil => rw [hp] at h4; cases h4
  | cons a r => rw [hp] at h4; simp at h4; subst h4; exact ⟨r, rfl⟩

/-- What begins with a child's first byte begins with the child's word. -/
theorem Kid.below (hw : WF t D) (hX : D X) (hk : Kid t D X b V) {k : List UInt8} {v : Int} (hh : Has D k v) (hb : X.word ++ [b] <+: k) : V.word <+: k := by
  obtain ⟨Y, hY, rfl, _⟩ := hh
  obtain ⟨s, hs⟩ := hb
  have hne : X.word ≠ Y.word := by intro e; have := congrArg List.length hs; rw [← e] at this; simp at this
  obtain ⟨V', b', hk', hp, hb'⟩ := hw.kid_on_path hX _ Y (Nat.le_refl _) hY ⟨b :: s, by rw [← hs]; simp⟩ hne
  rw [← hs] at hb'
  simp at hb'
  subst hb'
  rw [hw.kid_unique hk hk']; exact hp

theorem LsP.kid (hw : WF t D) (hX : D X) (hk : Kid t D X b V) (h : LsP D X.word P L) (hP : ∀ a, P a → a < b) (hM : LsB D V.word M) : LsP D X.word (fun y => P y ∨ y = b) (L ++ itL V ++ M) := by
  have hb := hk.begins hw
  have hL : ∀ k ∈ L, ∀ m, X.word ++ [b] <+: m → k < m := by
    intro k hkL m hm
    obtain ⟨_, a, ha, hp⟩ := (h.2 k).1 hkL
    exact lt_of_parts hp hm (hP a ha)
  have hMk : ∀ m ∈ M, X.word ++ [b] <+: m := fun m hm => hb.trans ((hM.2 m).1 hm).2.1
  have hI : ∀ k, k ∈ itL V ↔ k = V.word ∧ ∃ v, V.item = some v := by
    intro k; unfold itL
    cases hv : V.item with
    | none => simp
    | some v => simp
  constructor
  · unfold Asc
    rw [List.pairwise_append, List.pairwise_append]
    refine ⟨⟨h.1, ?_, fun a ha m hm => ?_⟩, hM.1, fun a ha m hm => ?_⟩
    · unfold itL; cases V.item <;> simp
    · obtain ⟨rfl, _⟩ := (hI m).1 hm
      exact hL a ha _ hb
    · rcases List.mem_append.1 ha with ha | ha
      · exact hL a ha m (hMk m hm)
      · obtain ⟨rfl, _⟩ := (hI a).1 ha
        obtain ⟨_, h1, h2⟩ := (hM.2 m).1 hm
        exact lt_of_prefix h1 h2
  · intro k
    rw [List.mem_append, List.mem_append, h.2, hI, hM.2]
    constructor
    · rintro ((⟨h1, a, h2, h3⟩ | ⟨rfl, v, hv⟩) | ⟨h1, h2, h3⟩)
      · exact ⟨h1, a, .inl h2, h3⟩
      · exact ⟨⟨v, V, hk.1, rfl, hv⟩, b, .inr rfl, hb⟩
      · exact ⟨h1, b, .inr rfl, hb.trans h2⟩
    · rintro ⟨⟨v, hv⟩, a, ha | rfl, hp⟩
      · exact .inl (.inl ⟨⟨v, hv⟩, a, ha, hp⟩)
      · have hVk := hk.below hw hX hv hp
        by_cases e : k = V.word
        · obtain ⟨Y, hY, e1, e2⟩ := hv
          have := hw.winj Y V hY hk.1 (by rw [e1, e])
          subst this
          exact .inl (.inr ⟨e, v, e2⟩)
        · exact .inr ⟨⟨v, hv⟩, hVk, e⟩

theorem LsP.none (hw : WF t D) (hX : D X) (hk : ¬ ∃ V, Kid t D X b V) (h : LsP D X.word P L) : LsP D X.word (fun y => P y ∨ y = b) L := by
  refine ⟨h.1, fun k => ?_⟩
  rw [h.2]
  constructor
  · rintro ⟨h1, a, h2, h3⟩; exact ⟨h1, a, .inl h2, h3⟩
  · rintro ⟨⟨v, Y, hY, rfl, hv⟩, a, ha | rfl, hp⟩
    · exact ⟨⟨v, Y, hY, rfl, hv⟩, a, ha, hp⟩
    · exfalso
      obtain ⟨s, hs⟩ := hp
      have hne : X.word ≠ Y.word := by intro e; have := congrArg List.length hs; rw [← e] at this; simp at this
      obtain ⟨V', b', hk', hp, hb'⟩ := hw.kid_on_path hX _ Y (Nat.le_refl _) hY ⟨a :: s, by rw [← hs]; simp⟩ hne
      rw [← hs] at hb'
      simp at hb'
      subst hb'
      exact hk ⟨V', hk'⟩

theorem LsP.all (hw : WF t D) (hX : D X) (hk : ∀ b V, Kid t D X b V → P b) (h : LsP D X.word P L) : LsB D X.word L := by
  refine ⟨h.1, fun k => ?_⟩
  rw [h.2]
  constructor
  · rintro ⟨h1, a, h2, h3⟩
    refine ⟨h1, (List.prefix_append _ _).trans h3, fun e => ?_⟩
    have := h3.length_le
    rw [e] at this; simp at this
    omega
  · rintro ⟨⟨v, Y, hY, rfl, hv⟩, h2, h3⟩
    obtain ⟨V', b', hk', hp, hb'⟩ := hw.kid_on_path hX _ Y (Nat.le_refl _) hY h2 (Ne.symm h3)
    exact ⟨⟨v, Y, hY, rfl, hv⟩, b', hk b' V' hk', (hk'.begins hw).trans hp⟩
theorem LsP.congr {Q : UInt8 → Prop} {p : List UInt8} (h : LsP D p P L) (hPQ : ∀ b, P b ↔ Q b) : LsP D p Q L := by
  refine ⟨h.1, fun k => ?_⟩
  rw [h.2]
  constructor
  · rintro ⟨h1, a, h2, h3⟩; exact ⟨h1, a, (hPQ a).1 h2, h3⟩
  · rintro ⟨h1, a, h2, h3⟩; exact ⟨h1, a, (hPQ a).2 h2, h3⟩
end
end Go.Proofs.YtpopiaahdanpeaaGreatDoor
