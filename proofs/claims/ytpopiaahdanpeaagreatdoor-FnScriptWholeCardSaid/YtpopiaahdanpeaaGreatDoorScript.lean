/- Scripts over a map from words to numbers: what each step says. Plain, no program. -/
import Derived.Test.YtpopiaahdanpeaaGreatDoorWords
import Derived.Test.YtpopiaahdanpeaaGreatDoorShape
import Derived.Shelf.Strconv.Itoa3
namespace Go.Proofs.YtpopiaahdanpeaaGreatDoor
open Go Go.RowKit
set_option linter.unusedVariables false

abbrev Word := List UInt8
abbrev Tab := Word → Option Int
def Tab.put (M : Tab) (k : Word) (x : Option Int) : Tab := fun y => if y = k then x else M y
def Tab.cut (M : Tab) (p : Word) : Tab := fun y => if p <+: y then none else M y

/-- The keys that begin with p, in order. -/
def Keys (M : Tab) (p : Word) (L : List Word) : Prop := Asc L ∧ ∀ k, k ∈ L ↔ M k ≠ none ∧ p <+: k

/-- words with commas behind -/
def joined (L : List Word) : Word := L.flatMap fun k => k ++ [44]
theorem joined_snoc (L : List Word) (k : Word) : joined (L ++ [k]) = joined L ++ (k ++ [44]) := by simp [joined]

structure Step where
  kind : Nat
  word : Word
  n : Int

/-- What a step says and leaves. -/
inductive Tells : Tab → Step → Word → Tab → Prop
  | insNew {M : Tab} {k : Word} {n : Int} : M k = none → Tells M ⟨0, k, n⟩ (Lib.formatBool true) (M.put k (some n))
  | insOld {M : Tab} {k : Word} {n v : Int} : M k = some v → Tells M ⟨0, k, n⟩ (Lib.formatBool false) M
  | set {M : Tab} {k : Word} {n : Int} : Tells M ⟨1, k, n⟩ [115, 101, 116] (M.put k (some n))
  | del {M : Tab} {k : Word} {n v : Int} : M k = some v → k ≠ [65] → k ≠ [90] → Tells M ⟨2, k, n⟩ (Lib.formatBool true) (M.put k none)
  | cut {M : Tab} {c : UInt8} {n : Int} : 97 ≤ c.toNat → (∃ k, M k ≠ none ∧ [c] <+: k) → Tells M ⟨3, [c], n⟩ (Lib.formatBool true) (M.cut [c])
  | getYes {M : Tab} {k : Word} {n v : Int} : M k = some v → Tells M ⟨4, k, n⟩ (Lib.itoa v ++ [32] ++ Lib.formatBool true) M
  | getNo {M : Tab} {k : Word} {n : Int} : M k = none → Tells M ⟨4, k, n⟩ (Lib.itoa 0 ++ [32] ++ Lib.formatBool false) M
  | under {M : Tab} {k : Word} {n : Int} {L : List Word} : Keys M k L → Tells M ⟨5, k, n⟩ (joined L) M

/-- What the law's tables are. -/
structure Fair (M : Tab) (i : Nat) : Prop where
  good : ∀ k v, M k = some v → Good k ∧ k ≠ [] ∧ 0 ≤ v ∧ v ≤ 255
  few : ∃ A : List Word, A.length ≤ i ∧ ∀ k, M k ≠ none → k ∈ A
end Go.Proofs.YtpopiaahdanpeaaGreatDoor
