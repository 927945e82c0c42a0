/-
  THE PLAIN LAYER, SECOND PART: the reference's loops over points, and small laws on lists. Conditions: none but those that each lemma names.
-/
import Derived.Test.YtehadfnaknpagaaPa
namespace Go.Proofs.Ytehadfnaknpagaa.Pl

/-- the first k numbers do not meet p -/
def NonR (p : Nat → Bool) (k : Nat) : Prop := ∀ i, i < k → p i = false
theorem NonR.zero {p : Nat → Bool} : NonR p 0 := fun _ h => absurd h (by omega)
theorem NonR.succ {p : Nat → Bool} {k : Nat} (h : NonR p k) (hp : p k = false) : NonR p (k + 1) := by
  intro i hi
  by_cases e : i = k
  · subst e; exact hp
  · exact h i (by omega)
theorem NonR.all {p : Nat → Bool} {k n : Nat} (h : NonR p k) (hk : ¬ k < n) : ((List.range n).all fun t => !p t) = true := by
  rw [List.all_eq_true]
  intro t ht
  rw [h t (by have := List.mem_range.1 ht; omega)]; rfl
theorem all_hit {p : Nat → Bool} {k n : Nat} (hk : k < n) (hp : p k = true) : ((List.range n).all fun t => !p t) = false := by
  rw [List.all_eq_false]
  exact ⟨k, List.mem_range.2 hk, by rw [hp]; decide⟩

def isUnionS (us : List Int) (zs xs ys : List T) : Bool := (List.range (top us)).all fun t => !(memL us zs t != (memL us xs t || memL us ys t))
def isInterS (us : List Int) (zs xs ys : List T) : Bool := (List.range (top us)).all fun t => !(memL us zs t != (memL us xs t && memL us ys t))
def disjS (us : List Int) (x y : T) : Bool := (List.range (top us)).all fun t => !(mem us x t && mem us y t)
theorem subS_eq (us : List Int) (xs ys : List T) : subS us xs ys = (List.range (top us)).all fun t => !(memL us xs t && !memL us ys t) := by
  unfold subS
  congr 1
  funext t
  cases memL us xs t <;> cases memL us ys t <;> rfl
theorem isUnionS_iff {us : List Int} {zs xs ys : List T} : isUnionS us zs xs ys = true ↔ ∀ t, t < top us → memL us zs t = (memL us xs t || memL us ys t) := by
  unfold isUnionS
  rw [List.all_eq_true]
  constructor
  · intro h t ht
    have := h t (List.mem_range.2 ht)
    simpa using this
  · intro h t ht
    have := h t (List.mem_range.1 ht)
    simp [this]
theorem isInterS_iff {us : List Int} {zs xs ys : List T} : isInterS us zs xs ys = true ↔ ∀ t, t < top us → memL us zs t = (memL us xs t && memL us ys t) := by
  unfold isInterS
  rw [List.all_eq_true]
  constructor
  · intro h t ht
    have := h t (List.mem_range.2 ht)
    simpa using this
  · intro h t ht
    have := h t (List.mem_range.1 ht)
    simp [this]
theorem disjS_disj {us : List Int} (hw : WOk us) {b c : Bool} {n m : Nat} (hx : T.ok us (.one b n)) (hy : T.ok us (.one c m)) : disj us (.one b n) (.one c m) = disjS us (.one b n) (.one c m) := by
  cases hd : disj us (.one b n) (.one c m) with
  | true =>
    symm
    unfold disjS
    rw [List.all_eq_true]
    intro t _
    have := disj_mem hw hx hy hd t
    cases h1 : mem us (.one b n) t <;> cases h2 : mem us (.one c m) t <;> simp_all
  | false =>
    obtain ⟨t, ht, h1, h2⟩ := notdisj_mem hx hy hd
    symm
    unfold disjS
    rw [List.all_eq_false]
    exact ⟨t, List.mem_range.2 (by unfold top; omega), by rw [h1, h2]; decide⟩
end Go.Proofs.Ytehadfnaknpagaa.Pl
