/-
  THE LAWS' FRAME, FOURTH PART: what a loop over a list of terms has gathered. Conditions: those that each lemma names.
-/
import Derived.Test.YtehadfnaknpagaaXe
namespace Go.Proofs.Ytehadfnaknpagaa
open Go.RowKit Pl

theorem terms_take {xs : List Tm} {k : Nat} (h : k < xs.length) : (terms xs).take (k + 1) = (terms xs).take k ++ [toT xs[k]] := by
  have h' : k < (terms xs).length := by rw [terms_len]; exact h
  rw [List.take_succ_eq_append_getElem h']
  congr 1
  simp [terms]
theorem take_all (p : T → Bool) {xs : List Tm} {k : Nat} (h : k < xs.length) : ((terms xs).take (k + 1)).all p = (((terms xs).take k).all p && p (toT xs[k])) := by
  rw [terms_take h, List.all_append]; simp
theorem take_any (p : T → Bool) {xs : List Tm} {k : Nat} (h : k < xs.length) : ((terms xs).take (k + 1)).any p = (((terms xs).take k).any p || p (toT xs[k])) := by
  rw [terms_take h, List.any_append]; simp
theorem take_end (xs : List Tm) : (terms xs).take xs.length = terms xs := List.take_of_length_le (by rw [terms_len]; exact Nat.le_refl _)
/-- an empty term, or a part of a term of the list -/
def OB (us : List Int) (ys : List T) (a : T) : Bool := a.isNo || superL us ys a
theorem ob_no (us : List Int) (ys : List T) {x : Tm} (h : x.kind = 0) : OB us ys (toT x) = true := by simp [OB, toT, h, T.isNo]
theorem ob_some (us : List Int) (ys : List T) {x : Tm} (h : ¬ x.kind = 0) : OB us ys (toT x) = superL us ys (toT x) := by
  have : (toT x).isNo = false := by
    unfold toT
    rw [if_neg h]
    split <;> rfl
  unfold OB
  rw [this, Bool.false_or]
theorem isAll_kind (x : Tm) : (toT x).isAll = decide (x.kind = 1) := by
  unfold toT
  by_cases h0 : x.kind = 0
  · rw [if_pos h0, h0]; rfl
  · rw [if_neg h0]
    by_cases h1 : x.kind = 1
    · rw [if_pos h1, h1]; rfl
    · rw [if_neg h1]; simp [T.isAll, h1]
theorem short_facts {us : List Int} {xs : List Tm} (hw : WOk us) (hx : ∀ x ∈ terms xs, x.ok us) :
    ∃ zs : List Tm, zs = (norm us (terms xs)).map ofT ∧ (∀ i (hi : i < zs.length), ¬ zs[i].kind = 0) ∧ zs.length ≤ xs.length ∧ (allL (terms xs) = true → zs.length = 1 ∧ ∀ i (hi : i < zs.length), zs[i].kind = 1) := by
  refine ⟨_, rfl, fun i hi => ?_, ?_, fun h => ?_⟩
  · rw [List.getElem_map]
    have h := short_no hw hx _ (List.getElem_mem (by simpa using hi : i < (norm us (terms xs)).length))
    cases hz : (norm us (terms xs))[i]'(by simpa using hi) with
    | no => rw [hz] at h; cases h
    | all => simp [ofT]
    | one b n => simp [ofT]
  · rw [List.length_map]
    have h := (norm_spec hw hx).2.1
    rw [terms_len] at h
    exact h
  · rw [norm_all h]
    refine ⟨rfl, fun i hi => ?_⟩
    have : i = 0 := by simp at hi; exact hi
    subst this
    rfl
end Go.Proofs.Ytehadfnaknpagaa
