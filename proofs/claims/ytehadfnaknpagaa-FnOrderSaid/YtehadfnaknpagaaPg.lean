/-
  THE PLAIN LAYER, SEVENTH PART: the statements' laws over single terms, over the order of a list, and over types with tildes. Conditions: a valid world, valid terms.
-/
import Derived.Test.YtehadfnaknpagaaPf
namespace Go.Proofs.Ytehadfnaknpagaa.Pl

section
variable {us : List Int} {xs ys : List T} {x y : T}
theorem term_eq (hw : WOk us) (hx : x.ok us) (hy : y.ok us) : sameS us [x] [y] = eq1 x y := by
  rw [eq1_iff (us := us) hx hy, eqL_sameS hw (one_ok hx) (one_ok hy)]
theorem term_sub (hw : WOk us) (hx : x.ok us) (hy : y.ok us) : subS us [x] [y] = sub1 us x y := by
  rw [← sub_one, subL_subS hw (one_ok hx) (one_ok hy)]
theorem term_inter (hw : WOk us) (hx : x.ok us) (hy : y.ok us) : isInterS us [inter1 us x y] [x] [y] = true :=
  isInterS_iff.2 fun t _ => by rw [memL_one, memL_one, memL_one, inter1_mem hw hx hy]
theorem memL_two (us : List Int) (x y : T) (t : Nat) : memL us [x, y] t = (mem us x t || mem us y t) := by simp [memL]
theorem term_union (hw : WOk us) (hx : x.ok us) (hy : y.ok us) : isUnionS us [(union1 us x y).1, (union1 us x y).2] [x] [y] = true :=
  isUnionS_iff.2 fun t _ => by rw [memL_one, memL_one, memL_two, union1_mem hw hx hy]
theorem super_law (hw : WOk us) (hx : ∀ x ∈ xs, x.ok us) (hy : y.ok us) : superL us xs y = xs.any fun z => subS us [y] [z] := by
  unfold superL
  rw [Bool.eq_iff_iff, List.any_eq_true, List.any_eq_true]
  constructor
  · rintro ⟨z, hz, h⟩; exact ⟨z, hz, by rw [term_sub hw hy (hx z hz)]; exact h⟩
  · rintro ⟨z, hz, h⟩; exact ⟨z, hz, by rw [term_sub hw hy (hx z hz)] at h; exact h⟩
theorem sub_no (us : List Int) (y : T) : sub1 us .no y = true := by cases y <;> rfl
theorem onebyone (us : List Int) (xs ys : List T) : subL us xs ys = xs.all fun a => a.isNo || superL us ys a := by
  unfold subL
  by_cases he : emptyL ys = true
  · rw [if_pos he]
    unfold emptyL at he ⊢
    rw [List.all_eq_true] at he
    rw [Bool.eq_iff_iff, List.all_eq_true, List.all_eq_true]
    constructor
    · intro h a ha; rw [h a ha]; rfl
    · intro h a ha
      have := h a ha
      rw [Bool.or_eq_true] at this
      rcases this with h1 | h1
      · exact h1
      · unfold superL at h1
        rw [List.any_eq_true] at h1
        obtain ⟨y, hy, h2⟩ := h1
        have h3 := he y hy
        cases y <;> first | (cases h3; done) | (cases a <;> first | rfl | (cases h2; done))
  · rw [if_neg he, Bool.eq_iff_iff, List.all_eq_true, List.all_eq_true]
    constructor
    · intro h a ha; rw [h a ha, Bool.or_true]
    · intro h a ha
      have := h a ha
      rw [Bool.or_eq_true] at this
      rcases this with h1 | h1
      · have hex : ∃ y, y ∈ ys := by
          cases ys with
          | nil => exact absurd rfl he
          | cons y r => exact ⟨y, by simp⟩
        obtain ⟨y, hym⟩ := hex
        unfold superL
        rw [List.any_eq_true]
        refine ⟨y, hym, ?_⟩
        cases a <;> first | exact sub_no us y | cases h1
      · exact h1
theorem eqL_one (x y : T) (hx : x.ok us) (hy : y.ok us) : eqL us [x] [y] = eq1 x y := (eq1_iff hx hy).symm

/-! the order of a list -/
theorem rot_ok {k : Nat} (hx : ∀ x ∈ xs, x.ok us) : ∀ z ∈ xs.drop k ++ xs.take k, z.ok us := by
  intro z hz
  rw [List.mem_append] at hz
  rcases hz with h | h
  · exact hx z (List.mem_of_mem_drop h)
  · exact hx z (List.mem_of_mem_take h)
theorem rot_mem (us : List Int) (xs : List T) (k t : Nat) : memL us (xs.drop k ++ xs.take k) t = memL us xs t := by
  have h : memL us xs t = memL us (xs.take k ++ xs.drop k) t := by rw [List.take_append_drop]
  rw [h, memL_append, memL_append, Bool.or_comm]
theorem order_1 (hw : WOk us) (hx : ∀ x ∈ xs, x.ok us) (k : Nat) : eqL us xs (xs.drop k ++ xs.take k) = true := eqL_true hw hx (rot_ok hx) fun t => (rot_mem us xs k t).symm
theorem order_2 (hw : WOk us) (hx : ∀ x ∈ xs, x.ok us) (k : Nat) : eqL us (xs.drop k ++ xs.take k ++ xs) xs = true :=
  eqL_true hw (append_ok (rot_ok hx) hx) hx fun t => by rw [memL_append, rot_mem, Bool.or_self]
theorem order_3 (hw : WOk us) (hx : ∀ x ∈ xs, x.ok us) (k : Nat) : subL us (xs.drop k ++ xs.take k) xs = true :=
  (subL_iff hw (rot_ok hx) hx).2 fun t _ h => by rw [rot_mem] at h; exact h

/-! tildes -/
theorem til_incl {n : Nat} (h : un us n = n) : incl us (.one true n) n = true := by simp [incl, h]
theorem til_sub {n : Nat} (h : un us n = n) : sub1 us (.one false n) (.one true n) = true := by simp [sub1, disj, h]
theorem til_not (n m : Nat) : sub1 us (.one true n) (.one false m) = false := by simp [sub1]
theorem til_list (n : Nat) (ms : List Nat) : subL us [.one true n] (ms.map fun m => T.one false m) = false := by
  rw [onebyone]
  simp only [List.all_cons, List.all_nil, Bool.and_true, T.isNo, Bool.false_or]
  unfold superL
  rw [List.any_eq_false]
  intro y hy
  rw [List.mem_map] at hy
  obtain ⟨m, _, rfl⟩ := hy
  rw [til_not]; simp

/-! the normal form -/
theorem short_no (hw : WOk us) (hx : ∀ x ∈ xs, x.ok us) : ∀ z ∈ norm us xs, z.isNo = false := fun z hz => ((norm_spec hw hx).1 z hz).2
end
end Go.Proofs.Ytehadfnaknpagaa.Pl
