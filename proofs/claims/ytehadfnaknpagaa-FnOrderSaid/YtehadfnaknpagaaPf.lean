/-
  THE PLAIN LAYER, SIXTH PART: the statements' laws over lists. Conditions: a valid world, valid terms.
-/
import Derived.Test.YtehadfnaknpagaaPe
namespace Go.Proofs.Ytehadfnaknpagaa.Pl

section
variable {us : List Int} {xs ys zs : List T}
theorem eqL_true (hw : WOk us) (hx : ∀ x ∈ xs, x.ok us) (hy : ∀ y ∈ ys, y.ok us) (h : ∀ t, memL us xs t = memL us ys t) : eqL us xs ys = true := (eqL_iff hw hx hy).2 fun t _ => h t
theorem eqL_refl (hw : WOk us) (hx : ∀ x ∈ xs, x.ok us) : eqL us xs xs = true := eqL_true hw hx hx fun _ => rfl
theorem subL_refl (hw : WOk us) (hx : ∀ x ∈ xs, x.ok us) : subL us xs xs = true := (subL_iff hw hx hx).2 fun _ _ h => h
theorem subL_trans (hw : WOk us) (hx : ∀ x ∈ xs, x.ok us) (hy : ∀ y ∈ ys, y.ok us) (hz : ∀ z ∈ zs, z.ok us) (h1 : subL us xs ys = true) (h2 : subL us ys zs = true) : subL us xs zs = true :=
  (subL_iff hw hx hz).2 fun t ht h => (subL_iff hw hy hz).1 h2 t ht ((subL_iff hw hx hy).1 h1 t ht h)
theorem union_sub (hw : WOk us) (hx : ∀ x ∈ xs, x.ok us) (hy : ∀ y ∈ ys, y.ok us) : eqL us (unionL us xs ys) ys = subL us xs ys := by
  rw [Bool.eq_iff_iff, eqL_iff hw (unionL_ok hw hx hy) hy, subL_iff hw hx hy]
  unfold Same
  constructor
  · intro h t ht hm
    rw [← h t ht, unionL_mem hw hx hy, hm]; rfl
  · intro h t ht
    rw [unionL_mem hw hx hy]
    cases hm : memL us xs t
    · rfl
    · rw [h t ht hm]; rfl
theorem inter_sub (hw : WOk us) (hx : ∀ x ∈ xs, x.ok us) (hy : ∀ y ∈ ys, y.ok us) : eqL us (interL us xs ys) xs = subL us xs ys := by
  rw [Bool.eq_iff_iff, eqL_iff hw (interL_ok hw hx hy) hx, subL_iff hw hx hy]
  unfold Same
  constructor
  · intro h t ht hm
    have := h t ht
    rw [interL_mem hw hx hy, hm] at this
    simpa using this
  · intro h t ht
    rw [interL_mem hw hx hy]
    cases hm : memL us xs t
    · rfl
    · rw [h t ht hm]; rfl
theorem all1_ok : ∀ y ∈ [T.all], y.ok us := one_ok trivial
theorem memL_all (t : Nat) : memL us [.all] t = true := by rw [memL_one]; rfl
theorem union_nil (hw : WOk us) (hx : ∀ x ∈ xs, x.ok us) : eqL us (unionL us xs []) xs = true :=
  eqL_true hw (unionL_ok hw hx nil_ok) hx fun t => by rw [unionL_mem hw hx nil_ok, memL_nil, Bool.or_false]
theorem inter_all (hw : WOk us) (hx : ∀ x ∈ xs, x.ok us) : eqL us (interL us xs [.all]) xs = true :=
  eqL_true hw (interL_ok hw hx all1_ok) hx fun t => by rw [interL_mem hw hx all1_ok, memL_all, Bool.and_true]
theorem inter_nil (hw : WOk us) (hx : ∀ x ∈ xs, x.ok us) : emptyL (interL us xs []) = true := by
  rw [isEmpty_law (interL_ok hw hx nil_ok), subS_iff]
  intro t _ h
  rw [interL_mem hw hx nil_ok, memL_nil, Bool.and_false] at h; cases h
theorem union_all (hw : WOk us) (hx : ∀ x ∈ xs, x.ok us) : allL (unionL us xs [.all]) = true := by
  rw [isAll_law hw (unionL_ok hw hx all1_ok), subS_iff]
  intro t _ _
  rw [unionL_mem hw hx all1_ok, memL_all, Bool.or_true]
theorem inclL_mem {t : Nat} (ht : t < us.length) : inclL us xs t = memL us xs t := by
  unfold inclL memL
  congr 1
  funext x
  exact incl_mem ht
theorem members_union (hw : WOk us) (hx : ∀ x ∈ xs, x.ok us) (hy : ∀ y ∈ ys, y.ok us) {t : Nat} (ht : t < us.length) : inclL us (unionL us xs ys) t = (inclL us xs t || inclL us ys t) := by
  rw [inclL_mem ht, inclL_mem ht, inclL_mem ht, unionL_mem hw hx hy]
theorem members_inter (hw : WOk us) (hx : ∀ x ∈ xs, x.ok us) (hy : ∀ y ∈ ys, y.ok us) {t : Nat} (ht : t < us.length) : inclL us (interL us xs ys) t = (inclL us xs t && inclL us ys t) := by
  rw [inclL_mem ht, inclL_mem ht, inclL_mem ht, interL_mem hw hx hy]
theorem sub_includes (hw : WOk us) (hx : ∀ x ∈ xs, x.ok us) (hy : ∀ y ∈ ys, y.ok us) {t : Nat} (ht : t < us.length) (h : subL us xs ys = true) (hi : inclL us xs t = true) : inclL us ys t = true := by
  rw [inclL_mem ht] at hi ⊢
  exact (subL_iff hw hx hy).1 h t (by unfold top; omega) hi
theorem norm_same (hw : WOk us) (hx : ∀ x ∈ xs, x.ok us) : sameS us (norm us xs) xs = true := by
  rw [← eqL_sameS hw (norm_ok hw hx) hx]
  exact eqL_true hw (norm_ok hw hx) hx fun t => norm_mem hw hx t
theorem norm_eq (hw : WOk us) (hx : ∀ x ∈ xs, x.ok us) : eqL us xs (norm us xs) = true := eqL_true hw hx (norm_ok hw hx) fun t => (norm_mem hw hx t).symm
theorem norm_eq2 (hw : WOk us) (hx : ∀ x ∈ xs, x.ok us) (hy : ∀ y ∈ ys, y.ok us) : eqL us xs ys = eqL us (norm us xs) (norm us ys) := by
  rw [Bool.eq_iff_iff, eqL_iff hw hx hy, eqL_iff hw (norm_ok hw hx) (norm_ok hw hy)]
  unfold Same
  constructor
  · intro h t ht; rw [norm_mem hw hx, norm_mem hw hy]; exact h t ht
  · intro h t ht; have := h t ht; rw [norm_mem hw hx, norm_mem hw hy] at this; exact this
theorem union_is (hw : WOk us) (hx : ∀ x ∈ xs, x.ok us) (hy : ∀ y ∈ ys, y.ok us) : isUnionS us (unionL us xs ys) xs ys = true := isUnionS_iff.2 fun t _ => unionL_mem hw hx hy t
theorem inter_is (hw : WOk us) (hx : ∀ x ∈ xs, x.ok us) (hy : ∀ y ∈ ys, y.ok us) : isInterS us (interL us xs ys) xs ys = true := isInterS_iff.2 fun t _ => interL_mem hw hx hy t
theorem union_comm (hw : WOk us) (hx : ∀ x ∈ xs, x.ok us) (hy : ∀ y ∈ ys, y.ok us) : eqL us (unionL us xs ys) (unionL us ys xs) = true :=
  eqL_true hw (unionL_ok hw hx hy) (unionL_ok hw hy hx) fun t => by rw [unionL_mem hw hx hy, unionL_mem hw hy hx, Bool.or_comm]
theorem inter_comm (hw : WOk us) (hx : ∀ x ∈ xs, x.ok us) (hy : ∀ y ∈ ys, y.ok us) : eqL us (interL us xs ys) (interL us ys xs) = true :=
  eqL_true hw (interL_ok hw hx hy) (interL_ok hw hy hx) fun t => by rw [interL_mem hw hx hy, interL_mem hw hy hx, Bool.and_comm]
theorem union_assoc (hw : WOk us) (hx : ∀ x ∈ xs, x.ok us) (hy : ∀ y ∈ ys, y.ok us) (hz : ∀ z ∈ zs, z.ok us) : eqL us (unionL us (unionL us xs ys) zs) (unionL us xs (unionL us ys zs)) = true :=
  eqL_true hw (unionL_ok hw (unionL_ok hw hx hy) hz) (unionL_ok hw hx (unionL_ok hw hy hz)) fun t => by
    rw [unionL_mem hw (unionL_ok hw hx hy) hz, unionL_mem hw hx hy, unionL_mem hw hx (unionL_ok hw hy hz), unionL_mem hw hy hz, Bool.or_assoc]
theorem inter_assoc (hw : WOk us) (hx : ∀ x ∈ xs, x.ok us) (hy : ∀ y ∈ ys, y.ok us) (hz : ∀ z ∈ zs, z.ok us) : eqL us (interL us (interL us xs ys) zs) (interL us xs (interL us ys zs)) = true :=
  eqL_true hw (interL_ok hw (interL_ok hw hx hy) hz) (interL_ok hw hx (interL_ok hw hy hz)) fun t => by
    rw [interL_mem hw (interL_ok hw hx hy) hz, interL_mem hw hx hy, interL_mem hw hx (interL_ok hw hy hz), interL_mem hw hy hz, Bool.and_assoc]
theorem inter_union (hw : WOk us) (hx : ∀ x ∈ xs, x.ok us) (hy : ∀ y ∈ ys, y.ok us) (hz : ∀ z ∈ zs, z.ok us) : eqL us (interL us xs (unionL us ys zs)) (unionL us (interL us xs ys) (interL us xs zs)) = true :=
  eqL_true hw (interL_ok hw hx (unionL_ok hw hy hz)) (unionL_ok hw (interL_ok hw hx hy) (interL_ok hw hx hz)) fun t => by
    rw [interL_mem hw hx (unionL_ok hw hy hz), unionL_mem hw hy hz, unionL_mem hw (interL_ok hw hx hy) (interL_ok hw hx hz), interL_mem hw hx hy, interL_mem hw hx hz]
    cases memL us xs t <;> cases memL us ys t <;> cases memL us zs t <;> rfl
theorem union_inter (hw : WOk us) (hx : ∀ x ∈ xs, x.ok us) (hy : ∀ y ∈ ys, y.ok us) (hz : ∀ z ∈ zs, z.ok us) : eqL us (unionL us xs (interL us ys zs)) (interL us (unionL us xs ys) (unionL us xs zs)) = true :=
  eqL_true hw (unionL_ok hw hx (interL_ok hw hy hz)) (interL_ok hw (unionL_ok hw hx hy) (unionL_ok hw hx hz)) fun t => by
    rw [unionL_mem hw hx (interL_ok hw hy hz), interL_mem hw hy hz, interL_mem hw (unionL_ok hw hx hy) (unionL_ok hw hx hz), unionL_mem hw hx hy, unionL_mem hw hx hz]
    cases memL us xs t <;> cases memL us ys t <;> cases memL us zs t <;> rfl
theorem absorb_1 (hw : WOk us) (hx : ∀ x ∈ xs, x.ok us) (hy : ∀ y ∈ ys, y.ok us) : eqL us (unionL us xs (interL us xs ys)) xs = true :=
  eqL_true hw (unionL_ok hw hx (interL_ok hw hx hy)) hx fun t => by
    rw [unionL_mem hw hx (interL_ok hw hx hy), interL_mem hw hx hy]
    cases memL us xs t <;> cases memL us ys t <;> rfl
theorem absorb_2 (hw : WOk us) (hx : ∀ x ∈ xs, x.ok us) (hy : ∀ y ∈ ys, y.ok us) : eqL us (interL us xs (unionL us xs ys)) xs = true :=
  eqL_true hw (interL_ok hw hx (unionL_ok hw hx hy)) hx fun t => by
    rw [interL_mem hw hx (unionL_ok hw hx hy), unionL_mem hw hx hy]
    cases memL us xs t <;> cases memL us ys t <;> rfl
theorem sub_one (x y : T) : subL us [x] [y] = sub1 us x y := by cases x <;> cases y <;> simp [subL, emptyL, superL, T.isNo, sub1]
theorem incl_one (x : T) (t : Nat) : inclL us [x] t = incl us x t := by simp [inclL]
end
end Go.Proofs.Ytehadfnaknpagaa.Pl
