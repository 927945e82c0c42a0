/-
  THE PLAIN LAYER, FIFTH PART: the statements' own laws, in plain Lean. Conditions: a valid world, valid terms.
-/
import Derived.Test.YtehadfnaknpagaaPd
namespace Go.Proofs.Ytehadfnaknpagaa.Pl

def terms' (ts : List Tm) : List T := ts.map toT
theorem ok_of {us : List Int} {ts : List Tm} (h : ts.all (TB us) = true) : ∀ x ∈ ts.map toT, x.ok us := by
  intro x hx
  rw [List.mem_map] at hx
  obtain ⟨t, ht, rfl⟩ := hx
  rw [List.all_eq_true] at h
  exact tok_of (h t ht)
theorem one_ok {us : List Int} {x : T} (h : x.ok us) : ∀ y ∈ [x], y.ok us := by
  intro y hy
  simp at hy
  rw [hy]; exact h
theorem nil_ok {us : List Int} : ∀ y ∈ ([] : List T), y.ok us := by intro y hy; simp at hy
theorem all_tb {us : List Int} (hw : WOk us) {zs : List T} (h : ∀ z ∈ zs, z.ok us) : (zs.map ofT).all (TB us) = true := by
  rw [List.all_eq_true]
  intro t ht
  rw [List.mem_map] at ht
  obtain ⟨z, hz, rfl⟩ := ht
  exact tb_ofT hw (h z hz)
theorem back_T (zs : List T) : (zs.map ofT).map toT = zs := by
  rw [List.map_map]
  have : toT ∘ ofT = id := by funext z; exact toT_ofT z
  rw [this, List.map_id]

theorem memL_nil (us : List Int) (t : Nat) : memL us [] t = false := rfl
theorem memL_one (us : List Int) (x : T) (t : Nat) : memL us [x] t = mem us x t := by simp [memL]

theorem isEmpty_law {us : List Int} {xs : List T} (hx : ∀ x ∈ xs, x.ok us) : emptyL xs = subS us xs [] := by
  rw [Bool.eq_iff_iff, subS_iff]
  constructor
  · intro h t _ ht
    rw [emptyL_mem h t] at ht; cases ht
  · intro h
    unfold emptyL
    rw [List.all_eq_true]
    intro x hxm
    cases hn : x.isNo with
    | true => rfl
    | false =>
      have := h (wit us x) (wit_lt (hx x hxm)) (by unfold memL; rw [List.any_eq_true]; exact ⟨x, hxm, wit_mem (hx x hxm) hn⟩)
      rw [memL_nil] at this; cases this
theorem allL_mem {us : List Int} {xs : List T} (h : allL xs = true) (t : Nat) : memL us xs t = true := by
  unfold allL at h
  rw [List.any_eq_true] at h
  obtain ⟨x, hx, ha⟩ := h
  unfold memL
  rw [List.any_eq_true]
  refine ⟨x, hx, ?_⟩
  cases x <;> first | rfl | cases ha
theorem isAll_law {us : List Int} {xs : List T} (hw : WOk us) (hx : ∀ x ∈ xs, x.ok us) : allL xs = subS us [.all] xs := by
  rw [Bool.eq_iff_iff, subS_iff]
  constructor
  · intro h t _ _
    exact allL_mem h t
  · intro h
    have h1 := h (2 * us.length) (by unfold top; omega) (by rw [memL_one]; rfl)
    unfold memL at h1
    rw [List.any_eq_true] at h1
    obtain ⟨x, hxm, hm⟩ := h1
    unfold allL
    rw [List.any_eq_true]
    refine ⟨x, hxm, ?_⟩
    have := mem_sub1 hw (x := .all) trivial (hx x hxm) rfl hm
    cases x <;> simp_all [sub1, T.isAll]
end Go.Proofs.Ytehadfnaknpagaa.Pl
