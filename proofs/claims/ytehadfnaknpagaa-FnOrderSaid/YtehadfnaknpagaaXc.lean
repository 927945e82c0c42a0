/-
  THE LAWS' FRAME: words that the walks of the laws share. Conditions: none but those that each lemma names.
-/
import Derived.Test.YtehadfnaknpagaaXa
import Derived.Test.YtehadfnaknpagaaXb
import Derived.Test.YtehadfnaknpagaaPf
namespace Go.Proofs.Ytehadfnaknpagaa
open Go.ChangeShapes Go.WideShapes Go.ChangeAt Go.RowKit Pl

/-- a world and lists are valid -/
def VX (us : List Int) (l : List (List Tm)) : Bool := (l.all (VB us)) && WB us
theorem vls_vx {us : List Int} {ls : List Sl} {b : Bool} (h : VX us (ls.map Sl.xs) = b) : VLs us ls = b := by
  rw [← h]
  unfold VLs VX
  rw [List.all_map]
  rfl
theorem vx_iff {us : List Int} {l : List (List Tm)} (h : VX us l = true) : WOk us ∧ ∀ xs ∈ l, xs.all (TB us) = true := by
  unfold VX at h
  rw [Bool.and_eq_true, List.all_eq_true] at h
  obtain ⟨h1, h2⟩ := h
  refine ⟨wok_of h2, fun s hs => ?_⟩
  have := h1 s hs
  unfold VB at this
  rw [Bool.and_eq_true] at this
  exact this.2
theorem back_T2 (zs : List T) : terms (zs.map ofT) = zs := back_T zs
theorem terms_ok {us : List Int} {ts : List Tm} (h : ts.all (TB us) = true) : ∀ x ∈ terms ts, x.ok us := ok_of h
theorem terms_len (ts : List Tm) : (terms ts).length = ts.length := by simp [terms]
theorem al (w : World) (o : Obj) : Below w.heap.size w (w.alloc o) := (Below.refl _ _).alloc (Nat.le_refl _) o
theorem after {w0 w w' : World} (h : Below w0.heap.size w0 w) (hb : Below w.heap.size w w') : Below w0.heap.size w0 w' := h.trans (hb.mono h.size)
theorem one_t {us : List Int} {t : Int} (h : [(⟨2, false, t⟩ : Tm)].all (TB us) = true) : ∃ n : Nat, t = n ∧ n < us.length := by
  simp [TB] at h
  exact ⟨t.toNat, by omega, by omega⟩
theorem mul_bd {p q : Nat} (h : p + q ≤ 1048577) : p * q ≤ 1099511627776 := by
  by_cases h1 : p = 0
  · rw [h1, Nat.zero_mul]; omega
  by_cases h2 : q = 0
  · rw [h2, Nat.mul_zero]; omega
  exact (Nat.mul_le_mul (by omega) (by omega) : p * q ≤ 1048576 * 1048576)
theorem mul_bd2 {p q : Nat} (h1 : p ≤ 1048576) (h2 : q ≤ 1048576) : p * q ≤ 1099511627776 := (Nat.mul_le_mul h1 h2 : p * q ≤ 1048576 * 1048576)
/-- the made lists' facts -/
theorem made_ok {us : List Int} {zs : List T} (h : ∀ z ∈ zs, z.ok us) : ∀ z ∈ terms (zs.map ofT), z.ok us := by rw [back_T2]; exact h
theorem made_len {zs : List T} {N : Nat} (h : zs.length ≤ N) : (zs.map ofT).length ≤ N := by rw [List.length_map]; exact h
theorem tall_ok {us : List Int} : [(⟨1, false, 0⟩ : Tm)].all (TB us) = true := rfl
theorem vb_of {us : List Int} {ts : List Tm} (hw : WB us = true) (h : ts.all (TB us) = true) : VB us ts = true := by unfold VB; rw [hw, h]; rfl
theorem vx_wb {us : List Int} {l : List (List Tm)} (h : VX us l = true) : WB us = true := by
  unfold VX at h
  rw [Bool.and_eq_true] at h
  exact h.2
end Go.Proofs.Ytehadfnaknpagaa
