/-
  THE LAWS' FRAME, FIFTH PART: words of the law FnOrder: the place of the turn, the capacity of a list that came in. Conditions: those that each lemma names.
-/
import Derived.Test.YtehadfnaknpagaaXf
namespace Go.Proofs.Ytehadfnaknpagaa
open Go.RowKit Pl

theorem tmod_lo (n : Int) {b : Int} (h : 0 < b) : -b < n.tmod b ∧ n.tmod b < b := by
  refine ⟨?_, Int.tmod_lt_of_pos n h⟩
  by_cases hn : 0 ≤ n
  · have := Int.tmod_nonneg b hn; omega
  · have h1 : (-n).tmod b < b := Int.tmod_lt_of_pos (-n) h
    rw [Int.neg_tmod] at h1
    omega
theorem rot_k (n : Int) {L : Nat} (h : L ≤ 2147483647) : ∃ k : Nat, (wrap64 (wrap64 (n.tmod ((L : Int) + 1) + (L : Int)) + 1)).tmod ((L : Int) + 1) = (k : Int) ∧ k ≤ L := by
  obtain ⟨h1, h2⟩ := tmod_lo n (b := (L : Int) + 1) (by omega)
  rw [IntWalk.wrap64_in (n.tmod ((L : Int) + 1) + (L : Int)) (by omega), IntWalk.wrap64_in _ (by omega)]
  have h3 := Int.tmod_nonneg ((L : Int) + 1) (show 0 ≤ n.tmod ((L : Int) + 1) + (L : Int) + 1 by omega)
  have h4 := Int.tmod_lt_of_pos (n.tmod ((L : Int) + 1) + (L : Int) + 1) (show 0 < (L : Int) + 1 by omega)
  exact ⟨((n.tmod ((L : Int) + 1) + (L : Int) + 1).tmod ((L : Int) + 1)).toNat, by omega, by omega⟩
theorem cap_ts {H : Type} {enc : TypeId × Value → H} {w : World} {b0 : Nat} {spare : Nat → Bool} {held : Bool} {A : Option Addr} {l c : Nat} {d : DataW H} {p : List MemPlace} (h : DataW.Trod enc Try.prog w b0 spare held 23 (.slice A l c) d p) : l ≤ c := by
  obtain ⟨fuel, hf⟩ := h
  rcases Go.Deep.open_slice Try.underlying23 hf with ⟨hcs, _⟩ | ⟨a, l', c', m, n, D, Pl, hcs, _, hl, _⟩
  · simp [Value.cells] at hcs
    obtain ⟨_, rfl, rfl⟩ := hcs
    exact Nat.le_refl _
  · simp [Value.cells] at hcs
    obtain ⟨_, rfl, rfl⟩ := hcs
    exact hl
end Go.Proofs.Ytehadfnaknpagaa
