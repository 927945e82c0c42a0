/-
  THE LAWS' FRAME, SECOND PART: an operation of a drawn region taken first, its slot named. Conditions: those that each lemma names.
-/
import Derived.Test.YtehadfnaknpagaaXc
import Derived.Test.YtehadfnaknpagaaPg
namespace Go.Proofs.Ytehadfnaknpagaa
open Go.RowKit Pl

theorem takeH {P : Program} {md : Region.Mode} {ops : Array Oper} {Q : Exit → Act → World → Prop} {S : World → Prop} {i : Nat} (d : Nat) {oi : Oper} {v : Value} {fuel : Nat} {listed : Array Bool} {a : Act} {w : World} (hi : ops[i]? = some oi) (hd : oi.dst = some d)
    (hs : Region.noSelect ops = true) (hf : Region.free md ops listed i = true) (hr : (Region.ready md ops listed).contains i = true)
    (hQ : ∀ c a w, Q (.panic c) (a.put oi.dst v) w → Q (.panic c) a w) (hy : YieldsIf P ops S oi v a) (hS : S w)
    (h : wpAnyH P md ops Q S fuel (listed.setIfInBounds i true) (a.put (some d) v) w) : wpAnyH P md ops Q S (fuel + 1) listed a w :=
  wpAnyH_take hi hs hf hr hQ hy hS (by rw [hd]; exact h)
theorem vb_two {us : List Int} {x y : Tm} (h : VB us [x, y] = true) : WOk us ∧ TB us x = true ∧ TB us y = true := by
  unfold VB at h
  simp only [List.all_cons, List.all_nil, Bool.and_true, Bool.and_eq_true] at h
  exact ⟨wok_of h.1, h.2.1, h.2.2⟩
end Go.Proofs.Ytehadfnaknpagaa
