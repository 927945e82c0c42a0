/-
  THE LAWS' FRAME, THIRD PART: a valid world and one valid term. Conditions: those that each lemma names.
-/
import Derived.Test.YtehadfnaknpagaaXd
namespace Go.Proofs.Ytehadfnaknpagaa
open Go.RowKit Pl

theorem vx_wb2 {us : List Int} {ts : List Tm} (h : VB us ts = true) : WB us = true := by
  unfold VB at h
  rw [Bool.and_eq_true] at h
  exact h.1
theorem vb_one {us : List Int} {z : Tm} (_hw : WOk us) (hz : TB us z = true) (h : WB us = true) : VB us [z] = true := vb_of h (by simp [hz])
end Go.Proofs.Ytehadfnaknpagaa
