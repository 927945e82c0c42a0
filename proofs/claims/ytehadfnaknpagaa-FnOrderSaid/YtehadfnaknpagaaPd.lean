/-
  THE PLAIN LAYER, FOURTH PART: what intersect has gathered in the middle of its loops. Conditions: none but those that each lemma names.
-/
import Derived.Test.YtehadfnaknpagaaPc
namespace Go.Proofs.Ytehadfnaknpagaa.Pl

/-- what intersect has gathered before it looks at term j of ys and term i of xs -/
def IR (us : List Int) (xs ys : List T) (i j : Nat) : List T := interR us (xs.take i) ys ++ (((ys.take j).map (inter1 us (xs.getD i .no))).filter fun z => !z.isNo)
theorem IR.zero (us : List Int) (xs ys : List T) : IR us xs ys 0 0 = [] := by simp [IR, interR]
theorem IR.row (us : List Int) (xs ys : List T) {i : Nat} (hi : i < xs.length) : IR us xs ys i ys.length = IR us xs ys (i + 1) 0 := by
  unfold IR interR
  rw [List.take_succ_eq_append_getElem hi, List.flatMap_append, List.take_length]
  have e : xs.getD i .no = xs[i] := by rw [List.getD_eq_getElem?_getD, List.getElem?_eq_getElem hi]; rfl
  rw [e]
  simp
theorem IR.done (us : List Int) (xs ys : List T) : IR us xs ys xs.length 0 = interR us xs ys := by
  unfold IR
  rw [List.take_length]; simp
theorem IR.next {us : List Int} {xs ys : List T} {i j : Nat} (hj : j < ys.length) (h : (inter1 us (xs.getD i .no) (ys.getD j .no)).isNo = false) : IR us xs ys i (j + 1) = IR us xs ys i j ++ [inter1 us (xs.getD i .no) (ys.getD j .no)] := by
  unfold IR
  have e : ys.getD j .no = ys[j] := by rw [List.getD_eq_getElem?_getD, List.getElem?_eq_getElem hj]; rfl
  rw [e] at h
  rw [e, List.take_succ_eq_append_getElem hj, List.map_append, List.filter_append, ← List.append_assoc]
  rw [List.getD_eq_getElem?_getD] at h
  simp [h]
theorem IR.skip {us : List Int} {xs ys : List T} {i j : Nat} (hj : j < ys.length) (h : (inter1 us (xs.getD i .no) (ys.getD j .no)).isNo = true) : IR us xs ys i (j + 1) = IR us xs ys i j := by
  unfold IR
  have e : ys.getD j .no = ys[j] := by rw [List.getD_eq_getElem?_getD, List.getElem?_eq_getElem hj]; rfl
  rw [e] at h
  rw [List.take_succ_eq_append_getElem hj, List.map_append, List.filter_append]
  rw [List.getD_eq_getElem?_getD] at h
  simp [h]
theorem IR.len {us : List Int} {xs ys : List T} {i j : Nat} (hi : i < xs.length) (hj : j < ys.length) : (IR us xs ys i j).length < xs.length * ys.length := by
  unfold IR
  rw [List.length_append]
  have h1 := interR_len us (xs.take i) ys
  have h2 := List.length_filter_le (fun z : T => !z.isNo) ((ys.take j).map (inter1 us (xs.getD i .no)))
  rw [List.length_map] at h2
  have h3 : (ys.take j).length ≤ j := List.length_take_le _ _
  have h4 : (xs.take i).length = i := by rw [List.length_take]; omega
  rw [h4] at h1
  have h5 : (i + 1) * ys.length ≤ xs.length * ys.length := Nat.mul_le_mul_right _ hi
  rw [Nat.succ_mul] at h5
  omega
end Go.Proofs.Ytehadfnaknpagaa.Pl
