/-
  THE PLAIN LAYER, THIRD PART: the normal form, union and intersection of lists as the code computes them, and their laws. Conditions: a valid world and valid terms, where a lemma names them.
-/
import Derived.Test.YtehadfnaknpagaaPb
namespace Go.Proofs.Ytehadfnaknpagaa.Pl

/-- the inner loop of norm: f rounds from j on, x the term so far, ub the marks -/
def nin (us : List Int) (xs : List T) : Nat → Nat → T → List Bool → Option (T × List Bool)
  | 0, _, x, ub => some (x, ub)
  | f + 1, j, x, ub =>
    if (xs.getD j .no).isNo || ub.getD j false then nin us xs f (j + 1) x ub
    else if (union1 us x (xs.getD j .no)).2.isNo then
      if (union1 us x (xs.getD j .no)).1.isAll then none else nin us xs f (j + 1) (union1 us x (xs.getD j .no)).1 (ub.set j true)
    else nin us xs f (j + 1) x ub
/-- the outer loop of norm -/
def nout (us : List Int) (xs : List T) : Nat → Nat → List Bool → List T → List T
  | 0, _, _, rl => rl
  | f + 1, i, ub, rl =>
    if (xs.getD i .no).isNo || ub.getD i false then nout us xs f (i + 1) ub rl
    else match nin us xs f (i + 1) (xs.getD i .no) ub with
      | none => [.all]
      | some r => nout us xs f (i + 1) r.2 (rl ++ [r.1])
def norm (us : List Int) (xs : List T) : List T := nout us xs xs.length 0 (List.replicate xs.length false) []
def unionL (us : List Int) (xs ys : List T) : List T := norm us (xs ++ ys)
/-- what intersect gathers ahead of norm -/
def interR (us : List Int) (xs ys : List T) : List T := xs.flatMap fun x => (ys.map (inter1 us x)).filter fun z => !z.isNo
def interL (us : List Int) (xs ys : List T) : List T := if emptyL xs || emptyL ys then [] else norm us (interR us xs ys)

theorem union1_notNo {us : List Int} {x y : T} (h : x.isNo = false) : (union1 us x y).1.isNo = false := by
  cases x with
  | no => cases h
  | all => cases y <;> rfl
  | one b n =>
    cases y with
    | no => rfl
    | all => rfl
    | one c m =>
      show (if disj us (.one b n) (.one c m) then (T.one b n, T.one c m) else if b || !c then (T.one b n, T.no) else (T.one c m, T.no)).1.isNo = false
      split
      · rfl
      · split <;> rfl
theorem isNo_mem {us : List Int} {x : T} (h : x.isNo = true) (t : Nat) : mem us x t = false := by
  cases x <;> simp_all [T.isNo, mem]
theorem getD_ok {us : List Int} {xs : List T} (h : ∀ x ∈ xs, x.ok us) (i : Nat) : (xs.getD i .no).ok us := by
  rw [List.getD_eq_getElem?_getD]
  cases hx : xs[i]? with
  | none => trivial
  | some x => exact h x (List.mem_of_getElem? hx)

/-- what is not marked from j on -/
def rst (us : List Int) (xs : List T) : Nat → Nat → List Bool → Nat → Bool
  | 0, _, _, _ => false
  | f + 1, j, ub, t => ((!ub.getD j false) && mem us (xs.getD j .no) t) || rst us xs f (j + 1) ub t
theorem getD_set_ne {l : List Bool} {i j : Nat} {b : Bool} (h : i ≠ j) : (l.set i b).getD j false = l.getD j false := by
  simp [List.getD_eq_getElem?_getD, h]
theorem getD_set_eq {l : List Bool} {i : Nat} {b : Bool} (h : i < l.length) : (l.set i b).getD i false = b := by
  simp [List.getD_eq_getElem?_getD, h]
theorem rst_set {us : List Int} {xs : List T} {f j i : Nat} {ub : List Bool} {b : Bool} {t : Nat} (h : i < j) : rst us xs f j (ub.set i b) t = rst us xs f j ub t := by
  induction f generalizing j with
  | zero => rfl
  | succ f ih => simp only [rst]; rw [getD_set_ne (by omega), ih (by omega)]

/-- what the inner loop leaves -/
theorem nin_some {us : List Int} (hw : WOk us) {xs : List T} (hx : ∀ x ∈ xs, x.ok us) {f j : Nat} {x x' : T} {ub ub' : List Bool} (hj : j + f ≤ ub.length) (hok : x.ok us) (hno : x.isNo = false)
    (h : nin us xs f j x ub = some (x', ub')) :
    x'.ok us ∧ x'.isNo = false ∧ ub'.length = ub.length ∧ (∀ i, i < j → ub'.getD i false = ub.getD i false) ∧ (∀ i, ub.getD i false = true → ub'.getD i false = true) ∧
      ∀ t, (mem us x' t || rst us xs f j ub' t) = (mem us x t || rst us xs f j ub t) := by
  induction f generalizing j x ub with
  | zero =>
    simp only [nin, Option.some.injEq, Prod.mk.injEq] at h
    obtain ⟨rfl, rfl⟩ := h
    exact ⟨hok, hno, rfl, fun _ _ => rfl, fun _ h => h, fun _ => rfl⟩
  | succ f ih =>
    simp only [nin] at h
    by_cases h1 : ((xs.getD j .no).isNo || ub.getD j false) = true
    · rw [if_pos h1] at h
      obtain ⟨g1, g2, g3, g4, g5, g6⟩ := ih (by omega) hok hno h
      refine ⟨g1, g2, g3, fun i hi => g4 i (by omega), g5, fun t => ?_⟩
      simp only [rst]
      rw [g4 j (by omega)]
      have := g6 t
      cases hn : (xs.getD j .no).isNo with
      | true => rw [isNo_mem hn]; simpa using this
      | false =>
        rw [hn] at h1
        simp only [Bool.false_or] at h1
        rw [h1]
        simpa using this
    · rw [if_neg h1] at h
      simp only [Bool.or_eq_true, not_or, Bool.not_eq_true] at h1
      obtain ⟨hnj, huj⟩ := h1
      by_cases h2 : (union1 us x (xs.getD j .no)).2.isNo = true
      · rw [if_pos h2] at h
        by_cases h3 : (union1 us x (xs.getD j .no)).1.isAll = true
        · rw [if_pos h3] at h; cases h
        · rw [if_neg h3] at h
          have hu := union1_ok hok (getD_ok hx j)
          obtain ⟨g1, g2, g3, g4, g5, g6⟩ := ih (by simp; omega) hu.1 (union1_notNo hno) h
          have hjl : j < ub.length := by omega
          refine ⟨g1, g2, by simpa using g3, fun i hi => by rw [g4 i (by omega), getD_set_ne (by omega)], fun i hi => g5 i ?_, fun t => ?_⟩
          · by_cases e : j = i
            · subst e; exact getD_set_eq hjl
            · rw [getD_set_ne e]; exact hi
          · simp only [rst]
            rw [g4 j (by omega), getD_set_eq hjl, huj]
            have := g6 t
            rw [rst_set (by omega)] at this
            simp only [Bool.not_true, Bool.false_and, Bool.false_or, Bool.not_false, Bool.true_and]
            rw [this]
            have hm := union1_mem hw hok (getD_ok hx j) t
            rw [isNo_mem h2, Bool.or_false] at hm
            rw [hm, Bool.or_assoc]
      · rw [if_neg h2] at h
        obtain ⟨g1, g2, g3, g4, g5, g6⟩ := ih (by omega) hok hno h
        refine ⟨g1, g2, g3, fun i hi => g4 i (by omega), g5, fun t => ?_⟩
        simp only [rst]
        rw [g4 j (by omega), huj]
        have := g6 t
        simp only [Bool.not_false, Bool.true_and]
        rw [← Bool.or_assoc, Bool.or_comm (mem us x' t), Bool.or_assoc, this, ← Bool.or_assoc, Bool.or_comm (mem us (xs.getD j .no) t), Bool.or_assoc]
theorem nin_none {us : List Int} (hw : WOk us) {xs : List T} (hx : ∀ x ∈ xs, x.ok us) {f j : Nat} {x : T} {ub : List Bool} (hj : j + f ≤ ub.length) (hok : x.ok us) (hno : x.isNo = false)
    (h : nin us xs f j x ub = none) : ∀ t, (mem us x t || rst us xs f j ub t) = true := by
  induction f generalizing j x ub with
  | zero => simp [nin] at h
  | succ f ih =>
    intro t
    simp only [nin] at h
    by_cases h1 : ((xs.getD j .no).isNo || ub.getD j false) = true
    · rw [if_pos h1] at h
      have := ih (by omega) hok hno h t
      simp only [rst, Bool.or_eq_true] at this ⊢
      rcases this with h | h
      · exact .inl h
      · exact .inr (.inr h)
    · rw [if_neg h1] at h
      simp only [Bool.or_eq_true, not_or, Bool.not_eq_true] at h1
      obtain ⟨hnj, huj⟩ := h1
      have hm := union1_mem hw hok (getD_ok hx j) t
      by_cases h2 : (union1 us x (xs.getD j .no)).2.isNo = true
      · rw [if_pos h2] at h
        rw [isNo_mem h2, Bool.or_false] at hm
        by_cases h3 : (union1 us x (xs.getD j .no)).1.isAll = true
        · have : mem us (union1 us x (xs.getD j .no)).1 t = true := by
            cases hu : (union1 us x (xs.getD j .no)).1 <;> simp_all [T.isAll, mem]
          rw [this] at hm
          simp only [rst, huj, Bool.not_false, Bool.true_and]
          rw [← Bool.or_assoc, ← hm]; rfl
        · rw [if_neg h3] at h
          have hu := union1_ok hok (getD_ok hx j)
          have := ih (by simp; omega) hu.1 (union1_notNo hno) h t
          rw [rst_set (by omega), hm] at this
          simp only [rst, huj, Bool.not_false, Bool.true_and]
          rw [← Bool.or_assoc]; exact this
      · rw [if_neg h2] at h
        have := ih (by omega) hok hno h t
        simp only [rst, Bool.or_eq_true] at this ⊢
        rcases this with h | h
        · exact .inl h
        · exact .inr (.inr h)

theorem memL_append (us : List Int) (xs ys : List T) (t : Nat) : memL us (xs ++ ys) t = (memL us xs t || memL us ys t) := by simp [memL]

theorem nout_spec {us : List Int} (hw : WOk us) {xs : List T} (hx : ∀ x ∈ xs, x.ok us) {f i : Nat} {ub : List Bool} {rl : List T} (hi : i + f ≤ ub.length) (hrl : ∀ x ∈ rl, x.ok us ∧ x.isNo = false) :
    (∀ x ∈ nout us xs f i ub rl, x.ok us ∧ x.isNo = false) ∧ (nout us xs f i ub rl).length ≤ rl.length + f ∧ ∀ t, memL us (nout us xs f i ub rl) t = (memL us rl t || rst us xs f i ub t) := by
  induction f generalizing i ub rl with
  | zero => exact ⟨hrl, Nat.le_refl _, fun t => by simp [nout, rst]⟩
  | succ f ih =>
    simp only [nout]
    by_cases h1 : ((xs.getD i .no).isNo || ub.getD i false) = true
    · rw [if_pos h1]
      obtain ⟨g1, g2, g3⟩ := ih (i := i + 1) (ub := ub) (rl := rl) (by omega) hrl
      refine ⟨g1, by omega, fun t => ?_⟩
      rw [g3 t]
      simp only [rst]
      cases hn : (xs.getD i .no).isNo with
      | true => rw [isNo_mem hn]; simp
      | false =>
        rw [hn] at h1
        simp only [Bool.false_or] at h1
        rw [h1]; simp
    · rw [if_neg h1]
      simp only [Bool.or_eq_true, not_or, Bool.not_eq_true] at h1
      obtain ⟨hni, hui⟩ := h1
      have hxi := getD_ok hx i
      cases hn : nin us xs f (i + 1) (xs.getD i .no) ub with
      | none =>
        have := nin_none hw hx (by omega) hxi hni hn
        refine ⟨fun x h => by simp at h; subst h; exact ⟨trivial, rfl⟩, by simp; omega, fun t => ?_⟩
        have ht := this t
        simp only [rst, hui, Bool.not_false, Bool.true_and]
        rw [ht]
        simp [memL, mem]
      | some r =>
        obtain ⟨x', ub'⟩ := r
        obtain ⟨s1, s2, s3, s4, s5, s6⟩ := nin_some hw hx (by omega) hxi hni hn
        obtain ⟨g1, g2, g3⟩ := ih (i := i + 1) (ub := ub') (rl := rl ++ [x']) (by omega) (by
          intro x h
          rw [List.mem_append] at h
          rcases h with h | h
          · exact hrl x h
          · simp at h; subst h; exact ⟨s1, s2⟩)
        refine ⟨g1, by simp at g2; show (nout us xs f (i + 1) ub' (rl ++ [x'])).length ≤ _; omega, fun t => ?_⟩
        show memL us (nout us xs f (i + 1) ub' (rl ++ [x'])) t = _
        rw [g3 t, memL_append]
        simp only [rst, hui, Bool.not_false, Bool.true_and]
        rw [Bool.or_assoc]
        have := s6 t
        have e : memL us [x'] t = mem us x' t := by simp [memL]
        rw [e, this]

theorem rst_false {us : List Int} {xs : List T} {f j : Nat} {ub : List Bool} {t : Nat} (hu : ∀ i, ub.getD i false = false) (h : j + f = xs.length) : rst us xs f j ub t = memL us (xs.drop j) t := by
  induction f generalizing j with
  | zero => rw [List.drop_of_length_le (by omega)]; rfl
  | succ f ih =>
    have hj : j < xs.length := by omega
    simp only [rst]
    have e : xs.getD j .no = xs[j] := by rw [List.getD_eq_getElem?_getD, List.getElem?_eq_getElem hj]; rfl
    have e2 : xs.drop j = xs[j] :: xs.drop (j + 1) := List.drop_eq_getElem_cons hj
    rw [hu, ih (by omega), e, e2]
    simp only [memL, List.any_cons, Bool.not_false, Bool.true_and]
theorem getD_rep (n i : Nat) : (List.replicate n false).getD i false = false := by
  rw [List.getD_eq_getElem?_getD, List.getElem?_replicate]
  split <;> rfl

theorem norm_spec {us : List Int} (hw : WOk us) {xs : List T} (hx : ∀ x ∈ xs, x.ok us) :
    (∀ x ∈ norm us xs, x.ok us ∧ x.isNo = false) ∧ (norm us xs).length ≤ xs.length ∧ ∀ t, memL us (norm us xs) t = memL us xs t := by
  obtain ⟨h1, h2, h3⟩ := nout_spec hw hx (f := xs.length) (i := 0) (ub := List.replicate xs.length false) (rl := []) (by simp) (by simp)
  refine ⟨h1, by unfold norm; simpa using h2, fun t => ?_⟩
  unfold norm
  rw [h3 t, rst_false (getD_rep _) (by simp)]
  simp [memL]
theorem norm_ok {us : List Int} (hw : WOk us) {xs : List T} (hx : ∀ x ∈ xs, x.ok us) : ∀ x ∈ norm us xs, x.ok us := fun x h => ((norm_spec hw hx).1 x h).1
theorem norm_mem {us : List Int} (hw : WOk us) {xs : List T} (hx : ∀ x ∈ xs, x.ok us) (t : Nat) : memL us (norm us xs) t = memL us xs t := (norm_spec hw hx).2.2 t

theorem append_ok {us : List Int} {xs ys : List T} (hx : ∀ x ∈ xs, x.ok us) (hy : ∀ y ∈ ys, y.ok us) : ∀ z ∈ xs ++ ys, z.ok us := by
  intro z h
  rw [List.mem_append] at h
  exact h.elim (hx z) (hy z)
theorem unionL_ok {us : List Int} (hw : WOk us) {xs ys : List T} (hx : ∀ x ∈ xs, x.ok us) (hy : ∀ y ∈ ys, y.ok us) : ∀ z ∈ unionL us xs ys, z.ok us := norm_ok hw (append_ok hx hy)
theorem unionL_mem {us : List Int} (hw : WOk us) {xs ys : List T} (hx : ∀ x ∈ xs, x.ok us) (hy : ∀ y ∈ ys, y.ok us) (t : Nat) : memL us (unionL us xs ys) t = (memL us xs t || memL us ys t) := by
  unfold unionL; rw [norm_mem hw (append_ok hx hy), memL_append]
theorem unionL_len {us : List Int} (hw : WOk us) {xs ys : List T} (hx : ∀ x ∈ xs, x.ok us) (hy : ∀ y ∈ ys, y.ok us) : (unionL us xs ys).length ≤ xs.length + ys.length := by
  have := (norm_spec hw (append_ok hx hy)).2.1
  unfold unionL
  simpa using this

theorem interR_ok {us : List Int} {xs ys : List T} (hx : ∀ x ∈ xs, x.ok us) (hy : ∀ y ∈ ys, y.ok us) : ∀ z ∈ interR us xs ys, z.ok us := by
  intro z h
  unfold interR at h
  rw [List.mem_flatMap] at h
  obtain ⟨x, hxm, h⟩ := h
  rw [List.mem_filter, List.mem_map] at h
  obtain ⟨⟨y, hym, rfl⟩, _⟩ := h
  exact inter1_ok (hx x hxm) (hy y hym)
theorem interR_len (us : List Int) (xs ys : List T) : (interR us xs ys).length ≤ xs.length * ys.length := by
  unfold interR
  induction xs with
  | nil => simp
  | cons x r ih =>
    rw [List.flatMap_cons, List.length_append, List.length_cons, Nat.succ_mul]
    have := List.length_filter_le (fun z : T => !z.isNo) (ys.map (inter1 us x))
    rw [List.length_map] at this
    omega
theorem interR_mem {us : List Int} (hw : WOk us) {xs ys : List T} (hx : ∀ x ∈ xs, x.ok us) (hy : ∀ y ∈ ys, y.ok us) (t : Nat) : memL us (interR us xs ys) t = (memL us xs t && memL us ys t) := by
  rw [Bool.eq_iff_iff, Bool.and_eq_true]
  unfold memL
  rw [List.any_eq_true, List.any_eq_true, List.any_eq_true]
  constructor
  · rintro ⟨z, h, hm⟩
    unfold interR at h
    rw [List.mem_flatMap] at h
    obtain ⟨x, hxm, h⟩ := h
    rw [List.mem_filter, List.mem_map] at h
    obtain ⟨⟨y, hym, rfl⟩, _⟩ := h
    rw [inter1_mem hw (hx x hxm) (hy y hym), Bool.and_eq_true] at hm
    exact ⟨⟨x, hxm, hm.1⟩, ⟨y, hym, hm.2⟩⟩
  · rintro ⟨⟨x, hxm, h1⟩, ⟨y, hym, h2⟩⟩
    have hm : mem us (inter1 us x y) t = true := by rw [inter1_mem hw (hx x hxm) (hy y hym), h1, h2]; rfl
    refine ⟨inter1 us x y, ?_, hm⟩
    unfold interR
    rw [List.mem_flatMap]
    refine ⟨x, hxm, ?_⟩
    rw [List.mem_filter, List.mem_map]
    refine ⟨⟨y, hym, rfl⟩, ?_⟩
    cases hn : (inter1 us x y).isNo with
    | false => rfl
    | true => rw [isNo_mem hn] at hm; cases hm
theorem emptyL_mem {us : List Int} {xs : List T} (h : emptyL xs = true) (t : Nat) : memL us xs t = false := by
  unfold memL
  rw [List.any_eq_false]
  intro x hx
  unfold emptyL at h
  rw [List.all_eq_true] at h
  rw [isNo_mem (h x hx)]; simp
theorem interL_ok {us : List Int} (hw : WOk us) {xs ys : List T} (hx : ∀ x ∈ xs, x.ok us) (hy : ∀ y ∈ ys, y.ok us) : ∀ z ∈ interL us xs ys, z.ok us := by
  unfold interL
  split
  · intro z h; simp at h
  · exact norm_ok hw (interR_ok hx hy)
theorem interL_mem {us : List Int} (hw : WOk us) {xs ys : List T} (hx : ∀ x ∈ xs, x.ok us) (hy : ∀ y ∈ ys, y.ok us) (t : Nat) : memL us (interL us xs ys) t = (memL us xs t && memL us ys t) := by
  unfold interL
  split
  · rename_i h
    rw [Bool.or_eq_true] at h
    rcases h with h | h <;> rw [emptyL_mem h t] <;> simp [memL]
  · rw [norm_mem hw (interR_ok hx hy), interR_mem hw hx hy]
theorem interL_len {us : List Int} (hw : WOk us) {xs ys : List T} (hx : ∀ x ∈ xs, x.ok us) (hy : ∀ y ∈ ys, y.ok us) : (interL us xs ys).length ≤ xs.length * ys.length := by
  unfold interL
  split
  · simp
  · exact Nat.le_trans (norm_spec hw (interR_ok hx hy)).2.1 (interR_len us xs ys)

/-! HOW LONG A NORMAL FORM IS -/
theorem nodup_len {l : List Nat} {N : Nat} (h : l.Nodup) (hb : ∀ x ∈ l, x < N) : l.length ≤ N := by
  induction N generalizing l with
  | zero =>
    cases l with
    | nil => simp
    | cons a r => have := hb a (by simp); omega
  | succ N ih =>
    have h1 := ih (l := l.erase N) (h.erase N) (fun x hx => by
      have h2 := hb x (List.mem_of_mem_erase hx)
      have h3 : x ≠ N := by
        rintro rfl
        exact h.not_mem_erase hx
      omega)
    have : l.length ≤ (l.erase N).length + 1 := by
      rw [List.length_erase]
      split <;> omega
    omega
theorem nin_apart {us : List Int} (hw : WOk us) {xs : List T} (hx : ∀ x ∈ xs, x.ok us) {f j m : Nat} {x x' : T} {ub ub' : List Bool} (hj : j + f ≤ ub.length) (hok : x.ok us) (hno : x.isNo = false) (hm : mem us x m = true)
    (h : nin us xs f j x ub = some (x', ub')) : ∀ i, j ≤ i → i < j + f → ub'.getD i false = false → ∀ c n, xs.getD i .no = .one c n → n ≠ m := by
  induction f generalizing j x ub with
  | zero => intro i h1 h2; omega
  | succ f ih =>
    intro i hi1 hi2 hu c n hxi
    simp only [nin] at h
    by_cases h1 : ((xs.getD j .no).isNo || ub.getD j false) = true
    · rw [if_pos h1] at h
      by_cases e : i = j
      · subst e
        have g4 := (nin_some hw hx (by omega) hok hno h).2.2.2.1 i (by omega)
        rw [hu] at g4
        rw [← g4, hxi] at h1
        simp [T.isNo] at h1
      · exact ih (by omega) hok hno hm h i (by omega) (by omega) hu c n hxi
    · rw [if_neg h1] at h
      simp only [Bool.or_eq_true, not_or, Bool.not_eq_true] at h1
      obtain ⟨hnj, huj⟩ := h1
      have hu1 := union1_ok hok (getD_ok hx j)
      by_cases h2 : (union1 us x (xs.getD j .no)).2.isNo = true
      · rw [if_pos h2] at h
        by_cases h3 : (union1 us x (xs.getD j .no)).1.isAll = true
        · rw [if_pos h3] at h; cases h
        · rw [if_neg h3] at h
          have hmm := union1_mem hw hok (getD_ok hx j) m
          rw [isNo_mem h2, Bool.or_false, hm, Bool.true_or] at hmm
          by_cases e : i = j
          · subst e
            have g4 := (nin_some hw hx (by simp; omega) hu1.1 (union1_notNo hno) h).2.2.2.1 i (by omega)
            rw [hu, getD_set_eq (by omega)] at g4
            cases g4
          · exact ih (by simp; omega) hu1.1 (union1_notNo hno) hmm h i (by omega) (by omega) hu c n hxi
      · rw [if_neg h2] at h
        by_cases e : i = j
        · subst e
          rintro rfl
          have hok2 := getD_ok hx i
          rw [hxi] at h2 hok2
          have hmn : mem us (.one c n) n = true := by
            obtain ⟨k1, k2⟩ := hok2
            cases c
            · simp [mem]
            · simp [mem, und_near k1, k2]
          cases x with
          | no => cases hno
          | all => simp [union1, T.isNo] at h2
          | one b k =>
            cases hd : disj us (.one b k) (.one c n) with
            | true => exact disj_mem hw hok hok2 hd n ⟨hm, hmn⟩
            | false =>
              simp only [union1, hd] at h2
              revert h2
              cases (b || !c) <;> simp [T.isNo]
        · exact ih (by omega) hok hno hm h i (by omega) (by omega) hu c n hxi
theorem nout_short {us : List Int} (hw : WOk us) {xs : List T} (hx : ∀ x ∈ xs, x.ok us) (hna : ∀ i, (xs.getD i .no).isAll = false) {f i : Nat} {ub : List Bool} {rl : List T} (ks : List Nat) (hi : i + f ≤ ub.length)
    (hl : ks.length = rl.length) (hnd : ks.Nodup) (hks : ∀ k ∈ ks, k < us.length) (hap : ∀ j, i ≤ j → j < i + f → ub.getD j false = false → ∀ c n, xs.getD j .no = .one c n → n ∉ ks) :
    (nout us xs f i ub rl).length ≤ us.length + 1 := by
  induction f generalizing i ub rl ks with
  | zero => have := nodup_len hnd hks; simp only [nout]; omega
  | succ f ih =>
    simp only [nout]
    by_cases h1 : ((xs.getD i .no).isNo || ub.getD i false) = true
    · rw [if_pos h1]
      exact ih ks (by omega) hl hnd hks fun j h1 h2 => hap j (by omega) (by omega)
    · rw [if_neg h1]
      simp only [Bool.or_eq_true, not_or, Bool.not_eq_true] at h1
      obtain ⟨hni, hui⟩ := h1
      cases hn : nin us xs f (i + 1) (xs.getD i .no) ub with
      | none => simp
      | some r =>
        obtain ⟨x', ub'⟩ := r
        have hxi := getD_ok hx i
        obtain ⟨s1, s2, s3, s4, s5, s6⟩ := nin_some hw hx (by omega) hxi hni hn
        have ha := hna i
        cases hxe : xs.getD i .no with
        | no => rw [hxe] at hni; cases hni
        | all => rw [hxe] at ha; cases ha
        | one b k =>
          have hk := hap i (by omega) (by omega) hui b k hxe
          have hkm : mem us (xs.getD i .no) k = true := by
            rw [hxe] at hxi ⊢
            obtain ⟨k1, k2⟩ := hxi
            cases b
            · simp [mem]
            · simp [mem, und_near k1, k2]
          have hap2 := nin_apart hw hx (by omega) hxi hni hkm hn
          have hkl : k < us.length := by rw [hxe] at hxi; exact hxi.1
          refine ih (k :: ks) (by rw [s3]; omega) (by simp [hl]) (List.nodup_cons.2 ⟨hk, hnd⟩) ?_ ?_
          · intro q hq
            rw [List.mem_cons] at hq
            rcases hq with rfl | hq
            · exact hkl
            · exact hks q hq
          · intro j hj1 hj2 huj c n hxj hmem
            rw [List.mem_cons] at hmem
            rcases hmem with rfl | hmem
            · exact hap2 j hj1 hj2 huj c n hxj rfl
            · have hub : ub.getD j false = false := by
                cases hb : ub.getD j false with
                | false => rfl
                | true => have := s5 j hb; rw [huj] at this; cases this
              exact hap j (by omega) (by omega) hub c n hxj hmem
/-- the set of all types alone stands in the normal form of a list that holds it -/
theorem nin_all {us : List Int} {xs : List T} {f j p : Nat} {x : T} {ub : List Bool} (hno : x.isNo = false) (hj : j ≤ p) (hp : p < j + f) (hxp : xs.getD p .no = .all) (hu : ub.getD p false = false) : nin us xs f j x ub = none := by
  induction f generalizing j x ub with
  | zero => omega
  | succ f ih =>
    simp only [nin]
    by_cases e : j = p
    · subst e
      rw [hxp, hu]
      have : union1 us x .all = (.all, .no) := by cases x <;> first | rfl | cases hno
      simp [T.isNo, this, T.isAll]
    · by_cases h1 : ((xs.getD j .no).isNo || ub.getD j false) = true
      · rw [if_pos h1]; exact ih hno (by omega) (by omega) hu
      · rw [if_neg h1]
        by_cases h2 : (union1 us x (xs.getD j .no)).2.isNo = true
        · rw [if_pos h2]
          by_cases h3 : (union1 us x (xs.getD j .no)).1.isAll = true
          · rw [if_pos h3]
          · rw [if_neg h3]
            exact ih (union1_notNo hno) (by omega) (by omega) (by rw [getD_set_ne e]; exact hu)
        · rw [if_neg h2]; exact ih hno (by omega) (by omega) hu
theorem nin_from_all {us : List Int} {xs : List T} {f j : Nat} {r : T × List Bool} {ub : List Bool} (h : nin us xs f j .all ub = some r) : r = (.all, ub) ∧ ∀ i, j ≤ i → i < j + f → ((xs.getD i .no).isNo || ub.getD i false) = true := by
  induction f generalizing j ub with
  | zero =>
    simp only [nin, Option.some.injEq] at h
    exact ⟨h.symm, fun i h1 h2 => by omega⟩
  | succ f ih =>
    simp only [nin] at h
    by_cases h1 : ((xs.getD j .no).isNo || ub.getD j false) = true
    · rw [if_pos h1] at h
      obtain ⟨g1, g2⟩ := ih h
      refine ⟨g1, fun i hi1 hi2 => ?_⟩
      by_cases e : i = j
      · subst e; exact h1
      · exact g2 i (by omega) (by omega)
    · rw [if_neg h1] at h
      simp only [Bool.or_eq_true, not_or, Bool.not_eq_true] at h1
      have : union1 us .all (xs.getD j .no) = (.all, .no) := by
        cases hx : xs.getD j .no <;> first | rfl | (rw [hx] at h1; simp [T.isNo] at h1)
      rw [this] at h
      simp [T.isNo, T.isAll] at h
theorem nout_skip {us : List Int} {xs : List T} {f i : Nat} {ub : List Bool} {rl : List T} (h : ∀ j, i ≤ j → j < i + f → ((xs.getD j .no).isNo || ub.getD j false) = true) : nout us xs f i ub rl = rl := by
  induction f generalizing i with
  | zero => rfl
  | succ f ih =>
    simp only [nout]
    rw [if_pos (h i (by omega) (by omega))]
    exact ih fun j h1 h2 => h j (by omega) (by omega)
theorem nout_all {us : List Int} {xs : List T} {f i p : Nat} {ub : List Bool} (hi : i ≤ p) (hp : p < i + f) (hxp : xs.getD p .no = .all) (hu : ub.getD p false = false) : nout us xs f i ub [] = [.all] := by
  induction f generalizing i with
  | zero => omega
  | succ f ih =>
    simp only [nout]
    by_cases e : i = p
    · subst e
      rw [hxp, hu]
      simp only [T.isNo, Bool.or_self, Bool.false_eq_true, if_false]
      cases hn : nin us xs f (i + 1) .all ub with
      | none => rfl
      | some r =>
        obtain ⟨rfl, h2⟩ := nin_from_all hn
        exact nout_skip fun j h3 h4 => h2 j (by omega) (by omega)
    · by_cases h1 : ((xs.getD i .no).isNo || ub.getD i false) = true
      · rw [if_pos h1]; exact ih (by omega) (by omega)
      · rw [if_neg h1]
        simp only [Bool.or_eq_true, not_or, Bool.not_eq_true] at h1
        rw [nin_all h1.1 (by omega) (by omega) hxp hu]
theorem norm_all {us : List Int} {xs : List T} (h : allL xs = true) : norm us xs = [.all] := by
  unfold allL at h
  rw [List.any_eq_true] at h
  obtain ⟨x, hx, ha⟩ := h
  obtain ⟨p, hp, rfl⟩ := List.mem_iff_getElem.1 hx
  refine nout_all (p := p) (by omega) (by omega) ?_ (getD_rep _ _)
  rw [List.getD_eq_getElem?_getD, List.getElem?_eq_getElem hp]
  show xs[p] = T.all
  cases h : xs[p] <;> rw [h] at ha <;> first | rfl | cases ha
theorem norm_short {us : List Int} (hw : WOk us) {xs : List T} (hx : ∀ x ∈ xs, x.ok us) : (norm us xs).length ≤ us.length + 1 := by
  cases h : allL xs with
  | true => rw [norm_all h]; simp
  | false =>
    refine nout_short hw hx (fun i => ?_) [] (by simp) rfl List.nodup_nil (by simp) (by simp)
    rw [List.getD_eq_getElem?_getD]
    cases hi : xs[i]? with
    | none => rfl
    | some x =>
      unfold allL at h
      rw [List.any_eq_false] at h
      have := h x (List.mem_of_getElem? hi)
      simpa using this
theorem interL_short {us : List Int} (hw : WOk us) {xs ys : List T} (hx : ∀ x ∈ xs, x.ok us) (hy : ∀ y ∈ ys, y.ok us) : (interL us xs ys).length ≤ us.length + 1 := by
  unfold interL
  split
  · simp
  · exact norm_short hw (interR_ok hx hy)
end Go.Proofs.Ytehadfnaknpagaa.Pl
