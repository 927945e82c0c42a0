/-
  THE PLAIN LAYER, FIRST PART: terms as data, worlds as lists of numbers, what the code computes on them, in plain Lean; no program in sight. Conditions: none but those that each lemma names.
-/
namespace Go.Proofs.Ytehadfnaknpagaa.Pl

/-- a term of the thin package as data -/
structure Tm where
  kind : Int
  tilde : Bool
  type : Int

/-- a term's set: nothing, everything, one type, or all types with one underlying type -/
inductive T where
  | no
  | all
  | one (b : Bool) (n : Nat)

def toT (t : Tm) : T := if t.kind = 0 then .no else if t.kind = 1 then .all else .one t.tilde t.type.toNat
def ofT : T → Tm
  | .no => ⟨0, false, 0⟩
  | .all => ⟨1, false, 0⟩
  | .one b n => ⟨2, b, n⟩

/-- the underlying type of type i in the world us -/
def un (us : List Int) (i : Nat) : Nat := (us.getD i 0).toNat

/-- a world is valid: each underlying type is a type of the world and its own underlying type -/
def WB (us : List Int) : Bool := us.all fun u => decide (0 ≤ u) && decide (u < us.length) && us.getD u.toNat 0 == u
/-- a term is valid over a world -/
def TB (us : List Int) (t : Tm) : Bool :=
  decide (0 ≤ t.kind) && decide (t.kind ≤ 2) && (!(t.kind == 2) || (decide (0 ≤ t.type) && decide (t.type < us.length) && (!t.tilde || us.getD t.type.toNat 0 == t.type)))
def VB (us : List Int) (ts : List Tm) : Bool := WB us && ts.all (TB us)

/-- a term of the world -/
def T.ok (us : List Int) : T → Prop
  | .one b n => n < us.length ∧ (b = true → un us n = n)
  | _ => True

/-- the underlying type of a type, or of one that is not in the list (the reference's) -/
def und (us : List Int) (t : Nat) : Nat := if t < us.length then un us t else if t < 2 * us.length then un us (t - us.length) else t
/-- a type is in a term -/
def mem (us : List Int) : T → Nat → Bool
  | .no, _ => false
  | .all, _ => true
  | .one true n, t => und us t == n
  | .one false n, t => t == n
def memL (us : List Int) (xs : List T) (t : Nat) : Bool := xs.any fun x => mem us x t
def top (us : List Int) : Nat := 2 * us.length + 1

/-- the world's facts -/
structure WOk (us : List Int) : Prop where
  lt : ∀ i, i < us.length → un us i < us.length
  idem : ∀ i, i < us.length → un us (un us i) = un us i
  nn : ∀ i, i < us.length → us.getD i 0 = (un us i : Int)

theorem wok_of {us : List Int} (h : WB us = true) : WOk us := by
  have h' : ∀ i, i < us.length → 0 ≤ us.getD i 0 ∧ us.getD i 0 < us.length ∧ us.getD (us.getD i 0).toNat 0 = us.getD i 0 := by
    intro i hi
    unfold WB at h
    rw [List.all_eq_true] at h
    have := h (us.getD i 0) (by rw [List.getD_eq_getElem?_getD, List.getElem?_eq_getElem hi]; simp)
    simp only [Bool.and_eq_true, decide_eq_true_eq, beq_iff_eq] at this
    exact ⟨this.1.1, this.1.2, this.2⟩
  refine ⟨fun i hi => ?_, fun i hi => ?_, fun i hi => ?_⟩
  · have := h' i hi; unfold un; omega
  · have := h' i hi; unfold un; rw [this.2.2]
  · have := h' i hi; unfold un; omega

theorem tok_of {us : List Int} {t : Tm} (h : TB us t = true) : (toT t).ok us := by
  unfold TB at h
  simp only [Bool.and_eq_true, decide_eq_true_eq, Bool.or_eq_true, Bool.not_eq_true', beq_eq_false_iff_ne, beq_iff_eq] at h
  unfold toT
  by_cases h0 : t.kind = 0
  · simp [h0, T.ok]
  by_cases h1 : t.kind = 1
  · simp [h1, T.ok]
  · simp only [h0, h1, if_false, T.ok]
    have h2 : t.kind = 2 := by omega
    obtain ⟨_, h3⟩ := h
    rcases h3 with h3 | ⟨⟨h3, h4⟩, h5⟩
    · exact absurd h2 h3
    · refine ⟨by omega, fun hb => ?_⟩
      rcases h5 with h5 | h5
      · rw [hb] at h5; cases h5
      · unfold un; rw [h5]

theorem toT_ofT (x : T) : toT (ofT x) = x := by cases x <;> simp [toT, ofT]
theorem tb_ofT {us : List Int} (hw : WOk us) {x : T} (h : x.ok us) : TB us (ofT x) = true := by
  cases x with
  | no => simp [TB, ofT]
  | all => simp [TB, ofT]
  | one b n =>
    obtain ⟨h1, h2⟩ := h
    cases b
    · simp [TB, ofT]; omega
    · have := hw.nn n h1
      have h3 := h2 rfl
      rw [h3] at this
      simp [TB, ofT]
      rw [List.getD_eq_getElem?_getD] at this
      exact ⟨by omega, this⟩

/-! WHAT THE CODE COMPUTES -/
def disj (us : List Int) : T → T → Bool
  | .one b n, .one c m => !((if c then un us n else n) == (if b then un us m else m))
  | _, _ => false
def incl (us : List Int) : T → Nat → Bool
  | .no, _ => false
  | .all, _ => true
  | .one b n, t => n == (if b then un us t else t)
def sub1 (us : List Int) : T → T → Bool
  | .no, _ => true
  | _, .no => false
  | _, .all => true
  | .all, _ => false
  | .one b n, .one c m => !disj us (.one b n) (.one c m) && (!b || c)
def eq1 : T → T → Bool
  | .no, .no => true
  | .no, _ => false
  | _, .no => false
  | .all, .all => true
  | .all, _ => false
  | _, .all => false
  | .one b n, .one c m => b == c && n == m
def inter1 (us : List Int) : T → T → T
  | .no, _ => .no
  | _, .no => .no
  | .all, y => y
  | x, .all => x
  | .one b n, .one c m => if disj us (.one b n) (.one c m) then .no else if !b || c then .one b n else .one c m
def union1 (us : List Int) : T → T → T × T
  | .no, y => (y, .no)
  | x, .no => (x, .no)
  | .all, _ => (.all, .no)
  | _, .all => (.all, .no)
  | .one b n, .one c m => if disj us (.one b n) (.one c m) then (.one b n, .one c m) else if b || !c then (.one b n, .no) else (.one c m, .no)
def T.isNo : T → Bool
  | .no => true
  | _ => false
def T.isAll : T → Bool
  | .all => true
  | _ => false
def emptyL (xs : List T) : Bool := xs.all T.isNo
def allL (xs : List T) : Bool := xs.any T.isAll
def inclL (us : List Int) (xs : List T) (t : Nat) : Bool := xs.any fun x => incl us x t
def superL (us : List Int) (xs : List T) (y : T) : Bool := xs.any fun x => sub1 us y x
def subL (us : List Int) (xs ys : List T) : Bool := if emptyL ys then emptyL xs else xs.all fun x => superL us ys x
def eqL (us : List Int) (xs ys : List T) : Bool := subL us xs ys && subL us ys xs

/-! THE REFERENCE's -/
def subS (us : List Int) (xs ys : List T) : Bool := (List.range (top us)).all fun t => !memL us xs t || memL us ys t
def sameS (us : List Int) (xs ys : List T) : Bool := subS us xs ys && subS us ys xs

theorem subS_iff {us : List Int} {xs ys : List T} : subS us xs ys = true ↔ ∀ t, t < top us → memL us xs t = true → memL us ys t = true := by
  unfold subS
  rw [List.all_eq_true]
  constructor
  · intro h t ht hx
    have := h t (List.mem_range.2 ht)
    simpa [hx] using this
  · intro h t ht
    have := h t (List.mem_range.1 ht)
    cases hx : memL us xs t
    · simp
    · simp [this hx]

/-! SEMANTICS OF ONE TERM -/
theorem incl_mem {us : List Int} {x : T} {t : Nat} (ht : t < us.length) : incl us x t = mem us x t := by
  cases x with
  | no => rfl
  | all => rfl
  | one b n => cases b <;> simp [incl, mem, und, ht, Bool.beq_eq_decide_eq, eq_comm]

/-- a point that tells a term apart: in x, and in any valid y only where x is a part of y -/
def wit (us : List Int) : T → Nat
  | .no => 0
  | .all => 2 * us.length
  | .one true n => us.length + n
  | .one false n => n

theorem und_all {us : List Int} : und us (2 * us.length) = 2 * us.length := by
  unfold und; rw [if_neg (by omega), if_neg (by omega)]
theorem und_far {us : List Int} {n : Nat} (h : n < us.length) : und us (us.length + n) = un us n := by
  unfold und; rw [if_neg (by omega), if_pos (by omega)]; congr 1; omega
theorem und_near {us : List Int} {n : Nat} (h : n < us.length) : und us n = un us n := by
  unfold und; rw [if_pos h]

theorem wit_lt {us : List Int} {x : T} (h : x.ok us) : wit us x < top us := by
  unfold top
  cases x with
  | no => simp [wit]
  | all => simp [wit]
  | one b n => obtain ⟨h1, _⟩ := h; cases b <;> simp [wit] <;> omega
theorem wit_mem {us : List Int} {x : T} (h : x.ok us) (hn : x.isNo = false) : mem us x (wit us x) = true := by
  cases x with
  | no => cases hn
  | all => rfl
  | one b n =>
    obtain ⟨h1, h2⟩ := h
    cases b
    · simp [mem, wit]
    · simp [mem, wit, und_far h1, h2]

theorem sub1_mem {us : List Int} (_hw : WOk us) {x y : T} (hx : x.ok us) (hy : y.ok us) (h : sub1 us x y = true) {t : Nat} (ht : mem us x t = true) : mem us y t = true := by
  cases x with
  | no => cases ht
  | all => cases y <;> simp_all [sub1, mem]
  | one b n =>
    cases y with
    | no => simp [sub1] at h
    | all => rfl
    | one c m =>
      obtain ⟨h1, h2⟩ := hx
      obtain ⟨h3, h4⟩ := hy
      cases b <;> cases c <;> simp [sub1, disj, mem] at h ht ⊢
      · omega
      · subst ht; rw [und_near h1]; exact h
      · rw [ht]; have := h2 rfl; have := h4 rfl; omega

theorem mem_sub1 {us : List Int} (hw : WOk us) {x y : T} (hx : x.ok us) (hy : y.ok us) (hn : x.isNo = false) (h : mem us y (wit us x) = true) : sub1 us x y = true := by
  cases x with
  | no => cases hn
  | all =>
    cases y with
    | no => cases h
    | all => rfl
    | one c m =>
      obtain ⟨h3, h4⟩ := hy
      cases c <;> simp [mem, wit, und_all] at h <;> omega
  | one b n =>
    cases y with
    | no => cases h
    | all => rfl
    | one c m =>
      obtain ⟨h1, h2⟩ := hx
      obtain ⟨h3, h4⟩ := hy
      have hlt := hw.lt n h1
      cases b <;> cases c <;> simp [sub1, disj, mem, wit] at h h2 h4 ⊢
      · exact h
      · rwa [und_near h1] at h
      · omega
      · rw [und_far h1] at h; omega

/-- a list is a part of another, by the code, exactly if it is by the points -/
theorem subL_iff {us : List Int} (hw : WOk us) {xs ys : List T} (hx : ∀ x ∈ xs, x.ok us) (hy : ∀ y ∈ ys, y.ok us) :
    subL us xs ys = true ↔ ∀ t, t < top us → memL us xs t = true → memL us ys t = true := by
  have hsup : ∀ x ∈ xs, x.isNo = false → (superL us ys x = true ↔ memL us ys (wit us x) = true) := by
    intro x hxm hn
    unfold superL memL
    rw [List.any_eq_true, List.any_eq_true]
    constructor
    · rintro ⟨y, hym, h⟩
      exact ⟨y, hym, sub1_mem hw (hx x hxm) (hy y hym) h (wit_mem (hx x hxm) hn)⟩
    · rintro ⟨y, hym, h⟩
      exact ⟨y, hym, mem_sub1 hw (hx x hxm) (hy y hym) hn h⟩
  have hno : ∀ (x : T) t, x.isNo = true → mem us x t = false := by
    intro x t h; cases x <;> simp_all [T.isNo, mem]
  unfold subL
  by_cases he : emptyL ys = true
  · rw [if_pos he]
    have hyn : ∀ t, memL us ys t = false := by
      intro t
      unfold memL
      rw [List.any_eq_false]
      intro y hym
      unfold emptyL at he
      rw [List.all_eq_true] at he
      rw [hno y t (he y hym)]; simp
    constructor
    · intro h t _ ht
      unfold emptyL at h
      rw [List.all_eq_true] at h
      unfold memL at ht
      rw [List.any_eq_true] at ht
      obtain ⟨x, hxm, hm⟩ := ht
      rw [hno x t (h x hxm)] at hm; cases hm
    · intro h
      unfold emptyL
      rw [List.all_eq_true]
      intro x hxm
      cases hn : x.isNo with
      | true => rfl
      | false =>
        have := h (wit us x) (wit_lt (hx x hxm)) (by unfold memL; rw [List.any_eq_true]; exact ⟨x, hxm, wit_mem (hx x hxm) hn⟩)
        rw [hyn] at this; cases this
  · rw [if_neg he, List.all_eq_true]
    constructor
    · intro h t _ ht
      unfold memL at ht
      rw [List.any_eq_true] at ht
      obtain ⟨x, hxm, hm⟩ := ht
      have hn : x.isNo = false := by
        cases hn : x.isNo with
        | false => rfl
        | true => rw [hno x t hn] at hm; cases hm
      have hs := h x hxm
      unfold superL at hs
      rw [List.any_eq_true] at hs
      obtain ⟨y, hym, hsy⟩ := hs
      unfold memL
      rw [List.any_eq_true]
      exact ⟨y, hym, sub1_mem hw (hx x hxm) (hy y hym) hsy hm⟩
    · intro h x hxm
      cases hn : x.isNo with
      | false =>
        rw [hsup x hxm hn]
        exact h _ (wit_lt (hx x hxm)) (by unfold memL; rw [List.any_eq_true]; exact ⟨x, hxm, wit_mem (hx x hxm) hn⟩)
      | true =>
        have hex : ∃ y, y ∈ ys := by
          cases ys with
          | nil => exact absurd rfl he
          | cons y r => exact ⟨y, by simp⟩
        obtain ⟨y, hym⟩ := hex
        unfold superL
        rw [List.any_eq_true]
        refine ⟨y, hym, ?_⟩
        cases x <;> simp_all [T.isNo, sub1]

theorem subL_subS {us : List Int} (hw : WOk us) {xs ys : List T} (hx : ∀ x ∈ xs, x.ok us) (hy : ∀ y ∈ ys, y.ok us) : subL us xs ys = subS us xs ys := by
  rw [Bool.eq_iff_iff, subL_iff hw hx hy, subS_iff]
theorem eqL_sameS {us : List Int} (hw : WOk us) {xs ys : List T} (hx : ∀ x ∈ xs, x.ok us) (hy : ∀ y ∈ ys, y.ok us) : eqL us xs ys = sameS us xs ys := by
  unfold eqL sameS; rw [subL_subS hw hx hy, subL_subS hw hy hx]

/-- two lists have the same types -/
def Same (us : List Int) (xs ys : List T) : Prop := ∀ t, t < top us → memL us xs t = memL us ys t
theorem eqL_iff {us : List Int} (hw : WOk us) {xs ys : List T} (hx : ∀ x ∈ xs, x.ok us) (hy : ∀ y ∈ ys, y.ok us) : eqL us xs ys = true ↔ Same us xs ys := by
  unfold eqL Same
  rw [Bool.and_eq_true, subL_iff hw hx hy, subL_iff hw hy hx]
  constructor
  · rintro ⟨h1, h2⟩ t ht
    rw [Bool.eq_iff_iff]
    exact ⟨h1 t ht, h2 t ht⟩
  · intro h
    exact ⟨fun t ht hm => (h t ht) ▸ hm, fun t ht hm => (h t ht).symm ▸ hm⟩

theorem disj_mem {us : List Int} (_hw : WOk us) {b c : Bool} {n m : Nat} (hx : T.ok us (.one b n)) (hy : T.ok us (.one c m)) (h : disj us (.one b n) (.one c m) = true) (t : Nat) :
    ¬ (mem us (.one b n) t = true ∧ mem us (.one c m) t = true) := by
  obtain ⟨h1, h2⟩ := hx
  obtain ⟨h3, h4⟩ := hy
  cases b <;> cases c <;> simp [disj, mem] at h h2 h4 ⊢
  · intro e; subst e; exact h
  · intro e; subst e; rw [und_near h1]; exact h
  · intro e1 e2; subst e2; rw [und_near h3] at e1; exact h e1.symm
  · intro e1 e2; omega
theorem notdisj_mem {us : List Int} {b c : Bool} {n m : Nat} (hx : T.ok us (.one b n)) (hy : T.ok us (.one c m)) (h : disj us (.one b n) (.one c m) = false) :
    ∃ t, t < us.length ∧ mem us (.one b n) t = true ∧ mem us (.one c m) t = true := by
  obtain ⟨h1, h2⟩ := hx
  obtain ⟨h3, h4⟩ := hy
  cases b <;> cases c
  · simp [disj] at h
    exact ⟨n, h1, by simp [mem], by simp [mem, h]⟩
  · simp [disj] at h
    exact ⟨n, h1, by simp [mem], by simp [mem, und_near h1, h]⟩
  · simp [disj] at h
    exact ⟨m, h3, by simp [mem, und_near h3, h], by simp [mem]⟩
  · simp [disj] at h
    have e1 := h2 rfl
    have e2 := h4 rfl
    exact ⟨n, h1, by simp [mem, und_near h1, e1], by simp [mem, und_near h1]; omega⟩

theorem inter1_ok {us : List Int} {x y : T} (hx : x.ok us) (hy : y.ok us) : (inter1 us x y).ok us := by
  cases x with
  | no => cases y <;> trivial
  | all => cases y <;> first | trivial | exact hy
  | one b n =>
    cases y with
    | no => trivial
    | all => exact hx
    | one c m =>
      show T.ok us (if disj us (.one b n) (.one c m) then .no else if !b || c then .one b n else .one c m)
      split
      · trivial
      · split
        · exact hx
        · exact hy
theorem inter1_mem {us : List Int} (hw : WOk us) {x y : T} (hx : x.ok us) (hy : y.ok us) (t : Nat) : mem us (inter1 us x y) t = (mem us x t && mem us y t) := by
  cases x with
  | no => cases y <;> simp [inter1, mem]
  | all => cases y <;> simp [inter1, mem]
  | one b n =>
    cases y with
    | no => simp [inter1, mem]
    | all => simp [inter1, mem]
    | one c m =>
      cases hd : disj us (.one b n) (.one c m) with
      | true =>
        have := disj_mem hw hx hy hd t
        simp only [inter1, hd, if_true]
        cases h1 : mem us (.one b n) t <;> cases h2 : mem us (.one c m) t <;> simp_all [mem]
      | false =>
        simp only [inter1, hd]
        cases b <;> cases c <;> simp only [Bool.not_true, Bool.not_false, Bool.or_false, Bool.or_true, if_true, if_false, Bool.false_eq_true]
        · have hs : sub1 us (.one false n) (.one false m) = true := by simp [sub1, hd]
          cases h1 : mem us (.one false n) t
          · rfl
          · rw [sub1_mem hw hx hy hs h1]; rfl
        · have hs : sub1 us (.one false n) (.one true m) = true := by simp [sub1, hd]
          cases h1 : mem us (.one false n) t
          · rfl
          · rw [sub1_mem hw hx hy hs h1]; rfl
        · have hd' : disj us (.one false m) (.one true n) = false := by
            simp [disj] at hd ⊢; omega
          have hs : sub1 us (.one false m) (.one true n) = true := by simp [sub1, hd']
          cases h1 : mem us (.one false m) t
          · simp
          · rw [sub1_mem hw hy hx hs h1]; rfl
        · have hs : sub1 us (.one true n) (.one true m) = true := by simp [sub1, hd]
          cases h1 : mem us (.one true n) t
          · rfl
          · rw [sub1_mem hw hx hy hs h1]; rfl

theorem union1_ok {us : List Int} {x y : T} (hx : x.ok us) (hy : y.ok us) : (union1 us x y).1.ok us ∧ (union1 us x y).2.ok us := by
  cases x with
  | no => cases y <;> first | exact ⟨hy, trivial⟩ | exact ⟨trivial, trivial⟩
  | all => cases y <;> exact ⟨trivial, trivial⟩
  | one b n =>
    cases y with
    | no => exact ⟨hx, trivial⟩
    | all => exact ⟨trivial, trivial⟩
    | one c m =>
      show T.ok us (if disj us (.one b n) (.one c m) then (T.one b n, T.one c m) else if b || !c then (T.one b n, T.no) else (T.one c m, T.no)).1 ∧ T.ok us (if disj us (.one b n) (.one c m) then (T.one b n, T.one c m) else if b || !c then (T.one b n, T.no) else (T.one c m, T.no)).2
      split
      · exact ⟨hx, hy⟩
      · split
        · exact ⟨hx, trivial⟩
        · exact ⟨hy, trivial⟩
theorem union1_mem {us : List Int} (hw : WOk us) {x y : T} (hx : x.ok us) (hy : y.ok us) (t : Nat) : (mem us (union1 us x y).1 t || mem us (union1 us x y).2 t) = (mem us x t || mem us y t) := by
  cases x with
  | no => cases y <;> simp [union1, mem]
  | all => cases y <;> simp [union1, mem]
  | one b n =>
    cases y with
    | no => simp [union1, mem]
    | all => simp [union1, mem]
    | one c m =>
      cases hd : disj us (.one b n) (.one c m) with
      | true => simp only [union1, hd, if_true]
      | false =>
        simp only [union1, hd]
        have key : ∀ {x y : T}, x.ok us → y.ok us → sub1 us x y = true → (mem us y t || mem us .no t) = (mem us x t || mem us y t) := by
          intro x y hx hy hs
          cases h1 : mem us x t
          · simp [mem]
          · rw [sub1_mem hw hx hy hs h1]; rfl
        cases b <;> cases c <;> simp only [Bool.not_true, Bool.not_false, Bool.or_false, Bool.or_true, if_true, if_false, Bool.false_eq_true]
        · rw [Bool.or_comm (mem us (.one false n) t) (mem us (.one false m) t)]
          exact key hy hx (by simp [sub1, disj] at hd ⊢; omega)
        · exact key hx hy (by simp [sub1, hd])
        · rw [Bool.or_comm (mem us (.one true n) t) (mem us (.one false m) t)]
          exact key hy hx (by simp [sub1, disj] at hd ⊢; omega)
        · rw [Bool.or_comm (mem us (.one true n) t) (mem us (.one true m) t)]
          exact key hy hx (by simp [sub1, disj] at hd ⊢; omega)

theorem eq1_iff {us : List Int} {x y : T} (hx : x.ok us) (hy : y.ok us) : eq1 x y = eqL us [x] [y] := by
  have h2 : ∀ x y : T, x.ok us → y.ok us → subL us [x] [y] = sub1 us x y := by
    intro x y _ _
    cases x <;> cases y <;> simp [subL, emptyL, superL, T.isNo, sub1]
  unfold eqL
  rw [h2 x y hx hy, h2 y x hy hx]
  cases x with
  | no => cases y <;> rfl
  | all => cases y <;> rfl
  | one b n =>
    cases y with
    | no => rfl
    | all => rfl
    | one c m =>
      obtain ⟨h1, h2⟩ := hx
      obtain ⟨h3, h4⟩ := hy
      rw [Bool.eq_iff_iff]
      cases b <;> cases c <;> simp [eq1, sub1, disj] at h2 h4 ⊢
      · omega
      · omega
end Go.Proofs.Ytehadfnaknpagaa.Pl
