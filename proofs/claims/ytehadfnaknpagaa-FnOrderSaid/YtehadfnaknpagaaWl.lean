/-
  THE WALKS, TWELFTH PART: the normal form.
-/
import Derived.Test.YtehadfnaknpagaaWk
import Derived.Test.YtehadfnaknpagaaPc
namespace Go.Proofs.Ytehadfnaknpagaa
open Go.RowKit Pl

theorem Try.info4 : (Try.prog.info? 4).map (fun i => (i.zero, i.size, i.bytes)) = some (some (.bool false), 1, 1) := by kernel_rfl
theorem PT.isno {w : World} {us : List Int} {K : Nat → Nat} {v : Value} {x : T} (h : PT w us K v x) (hn : x.isNo = true) : v = .pointer none := by
  cases x with
  | no => exact h
  | all => cases hn
  | one b n => cases hn
theorem PT.nn {w : World} {us : List Int} {K : Nat → Nat} {v : Value} {x : T} (h : PT w us K v x) (hn : x.isNo = false) :
    ∃ g tl p, v = .pointer (some ⟨g, 0, none⟩) ∧ Blk w g 85 #[.bool tl, .pointer p] ∧ p.isNone = x.isAll := by
  cases x with
  | no => cases hn
  | all => obtain ⟨g, tl, hv, hg⟩ := h; exact ⟨g, tl, none, hv, hg, rfl⟩
  | one b n => obtain ⟨_, g, hv, hg⟩ := h; exact ⟨g, b, _, hv, hg, rfl⟩
theorem TL.at2 {w w' : World} {us : List Int} {K : Nat → Nat} {A : Option Addr} {xs : List T} (h : TL w us K A xs) (hb : Below w.heap.size w w') {i : Nat} (hi : i < xs.length) :
    ∃ b off v, A = some ⟨b, off, none⟩ ∧ w'.cell? ⟨b, off + i, none⟩ = some v ∧ PT w us K v (xs.getD i .no) := by
  obtain ⟨b, off, v, hA, hc, hp⟩ := h.at_ hi
  refine ⟨b, off, v, hA, (hb.cell (World.block_lt_of_cell? w _ hc)).trans hc, ?_⟩
  rw [List.getD_eq_getElem?_getD, List.getElem?_eq_getElem hi]
  exact hp

/-- the loops' memory: the marks ub, what has been gathered, rl -/
structure Nl (w : World) (us : List Int) (K : Nat → Nat) (n : Nat) (ub : List Bool) (rl : List T) (v : Value) (wr : World) : Prop where
  len : ub.length = n
  row : wr.rowIs w.heap.size 4 n fun i => .bool (ub.getD i false)
  own : ∃ vs, wr.ownsRow w.heap.size 69 1 v rl.length vs ∧ TLs w us K vs rl
  below : Below w.heap.size w wr
theorem Nl.start (w : World) (us : List Int) (K : Nat → Nat) (n : Nat) : Nl w us K n (List.replicate n false) [] (.slice none 0 0) (w.alloc (.cells (madeCells #[.bool false] n) 4)) where
  len := by simp
  row := (World.rowIs_made w (.bool false) n 4).congr fun i _ => by rw [getD_rep]
  own := ⟨[], World.ownsRow_nil _ _ _ _, TLs.nil _ _ _⟩
  below := (Below.refl _ _).alloc (Nat.le_refl _) _
theorem Nl.after {w wr wq : World} {us : List Int} {K : Nat → Nat} {n : Nat} {ub : List Bool} {rl : List T} {v : Value} (h : Nl w us K n ub rl v wr) (hb : Below wr.heap.size wr wq) : Nl w us K n ub rl v wq where
  len := h.len
  row := h.row.of_block (hb.block _ h.row.lt)
  own := by obtain ⟨vs, h1, h2⟩ := h.own; exact ⟨vs, own_below h1 hb, h2⟩
  below := h.below.trans (hb.mono h.below.size)
theorem own_row_ne {w : World} {base : Nat} {e t : TypeId} {size n g m : Nat} {v : Value} {xs : List Value} {f : Nat → Value} (h : w.ownsRow base e size v n xs) (hg : w.rowIs g t m f) (hne : e ≠ t) : v.ownBlock ≠ some g := by
  obtain ⟨c, hc, _, _⟩ := hg
  exact fun e => own_ne (cs := c) h hc hne e.symm
theorem grown_setCell (w : World) (p : Addr) (u : Value) : w.grownBy (w.setCell p u) (some p.block) :=
  ⟨rfl, rfl, rfl, by simp [World.setCell], fun k _ hne => Below.heap_setCell w p u k (fun e => hne (by rw [e]))⟩
theorem Nl.mark {w wr : World} {us : List Int} {K : Nat → Nat} {n j : Nat} {ub : List Bool} {rl : List T} {v : Value} (h : Nl w us K n ub rl v wr) (hj : j < n) :
    Nl w us K n (ub.set j true) rl v (wr.setCell ⟨w.heap.size, j, none⟩ (.bool true)) where
  len := by simpa using h.len
  row := (h.row.set j (.bool true)).congr fun i _ => by
    by_cases e : i = j
    · subst e; rw [if_pos rfl, getD_set_eq (by rw [h.len]; exact hj)]
    · rw [if_neg e, Pl.getD_set_ne (fun h => e h.symm)]
  own := by
    obtain ⟨vs, h1, h2⟩ := h.own
    exact ⟨vs, h1.kept (grown_setCell wr ⟨w.heap.size, j, none⟩ (.bool true)) (.inr (own_row_ne h1 h.row (by decide))), h2⟩
  below := h.below.setCell (by simp) _
theorem Nl.push {w wr w1 : World} {us : List Int} {K : Nat → Nat} {n : Nat} {ub : List Bool} {rl : List T} {v v1 u : Value} {x : T} {vs : List Value} (h : Nl w us K n ub rl v wr) (hvs : wr.ownsRow w.heap.size 69 1 v rl.length vs) (ht : TLs w us K vs rl) (hp : PT w us K u x)
    (hown : w1.ownsRow w.heap.size 69 1 v1 (rl.length + 1) (vs ++ [u])) (hg : (wr.alloc (.cells #[u] 69)).grownBy w1 v.ownBlock) : Nl w us K n ub (rl ++ [x]) v1 w1 where
  len := h.len
  row := by
    have hr := h.row.alloc (.cells #[u] 69)
    refine hr.of_block (hg.block _ hr.lt ?_)
    exact fun e => own_row_ne hvs h.row (by decide) e.symm
  own := ⟨vs ++ [u], by simpa using hown, ht.append (TLs.one hp)⟩
  below := (h.below.alloc h.below.size _).grown hg (by have := h.below.size; simp; omega) (fun g hgb => (hvs.lt g hgb).1)
theorem Nl.bt {w wr : World} {us : List Int} {K : Nat → Nat} {n : Nat} {ub : List Bool} {rl : List T} {v : Value} (h : Nl w us K n ub rl v wr) : Bt w us K rl v wr := by
  obtain ⟨vs, h1, h2⟩ := h.own
  exact ⟨vs, h1, h2.below h.below, h.below⟩
theorem Bt.alltl {w wr : World} {us : List Int} {K : Nat → Nat} (hb : Below w.heap.size w wr) :
    Bt w us K [.all] (.slice (some ⟨wr.heap.size + 1, 0, none⟩) 1 1) ((wr.alloc (.cells #[.bool false, .pointer none] 85)).alloc (.cells #[.pointer (some ⟨wr.heap.size, 0, none⟩)] 69)) := by
  have hs := hb.size
  have h1 := World.ownsRow_lit (base := w.heap.size) (e := 69) (size := 1) (wr.alloc (.cells #[.bool false, .pointer none] 85)) #[.pointer (some ⟨wr.heap.size, 0, none⟩)] 1 (by simp; omega) (by decide) rfl
  simp only [World.size_alloc] at h1
  refine ⟨_, h1, TLs.one ⟨wr.heap.size, false, rfl, (Blk.new _ _ _).alloc _⟩, (hb.alloc hs _).alloc (by simp; omega) _⟩

/-- the rest of the outer loop gives the normal form -/
def NO (us : List Int) (xs : List T) (k : Nat) (ub : List Bool) (rl : List T) : Prop := nout us xs (xs.length - k) k ub rl = norm us xs
def NI (us : List Int) (xs : List T) (j : Nat) (x : T) (ub : List Bool) (R : Option (T × List Bool)) : Prop := nin us xs (xs.length - j) j x ub = R
theorem NO.start (us : List Int) (xs : List T) : NO us xs 0 (List.replicate xs.length false) [] := rfl
theorem NO.skip {us : List Int} {xs : List T} {k : Nat} {ub : List Bool} {rl : List T} (h : NO us xs k ub rl) (hk : k < xs.length) (hs : ((xs.getD k .no).isNo || ub.getD k false) = true) : NO us xs (k + 1) ub rl := by
  unfold NO at h ⊢
  rw [show xs.length - k = (xs.length - (k + 1)) + 1 from by omega] at h
  rw [nout, if_pos hs] at h
  exact h
theorem NO.open_ {us : List Int} {xs : List T} {k : Nat} {ub : List Bool} {rl : List T} (h : NO us xs k ub rl) (hk : k < xs.length) (hn : (xs.getD k .no).isNo = false) (hu : ub.getD k false = false) :
    ∃ R, NI us xs (k + 1) (xs.getD k .no) ub R ∧ (R = none → norm us xs = [.all]) ∧ ∀ x ub', R = some (x, ub') → NO us xs (k + 1) ub' (rl ++ [x]) := by
  unfold NO at h
  rw [show xs.length - k = (xs.length - (k + 1)) + 1 from by omega] at h
  rw [nout, if_neg (by rw [hn, hu]; decide)] at h
  refine ⟨_, rfl, fun hR => ?_, fun x ub' hR => ?_⟩
  · rw [hR] at h; exact h.symm
  · rw [hR] at h; exact h
theorem NO.done {us : List Int} {xs : List T} {ub : List Bool} {rl : List T} (h : NO us xs xs.length ub rl) : rl = norm us xs := by
  unfold NO at h
  rw [Nat.sub_self] at h
  exact h
theorem NI.skip {us : List Int} {xs : List T} {j : Nat} {x : T} {ub : List Bool} {R : Option (T × List Bool)} (h : NI us xs j x ub R) (hj : j < xs.length) (hs : ((xs.getD j .no).isNo || ub.getD j false) = true) : NI us xs (j + 1) x ub R := by
  unfold NI at h ⊢
  rw [show xs.length - j = (xs.length - (j + 1)) + 1 from by omega] at h
  rw [nin, if_pos hs] at h
  exact h
theorem NI.apart {us : List Int} {xs : List T} {j : Nat} {x : T} {ub : List Bool} {R : Option (T × List Bool)} (h : NI us xs j x ub R) (hj : j < xs.length) (hn : (xs.getD j .no).isNo = false) (hu : ub.getD j false = false)
    (h2 : (union1 us x (xs.getD j .no)).2.isNo = false) : NI us xs (j + 1) x ub R := by
  unfold NI at h ⊢
  rw [show xs.length - j = (xs.length - (j + 1)) + 1 from by omega] at h
  rw [nin, if_neg (by rw [hn, hu]; decide), if_neg (by rw [h2]; decide)] at h
  exact h
theorem NI.join {us : List Int} {xs : List T} {j : Nat} {x : T} {ub : List Bool} {R : Option (T × List Bool)} (h : NI us xs j x ub R) (hj : j < xs.length) (hn : (xs.getD j .no).isNo = false) (hu : ub.getD j false = false)
    (h2 : (union1 us x (xs.getD j .no)).2.isNo = true) (h3 : (union1 us x (xs.getD j .no)).1.isAll = false) : NI us xs (j + 1) (union1 us x (xs.getD j .no)).1 (ub.set j true) R := by
  unfold NI at h ⊢
  rw [show xs.length - j = (xs.length - (j + 1)) + 1 from by omega] at h
  rw [nin, if_neg (by rw [hn, hu]; decide), if_pos h2, if_neg (by rw [h3]; decide)] at h
  exact h
theorem NI.whole {us : List Int} {xs : List T} {j : Nat} {x : T} {ub : List Bool} {R : Option (T × List Bool)} (h : NI us xs j x ub R) (hj : j < xs.length) (hn : (xs.getD j .no).isNo = false) (hu : ub.getD j false = false)
    (h2 : (union1 us x (xs.getD j .no)).2.isNo = true) (h3 : (union1 us x (xs.getD j .no)).1.isAll = true) : R = none := by
  unfold NI at h
  rw [show xs.length - j = (xs.length - (j + 1)) + 1 from by omega] at h
  rw [nin, if_neg (by rw [hn, hu]; decide), if_pos h2, if_pos h3] at h
  exact h.symm
theorem NI.done {us : List Int} {xs : List T} {x : T} {ub : List Bool} {R : Option (T × List Bool)} (h : NI us xs xs.length x ub R) : R = some (x, ub) := by
  unfold NI at h
  rw [Nat.sub_self] at h
  exact h.symm
end Go.Proofs.Ytehadfnaknpagaa
