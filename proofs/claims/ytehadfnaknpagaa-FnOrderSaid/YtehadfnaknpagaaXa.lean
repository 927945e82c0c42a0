/-
  THE ROWS' FRAME: what the arguments of a law read as, said of the walk's words: a world of types, a list of terms, a term, an integer. Conditions: none beyond what the row's reader gives.
-/
import Derived.Test.YtehadfnaknpagaaWt
import Derived.ProofKit
import Derived.OpenShut
import Derived.JoinedCond
import Derived.Lib.SmallJoins
import Derived.Deep.Slices
import Derived.Deep.Strs
import Derived.ChangeOld
namespace Go.Proofs.Ytehadfnaknpagaa
open Go.ChangeShapes Go.WideShapes Go.ChangeAt Go.RowKit Pl

theorem Try.own : ownKnob Try.prog.godebug = none := by kernel_rfl
theorem Try.laidOut : laidOutB Try.prog = true := by kernel_rfl
theorem Try.cells29 : Try.prog.cellsOf 29 = 3 := by kernel_rfl
theorem Try.cells3 : Try.prog.cellsOf 3 = 1 := by kernel_rfl
theorem Try.cells4 : Try.prog.cellsOf 4 = 1 := by kernel_rfl

theorem bulk_one {H : Type} (d : DataW H) : 1 ≤ Rows.uptoBulk d := by
  cases d with
  | lit l => cases l <;> simp [Rows.uptoBulk]
  | _ => simp [Rows.uptoBulk]
theorem bulk_len {H : Type} (l : List (DataW H)) : l.length ≤ Rows.uptoBulkAll l := by
  induction l with
  | nil => simp
  | cons x r ih => have := bulk_one x; simp only [Rows.uptoBulkAll, List.length_cons]; omega

section
variable {H : Type} {enc : TypeId × Value → H} {w : World} {base b0 : Nat} {spare : Nat → Bool} {held : Bool}

/-- a slice's cells, said of the walk's word -/
theorem rd_of {w : World} {a : Addr} {xs : List Value} (h : ∀ j u, xs[j]? = some u → w.cell? (a.add j) = some u) : Rd w (some a) xs := by
  intro hne
  obtain ⟨b, off, spot⟩ := a
  have h0 : ∃ u, xs[0]? = some u := by
    cases xs with
    | nil => exact absurd rfl hne
    | cons u r => exact ⟨u, rfl⟩
  obtain ⟨u, hu⟩ := h0
  have hc := h 0 u hu
  have hs : spot = none := by simpa [Addr.add] using World.cell?_spot hc
  subst hs
  refine ⟨b, off, rfl, fun j u hu => ?_⟩
  have hj := h j u hu
  have e : (⟨b, off, none⟩ : Addr).add j = ⟨b, off + j, none⟩ := by unfold Addr.add; split <;> simp_all
  rw [e] at hj
  exact hj

/-- a list of integers that came in -/
theorem open_us {v : Value} {d : DataW H} {p : List MemPlace} (hv : Value.okWide Try.prog w .any b0 22 v) (h : DataW.Trod enc Try.prog w base spare held 22 v d p) :
    ∃ A us c, v = .slice A (List.length us) c ∧ Rd w A (ints us) ∧ us.length ≤ Rows.uptoBulk d := by
  obtain ⟨a0, len, cap, rfl⟩ := okWide_slice Try.underlying22 hv
  obtain ⟨fuel, hf⟩ := h
  rcases open_ints Try.underlying22 Try.underlying3 Try.cells3 hf with ⟨hcs, _⟩ | ⟨a, l, c, zs, hcs, _, hl, hm, hz, hx, hcell, _⟩
  · simp [Value.cells] at hcs
    obtain ⟨rfl, rfl, rfl⟩ := hcs
    exact ⟨none, [], 0, rfl, fun h => absurd rfl h, Nat.zero_le _⟩
  · simp [Value.cells] at hcs
    obtain ⟨rfl, rfl, rfl⟩ := hcs
    have hlen : (zs.take len).length = len := by
      rw [List.length_take, hz]
      split <;> omega
    refine ⟨some a, zs.take len, cap, by rw [hlen], rd_of fun j u hu => ?_, ?_⟩
    · have hj : j < (zs.take len).length := by
        have := (List.getElem?_eq_some_iff.1 hu).1
        simpa [ints] using this
      rw [hcell j (by rw [List.length_take] at hj; omega)]
      simp only [ints, List.getElem?_map, List.getElem?_eq_getElem hj] at hu
      rw [List.getElem_take] at hu
      rw [← hu, List.getD_eq_getElem?_getD, List.getElem?_eq_getElem (by rw [List.length_take] at hj; omega)]
      rfl
    · have e : d = .slice (lits .i64 (zs.take len)) (lits .i64 (zs.drop len)) := congrArg Prod.fst hx
      rw [e]
      simp only [Rows.uptoBulk]
      have := bulk_len (H := H) (lits .i64 (zs.take len))
      have e2 : (lits (H := H) .i64 (zs.take len)).length = (zs.take len).length := by simp [lits]
      omega

theorem flat3 (f : Nat → Tm) (n : Nat) (g : Nat → Nat → Value) (h : ∀ i, i < n → g i 0 = .int .i64 (f i).kind ∧ g i 1 = .bool (f i).tilde ∧ g i 2 = .int .i64 (f i).type) :
    ∀ j u, (tcs ((List.range n).map f))[j]? = some u → j < n * 3 ∧ u = g (j / 3) (j % 3) := by
  intro j u hu
  have hl := tcs_length ((List.range n).map f)
  simp only [List.length_map, List.length_range] at hl
  have hj : j < n * 3 := by
    have := (List.getElem?_eq_some_iff.1 hu).1
    omega
  refine ⟨hj, ?_⟩
  have hi : j / 3 < n := by omega
  have hi' : j / 3 < ((List.range n).map f).length := by simpa using hi
  obtain ⟨h1, h2, h3⟩ := tcs_at ((List.range n).map f) (j / 3) hi'
  obtain ⟨g1, g2, g3⟩ := h (j / 3) hi
  have ef : ((List.range n).map f)[j / 3] = f (j / 3) := by simp
  rw [ef] at h1 h2 h3
  have h3' : j % 3 = 0 ∨ j % 3 = 1 ∨ j % 3 = 2 := by omega
  rcases h3' with e | e | e
  · rw [e, g1]
    rw [show 3 * (j / 3) = j from by omega, hu] at h1
    injection h1
  · rw [e, g2]
    rw [show 3 * (j / 3) + 1 = j from by omega, hu] at h2
    injection h2
  · rw [e, g3]
    rw [show 3 * (j / 3) + 2 = j from by omega, hu] at h3
    injection h3

theorem choose_lt' {α : Type} {n : Nat} {p : Nat → α → Prop} (a : α) (h : ∀ i, i < n → ∃ x, p i x) : ∃ f : Nat → α, ∀ i, i < n → p i (f i) := by
  classical
  refine ⟨fun i => if hi : i < n then (h i hi).choose else a, fun i hi => ?_⟩
  simp only [dif_pos hi]
  exact (h i hi).choose_spec

/-- a list of terms that came in -/
theorem open_ts {v : Value} {d : DataW H} {p : List MemPlace} (hv : Value.okWide Try.prog w .any b0 23 v) (h : DataW.Trod enc Try.prog w base spare held 23 v d p) :
    ∃ A xs c, v = .slice A (List.length xs) c ∧ Rd w A (tcs xs) ∧ xs.length ≤ Rows.uptoBulk d := by
  obtain ⟨a0, len, cap, rfl⟩ := okWide_slice Try.underlying23 hv
  obtain ⟨fuel, hf⟩ := h
  rcases Go.Deep.open_slice Try.underlying23 hf with ⟨hcs, _⟩ | ⟨a, l, c, m, n, D, Pl, hcs, _, hl, hm, hmm, hx, hel⟩
  · simp [Value.cells] at hcs
    obtain ⟨rfl, rfl, rfl⟩ := hcs
    exact ⟨none, [], 0, rfl, fun h => absurd rfl h, Nat.zero_le _⟩
  · simp [Value.cells] at hcs
    obtain ⟨rfl, rfl, rfl⟩ := hcs
    have hlm : len ≤ m := by rw [hmm]; split <;> omega
    rw [Try.cells29] at hel
    have each : ∀ i, i < len → ∃ t : Tm, w.cell? (a.add (i * 3)) = some (.int .i64 t.kind) ∧ w.cell? (a.add (i * 3 + 1)) = some (.bool t.tilde) ∧ w.cell? (a.add (i * 3 + 2)) = some (.int .i64 t.type) := by
      intro i hi
      obtain ⟨cs', hc, ht⟩ := hel i (by omega)
      obtain ⟨_, hl3, hat⟩ := World.cells?_some hc
      obtain ⟨y0, y1, y2, n', _, _, f0, f1, f2⟩ := Go.Deep.trod_struct3 Try.underlying29 ht
      match cs', hl3 with
      | [v0, v1, v2], _ =>
        obtain ⟨k, e0, _, _⟩ := DataW.trod_int Try.underlying3 f0
        obtain ⟨tl, e1, _⟩ := DataW.trod_bool Try.underlying4 f1
        obtain ⟨ty, e2, _, _⟩ := DataW.trod_int Try.underlying3 f2
        simp [Try.cells3] at e0 e2
        simp [Try.cells4] at e1
        subst e0 e1 e2
        have a1 := hat 0 (by omega)
        have a2 := hat 1 (by omega)
        have a3 := hat 2 (by omega)
        have ad : ∀ s, (a.add (i * 3)).add s = a.add (i * 3 + s) := fun s => Go.Deep.add_add a (i * 3) s
        rw [ad] at a1 a2 a3
        exact ⟨⟨k, tl, ty⟩, by simpa using a1, by simpa using a2, by simpa using a3⟩
    obtain ⟨f, hf'⟩ := choose_lt' (⟨0, false, 0⟩ : Tm) each
    have hlen : ((List.range len).map f).length = len := by simp
    refine ⟨some a, (List.range len).map f, cap, by rw [hlen], rd_of fun j u hu => ?_, ?_⟩
    · obtain ⟨hj, rfl⟩ := flat3 f len (fun i s => if s = 0 then .int .i64 (f i).kind else if s = 1 then .bool (f i).tilde else .int .i64 (f i).type) (fun i _ => ⟨rfl, rfl, rfl⟩) j u hu
      have hi : j / 3 < len := by omega
      obtain ⟨h1, h2, h3⟩ := hf' (j / 3) hi
      have h3' : j % 3 = 0 ∨ j % 3 = 1 ∨ j % 3 = 2 := by omega
      rcases h3' with e | e | e
      · rw [e]
        rw [show j / 3 * 3 = j from by omega] at h1
        exact h1
      · rw [e]
        rw [show j / 3 * 3 + 1 = j from by omega] at h2
        exact h2
      · rw [e]
        rw [show j / 3 * 3 + 2 = j from by omega] at h3
        exact h3
    · have e : d = .slice ((List.range len).map D) ((List.range (m - len)).map fun j => D (len + j)) := congrArg Prod.fst hx
      rw [e]
      simp only [Rows.uptoBulk]
      have := bulk_len ((List.range len).map D)
      simp only [List.length_map, List.length_range] at this ⊢
      omega

/-- a term that came in -/
theorem open_tm {v : Value} {d : DataW H} {p : List MemPlace} (hv : Value.okWide Try.prog w .any b0 29 v) (h : DataW.Trod enc Try.prog w base spare held 29 v d p) : ∃ x : Tm, v = tmv x := by
  obtain ⟨c0, c1, c2, y0, y1, y2, m, rfl, rfl, rfl, f0, f1, f2⟩ := Go.Joins.open_agg3 Try.underlying29 (by kernel_rfl) Try.cells29 hv h
  obtain ⟨k, e0, _, _⟩ := DataW.trod_int Try.underlying3 f0
  obtain ⟨tl, e1, _⟩ := DataW.trod_bool Try.underlying4 f1
  obtain ⟨ty, e2, _, _⟩ := DataW.trod_int Try.underlying3 f2
  simp at e0 e1 e2
  subst e0 e1 e2
  exact ⟨⟨k, tl, ty⟩, rfl⟩
/-- an integer that came in -/
theorem open_i {v : Value} {d : DataW H} {p : List MemPlace} (hv : Value.okWide Try.prog w .any b0 3 v) (h : DataW.Trod enc Try.prog w base spare held 3 v d p) : ∃ x : Int, v = .int .i64 x ∧ -9223372036854775808 ≤ x ∧ x ≤ 9223372036854775807 := by
  obtain ⟨x, rfl, rfl, rfl, wx⟩ := open_int Try.underlying3 hv h
  refine ⟨x, rfl, ?_⟩
  simpa [Lit.wf, IntKind.min, IntKind.max, IntKind.signed, IntKind.bits] using wx
end
end Go.Proofs.Ytehadfnaknpagaa
