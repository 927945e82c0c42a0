/-
  THE LAWS' FRAME, SEVENTH PART: the turned list of FnOrder, as run equations. Conditions: those that each lemma names.
-/
import Derived.Test.YtehadfnaknpagaaXh
namespace Go.Proofs.Ytehadfnaknpagaa
open Go.RowKit Pl

/-- an append of terms whose run is known, at its operation and at a plain region's list -/
theorem wp_app {P : Program} {w : World} {o : Oper} {a : Act} {K : Act → World → Prop} {Q : Exit → Act → World → Prop} (s x : Operand) (ho : o.op = .call { callee := .builtin .append, args := #[s, x], argTypes := #[23, 23] }) (v u : Value) (hs : a.eval s = v) (hx : a.eval x = u) {v' : Value} {w' : World}
    (hr : (Builtin.append_ #[23, 23] o.type #[v, u]).run P w = .ok v' w') (h : K (a.put o.dst v') w') : o.wp P a w K Q := by
  unfold Oper.wp
  simp [execOp, ho, resolve, invoke, builtin, hs, hx, hr, Result.andThen]
  exact h
theorem wpList_app {P : Program} {w : World} {ops : Array Oper} {rest : List Oper} {o : Oper} {a : Act} {Q : Exit → Act → World → Prop} (hgd : o.guard = none) (s x : Operand) (ho : o.op = .call { callee := .builtin .append, args := #[s, x], argTypes := #[23, 23] }) (v u : Value) (hs : a.eval s = v) (hx : a.eval x = u) {v' : Value} {w' : World}
    (hr : (Builtin.append_ #[23, 23] o.type #[v, u]).run P w = .ok v' w') (h : wpList P ops Q rest (a.put o.dst v') w') : wpList P ops Q (o :: rest) a w :=
  wpList_plain hgd fun _ hK => wp_app s x ho v u hs hx hr (hK _ _ h)
theorem tcs_drop (xs : List Tm) (k : Nat) (h : k ≤ xs.length) : tcs (xs.drop k) = (tcs xs).drop (k * 3) := by
  have e : tcs xs = tcs (xs.take k) ++ tcs (xs.drop k) := by rw [← tcs_app, List.take_append_drop]
  have hl : (tcs (xs.take k)).length = k * 3 := by rw [tcs_length, List.length_take]; congr 1; omega
  rw [e, ← hl, List.drop_left]
theorem tcs_take (xs : List Tm) (k : Nat) (h : k ≤ xs.length) : tcs (xs.take k) = (tcs xs).take (k * 3) := by
  have e : tcs xs = tcs (xs.take k) ++ tcs (xs.drop k) := by rw [← tcs_app, List.take_append_drop]
  have hl : (tcs (xs.take k)).length = k * 3 := by rw [tcs_length, List.length_take]; congr 1; omega
  rw [e, ← hl, List.take_left]
theorem rd_at {w : World} {a : Addr} {xs : List Value} (h : Rd w (some a) xs) {i j : Nat} {u : Value} (hu : xs[i + j]? = some u) : w.cell? ((a.add i).add j) = some u := by
  obtain ⟨b, off, ha, hc⟩ := h (by intro e; rw [e] at hu; simp at hu)
  injection ha with ha
  subst ha
  have := hc (i + j) u hu
  have e : ((⟨b, off, none⟩ : Addr).add i).add j = ⟨b, off + (i + j), none⟩ := by rw [Go.Deep.add_add]; unfold Addr.add; split <;> simp_all
  rw [e]
  exact this
theorem sc_drop {w : World} {a : Addr} {xs : List Tm} {k c : Nat} (hk : k ≤ xs.length) (hc : xs.length ≤ c) (h : Rd w (some a) (tcs xs)) : Sc w (.slice (if c = k then some a else some (a.add (k * 3))) (xs.length - k) (c - k)) (xs.drop k) := by
  by_cases e : c = k
  · rw [if_pos e]
    have hd : xs.drop k = [] := List.drop_of_length_le (by omega)
    refine .inr ⟨a, c - k, by rw [hd]; simp; omega, fun j u hu => ?_⟩
    rw [hd] at hu
    simp [tcs] at hu
  · rw [if_neg e]
    refine .inr ⟨a.add (k * 3), c - k, by rw [List.length_drop], fun j u hu => ?_⟩
    rw [tcs_drop xs k hk, List.getElem?_drop] at hu
    exact rd_at h hu
theorem sc_take {w : World} {a : Addr} {xs : List Tm} {k c : Nat} (hk : k ≤ xs.length) (h : Rd w (some a) (tcs xs)) : Sc w (.slice (some a) k c) (xs.take k) := by
  refine .inr ⟨a, c, by rw [List.length_take]; congr 1; omega, fun j u hu => ?_⟩
  rw [tcs_take xs k hk, List.getElem?_take] at hu
  split at hu
  · have := rd_at (i := 0) h (by rw [Nat.zero_add]; exact hu)
    rwa [Go.Deep.add_add, Nat.zero_add] at this
  · cases hu
theorem sc_all {w : World} {a : Addr} {xs : List Tm} {c : Nat} (h : Rd w (some a) (tcs xs)) : Sc w (.slice (some a) xs.length c) xs := by
  have := sc_take (c := c) (Nat.le_refl xs.length) h
  rwa [List.take_length] at this
theorem rot_len {xs : List Tm} {k : Nat} (hk : k ≤ xs.length) : (xs.drop k ++ xs.take k).length = xs.length := by
  rw [List.length_append, List.length_drop, List.length_take]; omega
theorem rot_runs {w : World} {xs : List Tm} {k ty1 ty2 : Nat} {s1 s2 : Value} (hk : k ≤ xs.length) (hl : xs.length ≤ 2147483647) (h1 : Sc w s1 (xs.drop k)) (h2 : ∀ w', Below w.heap.size w w' → Sc w' s2 (xs.take k)) :
    ∃ v1 wA v2 wB, (Builtin.append_ #[23, 23] ty1 #[.slice none 0 0, s1]).run Try.prog w = .ok v1 wA ∧ (Builtin.append_ #[23, 23] ty2 #[v1, s2]).run Try.prog wA = .ok v2 wB ∧
      wB.ownsRow w.heap.size 29 3 v2 xs.length (tcs (xs.drop k ++ xs.take k)) ∧ Below w.heap.size w wB := by
  obtain ⟨v1, wA, r1, o1, g1⟩ := app_own (ty := ty1) (World.ownsRow_nil w w.heap.size 29 3) h1 (by rw [List.length_drop]; omega) (Nat.le_refl _)
  have b1 : Below w.heap.size w wA := (Below.refl _ _).grown g1 (Nat.le_refl _) (fun g hg => by cases hg)
  obtain ⟨v2, wB, r2, o2, g2⟩ := app_own (ty := ty2) o1 (h2 wA b1) (by rw [List.length_drop, List.length_take]; omega) b1.size
  refine ⟨v1, wA, v2, wB, r1, r2, ?_, b1.grown g2 b1.size (fun g hg => (o1.lt g hg).1)⟩
  have e : 0 + (xs.drop k).length + (xs.take k).length = xs.length := by rw [List.length_drop, List.length_take]; omega
  rw [e, List.nil_append, ← tcs_app] at o2
  exact o2
theorem own_keep29 {w w' : World} {base n : Nat} {v : Value} {xs : List Value} (h : w.ownsRow base 29 3 v n xs) (hb : Below w.heap.size w w') : w'.ownsRow base 29 3 v n xs := by
  refine ⟨h.1, h.2.imp id fun ⟨g, cap, cur, h1, h2, h3, h4⟩ => ⟨g, cap, cur, h1, h2, ?_, h4⟩⟩
  have hlt : g < w.heap.size := by
    rcases Nat.lt_or_ge g w.heap.size with h | h
    · exact h
    · rw [Array.getElem?_eq_none h] at h3; cases h3
  exact (hb.block g hlt).trans h3
theorem cap_none {H : Type} {enc : TypeId × Value → H} {w : World} {b0 : Nat} {spare : Nat → Bool} {held : Bool} {A : Option Addr} {l c : Nat} {d : DataW H} {p : List MemPlace} (h : DataW.Trod enc Try.prog w b0 spare held 23 (.slice A l c) d p) : A = none → c = 0 := by
  intro hA
  obtain ⟨fuel, hf⟩ := h
  rcases Go.Deep.open_slice Try.underlying23 hf with ⟨hcs, _⟩ | ⟨a, l', c', m, n, D, Pl, hcs, _, hl, _⟩
  · simp [Value.cells] at hcs
    exact hcs.2.2
  · simp [Value.cells] at hcs
    rw [hA] at hcs
    cases hcs.1
theorem terms_app (xs ys : List Tm) : terms (xs ++ ys) = terms xs ++ terms ys := by unfold terms; rw [List.map_append]
theorem all_app {us : List Int} {xs ys : List Tm} (h : xs.all (TB us) = true) (h' : ys.all (TB us) = true) : (xs ++ ys).all (TB us) = true := by rw [List.all_append, h, h']; rfl
theorem rot_terms (xs : List Tm) (k : Nat) : terms (xs.drop k ++ xs.take k) = (terms xs).drop k ++ (terms xs).take k := by
  unfold terms
  rw [List.map_append, List.map_drop, List.map_take]
theorem rot_tb {us : List Int} {xs : List Tm} {k : Nat} (h : xs.all (TB us) = true) : (xs.drop k ++ xs.take k).all (TB us) = true := by
  rw [List.all_eq_true] at h ⊢
  intro x hx
  rw [List.mem_append] at hx
  rcases hx with hx | hx
  · exact h x (List.mem_of_mem_drop hx)
  · exact h x (List.mem_of_mem_take hx)
end Go.Proofs.Ytehadfnaknpagaa
