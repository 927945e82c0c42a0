/-
  THE WALKS, FIRST PART: words for memory (a slice that reads as a list), and the reference's functions.
-/
import Derived.Test.YtehadfnaknpagaaRows
import Derived.Test.YtehadfnaknpagaaPa
import Derived.WalkKit
import Derived.WalkSpells
import Derived.WalkLawsBesides
import Derived.BigQuiet
import Derived.Deep.QuietTactic
import Derived.Lib.Hide
namespace Go.Proofs.Ytehadfnaknpagaa
open Go.RowKit Pl

/-- the cells behind address A hold xs -/
def Rd (w : World) (A : Option Addr) (xs : List Value) : Prop :=
  xs ≠ [] → ∃ b off, A = some ⟨b, off, none⟩ ∧ ∀ j u, xs[j]? = some u → w.cell? ⟨b, off + j, none⟩ = some u

theorem Rd.keep {w w' : World} {A : Option Addr} {xs : List Value} (h : Rd w A xs) (hk : ∀ p : Addr, p.block < w.heap.size → w'.cell? p = w.cell? p) : Rd w' A xs := by
  intro hn
  obtain ⟨b, off, hA, hc⟩ := h hn
  refine ⟨b, off, hA, fun j u hu => ?_⟩
  have := hc j u hu
  rw [hk _ (World.block_lt_of_cell? w _ this)]
  exact this
theorem Rd.below {w w' : World} {A : Option Addr} {xs : List Value} (h : Rd w A xs) (hb : Below w.heap.size w w') : Rd w' A xs := h.keep fun _ hp => hb.cell hp

def ints (us : List Int) : List Value := us.map (Value.int .i64)
theorem Rd.int {w : World} {A : Option Addr} {us : List Int} (h : Rd w A (ints us)) {i : Nat} (hi : i < us.length) :
    ∃ b off, A = some ⟨b, off, none⟩ ∧ w.cell? ⟨b, off + i, none⟩ = some (.int .i64 (us.getD i 0)) := by
  obtain ⟨b, off, hA, hc⟩ := h (by intro e; have := congrArg List.length e; simp [ints] at this; rw [this] at hi; simp at hi)
  refine ⟨b, off, hA, hc i _ ?_⟩
  simp [ints, List.getElem?_eq_getElem hi]
theorem Rd.un {w : World} {A : Option Addr} {us : List Int} (h : Rd w A (ints us)) (hw : WOk us) {i : Nat} (hi : i < us.length) :
    ∃ b off, A = some ⟨b, off, none⟩ ∧ w.cell? ⟨b, off + i, none⟩ = some (.int .i64 (un us i : Int)) := by
  obtain ⟨b, off, hA, hc⟩ := h.int hi
  exact ⟨b, off, hA, by rw [hc, hw.nn i hi]⟩
theorem ret_i {a b : Int} (h : a = b) : Ending.returned (.int .i64 a) = .returned (.int .i64 b) := by rw [h]
theorem ret_b {a b : Bool} (h : a = b) : Ending.returned (.bool a) = .returned (.bool b) := by rw [h]

set_option maxHeartbeats 400000 in
theorem under_any (us : List Int) (A : Option Addr) (c t : Nat) (w : World) (hl : us.length ≤ 2147483647) (hw : WOk us) (hr : Rd w A (ints us)) (ht : t < top us) :
    Calls Try.prog 65 #[.slice A us.length c, .int .i64 (t : Int)] w fun e w' => e = .returned (.int .i64 ((und us t : Nat) : Int)) ∧ w = w' := by
  unfold top at ht
  by_cases h1 : t < us.length
  · obtain ⟨b, off, rfl, hc⟩ := hr.un hw h1
    have hu : und us t = un us t := und_near h1
    rw [hu]
    clear hr hw hu
    go_enter Try.func65, Try.ntmps65
    go_wp2
    go_ret
    exact ⟨rfl, rfl⟩
  · by_cases h2 : t < 2 * us.length
    · obtain ⟨b, off, rfl, hc⟩ := hr.un hw (i := t - us.length) (by omega)
      have hu : und us t = un us (t - us.length) := by unfold und; rw [if_neg h1, if_pos h2]
      rw [hu]
      clear hr hw hu
      go_enter Try.func65, Try.ntmps65
      go_wp2
      go_ret
      exact ⟨rfl, rfl⟩
    · have hu : und us t = t := by unfold und; rw [if_neg h1, if_neg h2]
      rw [hu]
      clear hr hw hu
      go_enter Try.func65, Try.ntmps65
      go_wp2
      go_ret
      exact ⟨rfl, rfl⟩

/-- a term as the value of a parameter -/
abbrev tmv (t : Tm) : Value := .agg #[.int .i64 t.kind, .bool t.tilde, .int .i64 t.type]

theorem in_any (us : List Int) (A : Option Addr) (c t : Nat) (x : Tm) (w : World) (hl : us.length ≤ 2147483647) (hw : WOk us) (hr : Rd w A (ints us)) (ht : t < top us) (hx : TB us x = true) :
    Calls Try.prog 42 #[.slice A us.length c, tmv x, .int .i64 (t : Int)] w fun e w' => e = .returned (.bool (mem us (toT x) t)) ∧ Below w.heap.size w w' := by
  obtain ⟨k, tl, ty⟩ := x
  have hk := hx
  unfold TB at hk
  simp only [Bool.and_eq_true, decide_eq_true_eq, Bool.or_eq_true, Bool.not_eq_true', beq_eq_false_iff_ne, beq_iff_eq] at hk
  obtain ⟨⟨k1, k2⟩, hk⟩ := hk
  have hbl : ∀ o, Below w.heap.size w (w.alloc o) := fun o => (Below.refl _ _).alloc (Nat.le_refl _) o
  by_cases h0 : k = 0
  · subst h0
    have : mem us (toT ⟨0, tl, ty⟩) t = false := by simp [toT, mem]
    rw [this]
    clear this hr hw hx hk
    go_enter Try.func42, Try.ntmps42
    go_wp2
    go_ret
    exact ⟨rfl, hbl _⟩
  by_cases h1 : k = 1
  · subst h1
    have : mem us (toT ⟨1, tl, ty⟩) t = true := by simp [toT, mem]
    rw [this]
    clear this hr hw hx hk
    go_enter Try.func42, Try.ntmps42
    go_wp2
    go_ret
    exact ⟨rfl, hbl _⟩
  obtain rfl : k = 2 := by omega
  obtain ⟨n, rfl⟩ : ∃ n : Nat, ty = n := ⟨ty.toNat, by omega⟩
  cases tl with
  | false =>
    have : mem us (toT ⟨2, false, n⟩) t = decide ((t : Int) = (n : Int)) := by simp [toT, mem, Bool.beq_eq_decide_eq, Int.natCast_inj]
    rw [this]
    clear this hr hw hx hk
    go_enter Try.func42, Try.ntmps42
    go_wp2
    go_ret
    exact ⟨ret_b (by rw [Bool.eq_iff_iff]; simp), hbl _⟩
  | true =>
    have : mem us (toT ⟨2, true, n⟩) t = decide (((und us t : Nat) : Int) = (n : Int)) := by simp [toT, mem, Bool.beq_eq_decide_eq, Int.natCast_inj]
    rw [this]
    have C := fun w' hb => under_any us A c t w' hl hw (Rd.below hr hb) ht
    have HC := Lib.hid C
    clear this hr hw hx hk C
    go_enter Try.func42, Try.ntmps42
    go_wp2_with fail
    go_quiet ((go_at_call 65; exact Calls.quiet_of_same ((HC.out _ (below_drewN (hbl _) _)).mono fun _ _ ⟨h1, h2⟩ => ⟨h1, h2.symm⟩)))
    go_wp2
    go_ret
    exact ⟨ret_b (by rw [Bool.eq_iff_iff]; simp), below_drewN (hbl _) _⟩

/-- terms as the cells of a slice -/
def tcs (ts : List Tm) : List Value := ts.flatMap fun t => [.int .i64 t.kind, .bool t.tilde, .int .i64 t.type]
theorem tcs_length (ts : List Tm) : (tcs ts).length = ts.length * 3 := by
  induction ts with
  | nil => rfl
  | cons t r ih => simp [tcs] at ih ⊢; omega
theorem tcs_at (ts : List Tm) : ∀ (i : Nat) (h : i < ts.length), (tcs ts)[3 * i]? = some (.int .i64 ts[i].kind) ∧ (tcs ts)[3 * i + 1]? = some (.bool ts[i].tilde) ∧ (tcs ts)[3 * i + 2]? = some (.int .i64 ts[i].type) := by
  induction ts with
  | nil => intro i h; simp at h
  | cons t r ih =>
    intro i h
    cases i with
    | zero => simp [tcs]
    | succ i =>
      have := ih i (by simpa using h)
      have e : tcs (t :: r) = [.int .i64 t.kind, .bool t.tilde, .int .i64 t.type] ++ tcs r := rfl
      rw [e, List.getElem?_append_right (by simp; omega), List.getElem?_append_right (by simp; omega), List.getElem?_append_right (by simp; omega)]
      simp only [List.length_cons, List.length_nil, List.getElem_cons_succ]
      rw [show 3 * (i + 1) - (0 + 1 + 1 + 1) = 3 * i from by omega, show 3 * (i + 1) + 1 - (0 + 1 + 1 + 1) = 3 * i + 1 from by omega, show 3 * (i + 1) + 2 - (0 + 1 + 1 + 1) = 3 * i + 2 from by omega]
      exact this
theorem Rd.tm {w : World} {A : Option Addr} {ts : List Tm} (h : Rd w A (tcs ts)) {i : Nat} (hi : i < ts.length) :
    ∃ b off, A = some ⟨b, off, none⟩ ∧ w.cell? ⟨b, off + i * 3, none⟩ = some (.int .i64 ts[i].kind) ∧ w.cell? ⟨b, off + i * 3 + 1, none⟩ = some (.bool ts[i].tilde) ∧ w.cell? ⟨b, off + i * 3 + 2, none⟩ = some (.int .i64 ts[i].type) := by
  obtain ⟨b, off, hA, hc⟩ := h (by intro e; have := congrArg List.length e; rw [tcs_length] at this; simp only [List.length_nil] at this; omega)
  obtain ⟨h1, h2, h3⟩ := tcs_at ts i hi
  rw [Nat.mul_comm i 3]
  exact ⟨b, off, hA, hc _ _ h1, hc _ _ h2, hc _ _ h3⟩

def terms (ts : List Tm) : List T := ts.map toT

/-- the first k elements do not meet p -/
def Non {α : Type} (l : List α) (p : α → Bool) (k : Nat) : Prop := ∀ i (hi : i < l.length), i < k → p l[i] = false
theorem Non.zero {α : Type} {l : List α} {p : α → Bool} : Non l p 0 := fun _ _ h => absurd h (by omega)
theorem Non.succ {α : Type} {l : List α} {p : α → Bool} {k : Nat} (h : Non l p k) (hk : k < l.length) (hp : p l[k] = false) : Non l p (k + 1) := by
  intro i hi hlt
  by_cases e : i = k
  · subst e; exact hp
  · exact h i hi (by omega)
theorem Non.any {α : Type} {l : List α} {p : α → Bool} {k : Nat} (h : Non l p k) (hk : ¬ k < l.length) : l.any p = false := by
  rw [List.any_eq_false]
  intro x hx
  obtain ⟨i, hi, rfl⟩ := List.mem_iff_getElem.1 hx
  rw [h i hi (by omega)]; simp
theorem any_at {α : Type} {l : List α} {p : α → Bool} {k : Nat} (hk : k < l.length) (hp : p l[k] = true) : l.any p = true :=
  List.any_eq_true.2 ⟨_, List.getElem_mem hk, hp⟩
theorem memL_eq (us : List Int) (xs : List Tm) (t : Nat) : memL us (terms xs) t = xs.any fun x => mem us (toT x) t := by
  simp [memL, terms, List.any_map, Function.comp_def]

set_option maxHeartbeats 400000 in
theorem inlist_any (us : List Int) (A : Option Addr) (c t : Nat) (D : Option Addr) (d : Nat) (xs : List Tm) (w : World) (hl : us.length ≤ 2147483647) (hm : xs.length ≤ 4294967296) (hw : WOk us) (hr : Rd w A (ints us)) (ht : t < top us)
    (hd : Rd w D (tcs xs)) (hx : xs.all (TB us) = true) :
    Calls Try.prog 46 #[.slice A us.length c, .slice D xs.length d, .int .i64 (t : Int)] w fun e w' => e = .returned (.bool (memL us (terms xs) t)) ∧ Below w.heap.size w w' := by
  have ht' : (t : Int) < 4294967297 := by unfold top at ht; omega
  rw [memL_eq]
  have Hx := Lib.hid hx
  have Ht := Lib.hid ht
  have Hd := Lib.hid hd
  have Hr := Lib.hid hr
  have Hw := Lib.hid hw
  clear hx ht hd hr hw
  go_enter Try.func46, Try.ntmps46
  go_wp2
  go_loopw [11] (fun i wr => ∃ k : Nat, k ≤ xs.length ∧ i = .int .i64 k ∧ Below w.heap.size w wr ∧ Non xs (fun x => mem us (toT x) t) k) (fun i _ => xs.length - (intOf i).toNat)
  case atStart => exact ⟨0, Nat.zero_le _, rfl, Below.refl _ _, Non.zero⟩
  case round =>
    obtain ⟨k, hk, rfl, hb, hno⟩ := hrel
    by_cases hlt : k < xs.length
    · obtain ⟨b, off, rfl, c0, c1, c2⟩ := (Hd.out.below hb).tm hlt
      have hb1 : ∀ o, Below w.heap.size w (wr.alloc o) := fun o => hb.alloc hb.size o
      cases hm1 : mem us (toT xs[k]) t with
      | true =>
        have Hm := Lib.hid hm1
        clear hm1
        go_wp2_with fail
        refine (in_any us A c t xs[k] _ hl Hw.out (Hr.out.below (hb1 _)) Ht.out ?hx).mono ?_
        case hx => exact List.all_eq_true.1 Hx.out _ (List.getElem_mem hlt)
        rintro e w1 ⟨rfl, hw1⟩
        rw [Hm.out]
        go_wp2_with fail
        go_ret
        exact ⟨ret_b (any_at hlt Hm.out).symm, (hb1 _).trans (hw1.mono (hb1 _).size)⟩
      | false =>
        have Hm := Lib.hid hm1
        clear hm1
        go_wp2_with fail
        refine (in_any us A c t xs[k] _ hl Hw.out (Hr.out.below (hb1 _)) Ht.out ?hy).mono ?_
        case hy => exact List.all_eq_true.1 Hx.out _ (List.getElem_mem hlt)
        rintro e w1 ⟨rfl, hw1⟩
        rw [Hm.out]
        go_wp2_with fail
        go_roundw
        case rel => exact ⟨k + 1, by omega, by go_num, (hb1 _).trans (hw1.mono (hb1 _).size), hno.succ hlt Hm.out⟩
        case measure => simp [intOf]; omega
    · go_wp2_with fail
      go_ret
      exact ⟨ret_b (hno.any hlt).symm, hb⟩

theorem types_any (us : List Int) (A : Option Addr) (c : Nat) (w : World) (hl : us.length ≤ 2147483647) :
    Calls Try.prog 62 #[.slice A us.length c] w fun e w' => e = .returned (.int .i64 ((top us : Nat) : Int)) ∧ w = w' := by
  go_enter Try.func62, Try.ntmps62
  go_wp2
  go_ret
  exact ⟨ret_i (by unfold top; omega), rfl⟩

end Go.Proofs.Ytehadfnaknpagaa
