/-
  THE WALKS, EIGHTH PART: the package's doors in and out: world, in, out, allTermlist.
-/
import Derived.Test.YtehadfnaknpagaaWg
namespace Go.Proofs.Ytehadfnaknpagaa
open Go.RowKit Pl

/-- the pointers to the types of the world -/
def kqs (K : Nat → Nat) (n : Nat) : List Value := (List.range n).map (kq K)
/-- the world of types lies in memory: the types at K, the row of pointers behind W -/
structure Wd (w : World) (us : List Int) (W : Option Addr) (K : Nat → Nat) : Prop where
  kn : Kn w us K
  row : Rd w W (kqs K us.length)
theorem Wd.below {w w' : World} {us : List Int} {W : Option Addr} {K : Nat → Nat} (h : Wd w us W K) (hb : Below w.heap.size w w') : Wd w' us W K := ⟨h.kn.below hb, h.row.below hb⟩
theorem Wd.at_ {w : World} {us : List Int} {W : Option Addr} {K : Nat → Nat} (h : Wd w us W K) {i : Nat} (hi : i < us.length) : ∃ b off, W = some ⟨b, off, none⟩ ∧ w.cell? ⟨b, off + i, none⟩ = some (kq K i) := by
  obtain ⟨b, off, hA, hc⟩ := h.row (by intro e; have := congrArg List.length e; simp [kqs] at this; rw [this] at hi; simp at hi)
  exact ⟨b, off, hA, hc i _ (by simp [kqs, hi])⟩
def RetW (us : List Int) (w : World) (e : Ending) (w' : World) : Prop := ∃ W K, e = .returned (.slice W us.length us.length) ∧ Wd w' us W K ∧ Below w.heap.size w w'
/-- a term comes back in new memory -/
def RetP (us : List Int) (K : Nat → Nat) (w : World) (z : T) (e : Ending) (w' : World) : Prop := ∃ v, e = .returned v ∧ PT w' us K v z ∧ Below w.heap.size w w'

theorem world_call (us : List Int) (A : Option Addr) (c : Nat) (w : World) (hl : us.length ≤ 2147483647) (hw : WOk us) (hr : Rd w A (ints us)) :
    Calls Try.prog 80 #[.slice A us.length c] w (RetW us w) :=
  (world_any us A c w hl hw hr).mono fun e w' ⟨he, hq⟩ => by
    refine ⟨_, fun i => w.heap.size + 1 + i, he, ⟨fun i hi => ?_, fun _ => ⟨_, _, rfl, fun j u hu => ?_⟩⟩, hq.below⟩
    · have := hq.kinds i hi
      rw [if_pos hi] at this
      exact this
    · have hj : j < us.length := by
        have := (List.getElem?_eq_some_iff.1 hu).1
        simpa [kqs] using this
      have := hq.row.cell hj
      simp [kqs, hj] at hu
      subst hu
      simpa using this

section
variable (us : List Int) (K : Nat → Nat) (w : World)

set_option maxHeartbeats 400000 in
theorem in_call (W : Option Addr) (c : Nat) (t : Tm) (_hl : us.length ≤ 2147483647) (hd : Wd w us W K) (ht : TB us t = true) :
    Calls Try.prog 83 #[.slice W us.length c, tmv t] w (RetP us K w (toT t)) := by
  obtain ⟨k, tl, ty⟩ := t
  have hk := ht
  unfold TB at hk
  simp only [Bool.and_eq_true, decide_eq_true_eq, Bool.or_eq_true, Bool.not_eq_true', beq_eq_false_iff_ne, beq_iff_eq] at hk
  obtain ⟨⟨k1, k2⟩, hk⟩ := hk
  have hbl : ∀ o, Below w.heap.size w (w.alloc o) := fun o => (Below.refl _ _).alloc (Nat.le_refl _) o
  have hbl2 : ∀ o o', Below w.heap.size w ((w.alloc o).alloc o') := fun o o' => (hbl o).alloc (by simp) o'
  by_cases h0 : k = 0
  · subst h0
    have : toT ⟨0, tl, ty⟩ = .no := by simp [toT]
    rw [this]
    clear this hd hk ht
    go_enter Try.func83, Try.ntmps83
    go_wp2_with fail
    go_ret
    exact ⟨_, rfl, rfl, hbl _⟩
  by_cases h1 : k = 1
  · subst h1
    have : toT ⟨1, tl, ty⟩ = .all := by simp [toT]
    rw [this]
    clear this hd hk ht
    go_enter Try.func83, Try.ntmps83
    go_wp2_with fail
    go_ret
    refine ⟨_, rfl, ⟨w.heap.size + 1, false, rfl, ?_⟩, hbl2 _ _⟩
    have := Blk.new (w.alloc (.cells #[.int .i64 1, .bool tl, .int .i64 ty] 52)) 85 #[.bool false, .pointer none]
    simpa using this
  obtain rfl : k = 2 := by omega
  obtain ⟨n, rfl⟩ : ∃ n : Nat, ty = n := ⟨ty.toNat, by omega⟩
  have hn : n < us.length := by omega
  have : toT ⟨2, tl, n⟩ = .one tl n := by simp [toT]
  rw [this]
  obtain ⟨b, off, rfl, c0⟩ := hd.at_ hn
  have c1 : ∀ o, (w.alloc o).cell? ⟨b, off + n, none⟩ = some (kq K n) := fun o => ((hbl o).cell (World.block_lt_of_cell? w _ c0)).trans c0
  have hfin : Blk (((w.alloc (.cells #[.int .i64 2, .bool tl, .int .i64 (n : Int)] 52)).alloc (.cells #[.bool tl, kq K n] 85)).drew) (w.heap.size + 1) 85 #[.bool tl, kq K n] := by
    have := Blk.new (w.alloc (.cells #[.int .i64 2, .bool tl, .int .i64 (n : Int)] 52)) 85 #[.bool tl, kq K n]
    simp only [World.size_alloc] at this
    exact this
  have Hf := Lib.hid hfin
  clear this hd hk ht c0 hfin
  go_enter Try.func83, Try.ntmps83
  go_wp2_with fail
  go_region
  all_goals
    go_wp2_with fail
    go_ret
    exact ⟨_, rfl, ⟨hn, _, rfl, Hf.out⟩, (hbl2 _ _).drew⟩

theorem alltl_call (w : World) : Calls Try.prog 101 #[] w fun e w' => e = .returned (.slice (some ⟨w.heap.size + 1, 0, none⟩) 1 1) ∧ w' = (w.alloc (.cells #[.bool false, .pointer none] 85)).alloc (.cells #[.pointer (some ⟨w.heap.size, 0, none⟩)] 69) := by
  go_enter Try.func101, Try.ntmps101
  go_wp2_with fail
  go_ret
  exact ⟨rfl, rfl⟩

set_option maxHeartbeats 400000 in
theorem out_call (v : Value) (x : T) (hk : Kn w us K) (hx : PT w us K v x) :
    Calls Try.prog 95 #[v] w fun e w' => e = .returned (tmv (ofT x)) ∧ Below w.heap.size w w' := by
  have hbl : ∀ o, Below w.heap.size w (w.alloc o) := fun o => (Below.refl _ _).alloc (Nat.le_refl _) o
  cases x with
  | no =>
    obtain rfl := hx
    clear hk
    go_enter Try.func95, Try.ntmps95
    go_wp2_with fail
    refine bodyPost_ret (v := tmv ⟨0, false, 0⟩) (by simp [results, Try.results95, go_sem]) rfl ⟨rfl, ?_⟩
    exact hbl _
  | all =>
    obtain ⟨g, s, rfl, hg⟩ := hx
    obtain ⟨a0, a1⟩ := (hg.alloc (.cells #[.int .i64 0, .bool false, .int .i64 0] 52)).cells2
    clear hk hg
    go_enter Try.func95, Try.ntmps95
    go_wp2_with fail
    refine bodyPost_ret (v := tmv ⟨1, false, 0⟩) (by simp [results, Try.results95, go_sem]) rfl ⟨rfl, ?_⟩
    exact hbl _
  | one b n =>
    obtain ⟨hn, g, rfl, hg⟩ := hx
    obtain ⟨a0, a1⟩ := (hg.alloc (.cells #[.int .i64 0, .bool false, .int .i64 0] 52)).cells2
    obtain ⟨b0, b1⟩ := ((hk n hn).alloc (.cells #[.int .i64 0, .bool false, .int .i64 0] 52)).cells2
    clear hk hg
    go_enter Try.func95, Try.ntmps95
    go_wp2_with fail
    go_region
    all_goals
      go_wp2_with fail
      refine bodyPost_ret (v := tmv ⟨2, b, n⟩) (by simp [results, Try.results95, go_sem]) rfl ⟨rfl, ?_⟩
      exact (hbl _).drew
end
end Go.Proofs.Ytehadfnaknpagaa
