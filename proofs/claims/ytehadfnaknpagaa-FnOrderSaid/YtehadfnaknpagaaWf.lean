/-
  THE WALKS, SIXTH PART: the package's terms: Identical, Underlying, includes, disjoint, subsetOf, equal.
-/
import Derived.Test.YtehadfnaknpagaaWe
namespace Go.Proofs.Ytehadfnaknpagaa
open Go.RowKit Pl

/-- only draws have been made -/
def Dr (w w' : World) : Prop := ∃ n, w' = w.drewN n
theorem Dr.refl (w : World) : Dr w w := ⟨0, rfl⟩
theorem Dr.below {w w' : World} (h : Dr w w') (B : Nat) : Below B w w' := by obtain ⟨n, rfl⟩ := h; exact below_drewN (Below.refl _ _) n
theorem Dr.mk (w : World) (n : Nat) : Dr w (w.drewN n) := ⟨n, rfl⟩
theorem Dr.trans {a b c : World} (h : Dr a b) (k : Dr b c) : Dr a c := by
  obtain ⟨n, rfl⟩ := h
  obtain ⟨m, rfl⟩ := k
  exact ⟨n + m, by rw [World.drewN_drewN]⟩

theorem Blk.drewN {w : World} {g : Nat} {t : TypeId} {cs : Array Value} (h : Blk w g t cs) (n : Nat) : Blk (w.drewN n) g t cs := h
theorem Blk.dr {w w' : World} {g : Nat} {t : TypeId} {cs : Array Value} (h : Blk w g t cs) (k : Dr w w') : Blk w' g t cs := by obtain ⟨n, rfl⟩ := k; exact h
theorem Blk.cells2 {w : World} {g : Nat} {t : TypeId} {a b : Value} (h : Blk w g t #[a, b]) : w.cell? ⟨g, 0, none⟩ = some a ∧ w.cell? ⟨g, 1, none⟩ = some b := ⟨h.cell 0, h.cell 1⟩

/-- the pointer to type i -/
abbrev kq (K : Nat → Nat) (i : Nat) : Value := .pointer (some ⟨K i, 0, none⟩)
/-- the types of the world lie at K -/
def Kn (w : World) (us : List Int) (K : Nat → Nat) : Prop := ∀ i, i < us.length → Blk w (K i) 83 #[.int .i64 (i : Int), kq K (un us i)]
theorem Kn.below {w w' : World} {us : List Int} {K : Nat → Nat} (h : Kn w us K) (hb : Below w.heap.size w w') : Kn w' us K := fun i hi => (h i hi).below hb
/-- the value of a pointer to a term -/
def PT (w : World) (us : List Int) (K : Nat → Nat) (v : Value) : T → Prop
  | .no => v = .pointer none
  | .all => ∃ g tl, v = .pointer (some ⟨g, 0, none⟩) ∧ Blk w g 85 #[.bool tl, .pointer none]
  | .one b n => n < us.length ∧ ∃ g, v = .pointer (some ⟨g, 0, none⟩) ∧ Blk w g 85 #[.bool b, kq K n]
theorem PT.below {w w' : World} {us : List Int} {K : Nat → Nat} {v : Value} {x : T} (h : PT w us K v x) (hb : Below w.heap.size w w') : PT w' us K v x := by
  cases x with
  | no => exact h
  | all => obtain ⟨g, tl, hv, hg⟩ := h; exact ⟨g, tl, hv, hg.below hb⟩
  | one b n => obtain ⟨hn, g, hv, hg⟩ := h; exact ⟨hn, g, hv, hg.below hb⟩
theorem PT.lt {w : World} {us : List Int} {K : Nat → Nat} {v : Value} {b : Bool} {n : Nat} (h : PT w us K v (.one b n)) : n < us.length := h.1

theorem ident_any (i j g h : Nat) (p q : Value) (w : World) (hi : Blk w g 83 #[.int .i64 (i : Int), p]) (hj : Blk w h 83 #[.int .i64 (j : Int), q]) :
    Calls Try.prog 100 #[.pointer (some ⟨g, 0, none⟩), .pointer (some ⟨h, 0, none⟩)] w fun e w' => e = .returned (.bool (i == j)) ∧ Dr w w' := by
  obtain ⟨a0, a1⟩ := hi.cells2
  obtain ⟨b0, b1⟩ := hj.cells2
  clear hi hj a1 b1
  go_enter Try.func100, Try.ntmps100
  go_wp2_with fail
  go_quiet (fail)
  go_wp2_with fail
  go_ret
  exact ⟨ret_b (by rw [Bool.eq_iff_iff]; simp; omega), Dr.mk _ _⟩

theorem und_any (g : Nat) (p : Value) (a : Option Addr) (w : World) (hi : Blk w g 83 #[p, .pointer a]) :
    Calls Try.prog 99 #[.pointer (some ⟨g, 0, none⟩)] w fun e w' => e = .returned (.pointer a) ∧ w = w' := by
  obtain ⟨a0, a1⟩ := hi.cells2
  clear hi a0
  go_enter Try.func99, Try.ntmps99
  go_wp2
  go_ret
  exact ⟨rfl, rfl⟩

section
variable (us : List Int) (K : Nat → Nat) (w : World)

set_option maxHeartbeats 400000 in
theorem incl_any (v : Value) (x : T) (i : Nat) (hk : Kn w us K) (hw : WOk us) (hx : PT w us K v x) (hi : i < us.length) :
    Calls Try.prog 84 #[v, kq K i] w fun e w' => e = .returned (.bool (incl us x i)) ∧ Dr w w' := by
  cases x with
  | no =>
    obtain rfl := hx
    go_enter Try.func84, Try.ntmps84
    go_wp2_with fail
    go_ret
    exact ⟨rfl, Dr.refl _⟩
  | all =>
    obtain ⟨g, tl, rfl, hg⟩ := hx
    obtain ⟨a0, a1⟩ := hg.cells2
    clear hg hk hw
    go_enter Try.func84, Try.ntmps84
    go_wp2_with fail
    go_ret
    exact ⟨rfl, Dr.refl _⟩
  | one b n =>
    obtain ⟨hn, g, rfl, hg⟩ := hx
    obtain ⟨a0, a1⟩ := hg.cells2
    have HI := Lib.hid (hk i hi)
    have HN := Lib.hid (hk n hn)
    have HU := Lib.hid (hk _ (hw.lt i hi))
    clear hg hk hw
    cases b with
    | false =>
      go_enter Try.func84, Try.ntmps84
      go_wp2_with fail
      refine (ident_any n i _ _ _ _ _ HN.out HI.out).mono ?_
      rintro e w1 ⟨rfl, hd⟩
      go_wp2_with fail
      go_ret
      exact ⟨rfl, hd⟩
    | true =>
      go_enter Try.func84, Try.ntmps84
      go_wp2_with fail
      refine (und_any _ _ _ _ HI.out).mono ?_
      rintro e w1 ⟨rfl, rfl⟩
      go_wp2_with fail
      refine (ident_any n (un us i) _ _ _ _ _ HN.out HU.out).mono ?_
      rintro e w1 ⟨rfl, hd⟩
      go_wp2_with fail
      go_ret
      exact ⟨rfl, hd⟩

set_option maxHeartbeats 400000 in
theorem disj_any (v u : Value) (b c : Bool) (n m : Nat) (hk : Kn w us K) (hw : WOk us) (hx : PT w us K v (.one b n)) (hy : PT w us K u (.one c m)) :
    Calls Try.prog 90 #[v, u] w fun e w' => e = .returned (.bool (disj us (.one b n) (.one c m))) ∧ Dr w w' := by
  obtain ⟨hn, g, rfl, hg⟩ := hx
  obtain ⟨hm, h, rfl, hh⟩ := hy
  obtain ⟨a0, a1⟩ := hg.cells2
  obtain ⟨b0, b1⟩ := hh.cells2
  have HN := Lib.hid (hk n hn)
  have HM := Lib.hid (hk m hm)
  have HUN := Lib.hid (hk _ (hw.lt n hn))
  have HUM := Lib.hid (hk _ (hw.lt m hm))
  clear hg hh hk hw
  cases b <;> cases c
  · go_enter Try.func90, Try.ntmps90
    go_wp2_with fail
    refine (ident_any n m _ _ _ _ _ HN.out HM.out).mono ?_
    rintro e w1 ⟨rfl, hd⟩
    go_wp2_with fail
    go_ret
    exact ⟨rfl, hd⟩
  · go_enter Try.func90, Try.ntmps90
    go_wp2_with fail
    refine (und_any _ _ _ _ HN.out).mono ?_
    rintro e w1 ⟨rfl, rfl⟩
    go_wp2_with fail
    refine (ident_any (un us n) m _ _ _ _ _ HUN.out HM.out).mono ?_
    rintro e w1 ⟨rfl, hd⟩
    go_wp2_with fail
    go_ret
    exact ⟨rfl, hd⟩
  · go_enter Try.func90, Try.ntmps90
    go_wp2_with fail
    refine (und_any _ _ _ _ HM.out).mono ?_
    rintro e w1 ⟨rfl, rfl⟩
    go_wp2_with fail
    refine (ident_any n (un us m) _ _ _ _ _ HN.out HUM.out).mono ?_
    rintro e w1 ⟨rfl, hd⟩
    go_wp2_with fail
    go_ret
    exact ⟨rfl, hd⟩
  · go_enter Try.func90, Try.ntmps90
    go_wp2_with fail
    refine (und_any _ _ _ _ HN.out).mono ?_
    rintro e w1 ⟨rfl, rfl⟩
    go_wp2_with fail
    refine (und_any _ _ _ _ HM.out).mono ?_
    rintro e w1 ⟨rfl, rfl⟩
    go_wp2_with fail
    refine (ident_any (un us n) (un us m) _ _ _ _ _ HUN.out HUM.out).mono ?_
    rintro e w1 ⟨rfl, hd⟩
    go_wp2_with fail
    go_ret
    exact ⟨rfl, hd⟩
end
end Go.Proofs.Ytehadfnaknpagaa
