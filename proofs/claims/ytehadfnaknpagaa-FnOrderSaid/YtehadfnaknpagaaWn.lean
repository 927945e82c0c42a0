/-
  THE WALKS, FOURTEENTH PART: union and intersect of the package's lists.
-/
import Derived.Test.YtehadfnaknpagaaWm
import Derived.Laws.AppendOwnNone
namespace Go.Proofs.Ytehadfnaknpagaa
open Go.RowKit Pl

/-- a list of terms of the package comes back, told of the world w0 -/
def RetU (us : List Int) (K : Nat → Nat) (w0 : World) (xs : List T) (e : Ending) (w' : World) : Prop := ∃ A c, e = .returned (.slice A xs.length c) ∧ TL w' us K A xs ∧ Below w0.heap.size w0 w'
theorem RetU.of {us : List Int} {K : Nat → Nat} {w0 w1 w' : World} {xs : List T} {e : Ending} (h : RetL us K w1 xs e w') (hb : Below w0.heap.size w0 w1) : RetU us K w0 xs e w' := by
  obtain ⟨v, rfl, hbt⟩ := h
  obtain ⟨A, c, rfl, htl⟩ := hbt.tl
  exact ⟨A, c, rfl, htl, hb.trans (hbt.bel.mono hb.size)⟩

/-- what an append of a list leaves -/
theorem Bt.join {w0 w w1 : World} {us : List Int} {K : Nat → Nat} {xs ys : List T} {v v1 : Value} {vs ws : List Value} (hvs : w.ownsRow w0.heap.size 69 1 v xs.length vs) (ht : TLs w us K vs xs) (hs : TLs w us K ws ys) (hb : Below w0.heap.size w0 w)
    (hown : w1.ownsRow w0.heap.size 69 1 v1 (xs.length + ys.length) (vs ++ ws)) (hg : w.grownBy w1 v.ownBlock) : Bt w0 us K (xs ++ ys) v1 w1 := by
  have hne : ∀ g cs, Blk w g 85 cs → some g ≠ v.ownBlock := fun g cs hgb => own_ne hvs hgb (by decide)
  refine ⟨vs ++ ws, by simpa using hown, (ht.grown hg hne).append (hs.grown hg hne), ?_⟩
  exact hb.grown hg hb.size (fun g hgb => (hvs.lt g hgb).1)

section
variable (us : List Int) (K : Nat → Nat) (w : World)

set_option maxHeartbeats 1000000 in
theorem unionL_call (wA wB : World) (v u : Value) (xs ys : List T) (hm : xs.length + ys.length ≤ 1099511627776) (hk : Kn wA us K) (hw : WOk us) (hx : Bt wA us K xs v w) (hy : Bt wB us K ys u w) :
    Calls Try.prog 87 #[v, u] w (RetU us K wA (unionL us xs ys)) := by
  obtain ⟨i0, hi, hz0, hz1, hz2⟩ := info_parts Try.info69
  have C := fun (A : Option Addr) (c : Nat) w' (hb : Below wA.heap.size wA w') (h : TL w' us K A (xs ++ ys)) => norm_call us K w' A c (xs ++ ys) (by simpa using hm) (hk.below hb) hw h
  have HC := Lib.hid C
  obtain ⟨vs, hvs, htx, hbel⟩ := hx
  obtain ⟨ws, hws, hty, _⟩ := hy
  have hs := hbel.size
  have Htx := Lib.hid htx
  have Hty := Lib.hid hty
  have Hbel := Lib.hid hbel
  clear C hk hw htx hty hbel
  rcases hws.2 with ⟨rfl, h0⟩ | ⟨g, cap, cur, rfl, _, hg, hcap, _, hcs, htake⟩
  · have hy0 : ys = [] := List.eq_nil_of_length_eq_zero h0
    subst hy0
    have hw0 : ws = [] := List.eq_nil_of_length_eq_zero (by simpa using hws.1)
    subst hw0
    clear h0 hws
    have htl : ∃ A c, v = .slice A xs.length c ∧ TL w us K A xs := by
      obtain ⟨A, c, hv, hr⟩ := rd_own hvs
      exact ⟨A, c, hv, vs, hr, Htx.out⟩
    obtain ⟨A, c, rfl, htl⟩ := htl
    have D := HC.out A c w Hbel.out (by rw [List.append_nil]; exact htl)
    rw [List.append_nil] at D
    have HD := Lib.hid D
    clear D htl
    go_enter Try.func87, Try.ntmps87
    go_wp2_with (at_builtin; refine wpList_append_own_none rfl _ _ 65 rfl wA.heap.size 69 i0 1 Try.underlying65 hi _ _ _ rfl hvs rfl ?_)
    refine HD.out.mono ?_
    rintro e w1 hret
    obtain ⟨v2, rfl, hbt⟩ := hret
    have H := RetU.of ⟨v2, rfl, hbt⟩ Hbel.out
    have hR : RetU us K wA (unionL us xs []) (.returned v2) w1 := by unfold unionL; rw [List.append_nil]; exact H
    have HR := Lib.hid hR
    clear hR H hbt
    go_wp2_with fail
    go_ret
    exact HR.out
  · have hnews : ∀ j u, ws[j]? = some u → w.cell? ((⟨g, 0, none⟩ : Addr).add j) = some u := hws.cells rfl
    have hone : ∀ u ∈ ws, u.oneCell' = true := by
      intro u hu
      obtain ⟨i, hi, rfl⟩ := List.mem_iff_getElem.1 hu
      have hl := Hty.out.len
      obtain ⟨v', hv', hp⟩ := Hty.out.pt i (by omega)
      rw [List.getElem?_eq_getElem hi] at hv'
      injection hv' with hv'
      obtain ⟨a, ha⟩ := hp.ptr
      rw [hv', ha]; rfl
    have Hn := Lib.hid hnews
    have Ho := Lib.hid hone
    have Hvs := Lib.hid hvs
    have Hws := Lib.hid hws
    clear hnews hone hvs hws hg hcs htake
    go_enter Try.func87, Try.ntmps87
    go_wp2_with (at_builtin; refine wpList_append_own _ rfl _ _ 65 rfl wA.heap.size 69 i0 (.pointer none) 1 8 Try.underlying65 hi hz0 hz1 hz2 rfl (by decide) _ _ _ rfl Hvs.out ⟨g, 0, none⟩ ys.length cap ws rfl ?c0 ?c1 ?c2 ?c3 ?c4 ?c5 ?_)
    case c0 => simpa using Hws.out.1
    case c1 => exact Hn.out
    case c2 => exact Ho.out
    case c3 => unfold maxLen; omega
    case c4 => omega
    case c5 => exact hs
    · intro v1 w1 hown' hgrow _
      have hj := Bt.join Hvs.out Htx.out Hty.out Hbel.out hown' hgrow
      obtain ⟨A, c, hv1, htl⟩ := hj.tl
      have D := HC.out A c w1 hj.bel htl
      have e1 : (xs ++ ys).length = xs.length + ys.length := by simp
      rw [e1] at hv1 D
      subst hv1
      have HD := Lib.hid D
      have Hj := Lib.hid hj.bel
      clear hown' hgrow hj htl D e1
      go_wp2_with fail
      refine HD.out.mono ?_
      rintro e w2 hret
      obtain ⟨v2, rfl, hbt⟩ := hret
      have hR := RetU.of ⟨v2, rfl, hbt⟩ Hj.out
      have HR := Lib.hid hR
      clear hR hbt
      go_wp2_with fail
      go_ret
      exact HR.out
end
end Go.Proofs.Ytehadfnaknpagaa
