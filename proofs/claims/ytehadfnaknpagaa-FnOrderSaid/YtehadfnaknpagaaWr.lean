/-
  THE WALKS, EIGHTEENTH PART: the package's exports for lists.
-/
import Derived.Test.YtehadfnaknpagaaWq
namespace Go.Proofs.Ytehadfnaknpagaa
open Go.RowKit Pl

/-- a list of terms comes back, told of an earlier world -/
theorem RetS.of {w0 w w' : World} {ts : List Tm} {e : Ending} (h : RetS w ts e w') (hb : Below w0.heap.size w0 w) : RetS w0 ts e w' := by
  obtain ⟨A, c, he, hr, hb'⟩ := h
  exact ⟨A, c, he, hr, hb.trans (hb'.mono hb.size)⟩

section
variable (us : List Int) (A : Option Addr) (c : Nat) (D : Option Addr) (d : Nat) (xs : List Tm) (E : Option Addr) (g : Nat) (ys : List Tm) (w : World)

set_option maxHeartbeats 400000 in
theorem xall_call (hl : us.length ≤ 2147483647) (hm : xs.length ≤ 4294967296) (hw : WOk us) (hr : Rd w A (ints us)) (hd' : Rd w D (tcs xs)) (hx : xs.all (TB us) = true) :
    Calls Try.prog 60 #[.slice A us.length c, .slice D xs.length d] w fun e w' => e = .returned (.bool (allL (terms xs))) ∧ Below w.heap.size w w' := by
  have Hm := Lib.hid (show (terms xs).length ≤ 1099511627776 by simp [terms]; omega)
  have Hr := Lib.hid hr
  have Hd' := Lib.hid hd'
  clear hr hd'
  go_enter Try.func60, Try.ntmps60
  go_wp2_with fail
  refine (world_call us A c _ hl hw Hr.out).mono ?_
  rintro e w1 ⟨W, K, rfl, hd, hb1⟩
  have CX := Lib.hid (ins_call2 us K w1 w1 W us.length D d xs hl (by omega) hd (Hd'.out.below hb1) hx (Below.refl _ _))
  have HB := Lib.hid hb1
  clear hd hw hx hb1
  go_wp2_with fail
  refine CX.out.mono ?_
  rintro e w2 ⟨A2, c2, rfl, htl, hb2, _⟩
  have CE := Lib.hid (isall_call us K w2 A2 c2 (terms xs) Hm.out htl)
  have HC := Lib.hid (HB.out.trans (hb2.mono HB.out.size))
  clear htl hb2
  go_wp2_with fail
  refine CE.out.mono ?_
  rintro e w3 ⟨rfl, rfl⟩
  go_wp2_with fail
  go_ret
  exact ⟨rfl, HC.out⟩

set_option maxHeartbeats 400000 in
theorem xempty_call (hl : us.length ≤ 2147483647) (hm : xs.length ≤ 4294967296) (hw : WOk us) (hr : Rd w A (ints us)) (hd' : Rd w D (tcs xs)) (hx : xs.all (TB us) = true) :
    Calls Try.prog 63 #[.slice A us.length c, .slice D xs.length d] w fun e w' => e = .returned (.bool (emptyL (terms xs))) ∧ Below w.heap.size w w' := by
  have Hm := Lib.hid (show (terms xs).length ≤ 1099511627776 by simp [terms]; omega)
  have Hr := Lib.hid hr
  have Hd' := Lib.hid hd'
  clear hr hd'
  go_enter Try.func63, Try.ntmps63
  go_wp2_with fail
  refine (world_call us A c _ hl hw Hr.out).mono ?_
  rintro e w1 ⟨W, K, rfl, hd, hb1⟩
  have CX := Lib.hid (ins_call2 us K w1 w1 W us.length D d xs hl (by omega) hd (Hd'.out.below hb1) hx (Below.refl _ _))
  have HB := Lib.hid hb1
  clear hd hw hx hb1
  go_wp2_with fail
  refine CX.out.mono ?_
  rintro e w2 ⟨A2, c2, rfl, htl, hb2, _⟩
  have CE := Lib.hid (isempty_call us K w2 A2 c2 (terms xs) Hm.out htl)
  have HC := Lib.hid (HB.out.trans (hb2.mono HB.out.size))
  clear htl hb2
  go_wp2_with fail
  refine CE.out.mono ?_
  rintro e w3 ⟨rfl, rfl⟩
  go_wp2_with fail
  go_ret
  exact ⟨rfl, HC.out⟩

set_option maxHeartbeats 400000 in
theorem xsub_call (hl : us.length ≤ 2147483647) (hm : xs.length ≤ 4294967296) (hn : ys.length ≤ 4294967296) (hw : WOk us) (hr : Rd w A (ints us)) (hd' : Rd w D (tcs xs)) (he' : Rd w E (tcs ys)) (hx : xs.all (TB us) = true) (hy : ys.all (TB us) = true) :
    Calls Try.prog 72 #[.slice A us.length c, .slice D xs.length d, .slice E ys.length g] w fun e w' => e = .returned (.bool (subL us (terms xs) (terms ys))) ∧ Below w.heap.size w w' := by
  have Hm := Lib.hid (show (terms xs).length ≤ 1099511627776 by simp [terms]; omega)
  have Hn := Lib.hid (show (terms ys).length ≤ 1099511627776 by simp [terms]; omega)
  have Hr := Lib.hid hr
  have Hd' := Lib.hid hd'
  have He' := Lib.hid he'
  clear hr hd' he'
  go_enter Try.func72, Try.ntmps72
  go_wp2_with fail
  refine (world_call us A c _ hl hw Hr.out).mono ?_
  rintro e w1 ⟨W, K, rfl, hd, hb1⟩
  have CX := Lib.hid (ins_call2 us K w1 w1 W us.length D d xs hl (by omega) hd (Hd'.out.below hb1) hx (Below.refl _ _))
  have CY := Lib.hid (fun w' (hb : Below w1.heap.size w1 w') => ins_call2 us K w1 w' W us.length E g ys hl (by omega) hd ((He'.out.below hb1).below hb) hy hb)
  have HB := Lib.hid hb1
  have HK := Lib.hid hd.kn
  have HW := Lib.hid hw
  clear hd hw hx hy hb1
  go_wp2_with fail
  refine CX.out.mono ?_
  rintro e w2 ⟨A2, c2, rfl, htl, hb2, _⟩
  have H2 := Lib.hid htl
  have HC := Lib.hid hb2
  clear htl hb2
  go_wp2_with fail
  refine (CY.out _ HC.out).mono ?_
  rintro e w3 ⟨A3, c3, rfl, htl, hb3, hc3⟩
  have CE := Lib.hid (subset_call us K w3 A2 c2 (terms xs) A3 c3 (terms ys) Hm.out Hn.out (HK.out.below hc3) HW.out (H2.out.below hb3) htl)
  have HF := Lib.hid (HB.out.trans (hc3.mono HB.out.size))
  clear htl hb3 hc3
  go_wp2_with fail
  refine CE.out.mono ?_
  rintro e w4 ⟨rfl, hb4⟩
  go_wp2_with fail
  go_ret
  exact ⟨rfl, HF.out.trans (hb4.mono HF.out.size)⟩

set_option maxHeartbeats 400000 in
theorem xeq_call (hl : us.length ≤ 2147483647) (hm : xs.length ≤ 4294967296) (hn : ys.length ≤ 4294967296) (hw : WOk us) (hr : Rd w A (ints us)) (hd' : Rd w D (tcs xs)) (he' : Rd w E (tcs ys)) (hx : xs.all (TB us) = true) (hy : ys.all (TB us) = true) :
    Calls Try.prog 73 #[.slice A us.length c, .slice D xs.length d, .slice E ys.length g] w fun e w' => e = .returned (.bool (eqL us (terms xs) (terms ys))) ∧ Below w.heap.size w w' := by
  have Hm := Lib.hid (show (terms xs).length ≤ 1099511627776 by simp [terms]; omega)
  have Hn := Lib.hid (show (terms ys).length ≤ 1099511627776 by simp [terms]; omega)
  have Hr := Lib.hid hr
  have Hd' := Lib.hid hd'
  have He' := Lib.hid he'
  clear hr hd' he'
  go_enter Try.func73, Try.ntmps73
  go_wp2_with fail
  refine (world_call us A c _ hl hw Hr.out).mono ?_
  rintro e w1 ⟨W, K, rfl, hd, hb1⟩
  have CX := Lib.hid (ins_call2 us K w1 w1 W us.length D d xs hl (by omega) hd (Hd'.out.below hb1) hx (Below.refl _ _))
  have CY := Lib.hid (fun w' (hb : Below w1.heap.size w1 w') => ins_call2 us K w1 w' W us.length E g ys hl (by omega) hd ((He'.out.below hb1).below hb) hy hb)
  have HB := Lib.hid hb1
  have HK := Lib.hid hd.kn
  have HW := Lib.hid hw
  clear hd hw hx hy hb1
  go_wp2_with fail
  refine CX.out.mono ?_
  rintro e w2 ⟨A2, c2, rfl, htl, hb2, _⟩
  have H2 := Lib.hid htl
  have HC := Lib.hid hb2
  clear htl hb2
  go_wp2_with fail
  refine (CY.out _ HC.out).mono ?_
  rintro e w3 ⟨A3, c3, rfl, htl, hb3, hc3⟩
  have CE := Lib.hid (equal_call us K w3 A2 c2 (terms xs) A3 c3 (terms ys) Hm.out Hn.out (HK.out.below hc3) HW.out (H2.out.below hb3) htl)
  have HF := Lib.hid (HB.out.trans (hc3.mono HB.out.size))
  clear htl hb3 hc3
  go_wp2_with fail
  refine CE.out.mono ?_
  rintro e w4 ⟨rfl, hb4⟩
  go_wp2_with fail
  go_ret
  exact ⟨rfl, HF.out.trans (hb4.mono HF.out.size)⟩

set_option maxHeartbeats 400000 in
theorem xnorm_call (hl : us.length ≤ 2147483647) (hm : xs.length ≤ 4294967296) (hw : WOk us) (hr : Rd w A (ints us)) (hd' : Rd w D (tcs xs)) (hx : xs.all (TB us) = true) (hq : (norm us (terms xs)).length ≤ 1099511627776) :
    Calls Try.prog 78 #[.slice A us.length c, .slice D xs.length d] w (RetS w ((norm us (terms xs)).map ofT)) := by
  have Hm := Lib.hid (show (terms xs).length ≤ 1099511627776 by simp [terms]; omega)
  have Hr := Lib.hid hr
  have Hq := Lib.hid hq
  have Hd' := Lib.hid hd'
  clear hr hd' hq
  go_enter Try.func78, Try.ntmps78
  go_wp2_with fail
  refine (world_call us A c _ hl hw Hr.out).mono ?_
  rintro e w1 ⟨W, K, rfl, hd, hb1⟩
  have CX := Lib.hid (ins_call2 us K w1 w1 W us.length D d xs hl (by omega) hd (Hd'.out.below hb1) hx (Below.refl _ _))
  have HB := Lib.hid hb1
  have HK := Lib.hid hd.kn
  have HW := Lib.hid hw
  clear hd hw hx hb1
  go_wp2_with fail
  refine CX.out.mono ?_
  rintro e w2 ⟨A2, c2, rfl, htl, hb2, _⟩
  have CE := Lib.hid (norm_call us K w2 A2 c2 (terms xs) Hm.out (HK.out.below hb2) HW.out htl)
  have HC := Lib.hid hb2
  clear htl hb2
  go_wp2_with fail
  refine CE.out.mono ?_
  rintro e w3 hret
  obtain ⟨A3, c3, rfl, htl, hb3⟩ := RetU.of hret HC.out
  have CO := Lib.hid (outs_call us K w3 A3 c3 _ Hq.out (HK.out.below hb3) htl)
  have HF := Lib.hid (HB.out.trans (hb3.mono HB.out.size))
  clear htl hb3 hret
  go_wp2_with fail
  refine CO.out.mono ?_
  rintro e w4 hret
  have H4 := Lib.hid (hret.of HF.out)
  obtain ⟨A4, c4, rfl, _, _⟩ := hret
  go_wp2_with fail
  go_ret
  have h := H4.out
  rw [List.length_map] at h
  exact h

set_option maxHeartbeats 400000 in
theorem xunionL_call (hl : us.length ≤ 2147483647) (hm : xs.length ≤ 4294967296) (hn : ys.length ≤ 4294967296) (hw : WOk us) (hr : Rd w A (ints us)) (hd' : Rd w D (tcs xs)) (he' : Rd w E (tcs ys)) (hx : xs.all (TB us) = true) (hy : ys.all (TB us) = true) (hq : (unionL us (terms xs) (terms ys)).length ≤ 1099511627776) :
    Calls Try.prog 68 #[.slice A us.length c, .slice D xs.length d, .slice E ys.length g] w (RetS w ((unionL us (terms xs) (terms ys)).map ofT)) := by
  have Hm := Lib.hid (show (terms xs).length ≤ 4294967296 by simp [terms]; omega)
  have Hn := Lib.hid (show (terms ys).length ≤ 4294967296 by simp [terms]; omega)
  have Hq := Lib.hid hq
  have Hr := Lib.hid hr
  have Hd' := Lib.hid hd'
  have He' := Lib.hid he'
  clear hr hd' he' hq
  go_enter Try.func68, Try.ntmps68
  go_wp2_with fail
  refine (world_call us A c _ hl hw Hr.out).mono ?_
  rintro e w1 ⟨W, K, rfl, hd, hb1⟩
  have CX := Lib.hid (ins_call us K w1 W us.length D d xs hl (by omega) hd (Hd'.out.below hb1) hx)
  have CY := Lib.hid (fun w' (hb : Below w1.heap.size w1 w') => ins_call us K w' W us.length E g ys hl (by omega) (hd.below hb) ((He'.out.below hb1).below hb) hy)
  have HB := Lib.hid hb1
  have HK := Lib.hid hd.kn
  have HW := Lib.hid hw
  clear hd hw hx hy hb1
  go_wp2_with fail
  refine CX.out.mono ?_
  rintro e w2 ⟨v2, rfl, hbt2⟩
  have H2 := Lib.hid hbt2
  have HC := Lib.hid hbt2.bel
  clear hbt2
  go_wp2_with fail
  refine (CY.out _ HC.out).mono ?_
  rintro e w3 ⟨v3, rfl, hbt3⟩
  have CE := Lib.hid (unionL_call us K w3 w1 w2 v2 v3 (terms xs) (terms ys) (by have := Hm.out; have := Hn.out; omega) HK.out HW.out (H2.out.below hbt3.bel) hbt3)
  obtain ⟨A2, c2, rfl, _⟩ := H2.out.tl
  obtain ⟨A3, c3, rfl, _⟩ := hbt3.tl
  clear hbt3
  go_wp2_with fail
  refine CE.out.mono ?_
  rintro e w4 ⟨A4, c4, rfl, htl, hb4⟩
  have CO := Lib.hid (outs_call us K w4 A4 c4 _ Hq.out (HK.out.below hb4) htl)
  have HF := Lib.hid (HB.out.trans (hb4.mono HB.out.size))
  clear htl hb4
  go_wp2_with fail
  refine CO.out.mono ?_
  rintro e w5 hret
  have H4 := Lib.hid (hret.of HF.out)
  obtain ⟨A5, c5, rfl, _, _⟩ := hret
  go_wp2_with fail
  go_ret
  have h := H4.out
  rw [List.length_map] at h
  exact h

set_option maxHeartbeats 400000 in
theorem xinterL_call (hl : us.length ≤ 2147483647) (hm : xs.length ≤ 4294967296) (hn : ys.length ≤ 4294967296) (hp : xs.length * ys.length ≤ 1099511627776) (hw : WOk us) (hr : Rd w A (ints us)) (hd' : Rd w D (tcs xs)) (he' : Rd w E (tcs ys)) (hx : xs.all (TB us) = true) (hy : ys.all (TB us) = true) (hq : (interL us (terms xs) (terms ys)).length ≤ 1099511627776) :
    Calls Try.prog 69 #[.slice A us.length c, .slice D xs.length d, .slice E ys.length g] w (RetS w ((interL us (terms xs) (terms ys)).map ofT)) := by
  have Hm := Lib.hid (show (terms xs).length ≤ 4294967296 by simp [terms]; omega)
  have Hn := Lib.hid (show (terms ys).length ≤ 4294967296 by simp [terms]; omega)
  have Hp := Lib.hid (show (terms xs).length * (terms ys).length ≤ 1099511627776 by simpa [terms] using hp)
  have Hq := Lib.hid hq
  have Hr := Lib.hid hr
  have Hd' := Lib.hid hd'
  have He' := Lib.hid he'
  clear hr hd' he' hq
  go_enter Try.func69, Try.ntmps69
  go_wp2_with fail
  refine (world_call us A c _ hl hw Hr.out).mono ?_
  rintro e w1 ⟨W, K, rfl, hd, hb1⟩
  have CX := Lib.hid (ins_call us K w1 W us.length D d xs hl (by omega) hd (Hd'.out.below hb1) hx)
  have CY := Lib.hid (fun w' (hb : Below w1.heap.size w1 w') => ins_call us K w' W us.length E g ys hl (by omega) (hd.below hb) ((He'.out.below hb1).below hb) hy)
  have HB := Lib.hid hb1
  have HK := Lib.hid hd.kn
  have HW := Lib.hid hw
  clear hd hw hx hy hb1
  go_wp2_with fail
  refine CX.out.mono ?_
  rintro e w2 ⟨v2, rfl, hbt2⟩
  have H2 := Lib.hid hbt2
  have HC := Lib.hid hbt2.bel
  clear hbt2
  go_wp2_with fail
  refine (CY.out _ HC.out).mono ?_
  rintro e w3 ⟨v3, rfl, hbt3⟩
  have CE := Lib.hid ((by
    obtain ⟨A2, c2, hv2, ht2⟩ := (H2.out.below hbt3.bel).tl
    obtain ⟨A3, c3, hv3, ht3⟩ := hbt3.tl
    have hb13 := HC.out.trans (hbt3.bel.mono HC.out.size)
    rw [hv2, hv3]
    refine (interL_call us K w3 A2 c2 (terms xs) A3 c3 (terms ys) (by have := Hm.out; omega) (by have := Hn.out; omega) Hp.out (HK.out.below hb13) HW.out ht2 ht3).mono fun e w4 h => ?_
    obtain ⟨A4, c4, he, ht, hb⟩ := h
    exact ⟨A4, c4, he, ht, hb13.trans (hb.mono hb13.size)⟩ : Calls Try.prog 88 #[v2, v3] w3 (RetU us K w1 (interL us (terms xs) (terms ys)))))
  obtain ⟨A2, c2, rfl, _⟩ := H2.out.tl
  obtain ⟨A3, c3, rfl, _⟩ := hbt3.tl
  clear hbt3
  go_wp2_with fail
  refine CE.out.mono ?_
  rintro e w4 ⟨A4, c4, rfl, htl, hb4⟩
  have CO := Lib.hid (outs_call us K w4 A4 c4 _ Hq.out (HK.out.below hb4) htl)
  have HF := Lib.hid (HB.out.trans (hb4.mono HB.out.size))
  clear htl hb4
  go_wp2_with fail
  refine CO.out.mono ?_
  rintro e w5 hret
  have H4 := Lib.hid (hret.of HF.out)
  obtain ⟨A5, c5, rfl, _, _⟩ := hret
  go_wp2_with fail
  go_ret
  have h := H4.out
  rw [List.length_map] at h
  exact h
end
end Go.Proofs.Ytehadfnaknpagaa
