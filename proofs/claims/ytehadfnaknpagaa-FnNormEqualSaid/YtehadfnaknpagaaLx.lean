/-
  PROVED HERE: FnNormEqual: two lists are equal exactly if their normal forms are, and to its own normal form each list is. Conditions: none.
-/
import Derived.Test.YtehadfnaknpagaaXc
namespace Go.Proofs.Ytehadfnaknpagaa
open Go.ChangeShapes Go.WideShapes Go.ChangeAt Go.RowKit Pl

set_option maxHeartbeats 4000000 in
theorem walk26 (us : List Int) (A : Option Addr) (c : Nat) (xs : List Tm) (D_x : Option Addr) (d_x : Nat) (ys : List Tm) (D_y : Option Addr) (d_y : Nat) (w : World)
    (hr : Rd w A (ints us)) (hd_x : Rd w D_x (tcs xs)) (hd_y : Rd w D_y (tcs ys)) :
    Calls Try.prog 26 #[.slice A us.length c, .slice D_x xs.length d_x, .slice D_y ys.length d_y] w fun e w' => e = .returned (.bool true) ∧ Below w.heap.size w w' := by
  by_cases q0 : 2147483647 < us.length
  · go_enter Try.func26, Try.ntmps26
    go_wp2_with fail
    go_ret
    exact ⟨rfl, Below.refl _ _⟩
  by_cases q1 : 2147483647 < xs.length
  · go_enter Try.func26, Try.ntmps26
    go_wp2_with fail
    go_ret
    exact ⟨rfl, Below.refl _ _⟩
  by_cases q2 : 2147483647 < ys.length
  · go_enter Try.func26, Try.ntmps26
    go_wp2_with fail
    go_ret
    exact ⟨rfl, Below.refl _ _⟩
  have hl : us.length ≤ 2147483647 := by omega
  have l_x : xs.length ≤ 2147483647 := by omega
  have l_y : ys.length ≤ 2147483647 := by omega
  have Hr := Lib.hid hr
  have Hx := Lib.hid hd_x
  have Hy := Lib.hid hd_y
  clear hr hd_x hd_y
  cases hv : VX us [xs, ys] with
  | false =>
    have G := Lib.hid hv
    clear hv
    have K0 := Lib.hid (Below.refl w.heap.size w)
    go_enter Try.func26, Try.ntmps26
    go_wp2_with fail
    have hs : ∀ s ∈ ([⟨D_x, d_x, xs⟩, ⟨D_y, d_y, ys⟩] : List Sl), s.ok (w.alloc (.cells #[.slice D_x (List.length xs) d_x, .slice D_y (List.length ys) d_y] 23)) := by
      intro s hs
      simp only [List.mem_cons, List.not_mem_nil, or_false] at hs
      rcases hs with rfl | rfl
      · exact ⟨Hx.out.below (al _ _), by dsimp only; omega⟩
      · exact ⟨Hy.out.below (al _ _), by dsimp only; omega⟩
    have CV := Lib.hid (valid_any us A c (some ⟨w.heap.size, 0, none⟩) 2 [⟨D_x, d_x, xs⟩, ⟨D_y, d_y, ys⟩] (w.alloc (.cells #[.slice D_x (List.length xs) d_x, .slice D_y (List.length ys) d_y] 23)) hl (by simp) (Hr.out.below (al _ _)) (rd_blk (Blk.new _ _ _)) hs)
    clear hs
    refine (CV.out).mono ?_
    rintro e w1 ⟨rfl, hb⟩
    have K1 := Lib.hid (after (after K0.out (al _ _)) hb)
    clear hb
    rw [vls_vx G.out]
    go_wp2_with fail
    go_ret
    exact ⟨rfl, K1.out⟩
  | true =>
    obtain ⟨hw, hs⟩ := vx_iff hv
    have tb_x := hs xs (by simp)
    have ok_x := terms_ok tb_x
    have tb_y := hs ys (by simp)
    have ok_y := terms_ok tb_y
    have G := Lib.hid hv
    have T_x := Lib.hid tb_x
    have T_y := Lib.hid tb_y
    have HW := Lib.hid hw
    have ko_n := norm_ok hw ok_x
    have ok_n := made_ok ko_n
    have le_n : (norm us (terms xs)).length ≤ List.length xs := by have h := (norm_spec hw ok_x).2.1; rw [terms_len] at h; exact h
    have L_n := Lib.hid (show List.length ((norm us (terms xs)).map ofT) ≤ 4294967296 from made_len (by omega))
    have Q_n := Lib.hid (show (norm us (terms xs)).length ≤ 1099511627776 by omega)
    have T_n := Lib.hid (all_tb hw ko_n)
    have ko_m := norm_ok hw ok_y
    have ok_m := made_ok ko_m
    have le_m : (norm us (terms ys)).length ≤ List.length ys := by have h := (norm_spec hw ok_y).2.1; rw [terms_len] at h; exact h
    have L_m := Lib.hid (show List.length ((norm us (terms ys)).map ofT) ≤ 4294967296 from made_len (by omega))
    have Q_m := Lib.hid (show (norm us (terms ys)).length ≤ 1099511627776 by omega)
    have T_m := Lib.hid (all_tb hw ko_m)
    have h_E1 : eqL us (terms xs) (terms ((norm us (terms xs)).map ofT)) = true := by
      simp only [back_T2]
      exact norm_eq hw ok_x
    have E1 := Lib.hid h_E1
    clear h_E1
    have h_E2 : eqL us (terms ((norm us (terms xs)).map ofT)) (terms ((norm us (terms ys)).map ofT)) = eqL us (terms xs) (terms ys) := by
      simp only [back_T2]
      exact (norm_eq2 hw ok_x ok_y).symm
    have E2 := Lib.hid h_E2
    clear h_E2
    clear hv hs hw tb_x ok_x tb_y ok_y ko_n ok_n le_n ko_m ok_m le_m
    have K0 := Lib.hid (Below.refl w.heap.size w)
    go_enter Try.func26, Try.ntmps26
    go_wp2_with fail
    have hs : ∀ s ∈ ([⟨D_x, d_x, xs⟩, ⟨D_y, d_y, ys⟩] : List Sl), s.ok (w.alloc (.cells #[.slice D_x (List.length xs) d_x, .slice D_y (List.length ys) d_y] 23)) := by
      intro s hs
      simp only [List.mem_cons, List.not_mem_nil, or_false] at hs
      rcases hs with rfl | rfl
      · exact ⟨Hx.out.below (al _ _), by dsimp only; omega⟩
      · exact ⟨Hy.out.below (al _ _), by dsimp only; omega⟩
    have CV := Lib.hid (valid_any us A c (some ⟨w.heap.size, 0, none⟩) 2 [⟨D_x, d_x, xs⟩, ⟨D_y, d_y, ys⟩] (w.alloc (.cells #[.slice D_x (List.length xs) d_x, .slice D_y (List.length ys) d_y] 23)) hl (by simp) (Hr.out.below (al _ _)) (rd_blk (Blk.new _ _ _)) hs)
    clear hs
    refine (CV.out).mono ?_
    rintro e w1 ⟨rfl, hb⟩
    have K1 := Lib.hid (after (after K0.out (al _ _)) hb)
    clear hb
    rw [vls_vx G.out]
    go_wp2_with fail
    refine (inorm_call us A c D_x d_x xs w1 hl (by omega) HW.out (Hr.out.below K1.out) (Hx.out.below K1.out) T_x.out Q_n.out).mono ?_
    rintro e w2 ⟨D_n, d_n, rfl, hd, hb⟩
    have K2 := Lib.hid (after K1.out hb)
    clear hb
    have R_n := Lib.hid hd
    clear hd
    try rw [List.length_map]
    go_wp2_with fail
    have hC := inorm_call us A c D_y d_y ys w2 hl (by omega) HW.out (Hr.out.below K2.out) (Hy.out.below K2.out) T_y.out Q_m.out
    try simp only [List.length_map] at hC
    refine hC.mono ?_
    clear hC
    rintro e w3 ⟨D_m, d_m, rfl, hd, hb⟩
    have K3 := Lib.hid (after K2.out hb)
    have R_n := Lib.hid (R_n.out.below hb)
    clear hb
    have R_m := Lib.hid hd
    clear hd
    try rw [List.length_map]
    go_wp2_with fail
    have hC := ieq_call us A c D_x d_x xs D_n d_n ((norm us (terms xs)).map ofT) w3 hl (by omega) L_n.out HW.out (Hr.out.below K3.out) (Hx.out.below K3.out) R_n.out T_x.out T_n.out
    try simp only [List.length_map] at hC
    refine hC.mono ?_
    clear hC
    rintro e w4 ⟨rfl, hb⟩
    have K4 := Lib.hid (after K3.out hb)
    have R_n := Lib.hid (R_n.out.below hb)
    have R_m := Lib.hid (R_m.out.below hb)
    clear hb
    rw [E1.out]
    go_wp2_with fail
    have hC := ieq_call us A c D_x d_x xs D_y d_y ys w4 hl (by omega) (by omega) HW.out (Hr.out.below K4.out) (Hx.out.below K4.out) (Hy.out.below K4.out) T_x.out T_y.out
    try simp only [List.length_map] at hC
    refine hC.mono ?_
    clear hC
    rintro e w5 ⟨rfl, hb⟩
    have K5 := Lib.hid (after K4.out hb)
    have R_n := Lib.hid (R_n.out.below hb)
    have R_m := Lib.hid (R_m.out.below hb)
    clear hb
    go_wp2_with fail
    have hC := ieq_call us A c D_n d_n ((norm us (terms xs)).map ofT) D_m d_m ((norm us (terms ys)).map ofT) w5 hl L_n.out L_m.out HW.out (Hr.out.below K5.out) R_n.out R_m.out T_n.out T_m.out
    try simp only [List.length_map] at hC
    refine hC.mono ?_
    clear hC
    rintro e w6 ⟨rfl, hb⟩
    have K6 := Lib.hid (after K5.out hb)
    have R_n := Lib.hid (R_n.out.below hb)
    have R_m := Lib.hid (R_m.out.below hb)
    clear hb
    rw [E2.out]
    go_wp2_with fail
    go_ret
    exact ⟨rfl, K6.out⟩

theorem fnNormEqual_contract (H : Type) (enc : TypeId × Value → H) (W : World) (base : Nat) (args : Array Value) (ds gs : List (DataW H)) (before : List MemPlace)
    (hval : ∀ (j : Nat) t v, Try.f26.params[j]? = some t → args[j]? = some v → Value.okWide Try.prog W .any base t v)
    (hW : DataW.Whole enc Try.prog Try.f26.params.toList Rows.fnNormEqualSpec.vars false W args.toList ds gs before) :
    Calls Try.prog 26 args W fun e W' => ∃ v, e = .returned v ∧ Rows.fnNormEqualSpec.post enc Try.prog Try.f26 false true false false W args v W' := by
  have hW' := hW
  obtain ⟨p, q, hA0, hV, rfl, hfz, hnd⟩ := hW
  have hA : DataW.TrodAll enc Try.prog W 0 (fun _ => true) true Try.f26.params.toList args.toList ds p := hA0
  rw [Try.params26] at hA hval
  obtain ⟨v0, vs0, d0, ds0, p0, q0, hargs, rfl, rfl, h0, r0⟩ := trodAll_cons hA
  obtain ⟨v1, vs1, d1, ds1, p1, q1, rfl, rfl, rfl, h1, r1⟩ := trodAll_cons r0
  obtain ⟨v2, vs2, d2, ds2, p2, q2, rfl, rfl, rfl, h2, r2⟩ := trodAll_cons r1
  obtain ⟨rfl, rfl, rfl⟩ := trodAll_nil r2
  obtain rfl : args = #[v0, v1, v2] := by cases args; simp_all
  obtain ⟨rfl, rfl⟩ := trodVars_none hV
  have k0 := h0
  have lt0 : ∀ x ∈ p0, x.block < W.heap.size := by obtain ⟨m, hm⟩ := k0; exact DataW.trod_lt m _ _ _ hm
  obtain ⟨A0, l0, c0, rfl, rd0, bd0⟩ := open_us (hval 0 22 v0 rfl rfl) h0
  have k1 := h1
  have lt1 : ∀ x ∈ p1, x.block < W.heap.size := by obtain ⟨m, hm⟩ := k1; exact DataW.trod_lt m _ _ _ hm
  obtain ⟨A1, l1, c1, rfl, rd1, bd1⟩ := open_ts (hval 1 23 v1 rfl rfl) h1
  have k2 := h2
  have lt2 : ∀ x ∈ p2, x.block < W.heap.size := by obtain ⟨m, hm⟩ := k2; exact DataW.trod_lt m _ _ _ hm
  obtain ⟨A2, l2, c2, rfl, rd2, bd2⟩ := open_ts (hval 2 23 v2 rfl rfl) h2
  clear hA0
  refine (walk26 l0 A0 c0 l1 A1 c1 l2 A2 c2 W rd0 rd1 rd2).mono fun e W' ⟨he, bel⟩ => ?_
  subst he
  exact ⟨_, rfl, _, _, _, [], _, [], hW', trodAll_mk1 (shut_bool Try.underlying4 _), (trodAll_cons_mk (Below.trod Try.laidOut (by kernel_rfl) (of_decide_eq_true (by kernel_rfl)) k0 bel lt0) (trodAll_cons_mk (Below.trod Try.laidOut (by kernel_rfl) (of_decide_eq_true (by kernel_rfl)) k1 bel lt1) (trodAll_cons_mk (Below.trod Try.laidOut (by kernel_rfl) (of_decide_eq_true (by kernel_rfl)) k2 bel lt2) trodAll_mk0))), rfl, bel.frame _, fun h => by cases h⟩

set_option maxRecDepth 100000 in
theorem fnNormEqual_lifted (os : Os) (started : os.Started) (H : Type) (enc : TypeId × Value → H) :
    ReturnsInHanded {} Try.checked os 26 .any (Rows.fnNormEqualSpec.pre6 enc Try.prog Try.f26 Rows.fnNormEqualRow.domain false) (Rows.fnNormEqualSpec.post enc Try.prog Try.f26 false true false false) := by
  refine returnsInHanded_of_change (C := Try.checked) Try.own started (by kernel_rfl) Try.func26
    (ChangeSpec.witness6 (enc := enc) (C := Try.checked) false ⟨#[], #[.slice none 0 0, .slice none 0 0, .slice none 0 0], []⟩ 8 (by kernel_rfl) (by kernel_rfl) (by kernel_rfl) (by kernel_rfl)) ?_
  intro W base args ds gs before hval hW _ _
  exact fnNormEqual_contract H enc W base args ds gs before hval hW

theorem fnNormEqual_closed : joinedFacts Try.prog 26 Try.f26 Rows.fnNormEqualSpec Rows.fnNormEqualRow = true := closed_of (by kernel_rfl)

theorem fnNormEqual_holds : Rows.FnNormEqualSaid :=
  OpenClaim.holds_of_wide 26 Try.f26 rfl rfl rfl rfl rfl rfl rfl ⟨rfl, rfl, rfl, rfl, rfl⟩ rfl rfl rfl rfl rfl (by as_aux_lemma => kernel_rfl) Try.func26 fnNormEqual_closed
    (of_decide_eq_true (by as_aux_lemma => kernel_rfl)) (by as_aux_lemma => (unfold Func.isWrapper; first | (rw [if_pos (by decide +kernel)]; kernel_rfl) | (rw [if_neg (by decide +kernel)]; exact ⟨rfl, rfl⟩)))
    (fun os started H enc _ => fnNormEqual_lifted os started H enc)
end Go.Proofs.Ytehadfnaknpagaa
