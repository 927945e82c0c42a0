/-
  PROVED HERE: FnCommutes: the order of the operands does not matter for unions and intersections. Conditions: what comes in holds together at most 1048576 values (the second form of the statement).
-/
import Derived.Test.YtehadfnaknpagaaXc
namespace Go.Proofs.Ytehadfnaknpagaa
open Go.ChangeShapes Go.WideShapes Go.ChangeAt Go.RowKit Pl

set_option maxHeartbeats 4000000 in
theorem walk31 (us : List Int) (A : Option Addr) (c : Nat) (xs : List Tm) (D_x : Option Addr) (d_x : Nat) (ys : List Tm) (D_y : Option Addr) (d_y : Nat) (w : World)
    (hr : Rd w A (ints us)) (hd_x : Rd w D_x (tcs xs)) (hd_y : Rd w D_y (tcs ys)) (hbound : us.length + xs.length + ys.length ≤ 1048576) :
    Calls Try.prog 31 #[.slice A us.length c, .slice D_x xs.length d_x, .slice D_y ys.length d_y] w fun e w' => e = .returned (.bool true) ∧ Below w.heap.size w w' := by
  have hl : us.length ≤ 2147483647 := by omega
  have l_x : xs.length ≤ 2147483647 := by omega
  have l_y : ys.length ≤ 2147483647 := by omega
  have Hr := Lib.hid hr
  have Hx := Lib.hid hd_x
  have Hy := Lib.hid hd_y
  clear hr hd_x hd_y
  cases hv : VX us [xs, ys] with
  | false =>
    have G := Lib.hid hv
    clear hv
    clear hbound
    have K0 := Lib.hid (Below.refl w.heap.size w)
    go_enter Try.func31, Try.ntmps31
    go_wp2_with fail
    have hs : ∀ s ∈ ([⟨D_x, d_x, xs⟩, ⟨D_y, d_y, ys⟩] : List Sl), s.ok (w.alloc (.cells #[.slice D_x (List.length xs) d_x, .slice D_y (List.length ys) d_y] 23)) := by
      intro s hs
      simp only [List.mem_cons, List.not_mem_nil, or_false] at hs
      rcases hs with rfl | rfl
      · exact ⟨Hx.out.below (al _ _), by dsimp only; omega⟩
      · exact ⟨Hy.out.below (al _ _), by dsimp only; omega⟩
    have CV := Lib.hid (valid_any us A c (some ⟨w.heap.size, 0, none⟩) 2 [⟨D_x, d_x, xs⟩, ⟨D_y, d_y, ys⟩] (w.alloc (.cells #[.slice D_x (List.length xs) d_x, .slice D_y (List.length ys) d_y] 23)) hl (by simp) (Hr.out.below (al _ _)) (rd_blk (Blk.new _ _ _)) hs)
    clear hs
    refine (CV.out).mono ?_
    rintro e w1 ⟨rfl, hb⟩
    have K1 := Lib.hid (after (after K0.out (al _ _)) hb)
    clear hb
    rw [vls_vx G.out]
    go_wp2_with fail
    go_ret
    exact ⟨rfl, K1.out⟩
  | true =>
    obtain ⟨hw, hs⟩ := vx_iff hv
    have tb_x := hs xs (by simp)
    have ok_x := terms_ok tb_x
    have tb_y := hs ys (by simp)
    have ok_y := terms_ok tb_y
    have G := Lib.hid hv
    have T_x := Lib.hid tb_x
    have T_y := Lib.hid tb_y
    have HW := Lib.hid hw
    have ko_u1 := unionL_ok hw ok_x ok_y
    have ok_u1 := made_ok ko_u1
    have le_u1 : (unionL us (terms xs) (terms ys)).length ≤ xs.length + (ys.length) := by
      have h := unionL_len hw ok_x ok_y
      rw [terms_len, terms_len] at h
      have h1 : List.length xs ≤ xs.length := (Nat.le_refl _)
      have h2 : List.length ys ≤ ys.length := (Nat.le_refl _)
      omega
    have L_u1 := Lib.hid (show List.length ((unionL us (terms xs) (terms ys)).map ofT) ≤ 4294967296 from made_len (by omega))
    have Q_u1 := Lib.hid (show (unionL us (terms xs) (terms ys)).length ≤ 1099511627776 by omega)
    have T_u1 := Lib.hid (all_tb hw ko_u1)
    have ko_u2 := unionL_ok hw ok_y ok_x
    have ok_u2 := made_ok ko_u2
    have le_u2 : (unionL us (terms ys) (terms xs)).length ≤ ys.length + (xs.length) := by
      have h := unionL_len hw ok_y ok_x
      rw [terms_len, terms_len] at h
      have h1 : List.length ys ≤ ys.length := (Nat.le_refl _)
      have h2 : List.length xs ≤ xs.length := (Nat.le_refl _)
      omega
    have L_u2 := Lib.hid (show List.length ((unionL us (terms ys) (terms xs)).map ofT) ≤ 4294967296 from made_len (by omega))
    have Q_u2 := Lib.hid (show (unionL us (terms ys) (terms xs)).length ≤ 1099511627776 by omega)
    have T_u2 := Lib.hid (all_tb hw ko_u2)
    have ko_i1 := interL_ok hw ok_x ok_y
    have ok_i1 := made_ok ko_i1
    have le_i1 : (interL us (terms xs) (terms ys)).length ≤ us.length + 1 := interL_short hw ok_x ok_y
    have L_i1 := Lib.hid (show List.length ((interL us (terms xs) (terms ys)).map ofT) ≤ 4294967296 from made_len (by omega))
    have Q_i1 := Lib.hid (show (interL us (terms xs) (terms ys)).length ≤ 1099511627776 by omega)
    have T_i1 := Lib.hid (all_tb hw ko_i1)
    have P_i1 := Lib.hid (show List.length xs * List.length ys ≤ 1099511627776 from by
      have h1 : List.length xs ≤ xs.length := (Nat.le_refl _)
      have h2 : List.length ys ≤ ys.length := (Nat.le_refl _)
      exact mul_bd2 (by omega) (by omega))
    have ko_i2 := interL_ok hw ok_y ok_x
    have ok_i2 := made_ok ko_i2
    have le_i2 : (interL us (terms ys) (terms xs)).length ≤ us.length + 1 := interL_short hw ok_y ok_x
    have L_i2 := Lib.hid (show List.length ((interL us (terms ys) (terms xs)).map ofT) ≤ 4294967296 from made_len (by omega))
    have Q_i2 := Lib.hid (show (interL us (terms ys) (terms xs)).length ≤ 1099511627776 by omega)
    have T_i2 := Lib.hid (all_tb hw ko_i2)
    have P_i2 := Lib.hid (show List.length ys * List.length xs ≤ 1099511627776 from by
      have h1 : List.length ys ≤ ys.length := (Nat.le_refl _)
      have h2 : List.length xs ≤ xs.length := (Nat.le_refl _)
      exact mul_bd2 (by omega) (by omega))
    have h_E1 : eqL us (terms ((unionL us (terms xs) (terms ys)).map ofT)) (terms ((unionL us (terms ys) (terms xs)).map ofT)) = true := by
      simp only [back_T2]
      exact union_comm hw ok_x ok_y
    have E1 := Lib.hid h_E1
    clear h_E1
    have h_E2 : eqL us (terms ((interL us (terms xs) (terms ys)).map ofT)) (terms ((interL us (terms ys) (terms xs)).map ofT)) = true := by
      simp only [back_T2]
      exact inter_comm hw ok_x ok_y
    have E2 := Lib.hid h_E2
    clear h_E2
    clear hv hs hw tb_x ok_x tb_y ok_y ko_u1 ok_u1 le_u1 ko_u2 ok_u2 le_u2 ko_i1 ok_i1 le_i1 ko_i2 ok_i2 le_i2 hbound
    have K0 := Lib.hid (Below.refl w.heap.size w)
    go_enter Try.func31, Try.ntmps31
    go_wp2_with fail
    have hs : ∀ s ∈ ([⟨D_x, d_x, xs⟩, ⟨D_y, d_y, ys⟩] : List Sl), s.ok (w.alloc (.cells #[.slice D_x (List.length xs) d_x, .slice D_y (List.length ys) d_y] 23)) := by
      intro s hs
      simp only [List.mem_cons, List.not_mem_nil, or_false] at hs
      rcases hs with rfl | rfl
      · exact ⟨Hx.out.below (al _ _), by dsimp only; omega⟩
      · exact ⟨Hy.out.below (al _ _), by dsimp only; omega⟩
    have CV := Lib.hid (valid_any us A c (some ⟨w.heap.size, 0, none⟩) 2 [⟨D_x, d_x, xs⟩, ⟨D_y, d_y, ys⟩] (w.alloc (.cells #[.slice D_x (List.length xs) d_x, .slice D_y (List.length ys) d_y] 23)) hl (by simp) (Hr.out.below (al _ _)) (rd_blk (Blk.new _ _ _)) hs)
    clear hs
    refine (CV.out).mono ?_
    rintro e w1 ⟨rfl, hb⟩
    have K1 := Lib.hid (after (after K0.out (al _ _)) hb)
    clear hb
    rw [vls_vx G.out]
    go_wp2_with fail
    refine (iunion_call us A c D_x d_x xs D_y d_y ys w1 hl (by omega) (by omega) HW.out (Hr.out.below K1.out) (Hx.out.below K1.out) (Hy.out.below K1.out) T_x.out T_y.out Q_u1.out).mono ?_
    rintro e w2 ⟨D_u1, d_u1, rfl, hd, hb⟩
    have K2 := Lib.hid (after K1.out hb)
    clear hb
    have R_u1 := Lib.hid hd
    clear hd
    try rw [List.length_map]
    go_wp2_with fail
    have hC := iunion_call us A c D_y d_y ys D_x d_x xs w2 hl (by omega) (by omega) HW.out (Hr.out.below K2.out) (Hy.out.below K2.out) (Hx.out.below K2.out) T_y.out T_x.out Q_u2.out
    try simp only [List.length_map] at hC
    refine hC.mono ?_
    clear hC
    rintro e w3 ⟨D_u2, d_u2, rfl, hd, hb⟩
    have K3 := Lib.hid (after K2.out hb)
    have R_u1 := Lib.hid (R_u1.out.below hb)
    clear hb
    have R_u2 := Lib.hid hd
    clear hd
    try rw [List.length_map]
    go_wp2_with fail
    have hC := ieq_call us A c D_u1 d_u1 ((unionL us (terms xs) (terms ys)).map ofT) D_u2 d_u2 ((unionL us (terms ys) (terms xs)).map ofT) w3 hl L_u1.out L_u2.out HW.out (Hr.out.below K3.out) R_u1.out R_u2.out T_u1.out T_u2.out
    try simp only [List.length_map] at hC
    refine hC.mono ?_
    clear hC
    rintro e w4 ⟨rfl, hb⟩
    have K4 := Lib.hid (after K3.out hb)
    have R_u1 := Lib.hid (R_u1.out.below hb)
    have R_u2 := Lib.hid (R_u2.out.below hb)
    clear hb
    rw [E1.out]
    go_wp2_with fail
    have hC := iinter_call us A c D_x d_x xs D_y d_y ys w4 hl (by omega) (by omega) P_i1.out HW.out (Hr.out.below K4.out) (Hx.out.below K4.out) (Hy.out.below K4.out) T_x.out T_y.out Q_i1.out
    try simp only [List.length_map] at hC
    refine hC.mono ?_
    clear hC
    rintro e w5 ⟨D_i1, d_i1, rfl, hd, hb⟩
    have K5 := Lib.hid (after K4.out hb)
    have R_u1 := Lib.hid (R_u1.out.below hb)
    have R_u2 := Lib.hid (R_u2.out.below hb)
    clear hb
    have R_i1 := Lib.hid hd
    clear hd
    try rw [List.length_map]
    go_wp2_with fail
    have hC := iinter_call us A c D_y d_y ys D_x d_x xs w5 hl (by omega) (by omega) P_i2.out HW.out (Hr.out.below K5.out) (Hy.out.below K5.out) (Hx.out.below K5.out) T_y.out T_x.out Q_i2.out
    try simp only [List.length_map] at hC
    refine hC.mono ?_
    clear hC
    rintro e w6 ⟨D_i2, d_i2, rfl, hd, hb⟩
    have K6 := Lib.hid (after K5.out hb)
    have R_u1 := Lib.hid (R_u1.out.below hb)
    have R_u2 := Lib.hid (R_u2.out.below hb)
    have R_i1 := Lib.hid (R_i1.out.below hb)
    clear hb
    have R_i2 := Lib.hid hd
    clear hd
    try rw [List.length_map]
    go_wp2_with fail
    have hC := ieq_call us A c D_i1 d_i1 ((interL us (terms xs) (terms ys)).map ofT) D_i2 d_i2 ((interL us (terms ys) (terms xs)).map ofT) w6 hl L_i1.out L_i2.out HW.out (Hr.out.below K6.out) R_i1.out R_i2.out T_i1.out T_i2.out
    try simp only [List.length_map] at hC
    refine hC.mono ?_
    clear hC
    rintro e w7 ⟨rfl, hb⟩
    have K7 := Lib.hid (after K6.out hb)
    have R_u1 := Lib.hid (R_u1.out.below hb)
    have R_u2 := Lib.hid (R_u2.out.below hb)
    have R_i1 := Lib.hid (R_i1.out.below hb)
    have R_i2 := Lib.hid (R_i2.out.below hb)
    clear hb
    rw [E2.out]
    go_wp2_with fail
    go_ret
    exact ⟨rfl, K7.out⟩

theorem fnCommutes_contract (H : Type) (enc : TypeId × Value → H) (W : World) (base : Nat) (args : Array Value) (ds gs : List (DataW H)) (before : List MemPlace)
    (hval : ∀ (j : Nat) t v, Try.f31.params[j]? = some t → args[j]? = some v → Value.okWide Try.prog W .any base t v)
    (hW : DataW.Whole enc Try.prog Try.f31.params.toList Rows.fnCommutesSpec.vars false W args.toList ds gs before) (hk : Rows.uptoSmall H (ds ++ gs) = true) :
    Calls Try.prog 31 args W fun e W' => ∃ v, e = .returned v ∧ Rows.fnCommutesSpec.post enc Try.prog Try.f31 false true false false W args v W' := by
  have hW' := hW
  obtain ⟨p, q, hA0, hV, rfl, hfz, hnd⟩ := hW
  have hA : DataW.TrodAll enc Try.prog W 0 (fun _ => true) true Try.f31.params.toList args.toList ds p := hA0
  rw [Try.params31] at hA hval
  obtain ⟨v0, vs0, d0, ds0, p0, q0, hargs, rfl, rfl, h0, r0⟩ := trodAll_cons hA
  obtain ⟨v1, vs1, d1, ds1, p1, q1, rfl, rfl, rfl, h1, r1⟩ := trodAll_cons r0
  obtain ⟨v2, vs2, d2, ds2, p2, q2, rfl, rfl, rfl, h2, r2⟩ := trodAll_cons r1
  obtain ⟨rfl, rfl, rfl⟩ := trodAll_nil r2
  obtain rfl : args = #[v0, v1, v2] := by cases args; simp_all
  obtain ⟨rfl, rfl⟩ := trodVars_none hV
  have k0 := h0
  have lt0 : ∀ x ∈ p0, x.block < W.heap.size := by obtain ⟨m, hm⟩ := k0; exact DataW.trod_lt m _ _ _ hm
  obtain ⟨A0, l0, c0, rfl, rd0, bd0⟩ := open_us (hval 0 22 v0 rfl rfl) h0
  have k1 := h1
  have lt1 : ∀ x ∈ p1, x.block < W.heap.size := by obtain ⟨m, hm⟩ := k1; exact DataW.trod_lt m _ _ _ hm
  obtain ⟨A1, l1, c1, rfl, rd1, bd1⟩ := open_ts (hval 1 23 v1 rfl rfl) h1
  have k2 := h2
  have lt2 : ∀ x ∈ p2, x.block < W.heap.size := by obtain ⟨m, hm⟩ := k2; exact DataW.trod_lt m _ _ _ hm
  obtain ⟨A2, l2, c2, rfl, rd2, bd2⟩ := open_ts (hval 2 23 v2 rfl rfl) h2
  have hbound : l0.length + l1.length + l2.length ≤ 1048576 := by
    have h : Rows.uptoBulkAll ([d0, d1, d2] ++ []) ≤ 1048576 := of_decide_eq_true hk
    rw [List.append_nil] at h
    simp only [Rows.uptoBulkAll] at h
    omega
  clear hA0
  refine (walk31 l0 A0 c0 l1 A1 c1 l2 A2 c2 W rd0 rd1 rd2 hbound).mono fun e W' ⟨he, bel⟩ => ?_
  subst he
  exact ⟨_, rfl, _, _, _, [], _, [], hW', trodAll_mk1 (shut_bool Try.underlying4 _), (trodAll_cons_mk (Below.trod Try.laidOut (by kernel_rfl) (of_decide_eq_true (by kernel_rfl)) k0 bel lt0) (trodAll_cons_mk (Below.trod Try.laidOut (by kernel_rfl) (of_decide_eq_true (by kernel_rfl)) k1 bel lt1) (trodAll_cons_mk (Below.trod Try.laidOut (by kernel_rfl) (of_decide_eq_true (by kernel_rfl)) k2 bel lt2) trodAll_mk0))), rfl, bel.frame _, fun h => by cases h⟩

set_option maxRecDepth 100000 in
theorem fnCommutes_lifted (os : Os) (started : os.Started) (H : Type) (enc : TypeId × Value → H) (F : Stop.Interp) :
    ReturnsInHanded {} Try.checked os 31 .any ((Rows.OpenSpec.upto Rows.fnCommutesSpec).pre6 enc Try.prog Try.f31 Rows.fnCommutesUptoRow.domain false) (((Rows.OpenSpec.upto Rows.fnCommutesSpec).at F).post enc Try.prog Try.f31 false true false false) := by
  refine returnsInHanded_of_cond (C := Try.checked) (s := Rows.OpenSpec.upto Rows.fnCommutesSpec) (k := Rows.uptoSmall) rfl Try.own started (by kernel_rfl) Try.func31
    (OpenSpec.witness (enc := enc) (C := Try.checked) (s := Rows.OpenSpec.upto Rows.fnCommutesSpec) (k := Rows.uptoSmall) rfl false ⟨#[], #[.slice none 0 0, .slice none 0 0, .slice none 0 0], []⟩ 8 (by kernel_rfl) (by kernel_rfl) (by kernel_rfl)
      (x := ([.nil, .nil, .nil], [], [])) (by kernel_rfl) rfl (by kernel_rfl)) ?_
  intro W base args ds gs before hval hW _ hk _
  exact fnCommutes_contract H enc W base args ds gs before hval hW hk

theorem fnCommutes_closed : joinedFacts Try.prog 31 Try.f31 (Rows.OpenSpec.upto Rows.fnCommutesSpec).bare Rows.fnCommutesUptoRow = true := closed_of (by kernel_rfl)

theorem fnCommutes_holds : Rows.FnCommutesUptoSaid :=
  OpenClaim.holds_of_cond 31 Try.f31 rfl rfl rfl rfl rfl rfl rfl ⟨rfl, rfl, rfl, rfl, rfl⟩ rfl rfl rfl rfl rfl (by as_aux_lemma => kernel_rfl) Try.func31 fnCommutes_closed
    (of_decide_eq_true (by as_aux_lemma => kernel_rfl)) (by as_aux_lemma => (unfold Func.isWrapper; first | (rw [if_pos (by decide +kernel)]; kernel_rfl) | (rw [if_neg (by decide +kernel)]; exact ⟨rfl, rfl⟩)))
    (fun os started H enc _ F => fnCommutes_lifted os started H enc F)
end Go.Proofs.Ytehadfnaknpagaa
