/-
  PROVED HERE: FnNeutral: the union with nothing, and the intersection with all types, is equal to the list; the intersection with nothing is empty, and the union with all types is all types. Conditions: none.
-/
import Derived.Test.YtehadfnaknpagaaXc
namespace Go.Proofs.Ytehadfnaknpagaa
open Go.ChangeShapes Go.WideShapes Go.ChangeAt Go.RowKit Pl

set_option maxHeartbeats 4000000 in
theorem walk13 (us : List Int) (A : Option Addr) (c : Nat) (xs : List Tm) (D_x : Option Addr) (d_x : Nat) (w : World)
    (hr : Rd w A (ints us)) (hd_x : Rd w D_x (tcs xs)) :
    Calls Try.prog 13 #[.slice A us.length c, .slice D_x xs.length d_x] w fun e w' => e = .returned (.bool true) ∧ Below w.heap.size w w' := by
  by_cases q0 : 2147483647 < us.length
  · go_enter Try.func13, Try.ntmps13
    go_wp2_with fail
    go_ret
    exact ⟨rfl, Below.refl _ _⟩
  by_cases q1 : 2147483647 < xs.length
  · go_enter Try.func13, Try.ntmps13
    go_wp2_with fail
    go_ret
    exact ⟨rfl, Below.refl _ _⟩
  have hl : us.length ≤ 2147483647 := by omega
  have l_x : xs.length ≤ 2147483647 := by omega
  have Hr := Lib.hid hr
  have Hx := Lib.hid hd_x
  clear hr hd_x
  cases hv : VX us [xs] with
  | false =>
    have G := Lib.hid hv
    clear hv
    have K0 := Lib.hid (Below.refl w.heap.size w)
    go_enter Try.func13, Try.ntmps13
    go_wp2_with fail
    have hs : ∀ s ∈ ([⟨D_x, d_x, xs⟩] : List Sl), s.ok (w.alloc (.cells #[.slice D_x (List.length xs) d_x] 23)) := by
      intro s hs
      simp only [List.mem_cons, List.not_mem_nil, or_false] at hs
      rcases hs with rfl
      · exact ⟨Hx.out.below (al _ _), by dsimp only; omega⟩
    have CV := Lib.hid (valid_any us A c (some ⟨w.heap.size, 0, none⟩) 1 [⟨D_x, d_x, xs⟩] (w.alloc (.cells #[.slice D_x (List.length xs) d_x] 23)) hl (by simp) (Hr.out.below (al _ _)) (rd_blk (Blk.new _ _ _)) hs)
    clear hs
    refine (CV.out).mono ?_
    rintro e w1 ⟨rfl, hb⟩
    have K1 := Lib.hid (after (after K0.out (al _ _)) hb)
    clear hb
    rw [vls_vx G.out]
    go_wp2_with fail
    go_ret
    exact ⟨rfl, K1.out⟩
  | true =>
    obtain ⟨hw, hs⟩ := vx_iff hv
    have tb_x := hs xs (by simp)
    have ok_x := terms_ok tb_x
    have G := Lib.hid hv
    have T_x := Lib.hid tb_x
    have HW := Lib.hid hw
    have ko_u := unionL_ok hw ok_x (terms_ok (ts := []) rfl)
    have ok_u := made_ok ko_u
    have le_u : (unionL us (terms xs) (terms ([] : List Tm))).length ≤ xs.length + (0) := by
      have h := unionL_len hw ok_x (terms_ok (ts := []) rfl)
      rw [terms_len, terms_len] at h
      have h1 : List.length xs ≤ xs.length := (Nat.le_refl _)
      have h2 : List.length ([] : List Tm) ≤ 0 := (Nat.le_refl _)
      omega
    have L_u := Lib.hid (show List.length ((unionL us (terms xs) (terms ([] : List Tm))).map ofT) ≤ 4294967296 from made_len (by omega))
    have Q_u := Lib.hid (show (unionL us (terms xs) (terms ([] : List Tm))).length ≤ 1099511627776 by omega)
    have T_u := Lib.hid (all_tb hw ko_u)
    have ko_i := interL_ok hw ok_x (terms_ok tall_ok)
    have ok_i := made_ok ko_i
    have le_i : (interL us (terms xs) (terms [(⟨1, false, 0⟩ : Tm)])).length ≤ us.length + 1 := interL_short hw ok_x (terms_ok tall_ok)
    have L_i := Lib.hid (show List.length ((interL us (terms xs) (terms [(⟨1, false, 0⟩ : Tm)])).map ofT) ≤ 4294967296 from made_len (by omega))
    have Q_i := Lib.hid (show (interL us (terms xs) (terms [(⟨1, false, 0⟩ : Tm)])).length ≤ 1099511627776 by omega)
    have T_i := Lib.hid (all_tb hw ko_i)
    have P_i := Lib.hid (show List.length xs * List.length [(⟨1, false, 0⟩ : Tm)] ≤ 1099511627776 from by
      have h1 : List.length xs ≤ xs.length := (Nat.le_refl _)
      have h2 : List.length [(⟨1, false, 0⟩ : Tm)] ≤ 1 := (Nat.le_refl _)
      exact (by simp only [List.length_cons, List.length_nil]; omega))
    have ko_j := interL_ok hw ok_x (terms_ok (ts := []) rfl)
    have ok_j := made_ok ko_j
    have le_j : (interL us (terms xs) (terms ([] : List Tm))).length ≤ us.length + 1 := interL_short hw ok_x (terms_ok (ts := []) rfl)
    have L_j := Lib.hid (show List.length ((interL us (terms xs) (terms ([] : List Tm))).map ofT) ≤ 4294967296 from made_len (by omega))
    have Q_j := Lib.hid (show (interL us (terms xs) (terms ([] : List Tm))).length ≤ 1099511627776 by omega)
    have T_j := Lib.hid (all_tb hw ko_j)
    have P_j := Lib.hid (show List.length xs * List.length ([] : List Tm) ≤ 1099511627776 from by
      have h1 : List.length xs ≤ xs.length := (Nat.le_refl _)
      have h2 : List.length ([] : List Tm) ≤ 0 := (Nat.le_refl _)
      exact (by simp))
    have ko_v := unionL_ok hw ok_x (terms_ok tall_ok)
    have ok_v := made_ok ko_v
    have le_v : (unionL us (terms xs) (terms [(⟨1, false, 0⟩ : Tm)])).length ≤ xs.length + (1) := by
      have h := unionL_len hw ok_x (terms_ok tall_ok)
      rw [terms_len, terms_len] at h
      have h1 : List.length xs ≤ xs.length := (Nat.le_refl _)
      have h2 : List.length [(⟨1, false, 0⟩ : Tm)] ≤ 1 := (Nat.le_refl _)
      omega
    have L_v := Lib.hid (show List.length ((unionL us (terms xs) (terms [(⟨1, false, 0⟩ : Tm)])).map ofT) ≤ 4294967296 from made_len (by omega))
    have Q_v := Lib.hid (show (unionL us (terms xs) (terms [(⟨1, false, 0⟩ : Tm)])).length ≤ 1099511627776 by omega)
    have T_v := Lib.hid (all_tb hw ko_v)
    have h_E1 : eqL us (terms ((unionL us (terms xs) (terms ([] : List Tm))).map ofT)) (terms xs) = true := by
      simp only [back_T2]
      exact union_nil hw ok_x
    have E1 := Lib.hid h_E1
    clear h_E1
    have h_E2 : eqL us (terms ((interL us (terms xs) (terms [(⟨1, false, 0⟩ : Tm)])).map ofT)) (terms xs) = true := by
      simp only [back_T2]
      exact inter_all hw ok_x
    have E2 := Lib.hid h_E2
    clear h_E2
    have h_E3 : emptyL (terms ((interL us (terms xs) (terms ([] : List Tm))).map ofT)) = true := by
      simp only [back_T2]
      exact inter_nil hw ok_x
    have E3 := Lib.hid h_E3
    clear h_E3
    have h_E4 : allL (terms ((unionL us (terms xs) (terms [(⟨1, false, 0⟩ : Tm)])).map ofT)) = true := by
      simp only [back_T2]
      exact union_all hw ok_x
    have E4 := Lib.hid h_E4
    clear h_E4
    clear hv hs hw tb_x ok_x ko_u ok_u le_u ko_i ok_i le_i ko_j ok_j le_j ko_v ok_v le_v
    have K0 := Lib.hid (Below.refl w.heap.size w)
    go_enter Try.func13, Try.ntmps13
    go_wp2_with fail
    have hs : ∀ s ∈ ([⟨D_x, d_x, xs⟩] : List Sl), s.ok (w.alloc (.cells #[.slice D_x (List.length xs) d_x] 23)) := by
      intro s hs
      simp only [List.mem_cons, List.not_mem_nil, or_false] at hs
      rcases hs with rfl
      · exact ⟨Hx.out.below (al _ _), by dsimp only; omega⟩
    have CV := Lib.hid (valid_any us A c (some ⟨w.heap.size, 0, none⟩) 1 [⟨D_x, d_x, xs⟩] (w.alloc (.cells #[.slice D_x (List.length xs) d_x] 23)) hl (by simp) (Hr.out.below (al _ _)) (rd_blk (Blk.new _ _ _)) hs)
    clear hs
    refine (CV.out).mono ?_
    rintro e w1 ⟨rfl, hb⟩
    have K1 := Lib.hid (after (after K0.out (al _ _)) hb)
    clear hb
    rw [vls_vx G.out]
    go_wp2_with fail
    refine (all_any w1).mono ?_
    rintro e w2 ⟨rfl, hb⟩
    have K2 := Lib.hid (after K1.out hb)
    clear hb
    go_wp2_with fail
    refine (list_call ⟨1, false, 0⟩ w2).mono ?_
    rintro e w3 ⟨D_a, d_a, rfl, hd, hb⟩
    have K3 := Lib.hid (after K2.out hb)
    clear hb
    have R_a := Lib.hid hd
    clear hd
    go_wp2_with fail
    refine (iunion_call us A c D_x d_x xs none 0 ([] : List Tm) w3 hl (by omega) (by simp) HW.out (Hr.out.below K3.out) (Hx.out.below K3.out) (fun h => absurd rfl h) T_x.out rfl Q_u.out).mono ?_
    rintro e w4 ⟨D_u, d_u, rfl, hd, hb⟩
    have K4 := Lib.hid (after K3.out hb)
    have R_a := Lib.hid (R_a.out.below hb)
    clear hb
    have R_u := Lib.hid hd
    clear hd
    try rw [List.length_map]
    go_wp2_with fail
    have hC := ieq_call us A c D_u d_u ((unionL us (terms xs) (terms ([] : List Tm))).map ofT) D_x d_x xs w4 hl L_u.out (by omega) HW.out (Hr.out.below K4.out) R_u.out (Hx.out.below K4.out) T_u.out T_x.out
    try simp only [List.length_map] at hC
    refine hC.mono ?_
    clear hC
    rintro e w5 ⟨rfl, hb⟩
    have K5 := Lib.hid (after K4.out hb)
    have R_a := Lib.hid (R_a.out.below hb)
    have R_u := Lib.hid (R_u.out.below hb)
    clear hb
    rw [E1.out]
    go_wp2_with fail
    have hC := iinter_call us A c D_x d_x xs D_a d_a [(⟨1, false, 0⟩ : Tm)] w5 hl (by omega) (by simp) P_i.out HW.out (Hr.out.below K5.out) (Hx.out.below K5.out) R_a.out T_x.out tall_ok Q_i.out
    try simp only [List.length_map] at hC
    refine hC.mono ?_
    clear hC
    rintro e w6 ⟨D_i, d_i, rfl, hd, hb⟩
    have K6 := Lib.hid (after K5.out hb)
    have R_a := Lib.hid (R_a.out.below hb)
    have R_u := Lib.hid (R_u.out.below hb)
    clear hb
    have R_i := Lib.hid hd
    clear hd
    try rw [List.length_map]
    go_wp2_with fail
    have hC := ieq_call us A c D_i d_i ((interL us (terms xs) (terms [(⟨1, false, 0⟩ : Tm)])).map ofT) D_x d_x xs w6 hl L_i.out (by omega) HW.out (Hr.out.below K6.out) R_i.out (Hx.out.below K6.out) T_i.out T_x.out
    try simp only [List.length_map] at hC
    refine hC.mono ?_
    clear hC
    rintro e w7 ⟨rfl, hb⟩
    have K7 := Lib.hid (after K6.out hb)
    have R_a := Lib.hid (R_a.out.below hb)
    have R_u := Lib.hid (R_u.out.below hb)
    have R_i := Lib.hid (R_i.out.below hb)
    clear hb
    rw [E2.out]
    go_wp2_with fail
    have hC := iinter_call us A c D_x d_x xs none 0 ([] : List Tm) w7 hl (by omega) (by simp) P_j.out HW.out (Hr.out.below K7.out) (Hx.out.below K7.out) (fun h => absurd rfl h) T_x.out rfl Q_j.out
    try simp only [List.length_map] at hC
    refine hC.mono ?_
    clear hC
    rintro e w8 ⟨D_j, d_j, rfl, hd, hb⟩
    have K8 := Lib.hid (after K7.out hb)
    have R_a := Lib.hid (R_a.out.below hb)
    have R_u := Lib.hid (R_u.out.below hb)
    have R_i := Lib.hid (R_i.out.below hb)
    clear hb
    have R_j := Lib.hid hd
    clear hd
    try rw [List.length_map]
    go_wp2_with fail
    have hC := iempty_call us A c D_j d_j ((interL us (terms xs) (terms ([] : List Tm))).map ofT) w8 hl L_j.out HW.out (Hr.out.below K8.out) R_j.out T_j.out
    try simp only [List.length_map] at hC
    refine hC.mono ?_
    clear hC
    rintro e w9 ⟨rfl, hb⟩
    have K9 := Lib.hid (after K8.out hb)
    have R_a := Lib.hid (R_a.out.below hb)
    have R_u := Lib.hid (R_u.out.below hb)
    have R_i := Lib.hid (R_i.out.below hb)
    have R_j := Lib.hid (R_j.out.below hb)
    clear hb
    rw [E3.out]
    go_wp2_with fail
    have hC := iunion_call us A c D_x d_x xs D_a d_a [(⟨1, false, 0⟩ : Tm)] w9 hl (by omega) (by simp) HW.out (Hr.out.below K9.out) (Hx.out.below K9.out) R_a.out T_x.out tall_ok Q_v.out
    try simp only [List.length_map] at hC
    refine hC.mono ?_
    clear hC
    rintro e w10 ⟨D_v, d_v, rfl, hd, hb⟩
    have K10 := Lib.hid (after K9.out hb)
    have R_a := Lib.hid (R_a.out.below hb)
    have R_u := Lib.hid (R_u.out.below hb)
    have R_i := Lib.hid (R_i.out.below hb)
    have R_j := Lib.hid (R_j.out.below hb)
    clear hb
    have R_v := Lib.hid hd
    clear hd
    try rw [List.length_map]
    go_wp2_with fail
    have hC := iall_call us A c D_v d_v ((unionL us (terms xs) (terms [(⟨1, false, 0⟩ : Tm)])).map ofT) w10 hl L_v.out HW.out (Hr.out.below K10.out) R_v.out T_v.out
    try simp only [List.length_map] at hC
    refine hC.mono ?_
    clear hC
    rintro e w11 ⟨rfl, hb⟩
    have K11 := Lib.hid (after K10.out hb)
    have R_a := Lib.hid (R_a.out.below hb)
    have R_u := Lib.hid (R_u.out.below hb)
    have R_i := Lib.hid (R_i.out.below hb)
    have R_j := Lib.hid (R_j.out.below hb)
    have R_v := Lib.hid (R_v.out.below hb)
    clear hb
    rw [E4.out]
    go_wp2_with fail
    go_ret
    exact ⟨rfl, K11.out⟩

theorem fnNeutral_contract (H : Type) (enc : TypeId × Value → H) (W : World) (base : Nat) (args : Array Value) (ds gs : List (DataW H)) (before : List MemPlace)
    (hval : ∀ (j : Nat) t v, Try.f13.params[j]? = some t → args[j]? = some v → Value.okWide Try.prog W .any base t v)
    (hW : DataW.Whole enc Try.prog Try.f13.params.toList Rows.fnNeutralSpec.vars false W args.toList ds gs before) :
    Calls Try.prog 13 args W fun e W' => ∃ v, e = .returned v ∧ Rows.fnNeutralSpec.post enc Try.prog Try.f13 false true false false W args v W' := by
  have hW' := hW
  obtain ⟨p, q, hA0, hV, rfl, hfz, hnd⟩ := hW
  have hA : DataW.TrodAll enc Try.prog W 0 (fun _ => true) true Try.f13.params.toList args.toList ds p := hA0
  rw [Try.params13] at hA hval
  obtain ⟨v0, vs0, d0, ds0, p0, q0, hargs, rfl, rfl, h0, r0⟩ := trodAll_cons hA
  obtain ⟨v1, vs1, d1, ds1, p1, q1, rfl, rfl, rfl, h1, r1⟩ := trodAll_cons r0
  obtain ⟨rfl, rfl, rfl⟩ := trodAll_nil r1
  obtain rfl : args = #[v0, v1] := by cases args; simp_all
  obtain ⟨rfl, rfl⟩ := trodVars_none hV
  have k0 := h0
  have lt0 : ∀ x ∈ p0, x.block < W.heap.size := by obtain ⟨m, hm⟩ := k0; exact DataW.trod_lt m _ _ _ hm
  obtain ⟨A0, l0, c0, rfl, rd0, bd0⟩ := open_us (hval 0 22 v0 rfl rfl) h0
  have k1 := h1
  have lt1 : ∀ x ∈ p1, x.block < W.heap.size := by obtain ⟨m, hm⟩ := k1; exact DataW.trod_lt m _ _ _ hm
  obtain ⟨A1, l1, c1, rfl, rd1, bd1⟩ := open_ts (hval 1 23 v1 rfl rfl) h1
  clear hA0
  refine (walk13 l0 A0 c0 l1 A1 c1 W rd0 rd1).mono fun e W' ⟨he, bel⟩ => ?_
  subst he
  exact ⟨_, rfl, _, _, _, [], _, [], hW', trodAll_mk1 (shut_bool Try.underlying4 _), (trodAll_cons_mk (Below.trod Try.laidOut (by kernel_rfl) (of_decide_eq_true (by kernel_rfl)) k0 bel lt0) (trodAll_cons_mk (Below.trod Try.laidOut (by kernel_rfl) (of_decide_eq_true (by kernel_rfl)) k1 bel lt1) trodAll_mk0)), rfl, bel.frame _, fun h => by cases h⟩

set_option maxRecDepth 100000 in
theorem fnNeutral_lifted (os : Os) (started : os.Started) (H : Type) (enc : TypeId × Value → H) :
    ReturnsInHanded {} Try.checked os 13 .any (Rows.fnNeutralSpec.pre6 enc Try.prog Try.f13 Rows.fnNeutralRow.domain false) (Rows.fnNeutralSpec.post enc Try.prog Try.f13 false true false false) := by
  refine returnsInHanded_of_change (C := Try.checked) Try.own started (by kernel_rfl) Try.func13
    (ChangeSpec.witness6 (enc := enc) (C := Try.checked) false ⟨#[], #[.slice none 0 0, .slice none 0 0], []⟩ 8 (by kernel_rfl) (by kernel_rfl) (by kernel_rfl) (by kernel_rfl)) ?_
  intro W base args ds gs before hval hW _ _
  exact fnNeutral_contract H enc W base args ds gs before hval hW

theorem fnNeutral_closed : joinedFacts Try.prog 13 Try.f13 Rows.fnNeutralSpec Rows.fnNeutralRow = true := closed_of (by kernel_rfl)

theorem fnNeutral_holds : Rows.FnNeutralSaid :=
  OpenClaim.holds_of_wide 13 Try.f13 rfl rfl rfl rfl rfl rfl rfl ⟨rfl, rfl, rfl, rfl, rfl⟩ rfl rfl rfl rfl rfl (by as_aux_lemma => kernel_rfl) Try.func13 fnNeutral_closed
    (of_decide_eq_true (by as_aux_lemma => kernel_rfl)) (by as_aux_lemma => (unfold Func.isWrapper; first | (rw [if_pos (by decide +kernel)]; kernel_rfl) | (rw [if_neg (by decide +kernel)]; exact ⟨rfl, rfl⟩)))
    (fun os started H enc _ => fnNeutral_lifted os started H enc)
end Go.Proofs.Ytehadfnaknpagaa
