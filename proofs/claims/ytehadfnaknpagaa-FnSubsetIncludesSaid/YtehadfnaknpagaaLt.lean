/-
  PROVED HERE: FnSubsetIncludes: what a list includes, a list of which it is a subset includes. Conditions: none.
-/
import Derived.Test.YtehadfnaknpagaaXc
namespace Go.Proofs.Ytehadfnaknpagaa
open Go.ChangeShapes Go.WideShapes Go.ChangeAt Go.RowKit Pl

set_option maxHeartbeats 4000000 in
theorem walk22 (us : List Int) (A : Option Addr) (c : Nat) (xs : List Tm) (D_x : Option Addr) (d_x : Nat) (ys : List Tm) (D_y : Option Addr) (d_y : Nat) (t : Int) (w : World)
    (hr : Rd w A (ints us)) (hd_x : Rd w D_x (tcs xs)) (hd_y : Rd w D_y (tcs ys)) (_lo : -9223372036854775808 ≤ t) (_hi : t ≤ 9223372036854775807) :
    Calls Try.prog 22 #[.slice A us.length c, .slice D_x xs.length d_x, .slice D_y ys.length d_y, .int .i64 t] w fun e w' => e = .returned (.bool true) ∧ Below w.heap.size w w' := by
  by_cases q0 : 2147483647 < us.length
  · go_enter Try.func22, Try.ntmps22
    go_wp2_with fail
    go_ret
    exact ⟨rfl, Below.refl _ _⟩
  by_cases q1 : 2147483647 < xs.length
  · go_enter Try.func22, Try.ntmps22
    go_wp2_with fail
    go_ret
    exact ⟨rfl, Below.refl _ _⟩
  by_cases q2 : 2147483647 < ys.length
  · go_enter Try.func22, Try.ntmps22
    go_wp2_with fail
    go_ret
    exact ⟨rfl, Below.refl _ _⟩
  have hl : us.length ≤ 2147483647 := by omega
  have l_x : xs.length ≤ 2147483647 := by omega
  have l_y : ys.length ≤ 2147483647 := by omega
  have Hr := Lib.hid hr
  have Hx := Lib.hid hd_x
  have Hy := Lib.hid hd_y
  clear hr hd_x hd_y
  cases hv : VX us [xs, ys, [⟨2, false, t⟩]] with
  | false =>
    have G := Lib.hid hv
    clear hv
    have K0 := Lib.hid (Below.refl w.heap.size w)
    go_enter Try.func22, Try.ntmps22
    go_wp2_with fail
    refine (list_call ⟨2, false, t⟩ w).mono ?_
    rintro e w1 ⟨D_t, d_t, rfl, hd, hb⟩
    have K1 := Lib.hid (after K0.out hb)
    clear hb
    have R_t := Lib.hid hd
    clear hd
    go_wp2_with fail
    have hs : ∀ s ∈ ([⟨D_x, d_x, xs⟩, ⟨D_y, d_y, ys⟩, ⟨D_t, d_t, [(⟨2, false, t⟩ : Tm)]⟩] : List Sl), s.ok (w1.alloc (.cells #[.slice D_x (List.length xs) d_x, .slice D_y (List.length ys) d_y, .slice D_t (List.length [(⟨2, false, t⟩ : Tm)]) d_t] 23)) := by
      intro s hs
      simp only [List.mem_cons, List.not_mem_nil, or_false] at hs
      rcases hs with rfl | rfl | rfl
      · exact ⟨(Hx.out.below K1.out).below (al _ _), by dsimp only; omega⟩
      · exact ⟨(Hy.out.below K1.out).below (al _ _), by dsimp only; omega⟩
      · exact ⟨R_t.out.below (al _ _), by simp⟩
    have CV := Lib.hid (valid_any us A c (some ⟨w1.heap.size, 0, none⟩) 3 [⟨D_x, d_x, xs⟩, ⟨D_y, d_y, ys⟩, ⟨D_t, d_t, [(⟨2, false, t⟩ : Tm)]⟩] (w1.alloc (.cells #[.slice D_x (List.length xs) d_x, .slice D_y (List.length ys) d_y, .slice D_t (List.length [(⟨2, false, t⟩ : Tm)]) d_t] 23)) hl (by simp) ((Hr.out.below K1.out).below (al _ _)) (rd_blk (Blk.new _ _ _)) hs)
    clear hs
    refine (CV.out).mono ?_
    rintro e w2 ⟨rfl, hb⟩
    have K2 := Lib.hid (after (after K1.out (al _ _)) hb)
    have R_t := Lib.hid ((R_t.out.below (al _ _)).below hb)
    clear hb
    rw [vls_vx G.out]
    go_wp2_with fail
    go_ret
    exact ⟨rfl, K2.out⟩
  | true =>
    obtain ⟨hw, hs⟩ := vx_iff hv
    have tb_x := hs xs (by simp)
    have ok_x := terms_ok tb_x
    have tb_y := hs ys (by simp)
    have ok_y := terms_ok tb_y
    obtain ⟨n, rfl, hn⟩ := one_t (hs [⟨2, false, t⟩] (by simp))
    have HT := Lib.hid hn
    have G := Lib.hid hv
    have T_x := Lib.hid tb_x
    have T_y := Lib.hid tb_y
    have HW := Lib.hid hw
    cases c_s : subL us (terms xs) (terms ys) with
    | false =>
      have C_s := Lib.hid c_s
      clear hv hs hw tb_x ok_x tb_y ok_y hn c_s
      have K0 := Lib.hid (Below.refl w.heap.size w)
      go_enter Try.func22, Try.ntmps22
      go_wp2_with fail
      refine (list_call ⟨2, false, (n : Int)⟩ w).mono ?_
      rintro e w1 ⟨D_t, d_t, rfl, hd, hb⟩
      have K1 := Lib.hid (after K0.out hb)
      clear hb
      have R_t := Lib.hid hd
      clear hd
      go_wp2_with fail
      have hs : ∀ s ∈ ([⟨D_x, d_x, xs⟩, ⟨D_y, d_y, ys⟩, ⟨D_t, d_t, [(⟨2, false, (n : Int)⟩ : Tm)]⟩] : List Sl), s.ok (w1.alloc (.cells #[.slice D_x (List.length xs) d_x, .slice D_y (List.length ys) d_y, .slice D_t (List.length [(⟨2, false, (n : Int)⟩ : Tm)]) d_t] 23)) := by
        intro s hs
        simp only [List.mem_cons, List.not_mem_nil, or_false] at hs
        rcases hs with rfl | rfl | rfl
        · exact ⟨(Hx.out.below K1.out).below (al _ _), by dsimp only; omega⟩
        · exact ⟨(Hy.out.below K1.out).below (al _ _), by dsimp only; omega⟩
        · exact ⟨R_t.out.below (al _ _), by simp⟩
      have CV := Lib.hid (valid_any us A c (some ⟨w1.heap.size, 0, none⟩) 3 [⟨D_x, d_x, xs⟩, ⟨D_y, d_y, ys⟩, ⟨D_t, d_t, [(⟨2, false, (n : Int)⟩ : Tm)]⟩] (w1.alloc (.cells #[.slice D_x (List.length xs) d_x, .slice D_y (List.length ys) d_y, .slice D_t (List.length [(⟨2, false, (n : Int)⟩ : Tm)]) d_t] 23)) hl (by simp) ((Hr.out.below K1.out).below (al _ _)) (rd_blk (Blk.new _ _ _)) hs)
      clear hs
      refine (CV.out).mono ?_
      rintro e w2 ⟨rfl, hb⟩
      have K2 := Lib.hid (after (after K1.out (al _ _)) hb)
      have R_t := Lib.hid ((R_t.out.below (al _ _)).below hb)
      clear hb
      rw [vls_vx G.out]
      go_wp2_with fail
      refine (works_call w2).mono ?_
      rintro e w3 ⟨rfl, hb⟩
      have K3 := Lib.hid (after K2.out hb)
      have R_t := Lib.hid (R_t.out.below hb)
      clear hb
      go_wp2_with fail
      refine (isub_call us A c D_x d_x xs D_y d_y ys w3 hl (by omega) (by omega) HW.out (Hr.out.below K3.out) (Hx.out.below K3.out) (Hy.out.below K3.out) T_x.out T_y.out).mono ?_
      rintro e w4 ⟨rfl, hb⟩
      have K4 := Lib.hid (after K3.out hb)
      have R_t := Lib.hid (R_t.out.below hb)
      clear hb
      rw [C_s.out]
      go_wp2_with fail
      go_ret
      exact ⟨rfl, K4.out⟩
    | true =>
      cases c_i : inclL us (terms xs) n with
      | false =>
        have C_s := Lib.hid c_s
        have C_i := Lib.hid c_i
        clear hv hs hw tb_x ok_x tb_y ok_y hn c_s c_i
        have K0 := Lib.hid (Below.refl w.heap.size w)
        go_enter Try.func22, Try.ntmps22
        go_wp2_with fail
        refine (list_call ⟨2, false, (n : Int)⟩ w).mono ?_
        rintro e w1 ⟨D_t, d_t, rfl, hd, hb⟩
        have K1 := Lib.hid (after K0.out hb)
        clear hb
        have R_t := Lib.hid hd
        clear hd
        go_wp2_with fail
        have hs : ∀ s ∈ ([⟨D_x, d_x, xs⟩, ⟨D_y, d_y, ys⟩, ⟨D_t, d_t, [(⟨2, false, (n : Int)⟩ : Tm)]⟩] : List Sl), s.ok (w1.alloc (.cells #[.slice D_x (List.length xs) d_x, .slice D_y (List.length ys) d_y, .slice D_t (List.length [(⟨2, false, (n : Int)⟩ : Tm)]) d_t] 23)) := by
          intro s hs
          simp only [List.mem_cons, List.not_mem_nil, or_false] at hs
          rcases hs with rfl | rfl | rfl
          · exact ⟨(Hx.out.below K1.out).below (al _ _), by dsimp only; omega⟩
          · exact ⟨(Hy.out.below K1.out).below (al _ _), by dsimp only; omega⟩
          · exact ⟨R_t.out.below (al _ _), by simp⟩
        have CV := Lib.hid (valid_any us A c (some ⟨w1.heap.size, 0, none⟩) 3 [⟨D_x, d_x, xs⟩, ⟨D_y, d_y, ys⟩, ⟨D_t, d_t, [(⟨2, false, (n : Int)⟩ : Tm)]⟩] (w1.alloc (.cells #[.slice D_x (List.length xs) d_x, .slice D_y (List.length ys) d_y, .slice D_t (List.length [(⟨2, false, (n : Int)⟩ : Tm)]) d_t] 23)) hl (by simp) ((Hr.out.below K1.out).below (al _ _)) (rd_blk (Blk.new _ _ _)) hs)
        clear hs
        refine (CV.out).mono ?_
        rintro e w2 ⟨rfl, hb⟩
        have K2 := Lib.hid (after (after K1.out (al _ _)) hb)
        have R_t := Lib.hid ((R_t.out.below (al _ _)).below hb)
        clear hb
        rw [vls_vx G.out]
        go_wp2_with fail
        refine (works_call w2).mono ?_
        rintro e w3 ⟨rfl, hb⟩
        have K3 := Lib.hid (after K2.out hb)
        have R_t := Lib.hid (R_t.out.below hb)
        clear hb
        go_wp2_with fail
        refine (isub_call us A c D_x d_x xs D_y d_y ys w3 hl (by omega) (by omega) HW.out (Hr.out.below K3.out) (Hx.out.below K3.out) (Hy.out.below K3.out) T_x.out T_y.out).mono ?_
        rintro e w4 ⟨rfl, hb⟩
        have K4 := Lib.hid (after K3.out hb)
        have R_t := Lib.hid (R_t.out.below hb)
        clear hb
        rw [C_s.out]
        go_wp2_with fail
        refine (iincludes_call us A c n D_x d_x xs w4 hl (by omega) HW.out (Hr.out.below K4.out) (Hx.out.below K4.out) T_x.out HT.out).mono ?_
        rintro e w5 ⟨rfl, hb⟩
        have K5 := Lib.hid (after K4.out hb)
        have R_t := Lib.hid (R_t.out.below hb)
        clear hb
        rw [C_i.out]
        go_wp2_with fail
        go_ret
        exact ⟨rfl, K5.out⟩
      | true =>
        have h_E1 : inclL us (terms ys) n = true := sub_includes hw ok_x ok_y hn c_s c_i
        have E1 := Lib.hid h_E1
        clear h_E1
        have C_s := Lib.hid c_s
        have C_i := Lib.hid c_i
        clear hv hs hw tb_x ok_x tb_y ok_y hn c_s c_i
        have K0 := Lib.hid (Below.refl w.heap.size w)
        go_enter Try.func22, Try.ntmps22
        go_wp2_with fail
        refine (list_call ⟨2, false, (n : Int)⟩ w).mono ?_
        rintro e w1 ⟨D_t, d_t, rfl, hd, hb⟩
        have K1 := Lib.hid (after K0.out hb)
        clear hb
        have R_t := Lib.hid hd
        clear hd
        go_wp2_with fail
        have hs : ∀ s ∈ ([⟨D_x, d_x, xs⟩, ⟨D_y, d_y, ys⟩, ⟨D_t, d_t, [(⟨2, false, (n : Int)⟩ : Tm)]⟩] : List Sl), s.ok (w1.alloc (.cells #[.slice D_x (List.length xs) d_x, .slice D_y (List.length ys) d_y, .slice D_t (List.length [(⟨2, false, (n : Int)⟩ : Tm)]) d_t] 23)) := by
          intro s hs
          simp only [List.mem_cons, List.not_mem_nil, or_false] at hs
          rcases hs with rfl | rfl | rfl
          · exact ⟨(Hx.out.below K1.out).below (al _ _), by dsimp only; omega⟩
          · exact ⟨(Hy.out.below K1.out).below (al _ _), by dsimp only; omega⟩
          · exact ⟨R_t.out.below (al _ _), by simp⟩
        have CV := Lib.hid (valid_any us A c (some ⟨w1.heap.size, 0, none⟩) 3 [⟨D_x, d_x, xs⟩, ⟨D_y, d_y, ys⟩, ⟨D_t, d_t, [(⟨2, false, (n : Int)⟩ : Tm)]⟩] (w1.alloc (.cells #[.slice D_x (List.length xs) d_x, .slice D_y (List.length ys) d_y, .slice D_t (List.length [(⟨2, false, (n : Int)⟩ : Tm)]) d_t] 23)) hl (by simp) ((Hr.out.below K1.out).below (al _ _)) (rd_blk (Blk.new _ _ _)) hs)
        clear hs
        refine (CV.out).mono ?_
        rintro e w2 ⟨rfl, hb⟩
        have K2 := Lib.hid (after (after K1.out (al _ _)) hb)
        have R_t := Lib.hid ((R_t.out.below (al _ _)).below hb)
        clear hb
        rw [vls_vx G.out]
        go_wp2_with fail
        refine (works_call w2).mono ?_
        rintro e w3 ⟨rfl, hb⟩
        have K3 := Lib.hid (after K2.out hb)
        have R_t := Lib.hid (R_t.out.below hb)
        clear hb
        go_wp2_with fail
        refine (isub_call us A c D_x d_x xs D_y d_y ys w3 hl (by omega) (by omega) HW.out (Hr.out.below K3.out) (Hx.out.below K3.out) (Hy.out.below K3.out) T_x.out T_y.out).mono ?_
        rintro e w4 ⟨rfl, hb⟩
        have K4 := Lib.hid (after K3.out hb)
        have R_t := Lib.hid (R_t.out.below hb)
        clear hb
        rw [C_s.out]
        go_wp2_with fail
        refine (iincludes_call us A c n D_x d_x xs w4 hl (by omega) HW.out (Hr.out.below K4.out) (Hx.out.below K4.out) T_x.out HT.out).mono ?_
        rintro e w5 ⟨rfl, hb⟩
        have K5 := Lib.hid (after K4.out hb)
        have R_t := Lib.hid (R_t.out.below hb)
        clear hb
        rw [C_i.out]
        go_wp2_with fail
        refine (iincludes_call us A c n D_y d_y ys w5 hl (by omega) HW.out (Hr.out.below K5.out) (Hy.out.below K5.out) T_y.out HT.out).mono ?_
        rintro e w6 ⟨rfl, hb⟩
        have K6 := Lib.hid (after K5.out hb)
        have R_t := Lib.hid (R_t.out.below hb)
        clear hb
        rw [E1.out]
        go_wp2_with fail
        go_ret
        exact ⟨rfl, K6.out⟩

theorem fnSubsetIncludes_contract (H : Type) (enc : TypeId × Value → H) (W : World) (base : Nat) (args : Array Value) (ds gs : List (DataW H)) (before : List MemPlace)
    (hval : ∀ (j : Nat) t v, Try.f22.params[j]? = some t → args[j]? = some v → Value.okWide Try.prog W .any base t v)
    (hW : DataW.Whole enc Try.prog Try.f22.params.toList Rows.fnSubsetIncludesSpec.vars false W args.toList ds gs before) :
    Calls Try.prog 22 args W fun e W' => ∃ v, e = .returned v ∧ Rows.fnSubsetIncludesSpec.post enc Try.prog Try.f22 false true false false W args v W' := by
  have hW' := hW
  obtain ⟨p, q, hA0, hV, rfl, hfz, hnd⟩ := hW
  have hA : DataW.TrodAll enc Try.prog W 0 (fun _ => true) true Try.f22.params.toList args.toList ds p := hA0
  rw [Try.params22] at hA hval
  obtain ⟨v0, vs0, d0, ds0, p0, q0, hargs, rfl, rfl, h0, r0⟩ := trodAll_cons hA
  obtain ⟨v1, vs1, d1, ds1, p1, q1, rfl, rfl, rfl, h1, r1⟩ := trodAll_cons r0
  obtain ⟨v2, vs2, d2, ds2, p2, q2, rfl, rfl, rfl, h2, r2⟩ := trodAll_cons r1
  obtain ⟨v3, vs3, d3, ds3, p3, q3, rfl, rfl, rfl, h3, r3⟩ := trodAll_cons r2
  obtain ⟨rfl, rfl, rfl⟩ := trodAll_nil r3
  obtain rfl : args = #[v0, v1, v2, v3] := by cases args; simp_all
  obtain ⟨rfl, rfl⟩ := trodVars_none hV
  have k0 := h0
  have lt0 : ∀ x ∈ p0, x.block < W.heap.size := by obtain ⟨m, hm⟩ := k0; exact DataW.trod_lt m _ _ _ hm
  obtain ⟨A0, l0, c0, rfl, rd0, bd0⟩ := open_us (hval 0 22 v0 rfl rfl) h0
  have k1 := h1
  have lt1 : ∀ x ∈ p1, x.block < W.heap.size := by obtain ⟨m, hm⟩ := k1; exact DataW.trod_lt m _ _ _ hm
  obtain ⟨A1, l1, c1, rfl, rd1, bd1⟩ := open_ts (hval 1 23 v1 rfl rfl) h1
  have k2 := h2
  have lt2 : ∀ x ∈ p2, x.block < W.heap.size := by obtain ⟨m, hm⟩ := k2; exact DataW.trod_lt m _ _ _ hm
  obtain ⟨A2, l2, c2, rfl, rd2, bd2⟩ := open_ts (hval 2 23 v2 rfl rfl) h2
  have k3 := h3
  have lt3 : ∀ x ∈ p3, x.block < W.heap.size := by obtain ⟨m, hm⟩ := k3; exact DataW.trod_lt m _ _ _ hm
  obtain ⟨x3, rfl, lo3, hi3⟩ := open_i (hval 3 3 v3 rfl rfl) h3
  clear hA0
  refine (walk22 l0 A0 c0 l1 A1 c1 l2 A2 c2 x3 W rd0 rd1 rd2 lo3 hi3).mono fun e W' ⟨he, bel⟩ => ?_
  subst he
  exact ⟨_, rfl, _, _, _, [], _, [], hW', trodAll_mk1 (shut_bool Try.underlying4 _), (trodAll_cons_mk (Below.trod Try.laidOut (by kernel_rfl) (of_decide_eq_true (by kernel_rfl)) k0 bel lt0) (trodAll_cons_mk (Below.trod Try.laidOut (by kernel_rfl) (of_decide_eq_true (by kernel_rfl)) k1 bel lt1) (trodAll_cons_mk (Below.trod Try.laidOut (by kernel_rfl) (of_decide_eq_true (by kernel_rfl)) k2 bel lt2) (trodAll_cons_mk (Below.trod Try.laidOut (by kernel_rfl) (of_decide_eq_true (by kernel_rfl)) k3 bel lt3) trodAll_mk0)))), rfl, bel.frame _, fun h => by cases h⟩

set_option maxRecDepth 100000 in
theorem fnSubsetIncludes_lifted (os : Os) (started : os.Started) (H : Type) (enc : TypeId × Value → H) :
    ReturnsInHanded {} Try.checked os 22 .any (Rows.fnSubsetIncludesSpec.pre6 enc Try.prog Try.f22 Rows.fnSubsetIncludesRow.domain false) (Rows.fnSubsetIncludesSpec.post enc Try.prog Try.f22 false true false false) := by
  refine returnsInHanded_of_change (C := Try.checked) Try.own started (by kernel_rfl) Try.func22
    (ChangeSpec.witness6 (enc := enc) (C := Try.checked) false ⟨#[], #[.slice none 0 0, .slice none 0 0, .slice none 0 0, .int .i64 0], []⟩ 8 (by kernel_rfl) (by kernel_rfl) (by kernel_rfl) (by kernel_rfl)) ?_
  intro W base args ds gs before hval hW _ _
  exact fnSubsetIncludes_contract H enc W base args ds gs before hval hW

theorem fnSubsetIncludes_closed : joinedFacts Try.prog 22 Try.f22 Rows.fnSubsetIncludesSpec Rows.fnSubsetIncludesRow = true := closed_of (by kernel_rfl)

theorem fnSubsetIncludes_holds : Rows.FnSubsetIncludesSaid :=
  OpenClaim.holds_of_wide 22 Try.f22 rfl rfl rfl rfl rfl rfl rfl ⟨rfl, rfl, rfl, rfl, rfl⟩ rfl rfl rfl rfl rfl (by as_aux_lemma => kernel_rfl) Try.func22 fnSubsetIncludes_closed
    (of_decide_eq_true (by as_aux_lemma => kernel_rfl)) (by as_aux_lemma => (unfold Func.isWrapper; first | (rw [if_pos (by decide +kernel)]; kernel_rfl) | (rw [if_neg (by decide +kernel)]; exact ⟨rfl, rfl⟩)))
    (fun os started H enc _ => fnSubsetIncludes_lifted os started H enc)
end Go.Proofs.Ytehadfnaknpagaa
