/-
  PROVED HERE: FnIncludes: a type is in a list exactly if it is in one of its terms. Conditions: none.
-/
import Derived.Test.YtehadfnaknpagaaXc
namespace Go.Proofs.Ytehadfnaknpagaa
open Go.ChangeShapes Go.WideShapes Go.ChangeAt Go.RowKit Pl

set_option maxHeartbeats 4000000 in
theorem walk7 (us : List Int) (A : Option Addr) (c : Nat) (xs : List Tm) (D_x : Option Addr) (d_x : Nat) (t : Int) (w : World)
    (hr : Rd w A (ints us)) (hd_x : Rd w D_x (tcs xs)) (_lo : -9223372036854775808 ≤ t) (_hi : t ≤ 9223372036854775807) :
    Calls Try.prog 7 #[.slice A us.length c, .slice D_x xs.length d_x, .int .i64 t] w fun e w' => e = .returned (.bool true) ∧ Below w.heap.size w w' := by
  by_cases q0 : 2147483647 < us.length
  · go_enter Try.func7, Try.ntmps7
    go_wp2_with fail
    go_ret
    exact ⟨rfl, Below.refl _ _⟩
  by_cases q1 : 2147483647 < xs.length
  · go_enter Try.func7, Try.ntmps7
    go_wp2_with fail
    go_ret
    exact ⟨rfl, Below.refl _ _⟩
  have hl : us.length ≤ 2147483647 := by omega
  have l_x : xs.length ≤ 2147483647 := by omega
  have Hr := Lib.hid hr
  have Hx := Lib.hid hd_x
  clear hr hd_x
  cases hv : VX us [xs, [⟨2, false, t⟩]] with
  | false =>
    have G := Lib.hid hv
    clear hv
    have K0 := Lib.hid (Below.refl w.heap.size w)
    go_enter Try.func7, Try.ntmps7
    go_wp2_with fail
    refine (list_call ⟨2, false, t⟩ w).mono ?_
    rintro e w1 ⟨D_t, d_t, rfl, hd, hb⟩
    have K1 := Lib.hid (after K0.out hb)
    clear hb
    have R_t := Lib.hid hd
    clear hd
    go_wp2_with fail
    have hs : ∀ s ∈ ([⟨D_x, d_x, xs⟩, ⟨D_t, d_t, [(⟨2, false, t⟩ : Tm)]⟩] : List Sl), s.ok (w1.alloc (.cells #[.slice D_x (List.length xs) d_x, .slice D_t (List.length [(⟨2, false, t⟩ : Tm)]) d_t] 23)) := by
      intro s hs
      simp only [List.mem_cons, List.not_mem_nil, or_false] at hs
      rcases hs with rfl | rfl
      · exact ⟨(Hx.out.below K1.out).below (al _ _), by dsimp only; omega⟩
      · exact ⟨R_t.out.below (al _ _), by simp⟩
    have CV := Lib.hid (valid_any us A c (some ⟨w1.heap.size, 0, none⟩) 2 [⟨D_x, d_x, xs⟩, ⟨D_t, d_t, [(⟨2, false, t⟩ : Tm)]⟩] (w1.alloc (.cells #[.slice D_x (List.length xs) d_x, .slice D_t (List.length [(⟨2, false, t⟩ : Tm)]) d_t] 23)) hl (by simp) ((Hr.out.below K1.out).below (al _ _)) (rd_blk (Blk.new _ _ _)) hs)
    clear hs
    refine (CV.out).mono ?_
    rintro e w2 ⟨rfl, hb⟩
    have K2 := Lib.hid (after (after K1.out (al _ _)) hb)
    have R_t := Lib.hid ((R_t.out.below (al _ _)).below hb)
    clear hb
    rw [vls_vx G.out]
    go_wp2_with fail
    go_ret
    exact ⟨rfl, K2.out⟩
  | true =>
    obtain ⟨hw, hs⟩ := vx_iff hv
    have tb_x := hs xs (by simp)
    have ok_x := terms_ok tb_x
    obtain ⟨n, rfl, hn⟩ := one_t (hs [⟨2, false, t⟩] (by simp))
    have HT := Lib.hid hn
    have G := Lib.hid hv
    have T_x := Lib.hid tb_x
    have HW := Lib.hid hw
    have h_E1 : memL us (terms xs) n = inclL us (terms xs) n := (inclL_mem hn).symm
    have E1 := Lib.hid h_E1
    clear h_E1
    have h_E2 : n < top us := by unfold top; omega
    have E2 := Lib.hid h_E2
    clear h_E2
    clear hv hs hw tb_x ok_x hn
    have K0 := Lib.hid (Below.refl w.heap.size w)
    go_enter Try.func7, Try.ntmps7
    go_wp2_with fail
    refine (list_call ⟨2, false, (n : Int)⟩ w).mono ?_
    rintro e w1 ⟨D_t, d_t, rfl, hd, hb⟩
    have K1 := Lib.hid (after K0.out hb)
    clear hb
    have R_t := Lib.hid hd
    clear hd
    go_wp2_with fail
    have hs : ∀ s ∈ ([⟨D_x, d_x, xs⟩, ⟨D_t, d_t, [(⟨2, false, (n : Int)⟩ : Tm)]⟩] : List Sl), s.ok (w1.alloc (.cells #[.slice D_x (List.length xs) d_x, .slice D_t (List.length [(⟨2, false, (n : Int)⟩ : Tm)]) d_t] 23)) := by
      intro s hs
      simp only [List.mem_cons, List.not_mem_nil, or_false] at hs
      rcases hs with rfl | rfl
      · exact ⟨(Hx.out.below K1.out).below (al _ _), by dsimp only; omega⟩
      · exact ⟨R_t.out.below (al _ _), by simp⟩
    have CV := Lib.hid (valid_any us A c (some ⟨w1.heap.size, 0, none⟩) 2 [⟨D_x, d_x, xs⟩, ⟨D_t, d_t, [(⟨2, false, (n : Int)⟩ : Tm)]⟩] (w1.alloc (.cells #[.slice D_x (List.length xs) d_x, .slice D_t (List.length [(⟨2, false, (n : Int)⟩ : Tm)]) d_t] 23)) hl (by simp) ((Hr.out.below K1.out).below (al _ _)) (rd_blk (Blk.new _ _ _)) hs)
    clear hs
    refine (CV.out).mono ?_
    rintro e w2 ⟨rfl, hb⟩
    have K2 := Lib.hid (after (after K1.out (al _ _)) hb)
    have R_t := Lib.hid ((R_t.out.below (al _ _)).below hb)
    clear hb
    rw [vls_vx G.out]
    go_wp2_with fail
    refine (iincludes_call us A c n D_x d_x xs w2 hl (by omega) HW.out (Hr.out.below K2.out) (Hx.out.below K2.out) T_x.out HT.out).mono ?_
    rintro e w3 ⟨rfl, hb⟩
    have K3 := Lib.hid (after K2.out hb)
    have R_t := Lib.hid (R_t.out.below hb)
    clear hb
    go_wp2_with fail
    refine (inlist_any us A c n D_x d_x xs w3 hl (by omega) HW.out (Hr.out.below K3.out) E2.out (Hx.out.below K3.out) T_x.out).mono ?_
    rintro e w4 ⟨rfl, hb⟩
    have K4 := Lib.hid (after K3.out hb)
    have R_t := Lib.hid (R_t.out.below hb)
    clear hb
    rw [E1.out]
    go_wp2_with fail
    refine (works_call w4).mono ?_
    rintro e w5 ⟨rfl, hb⟩
    have K5 := Lib.hid (after K4.out hb)
    have R_t := Lib.hid (R_t.out.below hb)
    clear hb
    go_wp2_with fail
    go_ret
    exact ⟨rfl, K5.out⟩

theorem fnIncludes_contract (H : Type) (enc : TypeId × Value → H) (W : World) (base : Nat) (args : Array Value) (ds gs : List (DataW H)) (before : List MemPlace)
    (hval : ∀ (j : Nat) t v, Try.f7.params[j]? = some t → args[j]? = some v → Value.okWide Try.prog W .any base t v)
    (hW : DataW.Whole enc Try.prog Try.f7.params.toList Rows.fnIncludesSpec.vars false W args.toList ds gs before) :
    Calls Try.prog 7 args W fun e W' => ∃ v, e = .returned v ∧ Rows.fnIncludesSpec.post enc Try.prog Try.f7 false true false false W args v W' := by
  have hW' := hW
  obtain ⟨p, q, hA0, hV, rfl, hfz, hnd⟩ := hW
  have hA : DataW.TrodAll enc Try.prog W 0 (fun _ => true) true Try.f7.params.toList args.toList ds p := hA0
  rw [Try.params7] at hA hval
  obtain ⟨v0, vs0, d0, ds0, p0, q0, hargs, rfl, rfl, h0, r0⟩ := trodAll_cons hA
  obtain ⟨v1, vs1, d1, ds1, p1, q1, rfl, rfl, rfl, h1, r1⟩ := trodAll_cons r0
  obtain ⟨v2, vs2, d2, ds2, p2, q2, rfl, rfl, rfl, h2, r2⟩ := trodAll_cons r1
  obtain ⟨rfl, rfl, rfl⟩ := trodAll_nil r2
  obtain rfl : args = #[v0, v1, v2] := by cases args; simp_all
  obtain ⟨rfl, rfl⟩ := trodVars_none hV
  have k0 := h0
  have lt0 : ∀ x ∈ p0, x.block < W.heap.size := by obtain ⟨m, hm⟩ := k0; exact DataW.trod_lt m _ _ _ hm
  obtain ⟨A0, l0, c0, rfl, rd0, bd0⟩ := open_us (hval 0 22 v0 rfl rfl) h0
  have k1 := h1
  have lt1 : ∀ x ∈ p1, x.block < W.heap.size := by obtain ⟨m, hm⟩ := k1; exact DataW.trod_lt m _ _ _ hm
  obtain ⟨A1, l1, c1, rfl, rd1, bd1⟩ := open_ts (hval 1 23 v1 rfl rfl) h1
  have k2 := h2
  have lt2 : ∀ x ∈ p2, x.block < W.heap.size := by obtain ⟨m, hm⟩ := k2; exact DataW.trod_lt m _ _ _ hm
  obtain ⟨x2, rfl, lo2, hi2⟩ := open_i (hval 2 3 v2 rfl rfl) h2
  clear hA0
  refine (walk7 l0 A0 c0 l1 A1 c1 x2 W rd0 rd1 lo2 hi2).mono fun e W' ⟨he, bel⟩ => ?_
  subst he
  exact ⟨_, rfl, _, _, _, [], _, [], hW', trodAll_mk1 (shut_bool Try.underlying4 _), (trodAll_cons_mk (Below.trod Try.laidOut (by kernel_rfl) (of_decide_eq_true (by kernel_rfl)) k0 bel lt0) (trodAll_cons_mk (Below.trod Try.laidOut (by kernel_rfl) (of_decide_eq_true (by kernel_rfl)) k1 bel lt1) (trodAll_cons_mk (Below.trod Try.laidOut (by kernel_rfl) (of_decide_eq_true (by kernel_rfl)) k2 bel lt2) trodAll_mk0))), rfl, bel.frame _, fun h => by cases h⟩

set_option maxRecDepth 100000 in
theorem fnIncludes_lifted (os : Os) (started : os.Started) (H : Type) (enc : TypeId × Value → H) :
    ReturnsInHanded {} Try.checked os 7 .any (Rows.fnIncludesSpec.pre6 enc Try.prog Try.f7 Rows.fnIncludesRow.domain false) (Rows.fnIncludesSpec.post enc Try.prog Try.f7 false true false false) := by
  refine returnsInHanded_of_change (C := Try.checked) Try.own started (by kernel_rfl) Try.func7
    (ChangeSpec.witness6 (enc := enc) (C := Try.checked) false ⟨#[], #[.slice none 0 0, .slice none 0 0, .int .i64 0], []⟩ 8 (by kernel_rfl) (by kernel_rfl) (by kernel_rfl) (by kernel_rfl)) ?_
  intro W base args ds gs before hval hW _ _
  exact fnIncludes_contract H enc W base args ds gs before hval hW

theorem fnIncludes_closed : joinedFacts Try.prog 7 Try.f7 Rows.fnIncludesSpec Rows.fnIncludesRow = true := closed_of (by kernel_rfl)

theorem fnIncludes_holds : Rows.FnIncludesSaid :=
  OpenClaim.holds_of_wide 7 Try.f7 rfl rfl rfl rfl rfl rfl rfl ⟨rfl, rfl, rfl, rfl, rfl⟩ rfl rfl rfl rfl rfl (by as_aux_lemma => kernel_rfl) Try.func7 fnIncludes_closed
    (of_decide_eq_true (by as_aux_lemma => kernel_rfl)) (by as_aux_lemma => (unfold Func.isWrapper; first | (rw [if_pos (by decide +kernel)]; kernel_rfl) | (rw [if_neg (by decide +kernel)]; exact ⟨rfl, rfl⟩)))
    (fun os started H enc _ => fnIncludes_lifted os started H enc)
end Go.Proofs.Ytehadfnaknpagaa
