/-
  PROVED HERE: FnOrder: the order of the terms of a list, and terms that occur twice, do not matter. Conditions: none.
-/
import Derived.Test.YtehadfnaknpagaaXi
namespace Go.Proofs.Ytehadfnaknpagaa
open Go.ChangeShapes Go.WideShapes Go.ChangeAt Go.RowKit Pl

/-- the same at a guarded operation that is wanted -/
theorem wpList_appG {P : Program} {w : World} {ops : Array Oper} {rest : List Oper} {o : Oper} {a : Act} {Q : Exit → Act → World → Prop} (hg : Region.wanted o (yielded ops a.tmps) = true) (s x : Operand) (ho : o.op = .call { callee := .builtin .append, args := #[s, x], argTypes := #[23, 23] }) (v u : Value) (hs : a.eval s = v) (hx : a.eval x = u) {v' : Value} {w' : World}
    (hr : (Builtin.append_ #[23, 23] o.type #[v, u]).run P w = .ok v' w') (h : wpList P ops Q rest (a.put o.dst v') w') : wpList P ops Q (o :: rest) a w := by
  unfold wpList
  rw [if_pos hg]
  exact .inl (wp_app s x ho v u hs hx hr h)

set_option linter.unusedSimpArgs false in
set_option maxRecDepth 4000 in
set_option maxHeartbeats 4000000 in
theorem walk11 (us : List Int) (A : Option Addr) (c : Nat) (xs : List Tm) (D_x : Option Addr) (d_x : Nat) (n : Int) (w : World)
    (hr : Rd w A (ints us)) (hd_x : Rd w D_x (tcs xs)) (_lo : -9223372036854775808 ≤ n) (_hi : n ≤ 9223372036854775807) (hcap : xs.length ≤ d_x) (hnone : D_x = none → d_x = 0) :
    Calls Try.prog 11 #[.slice A us.length c, .slice D_x xs.length d_x, .int .i64 n] w fun e w' => e = .returned (.bool true) ∧ Below w.heap.size w w' := by
  by_cases q0 : 2147483647 < us.length
  · go_enter Try.func11, Try.ntmps11
    go_wp2_with fail
    go_ret
    exact ⟨rfl, Below.refl _ _⟩
  by_cases q1 : 2147483647 < xs.length
  · go_enter Try.func11, Try.ntmps11
    go_wp2_with fail
    go_ret
    exact ⟨rfl, Below.refl _ _⟩
  have hl : us.length ≤ 2147483647 := by omega
  have l_x : xs.length ≤ 2147483647 := by omega
  have Hr := Lib.hid hr
  have Hx := Lib.hid hd_x
  clear hr hd_x
  cases hv : VX us [xs] with
  | false =>
    have G := Lib.hid hv
    clear hv
    have K0 := Lib.hid (Below.refl w.heap.size w)
    go_enter Try.func11, Try.ntmps11
    go_wp2_with fail
    have hs : ∀ s ∈ ([⟨D_x, d_x, xs⟩] : List Sl), s.ok (w.alloc (.cells #[.slice D_x (List.length xs) d_x] 23)) := by
      intro s hs
      simp only [List.mem_cons, List.not_mem_nil, or_false] at hs
      rcases hs with rfl
      · exact ⟨Hx.out.below (al _ _), by dsimp only; omega⟩
    have CV := Lib.hid (valid_any us A c (some ⟨w.heap.size, 0, none⟩) 1 [⟨D_x, d_x, xs⟩] (w.alloc (.cells #[.slice D_x (List.length xs) d_x] 23)) hl (by simp) (Hr.out.below (al _ _)) (rd_blk (Blk.new _ _ _)) hs)
    clear hs
    refine (CV.out).mono ?_
    rintro e w1 ⟨rfl, hb⟩
    have K1 := Lib.hid (after (after K0.out (al _ _)) hb)
    clear hb
    rw [vls_vx G.out]
    go_wp2_with fail
    go_ret
    exact ⟨rfl, K1.out⟩
  | true =>
    obtain ⟨hw, hs⟩ := vx_iff hv
    have tb_x := hs xs (by simp)
    have ok_x := terms_ok tb_x
    have G := Lib.hid hv
    have T_x := Lib.hid tb_x
    have HW := Lib.hid hw
    clear hv hs hw tb_x ok_x
    have K0 := Lib.hid (Below.refl w.heap.size w)
    go_enter Try.func11, Try.ntmps11
    go_wp2_with fail
    have hs : ∀ s ∈ ([⟨D_x, d_x, xs⟩] : List Sl), s.ok (w.alloc (.cells #[.slice D_x (List.length xs) d_x] 23)) := by
      intro s hs
      simp only [List.mem_cons, List.not_mem_nil, or_false] at hs
      rcases hs with rfl
      · exact ⟨Hx.out.below (al _ _), by dsimp only; omega⟩
    have CV := Lib.hid (valid_any us A c (some ⟨w.heap.size, 0, none⟩) 1 [⟨D_x, d_x, xs⟩] (w.alloc (.cells #[.slice D_x (List.length xs) d_x] 23)) hl (by simp) (Hr.out.below (al _ _)) (rd_blk (Blk.new _ _ _)) hs)
    clear hs
    refine (CV.out).mono ?_
    rintro e w1 ⟨rfl, hb⟩
    have K1 := Lib.hid (after (after K0.out (al _ _)) hb)
    clear hb
    rw [vls_vx G.out]
    go_wp2_with fail
    obtain ⟨k, hk, hkl⟩ := rot_k n l_x
    have OKX := Lib.hid (terms_ok T_x.out)
    rw [hk]
    clear hk
    cases D_x with
    | none =>
      have hd0 := hnone rfl
      have hx0 : xs = [] := by
        by_cases h : tcs xs = []
        · have := congrArg List.length h
          rw [tcs_length] at this
          exact List.eq_nil_of_length_eq_zero (by simp at this; omega)
        · obtain ⟨b, off, hA, _⟩ := Hx.out h
          cases hA
      subst hx0
      subst hd0
      obtain rfl : k = 0 := by simpa using hkl
      have hx1 := Hx.out.below (K1.out.drew)
      obtain ⟨v1, wA, v2, wB, hr1, hr2, ho, hbB⟩ := rot_runs (w := w1.drew) (xs := []) (k := 0) (ty1 := 23) (ty2 := 23) (s1 := .slice none 0 0) (s2 := .slice none 0 0) hkl l_x (.inl ⟨rfl, rfl⟩) (fun w' hb => .inl ⟨rfl, rfl⟩)
      have RA := Lib.hid hr1
      have RB := Lib.hid hr2
      have HO := Lib.hid ho
      have KB := Lib.hid (after K1.out.drew hbB)
      have hbS := Lib.hid hbB.size
      clear hx1 hr1 hr2 ho hbB
      refine wp_region_noPanic ?_
      refine wp_region_held_drew (S := (fun _ => True)) (by kernel_rfl) ?_ (fun hHeld => ?_)
      · trivial
      refine takeH (i := 0) (v := ?_) 35 rfl rfl (by kernel_rfl) (by kernel_rfl) (by kernel_rfl) (fun _ _ _ h => h) (Or.inl ⟨by rfl, ?_⟩) (by assumption) ?_
      rotate_left
      · (intro w' hSw; (try dsimp only at hSw); go_simp; try with_reducible rfl)
      try simp only [Act.put, List.setIfInBounds_toArray, List.set_cons_zero, List.set_cons_succ]
      refine takeH (i := 1) (v := ?_) 36 rfl rfl (by kernel_rfl) (by kernel_rfl) (by kernel_rfl) (fun _ _ _ h => h) (Or.inl ⟨by rfl, ?_⟩) (by assumption) ?_
      rotate_left
      · (intro w' hSw; (try dsimp only at hSw); go_simp; try with_reducible rfl)
      try simp only [Act.put, List.setIfInBounds_toArray, List.set_cons_zero, List.set_cons_succ]
      refine takeH (i := 2) (v := ?_) 37 rfl rfl (by kernel_rfl) (by kernel_rfl) (by kernel_rfl) (fun _ _ _ h => h) (Or.inl ⟨by rfl, ?_⟩) (by assumption) ?_
      rotate_left
      · (intro w' hSw; (try dsimp only at hSw); go_simp; try with_reducible rfl)
      try simp only [Act.put, List.setIfInBounds_toArray, List.set_cons_zero, List.set_cons_succ]
      refine takeH (i := 4) (v := ?_) 39 rfl rfl (by kernel_rfl) (by kernel_rfl) (by kernel_rfl) (fun _ _ _ h => h) (Or.inl ⟨by rfl, ?_⟩) (by assumption) ?_
      rotate_left
      · (intro w' hSw; (try dsimp only at hSw); go_simp; try with_reducible rfl)
      try simp only [Act.put, List.setIfInBounds_toArray, List.set_cons_zero, List.set_cons_succ]
      refine takeH (i := 5) (v := ?_) 40 rfl rfl (by kernel_rfl) (by kernel_rfl) (by kernel_rfl) (fun _ _ _ h => h) (Or.inl ⟨by rfl, ?_⟩) (by assumption) ?_
      rotate_left
      · (intro w' hSw; (try dsimp only at hSw); go_simp; try with_reducible rfl)
      try simp only [Act.put, List.setIfInBounds_toArray, List.set_cons_zero, List.set_cons_succ]
      refine takeH (i := 6) (v := ?_) 41 rfl rfl (by kernel_rfl) (by kernel_rfl) (by kernel_rfl) (fun _ _ _ h => h) (Or.inl ⟨by rfl, ?_⟩) (by assumption) ?_
      rotate_left
      · (intro w' hSw; (try dsimp only at hSw); go_simp; try with_reducible rfl)
      try simp only [Act.put, List.setIfInBounds_toArray, List.set_cons_zero, List.set_cons_succ]
      refine wpAnyH_ready (rs := [3]) (by kernel_rfl) (by simp) ?_
      refine AllReadyH.cons rfl (fun K hK => ?_) AllReadyH.nil
      rw [if_pos (by rfl)]
      refine wp_app _ _ rfl _ _ rfl rfl RA.out ?_
      refine hK.out _ _ trivial (fun hHeld => ?_)
      clear hK K
      try simp only [Act.put, List.setIfInBounds_toArray, List.set_cons_zero, List.set_cons_succ]
      refine wpAnyH_ready (rs := [7]) (by kernel_rfl) (by simp) ?_
      refine AllReadyH.cons rfl (fun K hK => ?_) AllReadyH.nil
      rw [if_pos (by rfl)]
      refine wp_app _ _ rfl _ _ rfl rfl RB.out ?_
      refine hK.out _ _ trivial (fun hHeld => ?_)
      clear hK K
      try simp only [Act.put, List.setIfInBounds_toArray, List.set_cons_zero, List.set_cons_succ]
      refine takeH (i := 8) (v := ?_) 8 rfl rfl (by kernel_rfl) (by kernel_rfl) (by kernel_rfl) (fun _ _ _ h => h) (Or.inl ⟨by rfl, ?_⟩) (by assumption) ?_
      rotate_left
      · (intro w' hSw; (try dsimp only at hSw); go_simp; try with_reducible rfl)
      try simp only [Act.put, List.setIfInBounds_toArray, List.set_cons_zero, List.set_cons_succ]
      refine wpAnyH_done (by kernel_rfl) ?_ _
      refine NoPanic.normal ?_
      obtain ⟨E, g, rfl, hE⟩ := rd_own HO.out
      have YE := Lib.hid hE
      clear hE RA RB
      have e1 := rot_len hkl
      have CQ := Lib.hid (fun w' (hb : Below wB.heap.size wB w') => by have h := comp (ieq_call us A c none 0 ([] : List Tm) E g ((([] : List Tm).drop 0) ++ (([] : List Tm).take 0)) w' hl (by omega) (by rw [e1]; omega) HW.out (Hr.out.below (after KB.out hb)) (Hx.out.below (after KB.out hb)) (YE.out.below hb) T_x.out (rot_tb T_x.out)) hb (Nat.le_refl _); rw [e1, rot_terms, order_1 HW.out OKX.out 0] at h; (try simp only [List.length_nil, Nat.add_zero] at h); exact h)
      clear e1
      try generalize (if d_x = k then some a else some (a.add (k * 3))) = q37
      go_wp2_with fail
      have HC := CQ.out _ (Below.refl _ _)
      with_reducible refine HC.mono ?_
      clear HC
      rintro e w5 ⟨rfl, hb5⟩
      have K5 := Lib.hid (after KB.out hb5)
      have O5 := Lib.hid (own_keep29 HO.out hb5)
      obtain ⟨v3, w6, hr3, ho3, hg3, hk3⟩ := app_keep (ty := 23) O5.out (.inl ⟨rfl, rfl⟩) (by omega) (Nat.le_trans hbS.out hb5.size)
      try simp only [List.length_nil] at hr3
      have R3 := Lib.hid hr3
      have K6 := Lib.hid (K5.out.grown hg3 K5.out.size (fun g' hg' => Nat.le_trans K1.out.size (O5.out.lt g' hg').1))
      have Y6 := Lib.hid (hk3 E g rfl)
      obtain ⟨E3, g3, rfl, hE3⟩ := rd_own ho3
      have Z6 := Lib.hid hE3
      clear ho3 hg3 hk3 hE3
      clear hr3
      have e1 := rot_len hkl
      have e2 : ((([] : List Tm).drop 0) ++ (([] : List Tm).take 0) ++ ([] : List Tm)).length = ([] : List Tm).length + ([] : List Tm).length := by rw [List.length_append, e1]
      have CZ := Lib.hid (fun w' (hb : Below w6.heap.size w6 w') => by have h := comp (ieq_call us A c E3 g3 ((([] : List Tm).drop 0) ++ (([] : List Tm).take 0) ++ ([] : List Tm)) none 0 ([] : List Tm) w' hl (by rw [e2]; omega) (by omega) HW.out (Hr.out.below (after K6.out hb)) (by rw [tcs_app]; exact Z6.out.below hb) (Hx.out.below (after K6.out hb)) (all_app (rot_tb T_x.out) T_x.out) T_x.out) hb (Nat.le_refl _); rw [e2, terms_app, rot_terms, order_2 HW.out OKX.out 0] at h; (try simp only [List.length_nil, Nat.add_zero] at h); exact h)
      have CS := Lib.hid (fun w' (hb : Below w6.heap.size w6 w') => by have h := comp (isub_call us A c E g ((([] : List Tm).drop 0) ++ (([] : List Tm).take 0)) none 0 ([] : List Tm) w' hl (by rw [e1]; omega) (by omega) HW.out (Hr.out.below (after K6.out hb)) (Y6.out.below hb) (Hx.out.below (after K6.out hb)) (rot_tb T_x.out) T_x.out) hb (Nat.le_refl _); rw [e1, rot_terms, order_3 HW.out OKX.out 0] at h; (try simp only [List.length_nil, Nat.add_zero] at h); exact h)
      clear e1 e2
      go_wp2_with (at_builtin; refine wpList_appG (by rfl) _ _ rfl _ _ rfl rfl R3.out ?_)
      have HC := CZ.out _ (Below.refl _ _)
      with_reducible refine HC.mono ?_
      clear HC
      rintro e w7 ⟨rfl, hc7⟩
      have H7 := Lib.hid hc7
      clear hc7
      go_wp2_with fail
      have HC := CS.out _ H7.out
      with_reducible refine HC.mono ?_
      clear HC
      rintro e w8 ⟨rfl, hc8⟩
      have H8 := Lib.hid hc8
      clear hc8
      go_wp2_with fail
      go_ret
      exact ⟨rfl, after K6.out H8.out⟩
    | some a =>
      have k1 : (0 : Int) ≤ (k : Int) := by omega
      have k2 : (k : Int) ≤ (xs.length : Int) := by omega
      have k3 : (xs.length : Int) ≤ (d_x : Int) := by omega
      have k4 : (k : Int) ≤ (d_x : Int) := by omega
      have hx1 := Hx.out.below (K1.out.drew)
      obtain ⟨v1, wA, v2, wB, hr1, hr2, ho, hbB⟩ := rot_runs (w := w1.drew) (xs := xs) (k := k) (ty1 := 23) (ty2 := 23) (s1 := .slice (if d_x = k then some a else some (a.add (k * 3))) (xs.length - k) (d_x - k)) (s2 := .slice (some a) k d_x) hkl l_x (sc_drop hkl hcap hx1) (fun w' hb => sc_take hkl (hx1.below hb))
      have RA := Lib.hid hr1
      have RB := Lib.hid hr2
      have HO := Lib.hid ho
      have KB := Lib.hid (after K1.out.drew hbB)
      have hbS := Lib.hid hbB.size
      clear hx1 hr1 hr2 ho hbB
      refine wp_region_noPanic ?_
      refine wp_region_held_drew (S := (fun _ => True)) (by kernel_rfl) ?_ (fun hHeld => ?_)
      · trivial
      refine takeH (i := 0) (v := ?_) 35 rfl rfl (by kernel_rfl) (by kernel_rfl) (by kernel_rfl) (fun _ _ _ h => h) (Or.inl ⟨by rfl, ?_⟩) (by assumption) ?_
      rotate_left
      · (intro w' hSw; (try dsimp only at hSw); go_simp; try with_reducible rfl)
      try simp only [Act.put, List.setIfInBounds_toArray, List.set_cons_zero, List.set_cons_succ]
      refine takeH (i := 1) (v := ?_) 36 rfl rfl (by kernel_rfl) (by kernel_rfl) (by kernel_rfl) (fun _ _ _ h => h) (Or.inl ⟨by rfl, ?_⟩) (by assumption) ?_
      rotate_left
      · (intro w' hSw; (try dsimp only at hSw); go_simp; try with_reducible rfl)
      try simp only [Act.put, List.setIfInBounds_toArray, List.set_cons_zero, List.set_cons_succ]
      refine takeH (i := 2) (v := ?_) 37 rfl rfl (by kernel_rfl) (by kernel_rfl) (by kernel_rfl) (fun _ _ _ h => h) (Or.inl ⟨by rfl, ?_⟩) (by assumption) ?_
      rotate_left
      · (intro w' hSw; (try dsimp only at hSw); go_simp; try with_reducible rfl)
      try simp only [Act.put, List.setIfInBounds_toArray, List.set_cons_zero, List.set_cons_succ]
      refine takeH (i := 4) (v := ?_) 39 rfl rfl (by kernel_rfl) (by kernel_rfl) (by kernel_rfl) (fun _ _ _ h => h) (Or.inl ⟨by rfl, ?_⟩) (by assumption) ?_
      rotate_left
      · (intro w' hSw; (try dsimp only at hSw); go_simp; try with_reducible rfl)
      try simp only [Act.put, List.setIfInBounds_toArray, List.set_cons_zero, List.set_cons_succ]
      refine takeH (i := 5) (v := ?_) 40 rfl rfl (by kernel_rfl) (by kernel_rfl) (by kernel_rfl) (fun _ _ _ h => h) (Or.inl ⟨by rfl, ?_⟩) (by assumption) ?_
      rotate_left
      · (intro w' hSw; (try dsimp only at hSw); go_simp; try with_reducible rfl)
      try simp only [Act.put, List.setIfInBounds_toArray, List.set_cons_zero, List.set_cons_succ]
      refine takeH (i := 6) (v := ?_) 41 rfl rfl (by kernel_rfl) (by kernel_rfl) (by kernel_rfl) (fun _ _ _ h => h) (Or.inl ⟨by rfl, ?_⟩) (by assumption) ?_
      rotate_left
      · (intro w' hSw; (try dsimp only at hSw); go_simp; try with_reducible rfl)
      try simp only [Act.put, List.setIfInBounds_toArray, List.set_cons_zero, List.set_cons_succ]
      refine wpAnyH_ready (rs := [3]) (by kernel_rfl) (by simp) ?_
      refine AllReadyH.cons rfl (fun K hK => ?_) AllReadyH.nil
      rw [if_pos (by rfl)]
      refine wp_app _ _ rfl _ _ rfl rfl RA.out ?_
      refine hK.out _ _ trivial (fun hHeld => ?_)
      clear hK K
      try simp only [Act.put, List.setIfInBounds_toArray, List.set_cons_zero, List.set_cons_succ]
      refine wpAnyH_ready (rs := [7]) (by kernel_rfl) (by simp) ?_
      refine AllReadyH.cons rfl (fun K hK => ?_) AllReadyH.nil
      rw [if_pos (by rfl)]
      refine wp_app _ _ rfl _ _ rfl rfl RB.out ?_
      refine hK.out _ _ trivial (fun hHeld => ?_)
      clear hK K
      try simp only [Act.put, List.setIfInBounds_toArray, List.set_cons_zero, List.set_cons_succ]
      refine takeH (i := 8) (v := ?_) 8 rfl rfl (by kernel_rfl) (by kernel_rfl) (by kernel_rfl) (fun _ _ _ h => h) (Or.inl ⟨by rfl, ?_⟩) (by assumption) ?_
      rotate_left
      · (intro w' hSw; (try dsimp only at hSw); go_simp; try with_reducible rfl)
      try simp only [Act.put, List.setIfInBounds_toArray, List.set_cons_zero, List.set_cons_succ]
      refine wpAnyH_done (by kernel_rfl) ?_ _
      refine NoPanic.normal ?_
      obtain ⟨E, g, rfl, hE⟩ := rd_own HO.out
      have YE := Lib.hid hE
      clear hE RA RB
      have e1 := rot_len hkl
      have CQ := Lib.hid (fun w' (hb : Below wB.heap.size wB w') => by have h := comp (ieq_call us A c (some a) d_x xs E g (xs.drop k ++ xs.take k) w' hl (by omega) (by rw [e1]; omega) HW.out (Hr.out.below (after KB.out hb)) (Hx.out.below (after KB.out hb)) (YE.out.below hb) T_x.out (rot_tb T_x.out)) hb (Nat.le_refl _); rw [e1, rot_terms, order_1 HW.out OKX.out k] at h; (try simp only [List.length_nil, Nat.add_zero] at h); exact h)
      clear e1
      try generalize (if d_x = k then some a else some (a.add (k * 3))) = q37
      go_wp2_with fail
      have HC := CQ.out _ (Below.refl _ _)
      with_reducible refine HC.mono ?_
      clear HC
      rintro e w5 ⟨rfl, hb5⟩
      have K5 := Lib.hid (after KB.out hb5)
      have O5 := Lib.hid (own_keep29 HO.out hb5)
      obtain ⟨v3, w6, hr3, ho3, hg3, hk3⟩ := app_keep (ty := 23) O5.out (sc_all (Hx.out.below K5.out)) (by omega) (Nat.le_trans hbS.out hb5.size)
      try simp only [List.length_nil] at hr3
      have R3 := Lib.hid hr3
      have K6 := Lib.hid (K5.out.grown hg3 K5.out.size (fun g' hg' => Nat.le_trans K1.out.size (O5.out.lt g' hg').1))
      have Y6 := Lib.hid (hk3 E g rfl)
      obtain ⟨E3, g3, rfl, hE3⟩ := rd_own ho3
      have Z6 := Lib.hid hE3
      clear ho3 hg3 hk3 hE3
      clear hr3
      have e1 := rot_len hkl
      have e2 : (xs.drop k ++ xs.take k ++ xs).length = xs.length + xs.length := by rw [List.length_append, e1]
      have CZ := Lib.hid (fun w' (hb : Below w6.heap.size w6 w') => by have h := comp (ieq_call us A c E3 g3 (xs.drop k ++ xs.take k ++ xs) (some a) d_x xs w' hl (by rw [e2]; omega) (by omega) HW.out (Hr.out.below (after K6.out hb)) (by rw [tcs_app]; exact Z6.out.below hb) (Hx.out.below (after K6.out hb)) (all_app (rot_tb T_x.out) T_x.out) T_x.out) hb (Nat.le_refl _); rw [e2, terms_app, rot_terms, order_2 HW.out OKX.out k] at h; (try simp only [List.length_nil, Nat.add_zero] at h); exact h)
      have CS := Lib.hid (fun w' (hb : Below w6.heap.size w6 w') => by have h := comp (isub_call us A c E g (xs.drop k ++ xs.take k) (some a) d_x xs w' hl (by rw [e1]; omega) (by omega) HW.out (Hr.out.below (after K6.out hb)) (Y6.out.below hb) (Hx.out.below (after K6.out hb)) (rot_tb T_x.out) T_x.out) hb (Nat.le_refl _); rw [e1, rot_terms, order_3 HW.out OKX.out k] at h; (try simp only [List.length_nil, Nat.add_zero] at h); exact h)
      clear e1 e2
      go_wp2_with (at_builtin; refine wpList_appG (by rfl) _ _ rfl _ _ rfl rfl R3.out ?_)
      have HC := CZ.out _ (Below.refl _ _)
      with_reducible refine HC.mono ?_
      clear HC
      rintro e w7 ⟨rfl, hc7⟩
      have H7 := Lib.hid hc7
      clear hc7
      go_wp2_with fail
      have HC := CS.out _ H7.out
      with_reducible refine HC.mono ?_
      clear HC
      rintro e w8 ⟨rfl, hc8⟩
      have H8 := Lib.hid hc8
      clear hc8
      go_wp2_with fail
      go_ret
      exact ⟨rfl, after K6.out H8.out⟩

theorem fnOrder_contract (H : Type) (enc : TypeId × Value → H) (W : World) (base : Nat) (args : Array Value) (ds gs : List (DataW H)) (before : List MemPlace)
    (hval : ∀ (j : Nat) t v, Try.f11.params[j]? = some t → args[j]? = some v → Value.okWide Try.prog W .any base t v)
    (hW : DataW.Whole enc Try.prog Try.f11.params.toList Rows.fnOrderSpec.vars false W args.toList ds gs before) :
    Calls Try.prog 11 args W fun e W' => ∃ v, e = .returned v ∧ Rows.fnOrderSpec.post enc Try.prog Try.f11 false true false false W args v W' := by
  have hW' := hW
  obtain ⟨p, q, hA0, hV, rfl, hfz, hnd⟩ := hW
  have hA : DataW.TrodAll enc Try.prog W 0 (fun _ => true) true Try.f11.params.toList args.toList ds p := hA0
  rw [Try.params11] at hA hval
  obtain ⟨v0, vs0, d0, ds0, p0, q0, hargs, rfl, rfl, h0, r0⟩ := trodAll_cons hA
  obtain ⟨v1, vs1, d1, ds1, p1, q1, rfl, rfl, rfl, h1, r1⟩ := trodAll_cons r0
  obtain ⟨v2, vs2, d2, ds2, p2, q2, rfl, rfl, rfl, h2, r2⟩ := trodAll_cons r1
  obtain ⟨rfl, rfl, rfl⟩ := trodAll_nil r2
  obtain rfl : args = #[v0, v1, v2] := by cases args; simp_all
  obtain ⟨rfl, rfl⟩ := trodVars_none hV
  have k0 := h0
  have lt0 : ∀ x ∈ p0, x.block < W.heap.size := by obtain ⟨m, hm⟩ := k0; exact DataW.trod_lt m _ _ _ hm
  obtain ⟨A0, l0, c0, rfl, rd0, bd0⟩ := open_us (hval 0 22 v0 rfl rfl) h0
  have k1 := h1
  have lt1 : ∀ x ∈ p1, x.block < W.heap.size := by obtain ⟨m, hm⟩ := k1; exact DataW.trod_lt m _ _ _ hm
  obtain ⟨A1, l1, c1, rfl, rd1, bd1⟩ := open_ts (hval 1 23 v1 rfl rfl) h1
  have k2 := h2
  have lt2 : ∀ x ∈ p2, x.block < W.heap.size := by obtain ⟨m, hm⟩ := k2; exact DataW.trod_lt m _ _ _ hm
  obtain ⟨x2, rfl, lo2, hi2⟩ := open_i (hval 2 3 v2 rfl rfl) h2
  clear hA0
  refine (walk11 l0 A0 c0 l1 A1 c1 x2 W rd0 rd1 lo2 hi2 (cap_ts k1) (cap_none k1)).mono fun e W' ⟨he, bel⟩ => ?_
  subst he
  exact ⟨_, rfl, _, _, _, [], _, [], hW', trodAll_mk1 (shut_bool Try.underlying4 _), (trodAll_cons_mk (Below.trod Try.laidOut (by kernel_rfl) (of_decide_eq_true (by kernel_rfl)) k0 bel lt0) (trodAll_cons_mk (Below.trod Try.laidOut (by kernel_rfl) (of_decide_eq_true (by kernel_rfl)) k1 bel lt1) (trodAll_cons_mk (Below.trod Try.laidOut (by kernel_rfl) (of_decide_eq_true (by kernel_rfl)) k2 bel lt2) trodAll_mk0))), rfl, bel.frame _, fun h => by cases h⟩

set_option maxRecDepth 100000 in
theorem fnOrder_lifted (os : Os) (started : os.Started) (H : Type) (enc : TypeId × Value → H) :
    ReturnsInHanded {} Try.checked os 11 .any (Rows.fnOrderSpec.pre6 enc Try.prog Try.f11 Rows.fnOrderRow.domain false) (Rows.fnOrderSpec.post enc Try.prog Try.f11 false true false false) := by
  refine returnsInHanded_of_change (C := Try.checked) Try.own started (by kernel_rfl) Try.func11
    (ChangeSpec.witness6 (enc := enc) (C := Try.checked) false ⟨#[], #[.slice none 0 0, .slice none 0 0, .int .i64 0], []⟩ 8 (by kernel_rfl) (by kernel_rfl) (by kernel_rfl) (by kernel_rfl)) ?_
  intro W base args ds gs before hval hW _ _
  exact fnOrder_contract H enc W base args ds gs before hval hW

theorem fnOrder_closed : joinedFacts Try.prog 11 Try.f11 Rows.fnOrderSpec Rows.fnOrderRow = true := closed_of (by kernel_rfl)

theorem fnOrder_holds : Rows.FnOrderSaid :=
  OpenClaim.holds_of_wide 11 Try.f11 rfl rfl rfl rfl rfl rfl rfl ⟨rfl, rfl, rfl, rfl, rfl⟩ rfl rfl rfl rfl rfl (by as_aux_lemma => kernel_rfl) Try.func11 fnOrder_closed
    (of_decide_eq_true (by as_aux_lemma => kernel_rfl)) (by as_aux_lemma => (unfold Func.isWrapper; first | (rw [if_pos (by decide +kernel)]; kernel_rfl) | (rw [if_neg (by decide +kernel)]; exact ⟨rfl, rfl⟩)))
    (fun os started H enc _ => fnOrder_lifted os started H enc)
end Go.Proofs.Ytehadfnaknpagaa
