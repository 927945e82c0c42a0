/-
  PROVED HERE: FnSingle: a list of one term is a subset of a list of one term, equal to it, or includes a type, exactly if the terms do. Conditions: none.
-/
import Derived.Test.YtehadfnaknpagaaXe
namespace Go.Proofs.Ytehadfnaknpagaa
open Go.ChangeShapes Go.WideShapes Go.ChangeAt Go.RowKit Pl

set_option linter.unusedSimpArgs false in
set_option maxHeartbeats 4000000 in
theorem walk27 (us : List Int) (A : Option Addr) (c : Nat) (x y : Tm) (t : Int) (w : World) (hr : Rd w A (ints us)) (_lo : -9223372036854775808 ≤ t) (_hi : t ≤ 9223372036854775807) :
    Calls Try.prog 27 #[.slice A us.length c, tmv x, tmv y, .int .i64 t] w fun e w' => e = .returned (.bool true) ∧ Below w.heap.size w w' := by
  by_cases q0 : 2147483647 < us.length
  · go_enter Try.func27, Try.ntmps27
    go_wp2_with fail
    go_ret
    exact ⟨rfl, after (al _ _) (al _ _)⟩
  have hl : us.length ≤ 2147483647 := by omega
  obtain ⟨w0, hw0⟩ : ∃ w0 : World, w0 = (w.alloc (box x 29)).alloc (box y 29) := ⟨_, rfl⟩
  have a0 : Below w.heap.size w w0 := by rw [hw0]; exact after (al _ _) (al _ _)
  have b0 : Blk w0 w.heap.size 29 #[.int .i64 x.kind, .bool x.tilde, .int .i64 x.type] := by rw [hw0]; exact (Blk.new _ _ _).alloc _
  have b1 : Blk w0 (w.heap.size + 1) 29 #[.int .i64 y.kind, .bool y.tilde, .int .i64 y.type] := by rw [hw0]; have := Blk.new (w.alloc (box x 29)) 29 #[.int .i64 y.kind, .bool y.tilde, .int .i64 y.type]; simpa using this
  have HS := Lib.hid (fun w' (h : Below w0.heap.size w0 w') => (by
    obtain ⟨p0, p1, p2⟩ := (b0.below h).cells3
    obtain ⟨s0, s1, s2⟩ := (b1.below h).cells3
    exact ⟨p0, p1, p2, s0, s1, s2⟩ : w'.cell? ⟨w.heap.size, 0, none⟩ = some (.int .i64 x.kind) ∧ w'.cell? ⟨w.heap.size, 1, none⟩ = some (.bool x.tilde) ∧ w'.cell? ⟨w.heap.size, 2, none⟩ = some (.int .i64 x.type) ∧ w'.cell? ⟨w.heap.size + 1, 0, none⟩ = some (.int .i64 y.kind) ∧ w'.cell? ⟨w.heap.size + 1, 1, none⟩ = some (.bool y.tilde) ∧ w'.cell? ⟨w.heap.size + 1, 2, none⟩ = some (.int .i64 y.type)))
  have hr0 : ∀ w', Below w0.heap.size w0 w' → Rd w' A (ints us) := fun w' h => (hr.below a0).below h
  have A0 := Lib.hid a0
  have R1 := Lib.hid (Below.refl w0.heap.size w0)
  have CL := Lib.hid (fun (z : Tm) w' (hb : Below w0.heap.size w0 w') => (list_call z w').mono fun e w'' h => (by obtain ⟨D, d, he, hd, hb2⟩ := h; exact ⟨D, d, he, hd, hb2, after hb hb2⟩ : ∃ D d, e = .returned (.slice D 1 d) ∧ Rd w'' D (tcs [z]) ∧ Below w'.heap.size w' w'' ∧ Below w0.heap.size w0 w''))
  have CV : ∀ (b : Bool), VX us [[x], [y], [⟨2, false, t⟩]] = b → ∀ (D : Option Addr) (d : Nat) (E : Option Addr) (g : Nat) (F : Option Addr) (m : Nat) w', Below w0.heap.size w0 w' → Rd w' D (tcs [x]) → Rd w' E (tcs [y]) → Rd w' F (tcs [⟨2, false, t⟩]) → Calls Try.prog 33 #[.slice A us.length c, .slice (some ⟨w'.heap.size, 0, none⟩) 3 3] (w'.alloc (.cells #[.slice D 1 d, .slice E 1 g, .slice F 1 m] 23)) fun e w'' => e = .returned (.bool b) ∧ Below w0.heap.size w0 w'' := fun b hv D d E g F m w' hb h1 h2 h3 => by
    have hs : ∀ s ∈ ([⟨D, d, [x]⟩, ⟨E, g, [y]⟩, ⟨F, m, [⟨2, false, t⟩]⟩] : List Sl), s.ok (w'.alloc (.cells #[.slice D 1 d, .slice E 1 g, .slice F 1 m] 23)) := by
      intro s hs
      simp only [List.mem_cons, List.not_mem_nil, or_false] at hs
      rcases hs with rfl | rfl | rfl
      · exact ⟨h1.below (al _ _), by simp⟩
      · exact ⟨h2.below (al _ _), by simp⟩
      · exact ⟨h3.below (al _ _), by simp⟩
    have hb' := hb.alloc hb.size (.cells #[.slice D 1 d, .slice E 1 g, .slice F 1 m] 23)
    have h := comp (valid_any us A c (some ⟨w'.heap.size, 0, none⟩) 3 [⟨D, d, [x]⟩, ⟨E, g, [y]⟩, ⟨F, m, [⟨2, false, t⟩]⟩] (w'.alloc (.cells #[.slice D 1 d, .slice E 1 g, .slice F 1 m] 23)) hl (by simp) (hr0 _ hb') (rd_blk (Blk.new _ _ _)) hs) hb' (Nat.le_refl _)
    rw [vls_vx hv] at h
    exact h
  cases hv : VX us [[x], [y], [⟨2, false, t⟩]] with
  | false =>
    have CW := Lib.hid (CV false hv)
    clear hv hr0 hr a0 b0 b1 CV
    go_enter Try.func27, Try.ntmps27
    go_wp2_with fail
    rw [← hw0]
    clear hw0
    go_region_held3 (fun w' => w'.cell? ⟨w.heap.size, 0, none⟩ = some (.int .i64 x.kind) ∧ w'.cell? ⟨w.heap.size, 1, none⟩ = some (.bool x.tilde) ∧ w'.cell? ⟨w.heap.size, 2, none⟩ = some (.int .i64 x.type) ∧ w'.cell? ⟨w.heap.size + 1, 0, none⟩ = some (.int .i64 y.kind) ∧ w'.cell? ⟨w.heap.size + 1, 1, none⟩ = some (.bool y.tilde) ∧ w'.cell? ⟨w.heap.size + 1, 2, none⟩ = some (.int .i64 y.type))
      (first | exact HS.out _ R1.out.drew | exact HS.out _ (by assumption) | exact HS.out _ (Below.alloc (by assumption) (Below.size (by assumption)) _))
      (first | (go_at_call 36; (with_reducible refine (CL.out x _ R1.out.drew).mono ?_); rintro e w1 ⟨D1, d1, rfl, hp1, hb1, hc1⟩) | (go_at_call 36; (with_reducible refine (CL.out y _ (by assumption)).mono ?_); rintro e w2 ⟨D2, d2, rfl, hp2, hb2, hc2⟩) | (go_at_call 36; (with_reducible refine (CL.out ⟨2, false, t⟩ _ (by assumption)).mono ?_); rintro e w3 ⟨D3, d3, rfl, hp3, hb3, hc3⟩) | (go_at_call 33; (with_reducible refine (CW.out _ _ _ _ _ _ _ hc3 ((hp1.below hb2).below hb3) (hp2.below hb3) hp3).mono ?_); clear hb1 hb2 hb3 hc1 hc2 hc3 hp1 hp2 hp3; rintro e w4 ⟨rfl, hc4⟩))
    all_goals
      have hf := Lib.hid hc4
      clear hc4
      go_wp2_with fail
      go_ret
      exact ⟨rfl, after A0.out hf.out⟩
  | true =>
    have cv := CV true hv
    obtain ⟨hw, hs⟩ := vx_iff hv
    have hx : TB us x = true := by have := hs [x] (by simp); simpa using this
    have hy : TB us y = true := by have := hs [y] (by simp); simpa using this
    obtain ⟨n, rfl, hn⟩ := one_t (hs [⟨2, false, t⟩] (by simp))
    have CW := Lib.hid cv
    have HX := Lib.hid hx
    have HY := Lib.hid hy
    have HW := Lib.hid hw
    have HN := Lib.hid hn
    have HR := Lib.hid hr0
    have B0 := Lib.hid b0
    have B1 := Lib.hid b1
    clear hv hr0 hr a0 b0 b1 CV cv hs hx hy hw hn
    go_enter Try.func27, Try.ntmps27
    go_wp2_with fail
    rw [← hw0]
    clear hw0
    go_region_held3 (fun w' => w'.cell? ⟨w.heap.size, 0, none⟩ = some (.int .i64 x.kind) ∧ w'.cell? ⟨w.heap.size, 1, none⟩ = some (.bool x.tilde) ∧ w'.cell? ⟨w.heap.size, 2, none⟩ = some (.int .i64 x.type) ∧ w'.cell? ⟨w.heap.size + 1, 0, none⟩ = some (.int .i64 y.kind) ∧ w'.cell? ⟨w.heap.size + 1, 1, none⟩ = some (.bool y.tilde) ∧ w'.cell? ⟨w.heap.size + 1, 2, none⟩ = some (.int .i64 y.type))
      (first | exact HS.out _ R1.out.drew | exact HS.out _ (by assumption) | exact HS.out _ (Below.alloc (by assumption) (Below.size (by assumption)) _))
      (first | (go_at_call 36; (with_reducible refine (CL.out x _ R1.out.drew).mono ?_); rintro e w1 ⟨D1, d1, rfl, hp1, hb1, hc1⟩) | (go_at_call 36; (with_reducible refine (CL.out y _ (by assumption)).mono ?_); rintro e w2 ⟨D2, d2, rfl, hp2, hb2, hc2⟩) | (go_at_call 36; (with_reducible refine (CL.out ⟨2, false, (n : Int)⟩ _ (by assumption)).mono ?_); rintro e w3 ⟨D3, d3, rfl, hp3, hb3, hc3⟩) | (go_at_call 33; (with_reducible refine (CW.out _ _ _ _ _ _ _ hc3 ((hp1.below hb2).below hb3) (hp2.below hb3) hp3).mono ?_); clear hb1 hb2 hb3 hc1 hc2 hc3 hp1 hp2 hp3; rintro e w4 ⟨rfl, hc4⟩))
    all_goals
      have K4 := Lib.hid hc4
      clear hc4 CL HS CW
      go_wp2_with fail
      have HS := Lib.hid (fun w' (h : Below w4.heap.size w4 w') => (by
        obtain ⟨p0, p1, p2⟩ := ((B0.out.below K4.out).below h).cells3
        obtain ⟨s0, s1, s2⟩ := ((B1.out.below K4.out).below h).cells3
        exact ⟨p0, p1, p2, s0, s1, s2⟩ : w'.cell? ⟨w.heap.size, 0, none⟩ = some (.int .i64 x.kind) ∧ w'.cell? ⟨w.heap.size, 1, none⟩ = some (.bool x.tilde) ∧ w'.cell? ⟨w.heap.size, 2, none⟩ = some (.int .i64 x.type) ∧ w'.cell? ⟨w.heap.size + 1, 0, none⟩ = some (.int .i64 y.kind) ∧ w'.cell? ⟨w.heap.size + 1, 1, none⟩ = some (.bool y.tilde) ∧ w'.cell? ⟨w.heap.size + 1, 2, none⟩ = some (.int .i64 y.type)))
      have R4 := Lib.hid (Below.refl w4.heap.size w4)
      have H4 := Lib.hid (fun w' (h : Below w4.heap.size w4 w') => (HR.out w4 K4.out).below h)
      have CL := Lib.hid (fun (z : Tm) w' (hb : Below w4.heap.size w4 w') => (list_call z w').mono fun e w'' h => (by obtain ⟨D, d, he, hd, hb2⟩ := h; exact ⟨D, d, he, hd, hb2, after hb hb2⟩ : ∃ D d, e = .returned (.slice D 1 d) ∧ Rd w'' D (tcs [z]) ∧ Below w'.heap.size w' w'' ∧ Below w4.heap.size w4 w''))
      have CLb := CL
      have CLc := CL
      have CLd := CL
      have CLe := CL
      have C51 : Hid (∀ (D : Option Addr) (d : Nat) (E : Option Addr) (g : Nat) w', Below w4.heap.size w4 w' → Rd w' D (tcs [x]) → Rd w' E (tcs [y]) → Calls Try.prog 51 #[.slice A us.length c, .slice D 1 d, .slice E 1 g] w' fun e w'' => e = .returned (.bool (sub1 us (toT x) (toT y))) ∧ Below w4.heap.size w4 w'') := Lib.hid fun D d E g w' hb h1 h2 => by
        have h := comp (isub_call us A c D d [x] E g [y] w' hl (by simp) (by simp) HW.out (H4.out w' hb) h1 h2 (by simp [HX.out]) (by simp [HY.out])) hb (Nat.le_refl _)
        rw [show subL us (terms [x]) (terms [y]) = sub1 us (toT x) (toT y) from sub_one _ _] at h
        exact h
      have C52 : Hid (∀ (D : Option Addr) (d : Nat) (E : Option Addr) (g : Nat) w', Below w4.heap.size w4 w' → Rd w' D (tcs [x]) → Rd w' E (tcs [y]) → Calls Try.prog 52 #[.slice A us.length c, .slice D 1 d, .slice E 1 g] w' fun e w'' => e = .returned (.bool (eq1 (toT x) (toT y))) ∧ Below w4.heap.size w4 w'') := Lib.hid fun D d E g w' hb h1 h2 => by
        have h := comp (ieq_call us A c D d [x] E g [y] w' hl (by simp) (by simp) HW.out (H4.out w' hb) h1 h2 (by simp [HX.out]) (by simp [HY.out])) hb (Nat.le_refl _)
        rw [show eqL us (terms [x]) (terms [y]) = eq1 (toT x) (toT y) from eqL_one _ _ (tok_of HX.out) (tok_of HY.out)] at h
        exact h
      have C43 : Hid (∀ (D : Option Addr) (d : Nat) w', Below w4.heap.size w4 w' → Rd w' D (tcs [x]) → Calls Try.prog 43 #[.slice A us.length c, .slice D 1 d, .int .i64 (n : Int)] w' fun e w'' => e = .returned (.bool (incl us (toT x) n)) ∧ Below w4.heap.size w4 w'') := Lib.hid fun D d w' hb h1 => by
        have h := comp (iincludes_call us A c n D d [x] w' hl (by simp) HW.out (H4.out w' hb) h1 (by simp [HX.out]) HN.out) hb (Nat.le_refl _)
        rw [show inclL us (terms [x]) n = incl us (toT x) n from incl_one _ _] at h
        exact h
      have C53 := Lib.hid (fun w' (hb : Below w4.heap.size w4 w') => comp (itsub_call us A c x y w' hl HW.out (H4.out w' hb) HX.out HY.out) hb (Nat.le_refl _))
      have C47 := Lib.hid (fun w' (hb : Below w4.heap.size w4 w') => comp (itequal_call us A c x y w' hl HW.out (H4.out w' hb) HX.out HY.out) hb (Nat.le_refl _))
      have C41 := Lib.hid (fun w' (hb : Below w4.heap.size w4 w') => comp (itincl_call us A c x n w' hl HW.out (H4.out w' hb) HX.out HN.out) hb (Nat.le_refl _))
      have C38 := Lib.hid (fun w' (hb : Below w4.heap.size w4 w') => comp (works_call w') hb (Nat.le_refl _))
      go_region_held3 (fun w' => w'.cell? ⟨w.heap.size, 0, none⟩ = some (.int .i64 x.kind) ∧ w'.cell? ⟨w.heap.size, 1, none⟩ = some (.bool x.tilde) ∧ w'.cell? ⟨w.heap.size, 2, none⟩ = some (.int .i64 x.type) ∧ w'.cell? ⟨w.heap.size + 1, 0, none⟩ = some (.int .i64 y.kind) ∧ w'.cell? ⟨w.heap.size + 1, 1, none⟩ = some (.bool y.tilde) ∧ w'.cell? ⟨w.heap.size + 1, 2, none⟩ = some (.int .i64 y.type))
        (first | exact HS.out _ R4.out.drew | exact HS.out _ (by assumption))
        (first | (go_at_call 36; (with_reducible refine (CL.out x _ R4.out.drew).mono ?_); clear CL; rintro e v1 ⟨D1, d1, rfl, hp1, hb1, hc1⟩) | (go_at_call 36; (with_reducible refine (CLb.out y _ hc1).mono ?_); clear CLb; rintro e v2 ⟨D2, d2, rfl, hp2, hb2, hc2⟩) | (go_at_call 51; (with_reducible refine (C51.out _ _ _ _ _ hc2 (hp1.below hb2) hp2).mono ?_); clear hc1 hc2 hb1 hb2 hp1 hp2; rintro e v3 ⟨rfl, hc3⟩) | (go_at_call 53; (with_reducible refine (C53.out _ hc3).mono ?_); rintro e v4 ⟨rfl, hc4⟩) | (go_at_call 36; (with_reducible refine (CLc.out x _ hc4).mono ?_); clear CLc; rintro e v5 ⟨D5, d5, rfl, hp5, hb5, hc5⟩) | (go_at_call 36; (with_reducible refine (CLd.out y _ hc5).mono ?_); clear CLd; rintro e v6 ⟨D6, d6, rfl, hp6, hb6, hc6⟩) | (go_at_call 52; (with_reducible refine (C52.out _ _ _ _ _ hc6 (hp5.below hb6) hp6).mono ?_); clear hb5 hb6 hp5 hp6; rintro e v7 ⟨rfl, hc7⟩) | (go_at_call 47; (with_reducible refine (C47.out _ hc7).mono ?_); rintro e v8 ⟨rfl, hc8⟩) | (go_at_call 36; (with_reducible refine (CLe.out x _ hc8).mono ?_); clear CLe; rintro e v9 ⟨D9, d9, rfl, hp9, hb9, hc9⟩) | (go_at_call 43; (with_reducible refine (C43.out _ _ _ hc9 hp9).mono ?_); rintro e v10 ⟨rfl, hc10⟩) | (go_at_call 41; (with_reducible refine (C41.out _ hc10).mono ?_); rintro e v11 ⟨rfl, hc11⟩) | (go_at_call 38; (with_reducible refine (C38.out _ hc11).mono ?_); rintro e v12 ⟨rfl, hc12⟩))
      all_goals
        have hf := Lib.hid hc12
        clear hc3 hc4 hc5 hc6 hc7 hc8 hc9 hc10 hc11 hc12 hb9 hp9
        go_wp2_with fail
        go_ret
        exact ⟨rfl, after A0.out (after K4.out hf.out)⟩

theorem fnSingle_contract (H : Type) (enc : TypeId × Value → H) (W : World) (base : Nat) (args : Array Value) (ds gs : List (DataW H)) (before : List MemPlace)
    (hval : ∀ (j : Nat) t v, Try.f27.params[j]? = some t → args[j]? = some v → Value.okWide Try.prog W .any base t v)
    (hW : DataW.Whole enc Try.prog Try.f27.params.toList Rows.fnSingleSpec.vars false W args.toList ds gs before) :
    Calls Try.prog 27 args W fun e W' => ∃ v, e = .returned v ∧ Rows.fnSingleSpec.post enc Try.prog Try.f27 false true false false W args v W' := by
  have hW' := hW
  obtain ⟨p, q, hA0, hV, rfl, hfz, hnd⟩ := hW
  have hA : DataW.TrodAll enc Try.prog W 0 (fun _ => true) true Try.f27.params.toList args.toList ds p := hA0
  rw [Try.params27] at hA hval
  obtain ⟨v0, vs0, d0, ds0, p0, q0, hargs, rfl, rfl, h0, r0⟩ := trodAll_cons hA
  obtain ⟨v1, vs1, d1, ds1, p1, q1, rfl, rfl, rfl, h1, r1⟩ := trodAll_cons r0
  obtain ⟨v2, vs2, d2, ds2, p2, q2, rfl, rfl, rfl, h2, r2⟩ := trodAll_cons r1
  obtain ⟨v3, vs3, d3, ds3, p3, q3, rfl, rfl, rfl, h3, r3⟩ := trodAll_cons r2
  obtain ⟨rfl, rfl, rfl⟩ := trodAll_nil r3
  obtain rfl : args = #[v0, v1, v2, v3] := by cases args; simp_all
  obtain ⟨rfl, rfl⟩ := trodVars_none hV
  have k0 := h0
  have lt0 : ∀ x ∈ p0, x.block < W.heap.size := by obtain ⟨m, hm⟩ := k0; exact DataW.trod_lt m _ _ _ hm
  obtain ⟨A0, l0, c0, rfl, rd0, bd0⟩ := open_us (hval 0 22 v0 rfl rfl) h0
  have k1 := h1
  have lt1 : ∀ x ∈ p1, x.block < W.heap.size := by obtain ⟨m, hm⟩ := k1; exact DataW.trod_lt m _ _ _ hm
  obtain ⟨x1, rfl⟩ := open_tm (hval 1 29 v1 rfl rfl) h1
  have k2 := h2
  have lt2 : ∀ x ∈ p2, x.block < W.heap.size := by obtain ⟨m, hm⟩ := k2; exact DataW.trod_lt m _ _ _ hm
  obtain ⟨x2, rfl⟩ := open_tm (hval 2 29 v2 rfl rfl) h2
  have k3 := h3
  have lt3 : ∀ x ∈ p3, x.block < W.heap.size := by obtain ⟨m, hm⟩ := k3; exact DataW.trod_lt m _ _ _ hm
  obtain ⟨x3, rfl, lo3, hi3⟩ := open_i (hval 3 3 v3 rfl rfl) h3
  clear hA0
  refine (walk27 l0 A0 c0 x1 x2 x3 W rd0 lo3 hi3).mono fun e W' ⟨he, bel⟩ => ?_
  subst he
  exact ⟨_, rfl, _, _, _, [], _, [], hW', trodAll_mk1 (shut_bool Try.underlying4 _), (trodAll_cons_mk (Below.trod Try.laidOut (by kernel_rfl) (of_decide_eq_true (by kernel_rfl)) k0 bel lt0) (trodAll_cons_mk (Below.trod Try.laidOut (by kernel_rfl) (of_decide_eq_true (by kernel_rfl)) k1 bel lt1) (trodAll_cons_mk (Below.trod Try.laidOut (by kernel_rfl) (of_decide_eq_true (by kernel_rfl)) k2 bel lt2) (trodAll_cons_mk (Below.trod Try.laidOut (by kernel_rfl) (of_decide_eq_true (by kernel_rfl)) k3 bel lt3) trodAll_mk0)))), rfl, bel.frame _, fun h => by cases h⟩

set_option maxRecDepth 100000 in
theorem fnSingle_lifted (os : Os) (started : os.Started) (H : Type) (enc : TypeId × Value → H) :
    ReturnsInHanded {} Try.checked os 27 .any (Rows.fnSingleSpec.pre6 enc Try.prog Try.f27 Rows.fnSingleRow.domain false) (Rows.fnSingleSpec.post enc Try.prog Try.f27 false true false false) := by
  refine returnsInHanded_of_change (C := Try.checked) Try.own started (by kernel_rfl) Try.func27
    (ChangeSpec.witness6 (enc := enc) (C := Try.checked) false ⟨#[], #[.slice none 0 0, .agg #[.int .i64 0, .bool false, .int .i64 0], .agg #[.int .i64 0, .bool false, .int .i64 0], .int .i64 0], []⟩ 8 (by kernel_rfl) (by kernel_rfl) (by kernel_rfl) (by kernel_rfl)) ?_
  intro W base args ds gs before hval hW _ _
  exact fnSingle_contract H enc W base args ds gs before hval hW

theorem fnSingle_closed : joinedFacts Try.prog 27 Try.f27 Rows.fnSingleSpec Rows.fnSingleRow = true := closed_of (by kernel_rfl)

theorem fnSingle_holds : Rows.FnSingleSaid :=
  OpenClaim.holds_of_wide 27 Try.f27 rfl rfl rfl rfl rfl rfl rfl ⟨rfl, rfl, rfl, rfl, rfl⟩ rfl rfl rfl rfl rfl (by as_aux_lemma => kernel_rfl) Try.func27 fnSingle_closed
    (of_decide_eq_true (by as_aux_lemma => kernel_rfl)) (by as_aux_lemma => (unfold Func.isWrapper; first | (rw [if_pos (by decide +kernel)]; kernel_rfl) | (rw [if_neg (by decide +kernel)]; exact ⟨rfl, rfl⟩)))
    (fun os started H enc _ => fnSingle_lifted os started H enc)
end Go.Proofs.Ytehadfnaknpagaa
