/-
  PROVED HERE: FnTermUnion: the union of two terms has exactly the types that are in one of them. Conditions: none.
-/
import Derived.Test.YtehadfnaknpagaaXe
namespace Go.Proofs.Ytehadfnaknpagaa
open Go.ChangeShapes Go.WideShapes Go.ChangeAt Go.RowKit Pl

set_option linter.unusedSimpArgs false in
set_option maxHeartbeats 4000000 in
theorem walk18 (us : List Int) (A : Option Addr) (c : Nat) (x y : Tm) (w : World) (hr : Rd w A (ints us)) :
    Calls Try.prog 18 #[.slice A us.length c, tmv x, tmv y] w fun e w' => e = .returned (.bool true) ∧ Below w.heap.size w w' := by
  by_cases q0 : 2147483647 < us.length
  · go_enter Try.func18, Try.ntmps18
    go_wp2_with fail
    go_ret
    exact ⟨rfl, after (al _ _) (al _ _)⟩
  have hl : us.length ≤ 2147483647 := by omega
  obtain ⟨w0, hw0⟩ : ∃ w0 : World, w0 = (w.alloc (box x 29)).alloc (box y 29) := ⟨_, rfl⟩
  have a0 : Below w.heap.size w w0 := by rw [hw0]; exact after (al _ _) (al _ _)
  have b0 : Blk w0 w.heap.size 29 #[.int .i64 x.kind, .bool x.tilde, .int .i64 x.type] := by rw [hw0]; exact (Blk.new _ _ _).alloc _
  have b1 : Blk w0 (w.heap.size + 1) 29 #[.int .i64 y.kind, .bool y.tilde, .int .i64 y.type] := by rw [hw0]; have := Blk.new (w.alloc (box x 29)) 29 #[.int .i64 y.kind, .bool y.tilde, .int .i64 y.type]; simpa using this
  have e0 : w0.heap.size = w.heap.size + 1 + 1 := by rw [hw0]; simp
  have CV : Calls Try.prog 40 #[.slice A us.length c, .slice (some ⟨w.heap.size + 1 + 1, 0, none⟩) 2 2] (w0.alloc (.cells #[.int .i64 x.kind, .bool x.tilde, .int .i64 x.type, .int .i64 y.kind, .bool y.tilde, .int .i64 y.type] 29)) fun e w'' => e = .returned (.bool (VB us [x, y])) ∧ Below w0.heap.size w0 w'' := by
    rw [← e0]
    have h' := (Below.refl w0.heap.size w0).alloc (Nat.le_refl _) (.cells #[.int .i64 x.kind, .bool x.tilde, .int .i64 x.type, .int .i64 y.kind, .bool y.tilde, .int .i64 y.type] 29)
    exact comp (specvalid_any us A c (some ⟨w0.heap.size, 0, none⟩) 2 [x, y] _ hl (by simp) ((hr.below a0).below h') (rd_blk (Blk.new _ _ _))) h' (Nat.le_refl _)
  have A0 := Lib.hid a0
  cases hv : VB us [x, y] with
  | false =>
    rw [hv] at CV
    have CW := Lib.hid CV
    clear hv hr a0 b0 b1 e0 CV
    go_enter Try.func18, Try.ntmps18
    go_wp2_with fail
    rw [← hw0]
    clear hw0
    refine CW.out.mono ?_
    rintro e w1 ⟨rfl, hb⟩
    have hf := Lib.hid (after A0.out hb)
    clear hb
    go_wp2_with fail
    go_ret
    exact ⟨rfl, hf.out⟩
  | true =>
    rw [hv] at CV
    have CW := Lib.hid CV
    obtain ⟨hw, hx, hy⟩ := vb_two hv
    have HR := Lib.hid (fun w' (hb : Below w0.heap.size w0 w') => (hr.below a0).below hb)
    have B0 := Lib.hid b0
    have B1 := Lib.hid b1
    have HX := Lib.hid hx
    have HY := Lib.hid hy
    have HW := Lib.hid hw
    have G := Lib.hid hv
    obtain ⟨a, b, ha, hb, hu⟩ : ∃ a b : Tm, TB us a = true ∧ TB us b = true ∧ isUnionS us [toT a, toT b] [toT x] [toT y] = true ∧ tm2 (union1 us (toT x) (toT y)) = .tuple #[tmv a, tmv b] :=
      ⟨ofT (union1 us (toT x) (toT y)).1, ofT (union1 us (toT x) (toT y)).2, tb_ofT hw (union1_ok (tok_of hx) (tok_of hy)).1, tb_ofT hw (union1_ok (tok_of hx) (tok_of hy)).2, by rw [toT_ofT, toT_ofT]; exact term_union hw (tok_of hx) (tok_of hy), rfl⟩
    obtain ⟨hi, hz⟩ := hu
    have HA := Lib.hid ha
    have HB := Lib.hid hb
    have HI := Lib.hid hi
    have CI := Lib.hid (fun w' (hb : Below w0.heap.size w0 w') => by have h := comp (itunion_call us A c x y w' hl hw (HR.out w' hb) hx hy) hb (Nat.le_refl _); rw [hz] at h; exact h)
    clear hz hx hy hw hv hr a0 b0 b1 e0 CV ha hb hi
    go_enter Try.func18, Try.ntmps18
    go_wp2_with fail
    rw [← hw0]
    clear hw0
    refine CW.out.mono ?_
    rintro e w1 ⟨rfl, hb⟩
    obtain ⟨p0, p1, p2⟩ := (B0.out.below hb).cells3
    obtain ⟨s0, s1, s2⟩ := (B1.out.below hb).cells3
    have K1 := Lib.hid hb
    clear hb
    go_wp2_with fail
    refine (CI.out _ K1.out).mono ?_
    rintro e w2 ⟨rfl, hb⟩
    have K2 := Lib.hid hb
    clear hb p0 p1 p2 s0 s1 s2
    go_wp2_with fail
    obtain ⟨w3, hw3⟩ : ∃ w3 : World, w3 = (w2.alloc (box a 29)).alloc (box b 29) := ⟨_, rfl⟩
    rw [← hw3]
    have k3 : Below w0.heap.size w0 w3 := by rw [hw3]; exact after K2.out (after (al _ _) (al _ _))
    have d0 : Blk w3 w2.heap.size 29 #[.int .i64 a.kind, .bool a.tilde, .int .i64 a.type] := by rw [hw3]; exact (Blk.new _ _ _).alloc _
    have d1 : Blk w3 (w2.heap.size + 1) 29 #[.int .i64 b.kind, .bool b.tilde, .int .i64 b.type] := by rw [hw3]; have := Blk.new (w2.alloc (box a 29)) 29 #[.int .i64 b.kind, .bool b.tilde, .int .i64 b.type]; simpa using this
    have HS := Lib.hid (fun w' (h : Below w3.heap.size w3 w') => (by
      obtain ⟨p0, p1, p2⟩ := ((B0.out.below k3).below h).cells3
      obtain ⟨s0, s1, s2⟩ := ((B1.out.below k3).below h).cells3
      obtain ⟨t0, t1, t2⟩ := (d0.below h).cells3
      obtain ⟨u0, u1, u2⟩ := (d1.below h).cells3
      exact ⟨⟨p0, p1, p2⟩, ⟨s0, s1, s2⟩, ⟨t0, t1, t2⟩, ⟨u0, u1, u2⟩⟩ : (w'.cell? ⟨w.heap.size, 0, none⟩ = some (.int .i64 x.kind) ∧ w'.cell? ⟨w.heap.size, 1, none⟩ = some (.bool x.tilde) ∧ w'.cell? ⟨w.heap.size, 2, none⟩ = some (.int .i64 x.type)) ∧ (w'.cell? ⟨w.heap.size + 1, 0, none⟩ = some (.int .i64 y.kind) ∧ w'.cell? ⟨w.heap.size + 1, 1, none⟩ = some (.bool y.tilde) ∧ w'.cell? ⟨w.heap.size + 1, 2, none⟩ = some (.int .i64 y.type)) ∧ (w'.cell? ⟨w2.heap.size, 0, none⟩ = some (.int .i64 a.kind) ∧ w'.cell? ⟨w2.heap.size, 1, none⟩ = some (.bool a.tilde) ∧ w'.cell? ⟨w2.heap.size, 2, none⟩ = some (.int .i64 a.type)) ∧ (w'.cell? ⟨w2.heap.size + 1, 0, none⟩ = some (.int .i64 b.kind) ∧ w'.cell? ⟨w2.heap.size + 1, 1, none⟩ = some (.bool b.tilde) ∧ w'.cell? ⟨w2.heap.size + 1, 2, none⟩ = some (.int .i64 b.type))))
    have HR3 := Lib.hid (fun w' (hb : Below w3.heap.size w3 w') => (HR.out w3 k3).below hb)
    have R1 := Lib.hid (Below.refl w3.heap.size w3)
    have CV2 : Hid (∀ (D : Option Addr) (d : Nat) (E : Option Addr) (g : Nat) w', Below w3.heap.size w3 w' → Rd w' D (tcs [a]) → Rd w' E (tcs [b]) → Calls Try.prog 33 #[.slice A us.length c, .slice (some ⟨w'.heap.size, 0, none⟩) 2 2] (w'.alloc (.cells #[.slice D 1 d, .slice E 1 g] 23)) fun e w'' => e = .returned (.bool true) ∧ Below w3.heap.size w3 w'') := Lib.hid fun D d E g w' hb h1 h2 => by
      have hs : ∀ s ∈ ([⟨D, d, [a]⟩, ⟨E, g, [b]⟩] : List Sl), s.ok (w'.alloc (.cells #[.slice D 1 d, .slice E 1 g] 23)) := by
        intro s hs
        simp only [List.mem_cons, List.not_mem_nil, or_false] at hs
        rcases hs with rfl | rfl
        · exact ⟨h1.below (al _ _), by simp⟩
        · exact ⟨h2.below (al _ _), by simp⟩
      have hb' := hb.alloc hb.size (.cells #[.slice D 1 d, .slice E 1 g] 23)
      have h := comp (valid_any us A c (some ⟨w'.heap.size, 0, none⟩) 2 [⟨D, d, [a]⟩, ⟨E, g, [b]⟩] (w'.alloc (.cells #[.slice D 1 d, .slice E 1 g] 23)) hl (by simp) (HR3.out _ hb') (rd_blk (Blk.new _ _ _)) hs) hb' (Nat.le_refl _)
      rw [vls_vx (b := true) (by show VX us [[a], [b]] = true; unfold VX; simp [vb_of (vx_wb2 G.out) (ts := [a]) (by simp [HA.out]), vb_of (vx_wb2 G.out) (ts := [b]) (by simp [HB.out]), vx_wb2 G.out])] at h
      exact h
    have C2 : Hid (∀ (F : Option Addr) (D : Option Addr) (d : Nat) (E : Option Addr) (g : Nat) w', Below w3.heap.size w3 w' → Rd w' F (tcs [a, b]) → Rd w' D (tcs [x]) → Rd w' E (tcs [y]) → Calls Try.prog 58 #[.slice A us.length c, .slice F 2 2, .slice D 1 d, .slice E 1 g] w' fun e w'' => e = .returned (.bool true) ∧ Below w3.heap.size w3 w'') := Lib.hid fun F D d E g w' hb h0 h1 h2 => by
      have h := comp (isunion_any us A c D d [x] E g [y] F 2 [a, b] w' hl (by simp) (by simp) (by simp) HW.out (HR3.out w' hb) h1 h2 h0 (by simp [HX.out]) (by simp [HY.out]) (by simp [HA.out, HB.out])) hb (Nat.le_refl _)
      rw [show isUnionS us (terms [a, b]) (terms [x]) (terms [y]) = true from HI.out] at h
      exact h
    have C3 := Lib.hid (fun w' (hb : Below w3.heap.size w3 w') => comp (works_call w') hb (Nat.le_refl _))
    have CL := Lib.hid (fun (z : Tm) w' (hb : Below w3.heap.size w3 w') => (list_call z w').mono fun e w'' h => (by obtain ⟨D, d, he, hd, hb2⟩ := h; exact ⟨D, d, he, hd, hb2, after hb hb2⟩ : ∃ D d, e = .returned (.slice D 1 d) ∧ Rd w'' D (tcs [z]) ∧ Below w'.heap.size w' w'' ∧ Below w3.heap.size w3 w''))
    have RB : Hid (∀ w' : World, Rd (w'.alloc (.cells #[.int .i64 a.kind, .bool a.tilde, .int .i64 a.type, .int .i64 b.kind, .bool b.tilde, .int .i64 b.type] 29)) (some ⟨w'.heap.size, 0, none⟩) (tcs [a, b])) := Lib.hid fun w' => rd_blk (Blk.new _ _ _)
    have K3 := Lib.hid k3
    clear k3 d0 d1 hw3
    go_region_held3 (fun w' => (w'.cell? ⟨w.heap.size, 0, none⟩ = some (.int .i64 x.kind) ∧ w'.cell? ⟨w.heap.size, 1, none⟩ = some (.bool x.tilde) ∧ w'.cell? ⟨w.heap.size, 2, none⟩ = some (.int .i64 x.type)) ∧ (w'.cell? ⟨w.heap.size + 1, 0, none⟩ = some (.int .i64 y.kind) ∧ w'.cell? ⟨w.heap.size + 1, 1, none⟩ = some (.bool y.tilde) ∧ w'.cell? ⟨w.heap.size + 1, 2, none⟩ = some (.int .i64 y.type)) ∧ (w'.cell? ⟨w2.heap.size, 0, none⟩ = some (.int .i64 a.kind) ∧ w'.cell? ⟨w2.heap.size, 1, none⟩ = some (.bool a.tilde) ∧ w'.cell? ⟨w2.heap.size, 2, none⟩ = some (.int .i64 a.type)) ∧ (w'.cell? ⟨w2.heap.size + 1, 0, none⟩ = some (.int .i64 b.kind) ∧ w'.cell? ⟨w2.heap.size + 1, 1, none⟩ = some (.bool b.tilde) ∧ w'.cell? ⟨w2.heap.size + 1, 2, none⟩ = some (.int .i64 b.type)))
      (first | exact HS.out _ R1.out.drew | exact HS.out _ (by assumption) | exact HS.out _ (Below.alloc (by assumption) (Below.size (by assumption)) _))
      (first | (go_at_call 36; (with_reducible refine (CL.out a _ R1.out.drew).mono ?_); rintro e w5 ⟨D5, d5, rfl, hp5, hb5, hc5⟩) | (go_at_call 36; (with_reducible refine (CL.out b _ (by assumption)).mono ?_); rintro e w6 ⟨D6, d6, rfl, hp6, hb6, hc6⟩) | (go_at_call 33; (with_reducible refine (CV2.out _ _ _ _ _ hc6 (hp5.below hb6) hp6).mono ?_); clear hb5 hb6 hc5 hc6 hp5 hp6; rintro e w4 ⟨rfl, hc4⟩) | (go_at_call 36; (with_reducible refine (CL.out x _ (by assumption)).mono ?_); rintro e w7 ⟨D7, d7, rfl, hp7, hb7, hc7⟩) | (go_at_call 36; (with_reducible refine (CL.out x _ (Below.alloc (by assumption) (Below.size (by assumption)) _)).mono ?_); rintro e w7 ⟨D7, d7, rfl, hp7, hb7, hc7⟩) | (go_at_call 36; (with_reducible refine (CL.out y _ (by assumption)).mono ?_); rintro e w8 ⟨D8, d8, rfl, hp8, hb8, hc8⟩) | (go_at_call 36; (with_reducible refine (CL.out y _ (Below.alloc (by assumption) (Below.size (by assumption)) _)).mono ?_); rintro e w8 ⟨D8, d8, rfl, hp8, hb8, hc8⟩) | (go_at_call 58; (with_reducible refine (C2.out _ _ _ _ _ _ hc8 (((RB.out w4).below hb7).below hb8) (hp7.below hb8) hp8).mono ?_); rintro e w9 ⟨rfl, hc9⟩) | (go_at_call 58; (with_reducible refine (C2.out _ _ _ _ _ _ hc8 ((RB.out w7).below hb8) ((hp7.below (al _ _)).below hb8) hp8).mono ?_); rintro e w9 ⟨rfl, hc9⟩) | (go_at_call 58; (with_reducible refine (C2.out _ _ _ _ _ _ (hc8.alloc hc8.size _) (RB.out w8) ((hp7.below hb8).below (al _ _)) (hp8.below (al _ _))).mono ?_); rintro e w9 ⟨rfl, hc9⟩) | (go_at_call 38; (with_reducible refine (C3.out _ (by assumption)).mono ?_); rintro e w10 ⟨rfl, hc10⟩))
    all_goals
      have hf := Lib.hid hc10
      clear hc4 hb7 hp7 hc7 hb8 hp8 hc8 hc9 hc10
      go_wp2_with fail
      go_ret
      exact ⟨rfl, after A0.out (after K3.out hf.out)⟩

theorem fnTermUnion_contract (H : Type) (enc : TypeId × Value → H) (W : World) (base : Nat) (args : Array Value) (ds gs : List (DataW H)) (before : List MemPlace)
    (hval : ∀ (j : Nat) t v, Try.f18.params[j]? = some t → args[j]? = some v → Value.okWide Try.prog W .any base t v)
    (hW : DataW.Whole enc Try.prog Try.f18.params.toList Rows.fnTermUnionSpec.vars false W args.toList ds gs before) :
    Calls Try.prog 18 args W fun e W' => ∃ v, e = .returned v ∧ Rows.fnTermUnionSpec.post enc Try.prog Try.f18 false true false false W args v W' := by
  have hW' := hW
  obtain ⟨p, q, hA0, hV, rfl, hfz, hnd⟩ := hW
  have hA : DataW.TrodAll enc Try.prog W 0 (fun _ => true) true Try.f18.params.toList args.toList ds p := hA0
  rw [Try.params18] at hA hval
  obtain ⟨v0, vs0, d0, ds0, p0, q0, hargs, rfl, rfl, h0, r0⟩ := trodAll_cons hA
  obtain ⟨v1, vs1, d1, ds1, p1, q1, rfl, rfl, rfl, h1, r1⟩ := trodAll_cons r0
  obtain ⟨v2, vs2, d2, ds2, p2, q2, rfl, rfl, rfl, h2, r2⟩ := trodAll_cons r1
  obtain ⟨rfl, rfl, rfl⟩ := trodAll_nil r2
  obtain rfl : args = #[v0, v1, v2] := by cases args; simp_all
  obtain ⟨rfl, rfl⟩ := trodVars_none hV
  have k0 := h0
  have lt0 : ∀ x ∈ p0, x.block < W.heap.size := by obtain ⟨m, hm⟩ := k0; exact DataW.trod_lt m _ _ _ hm
  obtain ⟨A0, l0, c0, rfl, rd0, bd0⟩ := open_us (hval 0 22 v0 rfl rfl) h0
  have k1 := h1
  have lt1 : ∀ x ∈ p1, x.block < W.heap.size := by obtain ⟨m, hm⟩ := k1; exact DataW.trod_lt m _ _ _ hm
  obtain ⟨x1, rfl⟩ := open_tm (hval 1 29 v1 rfl rfl) h1
  have k2 := h2
  have lt2 : ∀ x ∈ p2, x.block < W.heap.size := by obtain ⟨m, hm⟩ := k2; exact DataW.trod_lt m _ _ _ hm
  obtain ⟨x2, rfl⟩ := open_tm (hval 2 29 v2 rfl rfl) h2
  clear hA0
  refine (walk18 l0 A0 c0 x1 x2 W rd0).mono fun e W' ⟨he, bel⟩ => ?_
  subst he
  exact ⟨_, rfl, _, _, _, [], _, [], hW', trodAll_mk1 (shut_bool Try.underlying4 _), (trodAll_cons_mk (Below.trod Try.laidOut (by kernel_rfl) (of_decide_eq_true (by kernel_rfl)) k0 bel lt0) (trodAll_cons_mk (Below.trod Try.laidOut (by kernel_rfl) (of_decide_eq_true (by kernel_rfl)) k1 bel lt1) (trodAll_cons_mk (Below.trod Try.laidOut (by kernel_rfl) (of_decide_eq_true (by kernel_rfl)) k2 bel lt2) trodAll_mk0))), rfl, bel.frame _, fun h => by cases h⟩

set_option maxRecDepth 100000 in
theorem fnTermUnion_lifted (os : Os) (started : os.Started) (H : Type) (enc : TypeId × Value → H) :
    ReturnsInHanded {} Try.checked os 18 .any (Rows.fnTermUnionSpec.pre6 enc Try.prog Try.f18 Rows.fnTermUnionRow.domain false) (Rows.fnTermUnionSpec.post enc Try.prog Try.f18 false true false false) := by
  refine returnsInHanded_of_change (C := Try.checked) Try.own started (by kernel_rfl) Try.func18
    (ChangeSpec.witness6 (enc := enc) (C := Try.checked) false ⟨#[], #[.slice none 0 0, .agg #[.int .i64 0, .bool false, .int .i64 0], .agg #[.int .i64 0, .bool false, .int .i64 0]], []⟩ 8 (by kernel_rfl) (by kernel_rfl) (by kernel_rfl) (by kernel_rfl)) ?_
  intro W base args ds gs before hval hW _ _
  exact fnTermUnion_contract H enc W base args ds gs before hval hW

theorem fnTermUnion_closed : joinedFacts Try.prog 18 Try.f18 Rows.fnTermUnionSpec Rows.fnTermUnionRow = true := closed_of (by kernel_rfl)

theorem fnTermUnion_holds : Rows.FnTermUnionSaid :=
  OpenClaim.holds_of_wide 18 Try.f18 rfl rfl rfl rfl rfl rfl rfl ⟨rfl, rfl, rfl, rfl, rfl⟩ rfl rfl rfl rfl rfl (by as_aux_lemma => kernel_rfl) Try.func18 fnTermUnion_closed
    (of_decide_eq_true (by as_aux_lemma => kernel_rfl)) (by as_aux_lemma => (unfold Func.isWrapper; first | (rw [if_pos (by decide +kernel)]; kernel_rfl) | (rw [if_neg (by decide +kernel)]; exact ⟨rfl, rfl⟩)))
    (fun os started H enc _ => fnTermUnion_lifted os started H enc)
end Go.Proofs.Ytehadfnaknpagaa
