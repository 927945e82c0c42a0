/-
  PROVED HERE: FnTermDisjoint: two terms of types are disjoint exactly if no type is in both. Conditions: none.
-/
import Derived.Test.YtehadfnaknpagaaXd
namespace Go.Proofs.Ytehadfnaknpagaa
open Go.ChangeShapes Go.WideShapes Go.ChangeAt Go.RowKit Pl

set_option linter.unusedSimpArgs false in
set_option maxHeartbeats 4000000 in
theorem walk9 (us : List Int) (A : Option Addr) (c : Nat) (x y : Tm) (w : World) (hr : Rd w A (ints us)) :
    Calls Try.prog 9 #[.slice A us.length c, tmv x, tmv y] w fun e w' => e = .returned (.bool true) ∧ Below w.heap.size w w' := by
  by_cases q0 : 2147483647 < us.length
  · go_enter Try.func9, Try.ntmps9
    go_wp2_with fail
    go_ret
    exact ⟨rfl, after (al _ _) (al _ _)⟩
  have hl : us.length ≤ 2147483647 := by omega
  obtain ⟨w0, hw0⟩ : ∃ w0 : World, w0 = (w.alloc (.cells #[.int .i64 2, .bool x.tilde, .int .i64 x.type] 29)).alloc (.cells #[.int .i64 2, .bool y.tilde, .int .i64 y.type] 29) := ⟨_, rfl⟩
  have a0 : Below w.heap.size w w0 := by rw [hw0]; exact after (al _ _) (al _ _)
  have b0 : Blk w0 w.heap.size 29 #[.int .i64 2, .bool x.tilde, .int .i64 x.type] := by rw [hw0]; exact (Blk.new _ _ _).alloc _
  have b1 : Blk w0 (w.heap.size + 1) 29 #[.int .i64 2, .bool y.tilde, .int .i64 y.type] := by rw [hw0]; have := Blk.new (w.alloc (.cells #[.int .i64 2, .bool x.tilde, .int .i64 x.type] 29)) 29 #[.int .i64 2, .bool y.tilde, .int .i64 y.type]; simpa using this
  have HS := Lib.hid (fun w' (h : Below w0.heap.size w0 w') => (by
    obtain ⟨p0, p1, p2⟩ := (b0.below h).cells3
    obtain ⟨s0, s1, s2⟩ := (b1.below h).cells3
    exact ⟨p0, p1, p2, s0, s1, s2⟩ : w'.cell? ⟨w.heap.size, 0, none⟩ = some (.int .i64 2) ∧ w'.cell? ⟨w.heap.size, 1, none⟩ = some (.bool x.tilde) ∧ w'.cell? ⟨w.heap.size, 2, none⟩ = some (.int .i64 x.type) ∧ w'.cell? ⟨w.heap.size + 1, 0, none⟩ = some (.int .i64 2) ∧ w'.cell? ⟨w.heap.size + 1, 1, none⟩ = some (.bool y.tilde) ∧ w'.cell? ⟨w.heap.size + 1, 2, none⟩ = some (.int .i64 y.type)))
  have hr0 : ∀ w', Below w0.heap.size w0 w' → Rd w' A (ints us) := fun w' h => (hr.below a0).below h
  have A0 := Lib.hid a0
  have R1 := Lib.hid (Below.refl w0.heap.size w0)
  have CV : Calls Try.prog 40 #[.slice A us.length c, .slice (some ⟨w0.heap.size, 0, none⟩) 2 2] (w0.alloc (.cells #[.int .i64 2, .bool x.tilde, .int .i64 x.type, .int .i64 2, .bool y.tilde, .int .i64 y.type] 29)).drew fun e w'' => e = .returned (.bool (VB us [⟨2, x.tilde, x.type⟩, ⟨2, y.tilde, y.type⟩])) ∧ Below w0.heap.size w0 w'' := by
    have h' := ((Below.refl w0.heap.size w0).alloc (Nat.le_refl _) (.cells #[.int .i64 2, .bool x.tilde, .int .i64 x.type, .int .i64 2, .bool y.tilde, .int .i64 y.type] 29)).drew
    exact comp (specvalid_any us A c (some ⟨w0.heap.size, 0, none⟩) 2 [⟨2, x.tilde, x.type⟩, ⟨2, y.tilde, y.type⟩] _ hl (by simp) (hr0 _ h') ((rd_blk (Blk.new _ _ _)).below (Below.refl _ _).drew)) h' (Nat.le_refl _)
  cases hv : VB us [⟨2, x.tilde, x.type⟩, ⟨2, y.tilde, y.type⟩] with
  | false =>
    rw [hv] at CV
    have CV := Lib.hid CV
    clear hv hr0 hr a0 b0 b1
    go_enter Try.func9, Try.ntmps9
    go_wp2_with fail
    rw [← hw0]
    clear hw0
    refine wp_region_noPanic ?_
    refine wp_region_held_drew (S := (fun w' => w'.cell? ⟨w.heap.size, 0, none⟩ = some (.int .i64 2) ∧ w'.cell? ⟨w.heap.size, 1, none⟩ = some (.bool x.tilde) ∧ w'.cell? ⟨w.heap.size, 2, none⟩ = some (.int .i64 x.type) ∧ w'.cell? ⟨w.heap.size + 1, 0, none⟩ = some (.int .i64 2) ∧ w'.cell? ⟨w.heap.size + 1, 1, none⟩ = some (.bool y.tilde) ∧ w'.cell? ⟨w.heap.size + 1, 2, none⟩ = some (.int .i64 y.type))) (by kernel_rfl) ?_ (fun hHeld => ?_)
    · exact HS.out _ R1.out.drew
    refine takeH (i := 0) (v := ?_) 12 rfl rfl (by kernel_rfl) (by kernel_rfl) (by kernel_rfl) (fun _ _ _ h => h) (Or.inl ⟨by rfl, ?_⟩) (by assumption) ?_
    rotate_left
    · (intro w' hSw; (try dsimp only at hSw); go_simp; try with_reducible rfl)
    try simp only [Act.put, List.setIfInBounds_toArray, List.set_cons_zero, List.set_cons_succ]
    refine takeH (i := 1) (v := ?_) 13 rfl rfl (by kernel_rfl) (by kernel_rfl) (by kernel_rfl) (fun _ _ _ h => h) (Or.inl ⟨by rfl, ?_⟩) (by assumption) ?_
    rotate_left
    · (intro w' hSw; (try dsimp only at hSw); go_simp; try with_reducible rfl)
    try simp only [Act.put, List.setIfInBounds_toArray, List.set_cons_zero, List.set_cons_succ]
    refine takeH (i := 2) (v := ?_) 14 rfl rfl (by kernel_rfl) (by kernel_rfl) (by kernel_rfl) (fun _ _ _ h => h) (Or.inl ⟨by rfl, ?_⟩) (by assumption) ?_
    rotate_left
    · (intro w' hSw; (try dsimp only at hSw); go_simp; try with_reducible rfl)
    try simp only [Act.put, List.setIfInBounds_toArray, List.set_cons_zero, List.set_cons_succ]
    refine wpAnyH_ready (rs := [3]) (by kernel_rfl) (by simp) ?_
    refine AllReadyH.cons rfl (fun K hK => ?_) AllReadyH.nil
    go_simp
    refine hK.out _ _ ?_ (fun hHeld => ?_)
    · exact HS.out _ (R1.out.alloc (Nat.le_refl _) _).drew
    clear hK K
    try simp only [Act.put, List.setIfInBounds_toArray, List.set_cons_zero, List.set_cons_succ]
    refine wpAnyH_ready (rs := [4]) (by kernel_rfl) (by simp) ?_
    refine AllReadyH.cons rfl (fun K hK => ?_) AllReadyH.nil
    go_simp
    refine CV.out.mono ?_
    rintro e w2 ⟨rfl, hc2⟩
    go_wp2_with fail
    refine hK.out _ _ ?_ (fun hHeld => ?_)
    · exact HS.out _ hc2
    clear hK K
    try simp only [Act.put, List.setIfInBounds_toArray, List.set_cons_zero, List.set_cons_succ]
    refine takeH (i := 5) (v := ?_) 17 rfl rfl (by kernel_rfl) (by kernel_rfl) (by kernel_rfl) (fun _ _ _ h => h) (Or.inl ⟨by rfl, ?_⟩) (by assumption) ?_
    rotate_left
    · (intro w' hSw; (try dsimp only at hSw); go_simp; try with_reducible rfl)
    try simp only [Act.put, List.setIfInBounds_toArray, List.set_cons_zero, List.set_cons_succ]
    refine takeH (i := 6) (v := ?_) 18 rfl rfl (by kernel_rfl) (by kernel_rfl) (by kernel_rfl) (fun _ _ _ h => h) (Or.inl ⟨by rfl, ?_⟩) (by assumption) ?_
    rotate_left
    · (intro w' hSw; (try dsimp only at hSw); go_simp; try with_reducible rfl)
    try simp only [Act.put, List.setIfInBounds_toArray, List.set_cons_zero, List.set_cons_succ]
    refine takeH (i := 7) (v := undef) 19 rfl rfl (by kernel_rfl) (by kernel_rfl) (by kernel_rfl) (fun _ _ _ h => h) (Or.inr ⟨by kernel_rfl, rfl⟩) (by assumption) ?_
    try simp only [Act.put, List.setIfInBounds_toArray, List.set_cons_zero, List.set_cons_succ]
    refine takeH (i := 8) (v := undef) 20 rfl rfl (by kernel_rfl) (by kernel_rfl) (by kernel_rfl) (fun _ _ _ h => h) (Or.inr ⟨by kernel_rfl, rfl⟩) (by assumption) ?_
    try simp only [Act.put, List.setIfInBounds_toArray, List.set_cons_zero, List.set_cons_succ]
    refine takeH (i := 9) (v := undef) 21 rfl rfl (by kernel_rfl) (by kernel_rfl) (by kernel_rfl) (fun _ _ _ h => h) (Or.inr ⟨by kernel_rfl, rfl⟩) (by assumption) ?_
    try simp only [Act.put, List.setIfInBounds_toArray, List.set_cons_zero, List.set_cons_succ]
    refine takeH (i := 10) (v := undef) 22 rfl rfl (by kernel_rfl) (by kernel_rfl) (by kernel_rfl) (fun _ _ _ h => h) (Or.inr ⟨by kernel_rfl, rfl⟩) (by assumption) ?_
    try simp only [Act.put, List.setIfInBounds_toArray, List.set_cons_zero, List.set_cons_succ]
    refine takeH (i := 11) (v := undef) 23 rfl rfl (by kernel_rfl) (by kernel_rfl) (by kernel_rfl) (fun _ _ _ h => h) (Or.inr ⟨by kernel_rfl, rfl⟩) (by assumption) ?_
    try simp only [Act.put, List.setIfInBounds_toArray, List.set_cons_zero, List.set_cons_succ]
    refine takeH (i := 12) (v := undef) 24 rfl rfl (by kernel_rfl) (by kernel_rfl) (by kernel_rfl) (fun _ _ _ h => h) (Or.inr ⟨by kernel_rfl, rfl⟩) (by assumption) ?_
    try simp only [Act.put, List.setIfInBounds_toArray, List.set_cons_zero, List.set_cons_succ]
    refine takeH (i := 13) (v := undef) 25 rfl rfl (by kernel_rfl) (by kernel_rfl) (by kernel_rfl) (fun _ _ _ h => h) (Or.inr ⟨by kernel_rfl, rfl⟩) (by assumption) ?_
    try simp only [Act.put, List.setIfInBounds_toArray, List.set_cons_zero, List.set_cons_succ]
    refine takeH (i := 14) (v := undef) 26 rfl rfl (by kernel_rfl) (by kernel_rfl) (by kernel_rfl) (fun _ _ _ h => h) (Or.inr ⟨by kernel_rfl, rfl⟩) (by assumption) ?_
    try simp only [Act.put, List.setIfInBounds_toArray, List.set_cons_zero, List.set_cons_succ]
    refine takeH (i := 15) (v := undef) 27 rfl rfl (by kernel_rfl) (by kernel_rfl) (by kernel_rfl) (fun _ _ _ h => h) (Or.inr ⟨by kernel_rfl, rfl⟩) (by assumption) ?_
    try simp only [Act.put, List.setIfInBounds_toArray, List.set_cons_zero, List.set_cons_succ]
    refine takeH (i := 16) (v := undef) 28 rfl rfl (by kernel_rfl) (by kernel_rfl) (by kernel_rfl) (fun _ _ _ h => h) (Or.inr ⟨by kernel_rfl, rfl⟩) (by assumption) ?_
    try simp only [Act.put, List.setIfInBounds_toArray, List.set_cons_zero, List.set_cons_succ]
    refine takeH (i := 17) (v := undef) 29 rfl rfl (by kernel_rfl) (by kernel_rfl) (by kernel_rfl) (fun _ _ _ h => h) (Or.inr ⟨by kernel_rfl, rfl⟩) (by assumption) ?_
    try simp only [Act.put, List.setIfInBounds_toArray, List.set_cons_zero, List.set_cons_succ]
    refine takeH (i := 18) (v := undef) 30 rfl rfl (by kernel_rfl) (by kernel_rfl) (by kernel_rfl) (fun _ _ _ h => h) (Or.inr ⟨by kernel_rfl, rfl⟩) (by assumption) ?_
    try simp only [Act.put, List.setIfInBounds_toArray, List.set_cons_zero, List.set_cons_succ]
    refine takeH (i := 19) (v := ?_) 31 rfl rfl (by kernel_rfl) (by kernel_rfl) (by kernel_rfl) (fun _ _ _ h => h) (Or.inl ⟨by rfl, ?_⟩) (by assumption) ?_
    rotate_left
    · (intro w' hSw; (try dsimp only at hSw); go_simp; try with_reducible rfl)
    try simp only [Act.put, List.setIfInBounds_toArray, List.set_cons_zero, List.set_cons_succ]
    refine takeH (i := 20) (v := ?_) 6 rfl rfl (by kernel_rfl) (by kernel_rfl) (by kernel_rfl) (fun _ _ _ h => h) (Or.inl ⟨by rfl, ?_⟩) (by assumption) ?_
    rotate_left
    · (intro w' hSw; (try dsimp only at hSw); go_simp; try with_reducible rfl)
    try simp only [Act.put, List.setIfInBounds_toArray, List.set_cons_zero, List.set_cons_succ]
    refine wpAnyH_done (by kernel_rfl) ?_ _
    refine NoPanic.normal ?_
    have hf := Lib.hid hc2
    clear hc2
    go_wp2_with fail
    go_ret
    exact ⟨rfl, after A0.out hf.out⟩
  | true =>
    rw [hv] at CV
    have CV := Lib.hid CV
    obtain ⟨hw, hx, hy⟩ := vb_two hv
    have C1 := Lib.hid (fun w' (hb : Below w0.heap.size w0 w') => comp (itdisj_call us A c ⟨2, x.tilde, x.type⟩ ⟨2, y.tilde, y.type⟩ w' hl hw (hr0 w' hb) hx hy rfl rfl) hb (Nat.le_refl _))
    have C2 : Hid (∀ w', Below w0.heap.size w0 w' → Calls Try.prog 50 #[.slice A us.length c, tmv ⟨2, x.tilde, x.type⟩, tmv ⟨2, y.tilde, y.type⟩] w' fun e w'' => e = .returned (.bool (disj us (toT ⟨2, x.tilde, x.type⟩) (toT ⟨2, y.tilde, y.type⟩))) ∧ Below w0.heap.size w0 w'') := Lib.hid fun w' hb => by
      have h := comp (disjs_any us A c w' ⟨2, x.tilde, x.type⟩ ⟨2, y.tilde, y.type⟩ hl hw (hr0 w' hb) hx hy) hb (Nat.le_refl _)
      rw [← show disj us (toT ⟨2, x.tilde, x.type⟩) (toT ⟨2, y.tilde, y.type⟩) = disjS us (toT ⟨2, x.tilde, x.type⟩) (toT ⟨2, y.tilde, y.type⟩) from disjS_disj hw (tok_of hx) (tok_of hy)] at h
      exact h
    have C3 := Lib.hid (fun w' (hb : Below w0.heap.size w0 w') => comp (works_call w') hb (Nat.le_refl _))
    clear hr0 hr a0 b0 b1 hw hx hy hv
    go_enter Try.func9, Try.ntmps9
    go_wp2_with fail
    rw [← hw0]
    clear hw0
    go_region_held3 (fun w' => w'.cell? ⟨w.heap.size, 0, none⟩ = some (.int .i64 2) ∧ w'.cell? ⟨w.heap.size, 1, none⟩ = some (.bool x.tilde) ∧ w'.cell? ⟨w.heap.size, 2, none⟩ = some (.int .i64 x.type) ∧ w'.cell? ⟨w.heap.size + 1, 0, none⟩ = some (.int .i64 2) ∧ w'.cell? ⟨w.heap.size + 1, 1, none⟩ = some (.bool y.tilde) ∧ w'.cell? ⟨w.heap.size + 1, 2, none⟩ = some (.int .i64 y.type))
      (first | exact HS.out _ R1.out.drew | exact HS.out _ (by assumption) | exact HS.out _ (R1.out.alloc (Nat.le_refl _) _).drew)
      (first | (go_at_call 40; (with_reducible refine (CV.out).mono ?_); rintro e w2 ⟨rfl, hc2⟩) | (go_at_call 49; (with_reducible refine (C1.out _ (by assumption)).mono ?_); rintro e w3 ⟨rfl, hc3⟩) | (go_at_call 50; (with_reducible refine (C2.out _ (by assumption)).mono ?_); rintro e w4 ⟨rfl, hc4⟩) | (go_at_call 38; (with_reducible refine (C3.out _ (by assumption)).mono ?_); rintro e w7 ⟨rfl, hc7⟩))
    all_goals
      have hf := Lib.hid hc7
      clear hc2 hc3 hc4 hc7
      go_wp2_with fail
      go_ret
      exact ⟨rfl, after A0.out hf.out⟩

theorem fnTermDisjoint_contract (H : Type) (enc : TypeId × Value → H) (W : World) (base : Nat) (args : Array Value) (ds gs : List (DataW H)) (before : List MemPlace)
    (hval : ∀ (j : Nat) t v, Try.f9.params[j]? = some t → args[j]? = some v → Value.okWide Try.prog W .any base t v)
    (hW : DataW.Whole enc Try.prog Try.f9.params.toList Rows.fnTermDisjointSpec.vars false W args.toList ds gs before) :
    Calls Try.prog 9 args W fun e W' => ∃ v, e = .returned v ∧ Rows.fnTermDisjointSpec.post enc Try.prog Try.f9 false true false false W args v W' := by
  have hW' := hW
  obtain ⟨p, q, hA0, hV, rfl, hfz, hnd⟩ := hW
  have hA : DataW.TrodAll enc Try.prog W 0 (fun _ => true) true Try.f9.params.toList args.toList ds p := hA0
  rw [Try.params9] at hA hval
  obtain ⟨v0, vs0, d0, ds0, p0, q0, hargs, rfl, rfl, h0, r0⟩ := trodAll_cons hA
  obtain ⟨v1, vs1, d1, ds1, p1, q1, rfl, rfl, rfl, h1, r1⟩ := trodAll_cons r0
  obtain ⟨v2, vs2, d2, ds2, p2, q2, rfl, rfl, rfl, h2, r2⟩ := trodAll_cons r1
  obtain ⟨rfl, rfl, rfl⟩ := trodAll_nil r2
  obtain rfl : args = #[v0, v1, v2] := by cases args; simp_all
  obtain ⟨rfl, rfl⟩ := trodVars_none hV
  have k0 := h0
  have lt0 : ∀ x ∈ p0, x.block < W.heap.size := by obtain ⟨m, hm⟩ := k0; exact DataW.trod_lt m _ _ _ hm
  obtain ⟨A0, l0, c0, rfl, rd0, bd0⟩ := open_us (hval 0 22 v0 rfl rfl) h0
  have k1 := h1
  have lt1 : ∀ x ∈ p1, x.block < W.heap.size := by obtain ⟨m, hm⟩ := k1; exact DataW.trod_lt m _ _ _ hm
  obtain ⟨x1, rfl⟩ := open_tm (hval 1 29 v1 rfl rfl) h1
  have k2 := h2
  have lt2 : ∀ x ∈ p2, x.block < W.heap.size := by obtain ⟨m, hm⟩ := k2; exact DataW.trod_lt m _ _ _ hm
  obtain ⟨x2, rfl⟩ := open_tm (hval 2 29 v2 rfl rfl) h2
  clear hA0
  refine (walk9 l0 A0 c0 x1 x2 W rd0).mono fun e W' ⟨he, bel⟩ => ?_
  subst he
  exact ⟨_, rfl, _, _, _, [], _, [], hW', trodAll_mk1 (shut_bool Try.underlying4 _), (trodAll_cons_mk (Below.trod Try.laidOut (by kernel_rfl) (of_decide_eq_true (by kernel_rfl)) k0 bel lt0) (trodAll_cons_mk (Below.trod Try.laidOut (by kernel_rfl) (of_decide_eq_true (by kernel_rfl)) k1 bel lt1) (trodAll_cons_mk (Below.trod Try.laidOut (by kernel_rfl) (of_decide_eq_true (by kernel_rfl)) k2 bel lt2) trodAll_mk0))), rfl, bel.frame _, fun h => by cases h⟩

set_option maxRecDepth 100000 in
theorem fnTermDisjoint_lifted (os : Os) (started : os.Started) (H : Type) (enc : TypeId × Value → H) :
    ReturnsInHanded {} Try.checked os 9 .any (Rows.fnTermDisjointSpec.pre6 enc Try.prog Try.f9 Rows.fnTermDisjointRow.domain false) (Rows.fnTermDisjointSpec.post enc Try.prog Try.f9 false true false false) := by
  refine returnsInHanded_of_change (C := Try.checked) Try.own started (by kernel_rfl) Try.func9
    (ChangeSpec.witness6 (enc := enc) (C := Try.checked) false ⟨#[], #[.slice none 0 0, .agg #[.int .i64 0, .bool false, .int .i64 0], .agg #[.int .i64 0, .bool false, .int .i64 0]], []⟩ 8 (by kernel_rfl) (by kernel_rfl) (by kernel_rfl) (by kernel_rfl)) ?_
  intro W base args ds gs before hval hW _ _
  exact fnTermDisjoint_contract H enc W base args ds gs before hval hW

theorem fnTermDisjoint_closed : joinedFacts Try.prog 9 Try.f9 Rows.fnTermDisjointSpec Rows.fnTermDisjointRow = true := closed_of (by kernel_rfl)

theorem fnTermDisjoint_holds : Rows.FnTermDisjointSaid :=
  OpenClaim.holds_of_wide 9 Try.f9 rfl rfl rfl rfl rfl rfl rfl ⟨rfl, rfl, rfl, rfl, rfl⟩ rfl rfl rfl rfl rfl (by as_aux_lemma => kernel_rfl) Try.func9 fnTermDisjoint_closed
    (of_decide_eq_true (by as_aux_lemma => kernel_rfl)) (by as_aux_lemma => (unfold Func.isWrapper; first | (rw [if_pos (by decide +kernel)]; kernel_rfl) | (rw [if_neg (by decide +kernel)]; exact ⟨rfl, rfl⟩)))
    (fun os started H enc _ => fnTermDisjoint_lifted os started H enc)
end Go.Proofs.Ytehadfnaknpagaa
