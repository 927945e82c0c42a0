/-
  PROVED HERE: FnSupersetOf: a term is a subset of one term of a list. Conditions: none.
-/
import Derived.Test.YtehadfnaknpagaaXf
namespace Go.Proofs.Ytehadfnaknpagaa
open Go.ChangeShapes Go.WideShapes Go.ChangeAt Go.RowKit Pl

/-- a term is a part of another one, by the reference -/
def PS (us : List Int) (y z : T) : Bool := subS us [y] [z]

set_option linter.unusedSimpArgs false in
set_option maxHeartbeats 4000000 in
theorem walk15 (us : List Int) (A : Option Addr) (c : Nat) (xs : List Tm) (D_x : Option Addr) (d_x : Nat) (y : Tm) (w : World) (hr : Rd w A (ints us)) (hd_x : Rd w D_x (tcs xs)) :
    Calls Try.prog 15 #[.slice A us.length c, .slice D_x xs.length d_x, tmv y] w fun e w' => e = .returned (.bool true) ∧ Below w.heap.size w w' := by
  by_cases q0 : 2147483647 < us.length
  · go_enter Try.func15, Try.ntmps15
    go_wp2_with fail
    go_ret
    exact ⟨rfl, al _ _⟩
  by_cases q1 : 2147483647 < xs.length
  · go_enter Try.func15, Try.ntmps15
    go_wp2_with fail
    go_ret
    exact ⟨rfl, al _ _⟩
  have hl : us.length ≤ 2147483647 := by omega
  have l_x : xs.length ≤ 2147483647 := by omega
  obtain ⟨w0, hw0⟩ : ∃ w0 : World, w0 = w.alloc (box y 29) := ⟨_, rfl⟩
  have a0 : Below w.heap.size w w0 := by rw [hw0]; exact al _ _
  have b0 : Blk w0 w.heap.size 29 #[.int .i64 y.kind, .bool y.tilde, .int .i64 y.type] := by rw [hw0]; exact Blk.new _ _ _
  have Hr := Lib.hid (fun w' (h : Below w0.heap.size w0 w') => (hr.below a0).below h)
  have Hx := Lib.hid (fun w' (h : Below w0.heap.size w0 w') => (hd_x.below a0).below h)
  have A0 := Lib.hid a0
  have B0 := Lib.hid b0
  have R1 := Lib.hid (Below.refl w0.heap.size w0)
  have CL := Lib.hid (fun (z : Tm) w' (hb : Below w0.heap.size w0 w') => (list_call z w').mono fun e w'' h => (by obtain ⟨D, d, he, hd, hb2⟩ := h; exact ⟨D, d, he, hd, hb2, after hb hb2⟩ : ∃ D d, e = .returned (.slice D 1 d) ∧ Rd w'' D (tcs [z]) ∧ Below w'.heap.size w' w'' ∧ Below w0.heap.size w0 w''))
  have CV : ∀ (b : Bool), VX us [xs, [y]] = b → ∀ (D : Option Addr) (d : Nat) w', Below w0.heap.size w0 w' → Rd w' D (tcs [y]) → Calls Try.prog 33 #[.slice A us.length c, .slice (some ⟨w'.heap.size, 0, none⟩) 2 2] (w'.alloc (.cells #[.slice D_x xs.length d_x, .slice D 1 d] 23)) fun e w'' => e = .returned (.bool b) ∧ Below w0.heap.size w0 w'' := fun b hv D d w' hb h1 => by
    have hb' := hb.alloc hb.size (.cells #[.slice D_x xs.length d_x, .slice D 1 d] 23)
    have hs : ∀ s ∈ ([⟨D_x, d_x, xs⟩, ⟨D, d, [y]⟩] : List Sl), s.ok (w'.alloc (.cells #[.slice D_x xs.length d_x, .slice D 1 d] 23)) := by
      intro s hs
      simp only [List.mem_cons, List.not_mem_nil, or_false] at hs
      rcases hs with rfl | rfl
      · exact ⟨Hx.out _ hb', by dsimp only; omega⟩
      · exact ⟨h1.below (al _ _), by simp⟩
    have h := comp (valid_any us A c (some ⟨w'.heap.size, 0, none⟩) 2 [⟨D_x, d_x, xs⟩, ⟨D, d, [y]⟩] (w'.alloc (.cells #[.slice D_x xs.length d_x, .slice D 1 d] 23)) hl (by simp) (Hr.out _ hb') (rd_blk (Blk.new _ _ _)) hs) hb' (Nat.le_refl _)
    rw [vls_vx hv] at h
    exact h
  clear hr hd_x a0 b0
  cases hv : VX us [xs, [y]] with
  | false =>
    have CW := Lib.hid (CV false hv)
    clear hv CV
    go_enter Try.func15, Try.ntmps15
    go_wp2_with fail
    rw [← hw0]
    clear hw0
    refine (CL.out y _ R1.out).mono ?_
    rintro e w1 ⟨D1, d1, rfl, hp1, hb1, hc1⟩
    have P1 := Lib.hid hp1
    have K1 := Lib.hid hc1
    clear hp1 hb1 hc1
    go_wp2_with fail
    refine (CW.out D1 d1 w1 K1.out P1.out).mono ?_
    rintro e w2 ⟨rfl, hb2⟩
    have K2 := Lib.hid hb2
    clear hb2
    go_wp2_with fail
    go_ret
    exact ⟨rfl, after A0.out K2.out⟩
  | true =>
    have CW := Lib.hid (CV true hv)
    obtain ⟨hw, hs⟩ := vx_iff hv
    have tx := hs xs (by simp)
    have hy : TB us y = true := by have := hs [y] (by simp); simpa using this
    have HY := Lib.hid hy
    have HX := Lib.hid tx
    have HW := Lib.hid hw
    have E1 := Lib.hid (show ((terms xs).take xs.length).any (PS us (toT y)) = superL us (terms xs) (toT y) by rw [take_end]; exact (super_law hw (terms_ok tx) (tok_of hy)).symm)
    clear hv CV hw hs hy tx
    go_enter Try.func15, Try.ntmps15
    go_wp2_with fail
    rw [← hw0]
    clear hw0
    refine (CL.out y _ R1.out).mono ?_
    rintro e w1 ⟨D1, d1, rfl, hp1, hb1, hc1⟩
    have P1 := Lib.hid hp1
    have K1 := Lib.hid hc1
    clear hp1 hb1 hc1
    go_wp2_with fail
    refine (CW.out D1 d1 w1 K1.out P1.out).mono ?_
    rintro e w2 ⟨rfl, hb2⟩
    have K2 := Lib.hid hb2
    clear hb2
    go_wp2_with fail
    go_loopw [7, 27] (fun b i wr => ∃ k : Nat, k ≤ xs.length ∧ i = .int .i64 k ∧ b = .bool (((terms xs).take k).any (PS us (toT y))) ∧ Below w0.heap.size w0 wr) (fun _ i _ => xs.length - (intOf i).toNat)
    case atStart => exact ⟨0, Nat.zero_le _, rfl, rfl, K2.out⟩
    case round =>
      obtain ⟨k, hk, rfl, rfl, hb⟩ := hrel
      have KB := Lib.hid hb
      clear hb
      by_cases hlt : k < xs.length
      · obtain ⟨b, off, rfl, c0, c1, c2⟩ := (Hx.out _ KB.out).tm hlt
        obtain ⟨z, hz⟩ : ∃ z : Tm, z = xs[k] := ⟨_, rfl⟩
        have hsz := KB.out.size
        have N1 := Lib.hid (take_any (PS us (toT y)) hlt)
        have TZ := Lib.hid (show TB us xs[k] = true from List.all_eq_true.1 HX.out _ (List.getElem_mem hlt))
        rw [← hz] at c0 c1 c2 N1 TZ
        clear hz
        obtain ⟨w3, hw3⟩ : ∃ w3 : World, w3 = wr.alloc (box z 29) := ⟨_, rfl⟩
        have k3 : Below w0.heap.size w0 w3 := by rw [hw3]; exact KB.out.alloc KB.out.size _
        have d0 : Blk w3 wr.heap.size 29 #[.int .i64 z.kind, .bool z.tilde, .int .i64 z.type] := by rw [hw3]; exact Blk.new _ _ _
        have HS := Lib.hid (fun w' (h : Below w3.heap.size w3 w') => (by
          obtain ⟨p0, p1, p2⟩ := ((B0.out.below k3).below h).cells3
          obtain ⟨s0, s1, s2⟩ := (d0.below h).cells3
          exact ⟨⟨p0, p1, p2⟩, ⟨s0, s1, s2⟩⟩ : (w'.cell? ⟨w.heap.size, 0, none⟩ = some (.int .i64 y.kind) ∧ w'.cell? ⟨w.heap.size, 1, none⟩ = some (.bool y.tilde) ∧ w'.cell? ⟨w.heap.size, 2, none⟩ = some (.int .i64 y.type)) ∧ (w'.cell? ⟨wr.heap.size, 0, none⟩ = some (.int .i64 z.kind) ∧ w'.cell? ⟨wr.heap.size, 1, none⟩ = some (.bool z.tilde) ∧ w'.cell? ⟨wr.heap.size, 2, none⟩ = some (.int .i64 z.type))))
        have R3 := Lib.hid (Below.refl w3.heap.size w3)
        have K3 := Lib.hid k3
        have HW3 := Lib.hid hw3
        clear k3 d0 hw3
        cases h1 : ((terms xs).take k).any (PS us (toT y)) with
        | true =>
          have G1 := Lib.hid h1
          clear h1
          go_wp2_with fail
          rw [← HW3.out]
          refine wp_region_noPanic ?_
          refine wp_region_held_drew (S := (fun w' => (w'.cell? ⟨w.heap.size, 0, none⟩ = some (.int .i64 y.kind) ∧ w'.cell? ⟨w.heap.size, 1, none⟩ = some (.bool y.tilde) ∧ w'.cell? ⟨w.heap.size, 2, none⟩ = some (.int .i64 y.type)) ∧ (w'.cell? ⟨wr.heap.size, 0, none⟩ = some (.int .i64 z.kind) ∧ w'.cell? ⟨wr.heap.size, 1, none⟩ = some (.bool z.tilde) ∧ w'.cell? ⟨wr.heap.size, 2, none⟩ = some (.int .i64 z.type)))) (by kernel_rfl) ?_ (fun hHeld => ?_)
          · exact HS.out _ R3.out.drew
          refine takeH (i := 0) (v := ?_) 31 rfl rfl (by kernel_rfl) (by kernel_rfl) (by kernel_rfl) (fun _ _ _ h => h) (Or.inl ⟨by rfl, ?_⟩) (by assumption) ?_
          rotate_left
          · (intro w' hSw; (try dsimp only at hSw); go_simp; try with_reducible rfl)
          try simp only [Act.put, List.setIfInBounds_toArray, List.set_cons_zero, List.set_cons_succ]
          refine takeH (i := 1) (v := ?_) 32 rfl rfl (by kernel_rfl) (by kernel_rfl) (by kernel_rfl) (fun _ _ _ h => h) (Or.inl ⟨by rfl, ?_⟩) (by assumption) ?_
          rotate_left
          · (intro w' hSw; (try dsimp only at hSw); go_simp; try with_reducible rfl)
          try simp only [Act.put, List.setIfInBounds_toArray, List.set_cons_zero, List.set_cons_succ]
          refine takeH (i := 2) (v := undef) 33 rfl rfl (by kernel_rfl) (by kernel_rfl) (by kernel_rfl) (fun _ _ _ h => h) (Or.inr ⟨by kernel_rfl, rfl⟩) (by assumption) ?_
          try simp only [Act.put, List.setIfInBounds_toArray, List.set_cons_zero, List.set_cons_succ]
          refine takeH (i := 3) (v := undef) 34 rfl rfl (by kernel_rfl) (by kernel_rfl) (by kernel_rfl) (fun _ _ _ h => h) (Or.inr ⟨by kernel_rfl, rfl⟩) (by assumption) ?_
          try simp only [Act.put, List.setIfInBounds_toArray, List.set_cons_zero, List.set_cons_succ]
          refine takeH (i := 4) (v := undef) 35 rfl rfl (by kernel_rfl) (by kernel_rfl) (by kernel_rfl) (fun _ _ _ h => h) (Or.inr ⟨by kernel_rfl, rfl⟩) (by assumption) ?_
          try simp only [Act.put, List.setIfInBounds_toArray, List.set_cons_zero, List.set_cons_succ]
          refine takeH (i := 5) (v := undef) 36 rfl rfl (by kernel_rfl) (by kernel_rfl) (by kernel_rfl) (fun _ _ _ h => h) (Or.inr ⟨by kernel_rfl, rfl⟩) (by assumption) ?_
          try simp only [Act.put, List.setIfInBounds_toArray, List.set_cons_zero, List.set_cons_succ]
          refine takeH (i := 6) (v := undef) 37 rfl rfl (by kernel_rfl) (by kernel_rfl) (by kernel_rfl) (fun _ _ _ h => h) (Or.inr ⟨by kernel_rfl, rfl⟩) (by assumption) ?_
          try simp only [Act.put, List.setIfInBounds_toArray, List.set_cons_zero, List.set_cons_succ]
          refine takeH (i := 7) (v := undef) 38 rfl rfl (by kernel_rfl) (by kernel_rfl) (by kernel_rfl) (fun _ _ _ h => h) (Or.inr ⟨by kernel_rfl, rfl⟩) (by assumption) ?_
          try simp only [Act.put, List.setIfInBounds_toArray, List.set_cons_zero, List.set_cons_succ]
          refine takeH (i := 8) (v := ?_) 39 rfl rfl (by kernel_rfl) (by kernel_rfl) (by kernel_rfl) (fun _ _ _ h => h) (Or.inl ⟨by rfl, ?_⟩) (by assumption) ?_
          rotate_left
          · (intro w' hSw; (try dsimp only at hSw); go_simp; try with_reducible rfl)
          try simp only [Act.put, List.setIfInBounds_toArray, List.set_cons_zero, List.set_cons_succ]
          refine takeH (i := 9) (v := ?_) 7 rfl rfl (by kernel_rfl) (by kernel_rfl) (by kernel_rfl) (fun _ _ _ h => h) (Or.inl ⟨by rfl, ?_⟩) (by assumption) ?_
          rotate_left
          · (intro w' hSw; (try dsimp only at hSw); go_simp; try with_reducible rfl)
          try simp only [Act.put, List.setIfInBounds_toArray, List.set_cons_zero, List.set_cons_succ]
          refine wpAnyH_done (by kernel_rfl) ?_ _
          refine NoPanic.normal ?_
          go_wp2_with fail
          go_roundw
          case rel => exact ⟨k + 1, by omega, by go_num, by rw [N1.out, G1.out]; rfl, K3.out.drew⟩
          case measure => simp [intOf]; omega
        | false =>
          have G1 := Lib.hid h1
          clear h1
          have CM := Lib.hid (fun (u : Tm) w' (hb : Below w3.heap.size w3 w') => (list_call u w').mono fun e w'' h => (by obtain ⟨D, d, he, hd, hb2⟩ := h; exact ⟨D, d, he, hd, hb2, after hb hb2⟩ : ∃ D d, e = .returned (.slice D 1 d) ∧ Rd w'' D (tcs [u]) ∧ Below w'.heap.size w' w'' ∧ Below w3.heap.size w3 w''))
          have C2 : Hid (∀ (D : Option Addr) (d : Nat) (E : Option Addr) (g : Nat) w', Below w3.heap.size w3 w' → Rd w' D (tcs [y]) → Rd w' E (tcs [z]) → Calls Try.prog 35 #[.slice A us.length c, .slice D 1 d, .slice E 1 g] w' fun e w'' => e = .returned (.bool (PS us (toT y) (toT z))) ∧ Below w3.heap.size w3 w'') := Lib.hid fun D d E g w' hb h1 h2 =>
            comp (subset_any us A c D d [y] E g [z] w' hl (by simp) (by simp) HW.out (Hr.out _ (after K3.out hb)) h1 h2 (by simp [HY.out]) (by simp [TZ.out])) hb (Nat.le_refl _)
          go_wp2_with fail
          rw [← HW3.out]
          go_region_held3 (fun w' => (w'.cell? ⟨w.heap.size, 0, none⟩ = some (.int .i64 y.kind) ∧ w'.cell? ⟨w.heap.size, 1, none⟩ = some (.bool y.tilde) ∧ w'.cell? ⟨w.heap.size, 2, none⟩ = some (.int .i64 y.type)) ∧ (w'.cell? ⟨wr.heap.size, 0, none⟩ = some (.int .i64 z.kind) ∧ w'.cell? ⟨wr.heap.size, 1, none⟩ = some (.bool z.tilde) ∧ w'.cell? ⟨wr.heap.size, 2, none⟩ = some (.int .i64 z.type)))
            (first | exact HS.out _ R3.out.drew | exact HS.out _ (by assumption))
            (first | (go_at_call 36; (with_reducible refine (CM.out y _ R3.out.drew).mono ?_); rintro e w4 ⟨D4, d4, rfl, hp4, hb4, hc4⟩) | (go_at_call 36; (with_reducible refine (CM.out z _ (by assumption)).mono ?_); rintro e w5 ⟨D5, d5, rfl, hp5, hb5, hc5⟩) | (go_at_call 35; (with_reducible refine (C2.out _ _ _ _ _ (by assumption) (hp4.below hb5) hp5).mono ?_); rintro e w6 ⟨rfl, hc6⟩))
          all_goals
            have K6 := Lib.hid hc6
            clear hb4 hp4 hc4 hb5 hp5 hc5 hc6
            go_wp2_with fail
            go_roundw
            case rel => exact ⟨k + 1, by omega, by go_num, by rw [N1.out, G1.out]; rfl, after K3.out K6.out⟩
            case measure => simp [intOf]; omega
      · obtain rfl : k = xs.length := by omega
        obtain ⟨p0, p1, p2⟩ := (B0.out.below KB.out).cells3
        rw [E1.out]
        go_wp2_with fail
        refine (isuper_call us A c y D_x d_x xs _ hl (by omega) HW.out (Hr.out _ KB.out) (Hx.out _ KB.out) HX.out HY.out).mono ?_
        rintro e w4 ⟨rfl, hb4⟩
        have KC := Lib.hid (after KB.out hb4)
        clear hb4 p0 p1 p2
        go_wp2_with fail
        refine (works_call w4).mono ?_
        rintro e w5 ⟨rfl, hb5⟩
        have KD := Lib.hid (after A0.out (after KC.out hb5))
        clear hb5
        go_wp2_with fail
        go_ret
        exact ⟨rfl, KD.out⟩

theorem fnSupersetOf_contract (H : Type) (enc : TypeId × Value → H) (W : World) (base : Nat) (args : Array Value) (ds gs : List (DataW H)) (before : List MemPlace)
    (hval : ∀ (j : Nat) t v, Try.f15.params[j]? = some t → args[j]? = some v → Value.okWide Try.prog W .any base t v)
    (hW : DataW.Whole enc Try.prog Try.f15.params.toList Rows.fnSupersetOfSpec.vars false W args.toList ds gs before) :
    Calls Try.prog 15 args W fun e W' => ∃ v, e = .returned v ∧ Rows.fnSupersetOfSpec.post enc Try.prog Try.f15 false true false false W args v W' := by
  have hW' := hW
  obtain ⟨p, q, hA0, hV, rfl, hfz, hnd⟩ := hW
  have hA : DataW.TrodAll enc Try.prog W 0 (fun _ => true) true Try.f15.params.toList args.toList ds p := hA0
  rw [Try.params15] at hA hval
  obtain ⟨v0, vs0, d0, ds0, p0, q0, hargs, rfl, rfl, h0, r0⟩ := trodAll_cons hA
  obtain ⟨v1, vs1, d1, ds1, p1, q1, rfl, rfl, rfl, h1, r1⟩ := trodAll_cons r0
  obtain ⟨v2, vs2, d2, ds2, p2, q2, rfl, rfl, rfl, h2, r2⟩ := trodAll_cons r1
  obtain ⟨rfl, rfl, rfl⟩ := trodAll_nil r2
  obtain rfl : args = #[v0, v1, v2] := by cases args; simp_all
  obtain ⟨rfl, rfl⟩ := trodVars_none hV
  have k0 := h0
  have lt0 : ∀ x ∈ p0, x.block < W.heap.size := by obtain ⟨m, hm⟩ := k0; exact DataW.trod_lt m _ _ _ hm
  obtain ⟨A0, l0, c0, rfl, rd0, bd0⟩ := open_us (hval 0 22 v0 rfl rfl) h0
  have k1 := h1
  have lt1 : ∀ x ∈ p1, x.block < W.heap.size := by obtain ⟨m, hm⟩ := k1; exact DataW.trod_lt m _ _ _ hm
  obtain ⟨A1, l1, c1, rfl, rd1, bd1⟩ := open_ts (hval 1 23 v1 rfl rfl) h1
  have k2 := h2
  have lt2 : ∀ x ∈ p2, x.block < W.heap.size := by obtain ⟨m, hm⟩ := k2; exact DataW.trod_lt m _ _ _ hm
  obtain ⟨x2, rfl⟩ := open_tm (hval 2 29 v2 rfl rfl) h2
  clear hA0
  refine (walk15 l0 A0 c0 l1 A1 c1 x2 W rd0 rd1).mono fun e W' ⟨he, bel⟩ => ?_
  subst he
  exact ⟨_, rfl, _, _, _, [], _, [], hW', trodAll_mk1 (shut_bool Try.underlying4 _), (trodAll_cons_mk (Below.trod Try.laidOut (by kernel_rfl) (of_decide_eq_true (by kernel_rfl)) k0 bel lt0) (trodAll_cons_mk (Below.trod Try.laidOut (by kernel_rfl) (of_decide_eq_true (by kernel_rfl)) k1 bel lt1) (trodAll_cons_mk (Below.trod Try.laidOut (by kernel_rfl) (of_decide_eq_true (by kernel_rfl)) k2 bel lt2) trodAll_mk0))), rfl, bel.frame _, fun h => by cases h⟩

set_option maxRecDepth 100000 in
theorem fnSupersetOf_lifted (os : Os) (started : os.Started) (H : Type) (enc : TypeId × Value → H) :
    ReturnsInHanded {} Try.checked os 15 .any (Rows.fnSupersetOfSpec.pre6 enc Try.prog Try.f15 Rows.fnSupersetOfRow.domain false) (Rows.fnSupersetOfSpec.post enc Try.prog Try.f15 false true false false) := by
  refine returnsInHanded_of_change (C := Try.checked) Try.own started (by kernel_rfl) Try.func15
    (ChangeSpec.witness6 (enc := enc) (C := Try.checked) false ⟨#[], #[.slice none 0 0, .slice none 0 0, .agg #[.int .i64 0, .bool false, .int .i64 0]], []⟩ 8 (by kernel_rfl) (by kernel_rfl) (by kernel_rfl) (by kernel_rfl)) ?_
  intro W base args ds gs before hval hW _ _
  exact fnSupersetOf_contract H enc W base args ds gs before hval hW

theorem fnSupersetOf_closed : joinedFacts Try.prog 15 Try.f15 Rows.fnSupersetOfSpec Rows.fnSupersetOfRow = true := closed_of (by kernel_rfl)

theorem fnSupersetOf_holds : Rows.FnSupersetOfSaid :=
  OpenClaim.holds_of_wide 15 Try.f15 rfl rfl rfl rfl rfl rfl rfl ⟨rfl, rfl, rfl, rfl, rfl⟩ rfl rfl rfl rfl rfl (by as_aux_lemma => kernel_rfl) Try.func15 fnSupersetOf_closed
    (of_decide_eq_true (by as_aux_lemma => kernel_rfl)) (by as_aux_lemma => (unfold Func.isWrapper; first | (rw [if_pos (by decide +kernel)]; kernel_rfl) | (rw [if_neg (by decide +kernel)]; exact ⟨rfl, rfl⟩)))
    (fun os started H enc _ => fnSupersetOf_lifted os started H enc)
end Go.Proofs.Ytehadfnaknpagaa
