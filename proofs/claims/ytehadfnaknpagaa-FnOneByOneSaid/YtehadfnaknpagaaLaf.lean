/-
  PROVED HERE: FnOneByOne: a list is a subset of another one exactly if each of its terms is a subset of a term of the other (an empty term of every list). Conditions: none.
-/
import Derived.Test.YtehadfnaknpagaaXf
namespace Go.Proofs.Ytehadfnaknpagaa
open Go.ChangeShapes Go.WideShapes Go.ChangeAt Go.RowKit Pl

set_option maxHeartbeats 4000000 in
theorem walk21 (us : List Int) (A : Option Addr) (c : Nat) (xs : List Tm) (D_x : Option Addr) (d_x : Nat) (ys : List Tm) (D_y : Option Addr) (d_y : Nat) (w : World)
    (hr : Rd w A (ints us)) (hd_x : Rd w D_x (tcs xs)) (hd_y : Rd w D_y (tcs ys)) :
    Calls Try.prog 21 #[.slice A us.length c, .slice D_x xs.length d_x, .slice D_y ys.length d_y] w fun e w' => e = .returned (.bool true) ∧ Below w.heap.size w w' := by
  by_cases q0 : 2147483647 < us.length
  · go_enter Try.func21, Try.ntmps21
    go_wp2_with fail
    go_ret
    exact ⟨rfl, Below.refl _ _⟩
  by_cases q1 : 2147483647 < xs.length
  · go_enter Try.func21, Try.ntmps21
    go_wp2_with fail
    go_ret
    exact ⟨rfl, Below.refl _ _⟩
  by_cases q2 : 2147483647 < ys.length
  · go_enter Try.func21, Try.ntmps21
    go_wp2_with fail
    go_ret
    exact ⟨rfl, Below.refl _ _⟩
  have hl : us.length ≤ 2147483647 := by omega
  have l_x : xs.length ≤ 2147483647 := by omega
  have l_y : ys.length ≤ 2147483647 := by omega
  have Hr := Lib.hid hr
  have Hx := Lib.hid hd_x
  have Hy := Lib.hid hd_y
  clear hr hd_x hd_y
  cases hv : VX us [xs, ys] with
  | false =>
    have G := Lib.hid hv
    clear hv
    have K0 := Lib.hid (Below.refl w.heap.size w)
    go_enter Try.func21, Try.ntmps21
    go_wp2_with fail
    have hs : ∀ s ∈ ([⟨D_x, d_x, xs⟩, ⟨D_y, d_y, ys⟩] : List Sl), s.ok (w.alloc (.cells #[.slice D_x (List.length xs) d_x, .slice D_y (List.length ys) d_y] 23)) := by
      intro s hs
      simp only [List.mem_cons, List.not_mem_nil, or_false] at hs
      rcases hs with rfl | rfl
      · exact ⟨Hx.out.below (al _ _), by dsimp only; omega⟩
      · exact ⟨Hy.out.below (al _ _), by dsimp only; omega⟩
    have CV := Lib.hid (valid_any us A c (some ⟨w.heap.size, 0, none⟩) 2 [⟨D_x, d_x, xs⟩, ⟨D_y, d_y, ys⟩] (w.alloc (.cells #[.slice D_x (List.length xs) d_x, .slice D_y (List.length ys) d_y] 23)) hl (by simp) (Hr.out.below (al _ _)) (rd_blk (Blk.new _ _ _)) hs)
    clear hs
    refine (CV.out).mono ?_
    rintro e w1 ⟨rfl, hb⟩
    have K1 := Lib.hid (after (after K0.out (al _ _)) hb)
    clear hb
    rw [vls_vx G.out]
    go_wp2_with fail
    go_ret
    exact ⟨rfl, K1.out⟩
  | true =>
    obtain ⟨hw, hs⟩ := vx_iff hv
    have tb_x := hs xs (by simp)
    have ok_x := terms_ok tb_x
    have tb_y := hs ys (by simp)
    have ok_y := terms_ok tb_y
    have G := Lib.hid hv
    have T_x := Lib.hid tb_x
    have T_y := Lib.hid tb_y
    have HW := Lib.hid hw
    have h_E1 : ((terms xs).take xs.length).all (OB us (terms ys)) = subL us (terms xs) (terms ys) := by rw [take_end]; exact (onebyone us _ _).symm
    have E1 := Lib.hid h_E1
    clear h_E1
    clear hv hs hw tb_x ok_x tb_y ok_y
    have K0 := Lib.hid (Below.refl w.heap.size w)
    go_enter Try.func21, Try.ntmps21
    go_wp2_with fail
    have hs : ∀ s ∈ ([⟨D_x, d_x, xs⟩, ⟨D_y, d_y, ys⟩] : List Sl), s.ok (w.alloc (.cells #[.slice D_x (List.length xs) d_x, .slice D_y (List.length ys) d_y] 23)) := by
      intro s hs
      simp only [List.mem_cons, List.not_mem_nil, or_false] at hs
      rcases hs with rfl | rfl
      · exact ⟨Hx.out.below (al _ _), by dsimp only; omega⟩
      · exact ⟨Hy.out.below (al _ _), by dsimp only; omega⟩
    have CV := Lib.hid (valid_any us A c (some ⟨w.heap.size, 0, none⟩) 2 [⟨D_x, d_x, xs⟩, ⟨D_y, d_y, ys⟩] (w.alloc (.cells #[.slice D_x (List.length xs) d_x, .slice D_y (List.length ys) d_y] 23)) hl (by simp) (Hr.out.below (al _ _)) (rd_blk (Blk.new _ _ _)) hs)
    clear hs
    refine (CV.out).mono ?_
    rintro e w1 ⟨rfl, hb⟩
    have K1 := Lib.hid (after (after K0.out (al _ _)) hb)
    clear hb
    rw [vls_vx G.out]
    go_wp2_with fail
    go_loopw [7, 31] (fun b i wr => ∃ k : Nat, k ≤ xs.length ∧ i = .int .i64 k ∧ b = .bool (((terms xs).take k).all (OB us (terms ys))) ∧ Below w.heap.size w wr) (fun _ i _ => xs.length - (intOf i).toNat)
    case atStart => exact ⟨0, Nat.zero_le _, rfl, rfl, K1.out⟩
    case round =>
      obtain ⟨k, hk, rfl, rfl, hb⟩ := hrel
      have KB := Lib.hid hb
      clear hb
      by_cases hlt : k < xs.length
      · obtain ⟨b, off, rfl, c0, c1, c2⟩ := (Hx.out.below KB.out).tm hlt
        have hsz := KB.out.size
        have N1 := Lib.hid (take_all (OB us (terms ys)) hlt)
        cases h1 : ((terms xs).take k).all (OB us (terms ys)) with
        | false =>
          have G1 := Lib.hid h1
          clear h1
          go_wp2_with fail
          go_roundw
          case rel => exact ⟨k + 1, by omega, by go_num, by rw [N1.out, G1.out]; rfl, after KB.out (al _ _)⟩
          case measure => simp [intOf]; omega
        | true =>
          have G1 := Lib.hid h1
          clear h1
          have TX := Lib.hid (show TB us xs[k] = true from List.all_eq_true.1 T_x.out _ (List.getElem_mem hlt))
          by_cases e0 : xs[k].kind = 0
          · have HE := Lib.hid (ob_no us (terms ys) e0)
            go_wp2_with fail
            go_roundw
            case rel => exact ⟨k + 1, by omega, by go_num, by rw [N1.out, G1.out, HE.out]; rfl, after KB.out (al _ _)⟩
            case measure => simp [intOf]; omega
          · have HE := Lib.hid (ob_some us (terms ys) e0)
            have CS := Lib.hid (fun w' (hb : Below w.heap.size w w') => comp (isuper_call us A c xs[k] D_y d_y ys w' hl (by omega) HW.out (Hr.out.below hb) (Hy.out.below hb) T_y.out TX.out) hb (Nat.le_refl _))
            go_wp2_with fail
            refine (CS.out _ (after KB.out (al _ _))).mono ?_
            rintro e w2 ⟨rfl, hb2⟩
            have KC := Lib.hid hb2
            clear hb2
            go_wp2_with fail
            go_roundw
            case rel => exact ⟨k + 1, by omega, by go_num, by rw [N1.out, G1.out, HE.out]; simp [e0], KC.out⟩
            case measure => simp [intOf]; omega
      · obtain rfl : k = xs.length := by omega
        rw [E1.out]
        go_wp2_with fail
        refine (isub_call us A c D_x d_x xs D_y d_y ys _ hl (by omega) (by omega) HW.out (Hr.out.below KB.out) (Hx.out.below KB.out) (Hy.out.below KB.out) T_x.out T_y.out).mono ?_
        rintro e w2 ⟨rfl, hb2⟩
        have KC := Lib.hid (after KB.out hb2)
        clear hb2
        go_wp2_with fail
        refine (works_call w2).mono ?_
        rintro e w3 ⟨rfl, hb3⟩
        have KD := Lib.hid (after KC.out hb3)
        clear hb3
        go_wp2_with fail
        go_ret
        exact ⟨rfl, KD.out⟩

theorem fnOneByOne_contract (H : Type) (enc : TypeId × Value → H) (W : World) (base : Nat) (args : Array Value) (ds gs : List (DataW H)) (before : List MemPlace)
    (hval : ∀ (j : Nat) t v, Try.f21.params[j]? = some t → args[j]? = some v → Value.okWide Try.prog W .any base t v)
    (hW : DataW.Whole enc Try.prog Try.f21.params.toList Rows.fnOneByOneSpec.vars false W args.toList ds gs before) :
    Calls Try.prog 21 args W fun e W' => ∃ v, e = .returned v ∧ Rows.fnOneByOneSpec.post enc Try.prog Try.f21 false true false false W args v W' := by
  have hW' := hW
  obtain ⟨p, q, hA0, hV, rfl, hfz, hnd⟩ := hW
  have hA : DataW.TrodAll enc Try.prog W 0 (fun _ => true) true Try.f21.params.toList args.toList ds p := hA0
  rw [Try.params21] at hA hval
  obtain ⟨v0, vs0, d0, ds0, p0, q0, hargs, rfl, rfl, h0, r0⟩ := trodAll_cons hA
  obtain ⟨v1, vs1, d1, ds1, p1, q1, rfl, rfl, rfl, h1, r1⟩ := trodAll_cons r0
  obtain ⟨v2, vs2, d2, ds2, p2, q2, rfl, rfl, rfl, h2, r2⟩ := trodAll_cons r1
  obtain ⟨rfl, rfl, rfl⟩ := trodAll_nil r2
  obtain rfl : args = #[v0, v1, v2] := by cases args; simp_all
  obtain ⟨rfl, rfl⟩ := trodVars_none hV
  have k0 := h0
  have lt0 : ∀ x ∈ p0, x.block < W.heap.size := by obtain ⟨m, hm⟩ := k0; exact DataW.trod_lt m _ _ _ hm
  obtain ⟨A0, l0, c0, rfl, rd0, bd0⟩ := open_us (hval 0 22 v0 rfl rfl) h0
  have k1 := h1
  have lt1 : ∀ x ∈ p1, x.block < W.heap.size := by obtain ⟨m, hm⟩ := k1; exact DataW.trod_lt m _ _ _ hm
  obtain ⟨A1, l1, c1, rfl, rd1, bd1⟩ := open_ts (hval 1 23 v1 rfl rfl) h1
  have k2 := h2
  have lt2 : ∀ x ∈ p2, x.block < W.heap.size := by obtain ⟨m, hm⟩ := k2; exact DataW.trod_lt m _ _ _ hm
  obtain ⟨A2, l2, c2, rfl, rd2, bd2⟩ := open_ts (hval 2 23 v2 rfl rfl) h2
  clear hA0
  refine (walk21 l0 A0 c0 l1 A1 c1 l2 A2 c2 W rd0 rd1 rd2).mono fun e W' ⟨he, bel⟩ => ?_
  subst he
  exact ⟨_, rfl, _, _, _, [], _, [], hW', trodAll_mk1 (shut_bool Try.underlying4 _), (trodAll_cons_mk (Below.trod Try.laidOut (by kernel_rfl) (of_decide_eq_true (by kernel_rfl)) k0 bel lt0) (trodAll_cons_mk (Below.trod Try.laidOut (by kernel_rfl) (of_decide_eq_true (by kernel_rfl)) k1 bel lt1) (trodAll_cons_mk (Below.trod Try.laidOut (by kernel_rfl) (of_decide_eq_true (by kernel_rfl)) k2 bel lt2) trodAll_mk0))), rfl, bel.frame _, fun h => by cases h⟩

set_option maxRecDepth 100000 in
theorem fnOneByOne_lifted (os : Os) (started : os.Started) (H : Type) (enc : TypeId × Value → H) :
    ReturnsInHanded {} Try.checked os 21 .any (Rows.fnOneByOneSpec.pre6 enc Try.prog Try.f21 Rows.fnOneByOneRow.domain false) (Rows.fnOneByOneSpec.post enc Try.prog Try.f21 false true false false) := by
  refine returnsInHanded_of_change (C := Try.checked) Try.own started (by kernel_rfl) Try.func21
    (ChangeSpec.witness6 (enc := enc) (C := Try.checked) false ⟨#[], #[.slice none 0 0, .slice none 0 0, .slice none 0 0], []⟩ 8 (by kernel_rfl) (by kernel_rfl) (by kernel_rfl) (by kernel_rfl)) ?_
  intro W base args ds gs before hval hW _ _
  exact fnOneByOne_contract H enc W base args ds gs before hval hW

theorem fnOneByOne_closed : joinedFacts Try.prog 21 Try.f21 Rows.fnOneByOneSpec Rows.fnOneByOneRow = true := closed_of (by kernel_rfl)

theorem fnOneByOne_holds : Rows.FnOneByOneSaid :=
  OpenClaim.holds_of_wide 21 Try.f21 rfl rfl rfl rfl rfl rfl rfl ⟨rfl, rfl, rfl, rfl, rfl⟩ rfl rfl rfl rfl rfl (by as_aux_lemma => kernel_rfl) Try.func21 fnOneByOne_closed
    (of_decide_eq_true (by as_aux_lemma => kernel_rfl)) (by as_aux_lemma => (unfold Func.isWrapper; first | (rw [if_pos (by decide +kernel)]; kernel_rfl) | (rw [if_neg (by decide +kernel)]; exact ⟨rfl, rfl⟩)))
    (fun os started H enc _ => fnOneByOne_lifted os started H enc)
end Go.Proofs.Ytehadfnaknpagaa
