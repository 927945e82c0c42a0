/-
  PROVED HERE: FnNormShort: a normal form has no more terms than the list, none of them is empty, and if the set of all types is in the list, the normal form is this set alone. Conditions: none.
-/
import Derived.Test.YtehadfnaknpagaaXf
namespace Go.Proofs.Ytehadfnaknpagaa
open Go.ChangeShapes Go.WideShapes Go.ChangeAt Go.RowKit Pl

set_option maxHeartbeats 4000000 in
theorem walk24 (us : List Int) (A : Option Addr) (c : Nat) (xs : List Tm) (D_x : Option Addr) (d_x : Nat) (w : World)
    (hr : Rd w A (ints us)) (hd_x : Rd w D_x (tcs xs)) :
    Calls Try.prog 24 #[.slice A us.length c, .slice D_x xs.length d_x] w fun e w' => e = .returned (.bool true) ∧ Below w.heap.size w w' := by
  by_cases q0 : 2147483647 < us.length
  · go_enter Try.func24, Try.ntmps24
    go_wp2_with fail
    go_ret
    exact ⟨rfl, Below.refl _ _⟩
  by_cases q1 : 2147483647 < xs.length
  · go_enter Try.func24, Try.ntmps24
    go_wp2_with fail
    go_ret
    exact ⟨rfl, Below.refl _ _⟩
  have hl : us.length ≤ 2147483647 := by omega
  have l_x : xs.length ≤ 2147483647 := by omega
  have Hr := Lib.hid hr
  have Hx := Lib.hid hd_x
  clear hr hd_x
  cases hv : VX us [xs] with
  | false =>
    have G := Lib.hid hv
    clear hv
    have K0 := Lib.hid (Below.refl w.heap.size w)
    go_enter Try.func24, Try.ntmps24
    go_wp2_with fail
    have hs : ∀ s ∈ ([⟨D_x, d_x, xs⟩] : List Sl), s.ok (w.alloc (.cells #[.slice D_x (List.length xs) d_x] 23)) := by
      intro s hs
      simp only [List.mem_cons, List.not_mem_nil, or_false] at hs
      rcases hs with rfl
      · exact ⟨Hx.out.below (al _ _), by dsimp only; omega⟩
    have CV := Lib.hid (valid_any us A c (some ⟨w.heap.size, 0, none⟩) 1 [⟨D_x, d_x, xs⟩] (w.alloc (.cells #[.slice D_x (List.length xs) d_x] 23)) hl (by simp) (Hr.out.below (al _ _)) (rd_blk (Blk.new _ _ _)) hs)
    clear hs
    refine (CV.out).mono ?_
    rintro e w1 ⟨rfl, hb⟩
    have K1 := Lib.hid (after (after K0.out (al _ _)) hb)
    clear hb
    rw [vls_vx G.out]
    go_wp2_with fail
    go_ret
    exact ⟨rfl, K1.out⟩
  | true =>
    obtain ⟨hw, hs⟩ := vx_iff hv
    have tb_x := hs xs (by simp)
    have ok_x := terms_ok tb_x
    have G := Lib.hid hv
    have T_x := Lib.hid tb_x
    have HW := Lib.hid hw
    obtain ⟨zs, hz, hno, hle, hall⟩ := short_facts hw ok_x
    have HZ := Lib.hid hz
    have HO := Lib.hid hno
    have HL := Lib.hid hle
    have HA := Lib.hid hall
    have CN := Lib.hid (fun w' (hb : Below w.heap.size w w') => by have h := inorm_call us A c D_x d_x xs w' hl (by omega) hw (Hr.out.below hb) (Hx.out.below hb) tb_x (by have h1 := (norm_spec hw ok_x).2.1; rw [terms_len] at h1; omega); rw [← hz] at h; exact h)
    clear hz hno hle hall
    clear hv hs hw tb_x ok_x
    have K0 := Lib.hid (Below.refl w.heap.size w)
    go_enter Try.func24, Try.ntmps24
    go_wp2_with fail
    have hs : ∀ s ∈ ([⟨D_x, d_x, xs⟩] : List Sl), s.ok (w.alloc (.cells #[.slice D_x (List.length xs) d_x] 23)) := by
      intro s hs
      simp only [List.mem_cons, List.not_mem_nil, or_false] at hs
      rcases hs with rfl
      · exact ⟨Hx.out.below (al _ _), by dsimp only; omega⟩
    have CV := Lib.hid (valid_any us A c (some ⟨w.heap.size, 0, none⟩) 1 [⟨D_x, d_x, xs⟩] (w.alloc (.cells #[.slice D_x (List.length xs) d_x] 23)) hl (by simp) (Hr.out.below (al _ _)) (rd_blk (Blk.new _ _ _)) hs)
    clear hs
    refine (CV.out).mono ?_
    rintro e w1 ⟨rfl, hb⟩
    have K1 := Lib.hid (after (after K0.out (al _ _)) hb)
    clear hb
    rw [vls_vx G.out]
    go_wp2_with fail
    refine (CN.out _ K1.out).mono ?_
    rintro e w2 ⟨D_z, d_z, rfl, hd, hb⟩
    have K2 := Lib.hid (after K1.out hb)
    have RZ := Lib.hid hd
    clear hd hb
    go_wp2_with fail
    go_loopw [6, 29] (fun b i wr => ∃ k : Nat, k ≤ xs.length ∧ i = .int .i64 k ∧ b = .bool (((terms xs).take k).any T.isAll) ∧ Below w2.heap.size w2 wr) (fun _ i _ => xs.length - (intOf i).toNat)
    case atStart => exact ⟨0, Nat.zero_le _, rfl, rfl, Below.refl _ _⟩
    case round =>
      obtain ⟨k, hk, rfl, rfl, hb⟩ := hrel
      have KB := Lib.hid hb
      clear hb
      by_cases hlt : k < xs.length
      · obtain ⟨b, off, rfl, c0, c1, c2⟩ := (Hx.out.below (after K2.out KB.out)).tm hlt
        have hsz := KB.out.size
        have N1 := Lib.hid (take_any T.isAll hlt)
        have N2 := Lib.hid (isAll_kind xs[k])
        cases h1 : ((terms xs).take k).any T.isAll with
        | false =>
          have G1 := Lib.hid h1
          clear h1
          go_wp2_with fail
          go_roundw
          case rel => exact ⟨k + 1, by omega, by go_num, by rw [N1.out, G1.out, N2.out]; rfl, after KB.out (al _ _)⟩
          case measure => simp [intOf]; omega
        | true =>
          have G1 := Lib.hid h1
          clear h1
          go_wp2_with fail
          go_roundw
          case rel => exact ⟨k + 1, by omega, by go_num, by rw [N1.out, G1.out]; rfl, after KB.out (al _ _)⟩
          case measure => simp [intOf]; omega
      · obtain rfl : k = xs.length := by omega
        have E0 : ((terms xs).take xs.length).any T.isAll = allL (terms xs) := by rw [take_end]; rfl
        rw [E0]
        clear E0
        cases hev : allL (terms xs) with
        | true =>
          have EV := Lib.hid hev
          clear hev
          go_wp2_with fail
          go_loopw [42] (fun i wr => ∃ k : Nat, k ≤ zs.length ∧ i = .int .i64 k ∧ Below w2.heap.size w2 wr) (fun i _ => zs.length - (intOf i).toNat)
          case atStart => exact ⟨0, Nat.zero_le _, rfl, KB.out⟩
          case round =>
            obtain ⟨k, hk, rfl, hb⟩ := hrel
            have KC := Lib.hid hb
            clear hb
            by_cases hlt : k < zs.length
            · obtain ⟨b2, off2, rfl, c0, c1, c2⟩ := (RZ.out.below KC.out).tm hlt
              have hsz := KC.out.size
              have z0 := HO.out k hlt
              have z2 := HL.out
              have z1 := (HA.out EV.out).2 k hlt
              go_wp2_with fail
              go_roundw
              case rel => exact ⟨k + 1, by omega, by go_num, after KC.out (al _ _)⟩
              case measure => simp [intOf]; omega
            · have z2 := HL.out
              have z3 := (HA.out EV.out).1
              go_wp2_with fail
              refine (works_call _).mono ?_
              rintro e w3 ⟨rfl, hb3⟩
              have KD := Lib.hid (after K2.out (after KC.out hb3))
              clear hb3
              go_wp2_with fail
              go_ret
              exact ⟨rfl, KD.out⟩
        | false =>
          clear hev
          go_wp2_with fail
          go_loopw [42] (fun i wr => ∃ k : Nat, k ≤ zs.length ∧ i = .int .i64 k ∧ Below w2.heap.size w2 wr) (fun i _ => zs.length - (intOf i).toNat)
          case atStart => exact ⟨0, Nat.zero_le _, rfl, KB.out⟩
          case round =>
            obtain ⟨k, hk, rfl, hb⟩ := hrel
            have KC := Lib.hid hb
            clear hb
            by_cases hlt : k < zs.length
            · obtain ⟨b2, off2, rfl, c0, c1, c2⟩ := (RZ.out.below KC.out).tm hlt
              have hsz := KC.out.size
              have z0 := HO.out k hlt
              have z2 := HL.out
              go_wp2_with fail
              go_roundw
              case rel => exact ⟨k + 1, by omega, by go_num, after KC.out (al _ _)⟩
              case measure => simp [intOf]; omega
            · have z2 := HL.out
              go_wp2_with fail
              refine (works_call _).mono ?_
              rintro e w3 ⟨rfl, hb3⟩
              have KD := Lib.hid (after K2.out (after KC.out hb3))
              clear hb3
              go_wp2_with fail
              go_ret
              exact ⟨rfl, KD.out⟩

theorem fnNormShort_contract (H : Type) (enc : TypeId × Value → H) (W : World) (base : Nat) (args : Array Value) (ds gs : List (DataW H)) (before : List MemPlace)
    (hval : ∀ (j : Nat) t v, Try.f24.params[j]? = some t → args[j]? = some v → Value.okWide Try.prog W .any base t v)
    (hW : DataW.Whole enc Try.prog Try.f24.params.toList Rows.fnNormShortSpec.vars false W args.toList ds gs before) :
    Calls Try.prog 24 args W fun e W' => ∃ v, e = .returned v ∧ Rows.fnNormShortSpec.post enc Try.prog Try.f24 false true false false W args v W' := by
  have hW' := hW
  obtain ⟨p, q, hA0, hV, rfl, hfz, hnd⟩ := hW
  have hA : DataW.TrodAll enc Try.prog W 0 (fun _ => true) true Try.f24.params.toList args.toList ds p := hA0
  rw [Try.params24] at hA hval
  obtain ⟨v0, vs0, d0, ds0, p0, q0, hargs, rfl, rfl, h0, r0⟩ := trodAll_cons hA
  obtain ⟨v1, vs1, d1, ds1, p1, q1, rfl, rfl, rfl, h1, r1⟩ := trodAll_cons r0
  obtain ⟨rfl, rfl, rfl⟩ := trodAll_nil r1
  obtain rfl : args = #[v0, v1] := by cases args; simp_all
  obtain ⟨rfl, rfl⟩ := trodVars_none hV
  have k0 := h0
  have lt0 : ∀ x ∈ p0, x.block < W.heap.size := by obtain ⟨m, hm⟩ := k0; exact DataW.trod_lt m _ _ _ hm
  obtain ⟨A0, l0, c0, rfl, rd0, bd0⟩ := open_us (hval 0 22 v0 rfl rfl) h0
  have k1 := h1
  have lt1 : ∀ x ∈ p1, x.block < W.heap.size := by obtain ⟨m, hm⟩ := k1; exact DataW.trod_lt m _ _ _ hm
  obtain ⟨A1, l1, c1, rfl, rd1, bd1⟩ := open_ts (hval 1 23 v1 rfl rfl) h1
  clear hA0
  refine (walk24 l0 A0 c0 l1 A1 c1 W rd0 rd1).mono fun e W' ⟨he, bel⟩ => ?_
  subst he
  exact ⟨_, rfl, _, _, _, [], _, [], hW', trodAll_mk1 (shut_bool Try.underlying4 _), (trodAll_cons_mk (Below.trod Try.laidOut (by kernel_rfl) (of_decide_eq_true (by kernel_rfl)) k0 bel lt0) (trodAll_cons_mk (Below.trod Try.laidOut (by kernel_rfl) (of_decide_eq_true (by kernel_rfl)) k1 bel lt1) trodAll_mk0)), rfl, bel.frame _, fun h => by cases h⟩

set_option maxRecDepth 100000 in
theorem fnNormShort_lifted (os : Os) (started : os.Started) (H : Type) (enc : TypeId × Value → H) :
    ReturnsInHanded {} Try.checked os 24 .any (Rows.fnNormShortSpec.pre6 enc Try.prog Try.f24 Rows.fnNormShortRow.domain false) (Rows.fnNormShortSpec.post enc Try.prog Try.f24 false true false false) := by
  refine returnsInHanded_of_change (C := Try.checked) Try.own started (by kernel_rfl) Try.func24
    (ChangeSpec.witness6 (enc := enc) (C := Try.checked) false ⟨#[], #[.slice none 0 0, .slice none 0 0], []⟩ 8 (by kernel_rfl) (by kernel_rfl) (by kernel_rfl) (by kernel_rfl)) ?_
  intro W base args ds gs before hval hW _ _
  exact fnNormShort_contract H enc W base args ds gs before hval hW

theorem fnNormShort_closed : joinedFacts Try.prog 24 Try.f24 Rows.fnNormShortSpec Rows.fnNormShortRow = true := closed_of (by kernel_rfl)

theorem fnNormShort_holds : Rows.FnNormShortSaid :=
  OpenClaim.holds_of_wide 24 Try.f24 rfl rfl rfl rfl rfl rfl rfl ⟨rfl, rfl, rfl, rfl, rfl⟩ rfl rfl rfl rfl rfl (by as_aux_lemma => kernel_rfl) Try.func24 fnNormShort_closed
    (of_decide_eq_true (by as_aux_lemma => kernel_rfl)) (by as_aux_lemma => (unfold Func.isWrapper; first | (rw [if_pos (by decide +kernel)]; kernel_rfl) | (rw [if_neg (by decide +kernel)]; exact ⟨rfl, rfl⟩)))
    (fun os started H enc _ => fnNormShort_lifted os started H enc)
end Go.Proofs.Ytehadfnaknpagaa
