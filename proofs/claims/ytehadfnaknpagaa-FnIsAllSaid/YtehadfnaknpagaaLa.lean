/-
  PROVED HERE: FnIsAll: a list is the set of all types exactly if every type is in it, as the given statement says it. Conditions: none.
-/
import Derived.Test.YtehadfnaknpagaaXa
import Derived.Test.YtehadfnaknpagaaPe
import Derived.Test.YtehadfnaknpagaaXb
namespace Go.Proofs.Ytehadfnaknpagaa
open Go.ChangeShapes Go.WideShapes Go.ChangeAt Go.RowKit Pl

theorem vls_iff {us : List Int} {ls : List Sl} : VLs us ls = true ↔ WOk us ∧ WB us = true ∧ ∀ s ∈ ls, s.xs.all (TB us) = true := by
  unfold VLs
  rw [Bool.and_eq_true, List.all_eq_true]
  constructor
  · rintro ⟨h1, h2⟩
    refine ⟨wok_of h2, h2, fun s hs => ?_⟩
    have := h1 s hs
    unfold VB at this
    rw [Bool.and_eq_true] at this
    exact this.2
  · rintro ⟨_, h1, h2⟩
    exact ⟨fun s hs => by unfold VB; rw [h1, h2 s hs]; rfl, h1⟩

section
variable (us : List Int) (A : Option Addr) (c : Nat) (xs : List Tm) (D : Option Addr) (d : Nat) (w : World)
set_option maxHeartbeats 1000000 in
theorem walk3 (hr : Rd w A (ints us)) (hd : Rd w D (tcs xs)) :
    Calls Try.prog 3 #[.slice A us.length c, .slice D xs.length d] w fun e w' => e = .returned (.bool true) ∧ Below w.heap.size w w' := by
  by_cases h1 : 2147483647 < us.length
  · go_enter Try.func3, Try.ntmps3
    go_wp2_with fail
    go_ret
    exact ⟨rfl, Below.refl _ _⟩
  by_cases h2 : 2147483647 < xs.length
  · go_enter Try.func3, Try.ntmps3
    go_wp2_with fail
    go_ret
    exact ⟨rfl, Below.refl _ _⟩
  have hl : us.length ≤ 2147483647 := by omega
  have hm : xs.length ≤ 2147483647 := by omega
  have al : ∀ (w : World) o, Below w.heap.size w (w.alloc o) := fun w o => (Below.refl _ _).alloc (Nat.le_refl _) o
  have AL := Lib.hid al
  have CV := Lib.hid (valid_any us A c (some ⟨w.heap.size, 0, none⟩) 1 [⟨D, d, xs⟩] (w.alloc (.cells #[.slice D xs.length d] 23)) hl (by simp) (hr.below (al _ _)) (rd_blk (Blk.new _ _ _)) (by intro s hs; simp at hs; subst hs; exact ⟨hd.below (al _ _), by show xs.length ≤ _; omega⟩))
  have Hr := Lib.hid hr
  have Hd := Lib.hid hd
  clear hr hd al
  cases hv : VLs us [⟨D, d, xs⟩] with
  | false =>
    have G := Lib.hid hv
    clear hv
    go_enter Try.func3, Try.ntmps3
    go_wp2_with fail
    refine CV.out.mono ?_
    rintro e w1 ⟨rfl, hb1⟩
    rw [G.out]
    go_wp2_with fail
    go_ret
    exact ⟨rfl, (AL.out _ _).trans (hb1.mono (AL.out _ _).size)⟩
  | true =>
    obtain ⟨hw, _, hs⟩ := vls_iff.1 hv
    have hx := hs ⟨D, d, xs⟩ (by simp)
    dsimp only at hx
    have hlaw := isAll_law hw (ok_of hx)
    have G := Lib.hid hv
    have HL := Lib.hid hlaw
    have HW := Lib.hid hw
    have HX := Lib.hid hx
    clear hv hlaw hw hx hs
    go_enter Try.func3, Try.ntmps3
    go_wp2_with fail
    refine CV.out.mono ?_
    rintro e w1 ⟨rfl, hb1⟩
    rw [G.out]
    have K1 := Lib.hid ((AL.out _ _).trans (hb1.mono (AL.out _ _).size))
    clear hb1
    go_wp2_with fail
    refine (iall_call us A c D d xs w1 hl (by omega) HW.out (Hr.out.below K1.out) (Hd.out.below K1.out) HX.out).mono ?_
    rintro e w2 ⟨rfl, hb2⟩
    have K2 := Lib.hid (K1.out.trans (hb2.mono K1.out.size))
    clear hb2
    go_wp2_with fail
    refine (all_any _).mono ?_
    rintro e w3 ⟨rfl, hb3⟩
    have K3 := Lib.hid (K2.out.trans (hb3.mono K2.out.size))
    clear hb3
    go_wp2_with fail
    refine (list_call _ _).mono ?_
    rintro e w4 ⟨D4, d4, rfl, hd4, hb4⟩
    have K4 := Lib.hid (K3.out.trans (hb4.mono K3.out.size))
    have R4 := Lib.hid hd4
    clear hb4 hd4
    go_wp2_with fail
    refine (subset_any us A c D4 d4 [⟨1, false, 0⟩] D d xs w4 hl (by decide) (by omega) HW.out (Hr.out.below K4.out) R4.out (Hd.out.below K4.out) rfl HX.out).mono ?_
    rintro e w5 ⟨rfl, hb5⟩
    have K5 := Lib.hid (K4.out.trans (hb5.mono K4.out.size))
    clear hb5
    have e5 : subS us (terms [⟨1, false, 0⟩]) (terms xs) = allL (terms xs) := HL.out.symm
    rw [e5]
    clear e5
    go_wp2_with fail
    refine (works_call _).mono ?_
    rintro e w6 ⟨rfl, hb6⟩
    have K6 := Lib.hid (K5.out.trans (hb6.mono K5.out.size))
    clear hb6
    go_wp2_with fail
    go_ret
    exact ⟨rfl, K6.out⟩
end

theorem fnIsAll_contract (H : Type) (enc : TypeId × Value → H) (W : World) (base : Nat) (args : Array Value) (ds gs : List (DataW H)) (before : List MemPlace)
    (hval : ∀ (j : Nat) t v, Try.f3.params[j]? = some t → args[j]? = some v → Value.okWide Try.prog W .any base t v)
    (hW : DataW.Whole enc Try.prog Try.f3.params.toList Rows.fnIsAllSpec.vars false W args.toList ds gs before) :
    Calls Try.prog 3 args W fun e W' => ∃ v, e = .returned v ∧ Rows.fnIsAllSpec.post enc Try.prog Try.f3 false true false false W args v W' := by
  have hW' := hW
  obtain ⟨p, q, hA0, hV, rfl, hfz, hnd⟩ := hW
  have hA : DataW.TrodAll enc Try.prog W 0 (fun _ => true) true Try.f3.params.toList args.toList ds p := hA0
  rw [Try.params3] at hA hval
  obtain ⟨v0, vs0, d0, ds0, p0, q0, hargs, rfl, rfl, h0, r0⟩ := trodAll_cons hA
  obtain ⟨v1, vs1, d1, ds1, p1, q1, rfl, rfl, rfl, h1, r1⟩ := trodAll_cons r0
  obtain ⟨rfl, rfl, rfl⟩ := trodAll_nil r1
  obtain rfl : args = #[v0, v1] := by cases args; simp_all
  obtain ⟨rfl, rfl⟩ := trodVars_none hV
  have k0 := h0
  have lt0 : ∀ x ∈ p0, x.block < W.heap.size := by obtain ⟨m, hm⟩ := k0; exact DataW.trod_lt m _ _ _ hm
  obtain ⟨A0, l0, c0, rfl, rd0, bd0⟩ := open_us (hval 0 22 v0 rfl rfl) h0
  have k1 := h1
  have lt1 : ∀ x ∈ p1, x.block < W.heap.size := by obtain ⟨m, hm⟩ := k1; exact DataW.trod_lt m _ _ _ hm
  obtain ⟨A1, l1, c1, rfl, rd1, bd1⟩ := open_ts (hval 1 23 v1 rfl rfl) h1
  clear hA0
  refine (walk3 l0 A0 c0 l1 A1 c1 W rd0 rd1).mono fun e W' ⟨he, bel⟩ => ?_
  subst he
  exact ⟨_, rfl, _, _, _, [], _, [], hW', trodAll_mk1 (shut_bool Try.underlying4 _), (trodAll_cons_mk (Below.trod Try.laidOut (by kernel_rfl) (of_decide_eq_true (by kernel_rfl)) k0 bel lt0) (trodAll_cons_mk (Below.trod Try.laidOut (by kernel_rfl) (of_decide_eq_true (by kernel_rfl)) k1 bel lt1) trodAll_mk0)), rfl, bel.frame _, fun h => by cases h⟩

set_option maxRecDepth 100000 in
theorem fnIsAll_lifted (os : Os) (started : os.Started) (H : Type) (enc : TypeId × Value → H) :
    ReturnsInHanded {} Try.checked os 3 .any (Rows.fnIsAllSpec.pre6 enc Try.prog Try.f3 Rows.fnIsAllRow.domain false) (Rows.fnIsAllSpec.post enc Try.prog Try.f3 false true false false) := by
  refine returnsInHanded_of_change (C := Try.checked) Try.own started (by kernel_rfl) Try.func3
    (ChangeSpec.witness6 (enc := enc) (C := Try.checked) false ⟨#[], #[.slice none 0 0, .slice none 0 0], []⟩ 8 (by kernel_rfl) (by kernel_rfl) (by kernel_rfl) (by kernel_rfl)) ?_
  intro W base args ds gs before hval hW _ _
  exact fnIsAll_contract H enc W base args ds gs before hval hW

theorem fnIsAll_closed : joinedFacts Try.prog 3 Try.f3 Rows.fnIsAllSpec Rows.fnIsAllRow = true := closed_of (by kernel_rfl)

theorem fnIsAll_holds : Rows.FnIsAllSaid :=
  OpenClaim.holds_of_wide 3 Try.f3 rfl rfl rfl rfl rfl rfl rfl ⟨rfl, rfl, rfl, rfl, rfl⟩ rfl rfl rfl rfl rfl (by as_aux_lemma => kernel_rfl) Try.func3 fnIsAll_closed
    (of_decide_eq_true (by as_aux_lemma => kernel_rfl)) (by as_aux_lemma => (unfold Func.isWrapper; first | (rw [if_pos (by decide +kernel)]; kernel_rfl) | (rw [if_neg (by decide +kernel)]; exact ⟨rfl, rfl⟩)))
    (fun os started H enc _ => fnIsAll_lifted os started H enc)
end Go.Proofs.Ytehadfnaknpagaa
