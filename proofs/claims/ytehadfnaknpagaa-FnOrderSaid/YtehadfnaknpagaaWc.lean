/-
  THE WALKS, THIRD PART: the reference's Valid and the laws' valid.
-/
import Derived.Test.YtehadfnaknpagaaWb
namespace Go.Proofs.Ytehadfnaknpagaa
open Go.RowKit Pl

def P1 (us : List Int) (u : Int) : Bool := decide (0 ≤ u) && decide (u < us.length) && us.getD u.toNat 0 == u
theorem WB_eq (us : List Int) : WB us = us.all (P1 us) := rfl
theorem all_non {α : Type} {l : List α} {p : α → Bool} {k : Nat} (h : Non l (fun x => !p x) k) (hk : ¬ k < l.length) : l.all p = true := by
  rw [List.all_eq_true]
  intro x hx
  obtain ⟨i, hi, rfl⟩ := List.mem_iff_getElem.1 hx
  have := h i hi (by omega)
  simpa using this
theorem all_no {α : Type} {l : List α} {p : α → Bool} {k : Nat} (hk : k < l.length) (hp : p l[k] = false) : l.all p = false :=
  List.all_eq_false.2 ⟨_, List.getElem_mem hk, by rw [hp]; decide⟩

set_option maxHeartbeats 2000000 in
theorem specvalid_any (us : List Int) (A : Option Addr) (c : Nat) (D : Option Addr) (d : Nat) (xs : List Tm) (w : World) (hl : us.length ≤ 2147483647) (hm : xs.length ≤ 4294967296) (hr : Rd w A (ints us)) (hd : Rd w D (tcs xs)) :
    Calls Try.prog 40 #[.slice A us.length c, .slice D xs.length d] w fun e w' => e = .returned (.bool (VB us xs)) ∧ Below w.heap.size w w' := by
  have Hr := Lib.hid hr
  have Hd := Lib.hid hd
  clear hr hd
  go_enter Try.func40, Try.ntmps40
  go_wp2_with fail
  go_loop [11] (fun i => ∃ k : Nat, k ≤ us.length ∧ i = .int .i64 k ∧ Non us (fun u => !P1 us u) k) (fun i => us.length - (intOf i).toNat)
  case atStart => exact ⟨0, Nat.zero_le _, rfl, Non.zero⟩
  case round =>
    obtain ⟨k, hk, rfl, hno⟩ := hrel
    by_cases hlt : k < us.length
    · obtain ⟨b, off, rfl, c0⟩ := Hr.out.int hlt
      obtain ⟨u, hu⟩ : ∃ u, us.getD k 0 = u := ⟨_, rfl⟩
      have hu' : us[k] = u := by rw [← hu, List.getD_eq_getElem?_getD, List.getElem?_eq_getElem hlt]; rfl
      rw [hu] at c0
      have Hu := Lib.hid hu'
      clear hu hu'
      by_cases g0 : u < 0
      · have d0 : decide (u < 0) = true := by simpa using g0
        have hp : P1 us us[k] = false := by rw [Hu.out]; simp [P1]; omega
        have Hp := Lib.hid hp
        clear hp
        go_wp2_with fail
        go_ret
        exact ⟨ret_b (by simp [VB, WB_eq, all_no hlt Hp.out]), Below.refl _ _⟩
      · have d0 : decide (u < 0) = false := by simpa using g0
        by_cases g1 : u < us.length
        · obtain ⟨j, rfl⟩ : ∃ j : Nat, u = j := ⟨u.toNat, by omega⟩
          have hj : j < us.length := by omega
          obtain ⟨b', off', hbo, c1⟩ := Hr.out.int hj
          simp only [Option.some.injEq, Addr.mk.injEq, and_true] at hbo
          obtain ⟨rfl, rfl⟩ := hbo
          obtain ⟨v, hv⟩ : ∃ v, us.getD j 0 = v := ⟨_, rfl⟩
          rw [hv] at c1
          have Hv := Lib.hid hv
          clear hv
          by_cases g2 : v = j
          · have d2 : (v != (j : Int)) = false := by simpa using g2
            have hp : P1 us us[k] = true := by rw [Hu.out]; simp only [P1, Int.toNat_natCast, Hv.out, g2]; simp; omega
            have Hp := Lib.hid hp
            clear hp g2
            go_wp2_with fail
            go_round
            case rel => exact ⟨k + 1, by omega, by go_num, hno.succ hlt (by rw [Hp.out]; rfl)⟩
            case measure => simp [intOf]; omega
          · have d2 : (v != (j : Int)) = true := by simpa using g2
            have hp : P1 us us[k] = false := by rw [Hu.out]; simp only [P1, Int.toNat_natCast, Hv.out]; simp [g2]
            have Hp := Lib.hid hp
            clear hp g2
            go_wp2_with fail
            go_ret
            exact ⟨ret_b (by simp [VB, WB_eq, all_no hlt Hp.out]), Below.refl _ _⟩
        · have hp : P1 us us[k] = false := by rw [Hu.out]; simp [P1]; omega
          have Hp := Lib.hid hp
          clear hp
          go_wp2_with fail
          go_ret
          exact ⟨ret_b (by simp [VB, WB_eq, all_no hlt Hp.out]), Below.refl _ _⟩
    · have hwb : WB us = true := by rw [WB_eq]; exact all_non hno hlt
      have Hwb := Lib.hid hwb
      clear hwb hno
      go_wp2_with fail
      go_loopw [34] (fun i wr => ∃ k : Nat, k ≤ xs.length ∧ i = .int .i64 k ∧ Below w.heap.size w wr ∧ Non xs (fun x => !TB us x) k) (fun i _ => xs.length - (intOf i).toNat)
      case atStart => exact ⟨0, Nat.zero_le _, rfl, Below.refl _ _, Non.zero⟩
      case round =>
        obtain ⟨k, hk, rfl, hb, hno⟩ := hrel
        by_cases hlt : k < xs.length
        · obtain ⟨b, off, rfl, c0, c1, c2⟩ := (Hd.out.below hb).tm hlt
          have hb1 : ∀ o, Below w.heap.size w (wr.alloc o) := fun o => hb.alloc hb.size o
          have hR := fun o => Hr.out.below (hb1 o)
          have HR := Lib.hid hR
          clear hR
          obtain ⟨⟨kd, tl, ty⟩, hxk⟩ : ∃ x : Tm, xs[k] = x := ⟨_, rfl⟩
          rw [hxk] at c0 c1 c2
          dsimp only at c0 c1 c2
          have Hx := Lib.hid hxk
          clear hxk
          by_cases g0 : kd < 0
          · have d0 : decide (kd < 0) = true := by simpa using g0
            have hp : TB us xs[k] = false := by rw [Hx.out]; simp [TB]; omega
            have Hp := Lib.hid hp
            clear hp
            go_wp2_with fail
            go_quiet (fail)
            go_wp2_with fail
            go_ret
            exact ⟨ret_b (by simp [VB, all_no hlt Hp.out]), below_drewN (hb1 _) _⟩
          · have d0 : decide (kd < 0) = false := by simpa using g0
            by_cases g1 : 2 < kd
            · have d1 : decide (2 < kd) = true := by simpa using g1
              have hp : TB us xs[k] = false := by rw [Hx.out]; simp [TB]; omega
              have Hp := Lib.hid hp
              clear hp
              go_wp2_with fail
              go_quiet (fail)
              go_wp2_with fail
              go_ret
              exact ⟨ret_b (by simp [VB, all_no hlt Hp.out]), below_drewN (hb1 _) _⟩
            · have d1 : decide (2 < kd) = false := by simpa using g1
              by_cases g2 : kd = 2
              · subst g2
                by_cases g3 : ty < 0
                · have d3 : decide (ty < 0) = true := by simpa using g3
                  have hp : TB us xs[k] = false := by rw [Hx.out]; simp [TB]; omega
                  have Hp := Lib.hid hp
                  clear hp
                  go_wp2_with fail
                  go_quiet (fail)
                  go_wp2_with fail
                  go_ret
                  exact ⟨ret_b (by simp [VB, all_no hlt Hp.out]), below_drewN (hb1 _) _⟩
                · have d3 : decide (ty < 0) = false := by simpa using g3
                  by_cases g4 : ty < us.length
                  · obtain ⟨n, rfl⟩ : ∃ n : Nat, ty = n := ⟨ty.toNat, by omega⟩
                    have hn : n < us.length := by omega
                    have d4 : decide ((us.length : Int) ≤ (n : Int)) = false := by simp; omega
                    have d5 : decide (us.length ≤ n) = false := by simp; omega
                    cases tl with
                    | false =>
                      have hp : TB us xs[k] = true := by rw [Hx.out]; simp [TB]; omega
                      have Hp := Lib.hid hp
                      clear hp
                      go_wp2_with fail
                      go_quiet (fail)
                      go_wp2_with fail
                      go_roundw
                      case rel => exact ⟨k + 1, by omega, by go_num, below_drewN (hb1 _) _, hno.succ hlt (by rw [Hp.out]; rfl)⟩
                      case measure => simp [intOf]; omega
                    | true =>
                      obtain ⟨b', off', rfl, q0⟩ := Hr.out.int hn
                      have q1 : ∀ o, (wr.alloc o).cell? ⟨b', off' + n, none⟩ = some (.int .i64 (us.getD n 0)) := by
                        intro o
                        have h := (HR.out o).int hn
                        obtain ⟨b2, off2, h2, h3⟩ := h
                        simp only [Option.some.injEq, Addr.mk.injEq, and_true] at h2
                        obtain ⟨rfl, rfl⟩ := h2
                        exact h3
                      clear q0
                      obtain ⟨v, hv⟩ : ∃ v, us.getD n 0 = v := ⟨_, rfl⟩
                      rw [hv] at q1
                      have Hv := Lib.hid hv
                      clear hv
                      by_cases g5 : v = n
                      · have d6 : (v != (n : Int)) = false := by simpa using g5
                        have hp : TB us xs[k] = true := by rw [Hx.out]; simp only [TB, Int.toNat_natCast, Hv.out, g5]; simp; omega
                        have Hp := Lib.hid hp
                        clear hp g5
                        go_wp2_with fail
                        go_quiet (fail)
                        go_wp2_with fail
                        go_roundw
                        case rel => exact ⟨k + 1, by omega, by go_num, below_drewN (hb1 _) _, hno.succ hlt (by rw [Hp.out]; rfl)⟩
                        case measure => simp [intOf]; omega
                      · have d6 : (v != (n : Int)) = true := by simpa using g5
                        have hp : TB us xs[k] = false := by rw [Hx.out]; simp only [TB, Int.toNat_natCast, Hv.out]; simp [g5]
                        have Hp := Lib.hid hp
                        clear hp g5
                        go_wp2_with fail
                        go_quiet (fail)
                        go_wp2_with fail
                        go_ret
                        exact ⟨ret_b (by simp [VB, all_no hlt Hp.out]), below_drewN (hb1 _) _⟩
                  · have d4 : decide ((us.length : Int) ≤ ty) = true := by simp; omega
                    have hp : TB us xs[k] = false := by rw [Hx.out]; simp [TB]; omega
                    have Hp := Lib.hid hp
                    clear hp
                    go_wp2_with fail
                    go_quiet (fail)
                    go_wp2_with fail
                    go_ret
                    exact ⟨ret_b (by simp [VB, all_no hlt Hp.out]), below_drewN (hb1 _) _⟩
              · have d2 : (kd == 2) = false := by simpa using g2
                have hp : TB us xs[k] = true := by rw [Hx.out]; simp [TB, g2]; omega
                have Hp := Lib.hid hp
                clear hp
                go_wp2_with fail
                go_quiet (fail)
                go_wp2_with fail
                go_roundw
                case rel => exact ⟨k + 1, by omega, by go_num, below_drewN (hb1 _) _, hno.succ hlt (by rw [Hp.out]; rfl)⟩
                case measure => simp [intOf]; omega
        · go_wp2_with fail
          go_ret
          exact ⟨ret_b (by rw [VB, Hwb.out, all_non hno hlt]; rfl), hb⟩
end Go.Proofs.Ytehadfnaknpagaa
