/-
  THE WALKS, THIRTEENTH PART: norm, union, intersect of the package's lists.
-/
import Derived.Test.YtehadfnaknpagaaWl
namespace Go.Proofs.Ytehadfnaknpagaa
open Go.RowKit Pl

section
variable (us : List Int) (K : Nat → Nat) (w : World)

set_option maxHeartbeats 2000000 in
theorem norm_call (A : Option Addr) (c : Nat) (xs : List T) (hm : xs.length ≤ 1099511627776) (hk : Kn w us K) (hw : WOk us) (hx : TL w us K A xs) :
    Calls Try.prog 98 #[.slice A xs.length c] w (RetL us K w (norm us xs)) := by
  obtain ⟨i0, hi, hz0, hz1, hz2⟩ := info_parts Try.info69
  have hmk := run_make_row' (P := Try.prog) 88 4 (.bool false) 1 Try.underlying88 Try.info4 rfl .i64 .i64 xs.length (by omega) (by omega)
  have C := fun (v u : Value) (x y : T) w' (hb : Below w.heap.size w w') (h1 : PT w us K v x) (h2 : PT w us K u y) => union_any us K w' v u x y (hk.below hb) hw (h1.below hb) (h2.below hb)
  have HC := Lib.hid C
  have Hx := Lib.hid hx
  clear hx C hk hw
  go_enter Try.func98, Try.ntmps98
  go_wp2_with fail
  clear hmk
  go_loopw [4, 16] (fun v i wr => ∃ k ub rl, k ≤ xs.length ∧ i = .int .i64 (k : Nat) ∧ rl.length ≤ k ∧ Nl w us K xs.length ub rl v wr ∧ NO us xs k ub rl) (fun _ i _ => xs.length - (intOf i).toNat)
  case atStart => exact ⟨0, _, _, Nat.zero_le _, rfl, Nat.zero_le _, Nl.start _ _ _ _, NO.start _ _⟩
  case round =>
    obtain ⟨k, ub, rl, hk, rfl, hrl, hq, hno⟩ := hrel
    by_cases hlt : k < xs.length
    · obtain ⟨b, off, u, rfl, c0, hpt⟩ := Hx.out.at2 hq.below hlt
      have q0 := hq.row.cell hlt
      cases hn : (xs.getD k .no).isNo with
      | true =>
        obtain rfl := hpt.isno hn
        have Hn := Lib.hid hn
        clear hn
        go_wp2_with fail
        go_roundw
        case rel => exact ⟨k + 1, ub, rl, by omega, by go_num, by omega, hq, hno.skip hlt (by rw [Hn.out]; rfl)⟩
        case measure => simp [intOf]; omega
      | false =>
        obtain ⟨g, tl, p, rfl, hblk, hall⟩ := hpt.nn hn
        cases hu : ub.getD k false with
        | true =>
          rw [hu] at q0
          have Hn := Lib.hid hn
          have Hu := Lib.hid hu
          clear hn hu hblk hall
          go_wp2_with fail
          go_roundw
          case rel => exact ⟨k + 1, ub, rl, by omega, by go_num, by omega, hq, hno.skip hlt (by rw [Hu.out]; simp)⟩
          case measure => simp [intOf]; omega
        | false =>
          rw [hu] at q0
          obtain ⟨R, hNI, hR1, hR2⟩ := hno.open_ hlt hn hu
          have Hn := Lib.hid hn
          have HR1 := Lib.hid hR1
          have HR2 := Lib.hid hR2
          have Hpt := Lib.hid hpt
          clear hn hu hblk hall hno hR1 hR2 hpt
          go_wp2_with fail
          obtain ⟨wo, rfl⟩ : ∃ wo : World, wo = wr := ⟨_, rfl⟩
          go_loopw [6, 7] (fun xv jv wi => ∃ j x ub', j ≤ xs.length ∧ jv = .int .i64 (j : Nat) ∧ PT w us K xv x ∧ x.isNo = false ∧ Nl w us K xs.length ub' rl u4 wi ∧ NI us xs j x ub' R) (fun _ jv _ => xs.length - (intOf jv).toNat)
          case atStart => exact ⟨k + 1, _, ub, by omega, by go_num, Hpt.out, Hn.out, hq, hNI⟩
          case round =>
            clear hNI hq q0 c0 Hpt Hn
            obtain ⟨j, x, ub', hj, rfl, hpx, hnx, hq, hNI⟩ := hrel
            obtain ⟨g1, tl1, p1, rfl, hblk1, hall1⟩ := hpx.nn hnx
            have Hpx := Lib.hid hpx
            have Hnx := Lib.hid hnx
            clear hblk1 hall1 hpx hnx
            by_cases hjl : j < xs.length
            · obtain ⟨b2, off2, u', hA, c0, hpt⟩ := Hx.out.at2 hq.below hjl
              simp only [Option.some.injEq, Addr.mk.injEq, and_true] at hA
              obtain ⟨rfl, rfl⟩ := hA
              have q0 := hq.row.cell hjl
              cases hn : (xs.getD j .no).isNo with
              | true =>
                obtain rfl := hpt.isno hn
                have Hn := Lib.hid hn
                clear hn
                go_wp2_with fail
                go_roundw
                case rel => exact ⟨j + 1, x, ub', by omega, by go_num, Hpx.out, Hnx.out, hq, hNI.skip hjl (by rw [Hn.out]; rfl)⟩
                case measure => simp [intOf]; omega
              | false =>
                obtain ⟨g2, tl2, p2, rfl, hblk, hall⟩ := hpt.nn hn
                cases hu : ub'.getD j false with
                | true =>
                  rw [hu] at q0
                  have Hn := Lib.hid hn
                  have Hu := Lib.hid hu
                  clear hn hu hblk hall
                  go_wp2_with fail
                  go_roundw
                  case rel => exact ⟨j + 1, x, ub', by omega, by go_num, Hpx.out, Hnx.out, hq, hNI.skip hjl (by rw [Hu.out]; simp)⟩
                  case measure => simp [intOf]; omega
                | false =>
                  rw [hu] at q0
                  have Hn := Lib.hid hn
                  have Hu := Lib.hid hu
                  have Hpt := Lib.hid hpt
                  clear hn hu hblk hall hpt
                  go_wp2_with fail
                  refine (HC.out _ _ _ _ _ hq.below Hpx.out Hpt.out).mono ?_
                  rintro e w1 ⟨a1, a2, rfl, hab, hd⟩
                  obtain ⟨ha1, ha2⟩ := hab w Hpx.out Hpt.out
                  have hq1 := hq.after (hd.below _)
                  have Hab := Lib.hid ha1
                  have hn1 : (union1 us x (xs.getD j .no)).1.isNo = false := union1_notNo Hnx.out
                  obtain ⟨g3, tl3, p3, rfl, hblk3, hall3⟩ := ha1.nn hn1
                  clear hab ha1 hq q0 c0
                  cases hs2 : (union1 us x (xs.getD j .no)).2.isNo with
                  | true =>
                    obtain rfl := ha2.isno hs2
                    obtain ⟨d0, d1⟩ := (hblk3.below hq1.below).cells2
                    cases hs1 : (union1 us x (xs.getD j .no)).1.isAll with
                    | true =>
                      have hR := hNI.whole hjl Hn.out Hu.out hs2 hs1
                      rw [hs1] at hall3
                      obtain rfl : p3 = none := by cases p3 <;> simp_all
                      have HR := Lib.hid hR
                      clear hs1 hs2 hall3 hR hblk3 ha2 hn1 hNI
                      go_wp2_with fail
                      refine (alltl_call _).mono ?_
                      rintro e w2 ⟨rfl, rfl⟩
                      go_wp2_with fail
                      go_ret
                      rw [HR1.out HR.out]
                      exact ⟨_, rfl, Bt.alltl hq1.below⟩
                    | false =>
                      have hNI' := hNI.join hjl Hn.out Hu.out hs2 hs1
                      rw [hs1] at hall3
                      obtain ⟨p4, rfl⟩ : ∃ p, p3 = some p := by cases p3 <;> simp_all
                      have q1 := hq1.row.cell hjl
                      have q2 := hq1.row.frozen j
                      have hq2 := hq1.mark hjl
                      have Hq2 := Lib.hid hq2
                      have HN := Lib.hid hNI'
                      have Hn1 := Lib.hid hn1
                      clear hs1 hs2 hall3 hblk3 ha2 hn1 hNI hNI' hq2 hq1
                      go_wp2_with fail
                      go_roundw
                      case rel => exact ⟨j + 1, _, _, by omega, by go_num, Hab.out, Hn1.out, Hq2.out, HN.out⟩
                      case measure => simp [intOf]; omega
                  | false =>
                    obtain ⟨g5, tl5, p5, rfl, hblk5, hall5⟩ := ha2.nn hs2
                    have hNI' := hNI.apart hjl Hn.out Hu.out hs2
                    have HN := Lib.hid hNI'
                    have Hq1 := Lib.hid hq1
                    clear hs2 hall3 hblk3 ha2 hn1 hNI hNI' hblk5 hall5 hq1
                    go_wp2_with fail
                    go_roundw
                    case rel => exact ⟨j + 1, x, ub', by omega, by go_num, Hpx.out, Hnx.out, Hq1.out, HN.out⟩
                    case measure => simp [intOf]; omega
            · obtain rfl : j = xs.length := by omega
              have hNO := HR2.out _ _ hNI.done
              obtain ⟨vs, hown, htl⟩ := hq.own
              have hs := hq.below.size
              have HNO := Lib.hid hNO
              have Hq := Lib.hid hq
              have Htl := Lib.hid htl
              clear hNO hq htl hNI
              go_wp2_with (at_builtin; refine wpList_append_own _ rfl _ _ 65 rfl w.heap.size 69 i0 (.pointer none) 1 8 Try.underlying65 hi hz0 hz1 hz2 rfl (by decide) _ _ _ rfl (hown.alloc _) ⟨wr.heap.size, 0, none⟩ 1 1 [.pointer (some ⟨g1, 0, none⟩)] rfl rfl ?c1 ?c2 ?c3 ?c4 ?c5 ?_)
              case c1 => exact news_blk (Blk.new _ 69 #[.pointer (some ⟨g1, 0, none⟩)])
              case c2 => intro u hu; simp at hu; subst hu; rfl
              case c3 => unfold maxLen; omega
              case c4 => omega
              case c5 => simp; omega
              · intro v' w2 hown' hgrow _
                have hq' := Hq.out.push hown Htl.out Hpx.out hown' hgrow
                have Hq' := Lib.hid hq'
                clear hown' hgrow hown hq'
                go_wp2_with fail
                go_roundw
                case rel => exact ⟨k + 1, ub', _, by omega, by go_num, by simp; omega, Hq'.out, HNO.out⟩
                case measure => simp [intOf]; omega
    · obtain rfl : k = xs.length := by omega
      go_wp2_with fail
      go_ret
      rw [← hno.done]
      exact ⟨_, rfl, hq.bt⟩
end
end Go.Proofs.Ytehadfnaknpagaa
