/-
  THE WALKS, FIFTEENTH PART: the intersection of the package's lists.
-/
import Derived.Test.YtehadfnaknpagaaWn
import Derived.Test.YtehadfnaknpagaaPd
namespace Go.Proofs.Ytehadfnaknpagaa
open Go.RowKit Pl

/-- what has been gathered, its terms told of the world in which the call began -/
structure Il (w : World) (us : List Int) (K : Nat → Nat) (rl : List T) (v : Value) (wr : World) : Prop where
  own : ∃ vs, wr.ownsRow w.heap.size 69 1 v rl.length vs ∧ TLs w us K vs rl
  below : Below w.heap.size w wr
theorem Il.start (w : World) (us : List Int) (K : Nat → Nat) : Il w us K [] (.slice none 0 0) w := ⟨⟨[], World.ownsRow_nil _ _ _ _, TLs.nil _ _ _⟩, Below.refl _ _⟩
theorem Il.after {w wr wq : World} {us : List Int} {K : Nat → Nat} {rl : List T} {v : Value} (h : Il w us K rl v wr) (hb : Below wr.heap.size wr wq) : Il w us K rl v wq := by
  obtain ⟨⟨vs, h1, h2⟩, h3⟩ := h
  exact ⟨⟨vs, own_below h1 hb, h2⟩, h3.trans (hb.mono h3.size)⟩
theorem Il.push {w wr w1 : World} {us : List Int} {K : Nat → Nat} {rl : List T} {v v1 u : Value} {x : T} {vs : List Value} (h : Il w us K rl v wr) (hvs : wr.ownsRow w.heap.size 69 1 v rl.length vs) (ht : TLs w us K vs rl) (hp : PT w us K u x)
    (hown : w1.ownsRow w.heap.size 69 1 v1 (rl.length + 1) (vs ++ [u])) (hg : (wr.alloc (.cells #[u] 69)).grownBy w1 v.ownBlock) : Il w us K (rl ++ [x]) v1 w1 where
  own := ⟨vs ++ [u], by simpa using hown, ht.append (TLs.one hp)⟩
  below := (h.below.alloc h.below.size _).grown hg (by have := h.below.size; simp; omega) (fun g hgb => (hvs.lt g hgb).1)
theorem Il.tl {w wr : World} {us : List Int} {K : Nat → Nat} {rl : List T} {v : Value} (h : Il w us K rl v wr) : ∃ A c, v = .slice A rl.length c ∧ TL wr us K A rl := by
  obtain ⟨⟨vs, h1, h2⟩, h3⟩ := h
  obtain ⟨A, c, hv, hr⟩ := rd_own h1
  exact ⟨A, c, hv, vs, hr, h2.below h3⟩

section
variable (us : List Int) (K : Nat → Nat) (w : World)

set_option maxHeartbeats 2000000 in
theorem interL_call (A : Option Addr) (c : Nat) (xs : List T) (D : Option Addr) (d : Nat) (ys : List T) (hm : xs.length ≤ 1099511627776) (hn : ys.length ≤ 1099511627776) (hp : xs.length * ys.length ≤ 1099511627776) (hk : Kn w us K) (hw : WOk us) (hx : TL w us K A xs) (hy : TL w us K D ys) :
    Calls Try.prog 88 #[.slice A xs.length c, .slice D ys.length d] w (RetU us K w (interL us xs ys)) := by
  obtain ⟨i0, hi, hz0, hz1, hz2⟩ := info_parts Try.info69
  have E1 := isempty_call us K w A c xs hm hx
  have E2 := isempty_call us K w D d ys hn hy
  have C := fun (v u : Value) (x y : T) w' (hb : Below w.heap.size w w') (h1 : PT w us K v x) (h2 : PT w us K u y) => inter_any us K w' v u x y (hk.below hb) hw (h1.below hb) (h2.below hb)
  have N := fun (A : Option Addr) (c : Nat) w' (hb : Below w.heap.size w w') (h : TL w' us K A (interR us xs ys)) => norm_call us K w' A c (interR us xs ys) (Nat.le_trans (interR_len us xs ys) hp) (hk.below hb) hw h
  have HC := Lib.hid C
  have HN := Lib.hid N
  have HE1 := Lib.hid E1
  have HE2 := Lib.hid E2
  have Hx := Lib.hid hx
  have Hy := Lib.hid hy
  have Hp := Lib.hid hp
  clear hx hy C N E1 E2 hk hw hp
  cases he : emptyL xs with
  | true =>
    have hR : RetU us K w (interL us xs ys) (.returned (.slice none 0 0)) w := by
      unfold interL; rw [he]
      exact ⟨none, 0, rfl, ⟨[], fun h => absurd rfl h, TLs.nil _ _ _⟩, Below.refl _ _⟩
    have HR := Lib.hid hR
    have He := Lib.hid he
    clear he hR
    go_enter Try.func88, Try.ntmps88
    go_wp2_with fail
    refine HE1.out.mono ?_
    rintro e w1 ⟨rfl, rfl⟩
    rw [He.out]
    go_wp2_with fail
    go_ret
    exact HR.out
  | false =>
    cases he2 : emptyL ys with
    | true =>
      have hR : RetU us K w (interL us xs ys) (.returned (.slice none 0 0)) w := by
        unfold interL; rw [he, he2]
        exact ⟨none, 0, rfl, ⟨[], fun h => absurd rfl h, TLs.nil _ _ _⟩, Below.refl _ _⟩
      have HR := Lib.hid hR
      have He := Lib.hid he
      have He2 := Lib.hid he2
      clear he he2 hR
      go_enter Try.func88, Try.ntmps88
      go_wp2_with fail
      refine HE1.out.mono ?_
      rintro e w1 ⟨rfl, rfl⟩
      rw [He.out]
      go_wp2_with fail
      refine HE2.out.mono ?_
      rintro e w1 ⟨rfl, rfl⟩
      rw [He2.out]
      go_wp2_with fail
      go_ret
      exact HR.out
    | false =>
      have hI : interL us xs ys = norm us (interR us xs ys) := by unfold interL; rw [he, he2]; rfl
      have HI := Lib.hid hI
      have He := Lib.hid he
      have He2 := Lib.hid he2
      clear he he2 hI
      go_enter Try.func88, Try.ntmps88
      go_wp2_with fail
      refine HE1.out.mono ?_
      rintro e w1 ⟨rfl, rfl⟩
      rw [He.out]
      go_wp2_with fail
      refine HE2.out.mono ?_
      rintro e w1 ⟨rfl, rfl⟩
      rw [He2.out]
      go_wp2_with fail
      go_loopw [5, 19] (fun v i wr => ∃ k : Nat, k ≤ xs.length ∧ i = .int .i64 k ∧ Il w us K (IR us xs ys k 0) v wr) (fun _ i _ => xs.length - (intOf i).toNat)
      case atStart => exact ⟨0, Nat.zero_le _, rfl, by rw [IR.zero]; exact Il.start _ _ _⟩
      case round =>
        obtain ⟨k, hk, rfl, hq⟩ := hrel
        by_cases hlt : k < xs.length
        · obtain ⟨b, off, u, rfl, c0, hpt⟩ := Hx.out.at2 hq.below hlt
          obtain ⟨a, rfl⟩ := hpt.ptr
          have Hpt := Lib.hid hpt
          clear hpt
          go_wp2_with fail
          obtain ⟨wo, rfl⟩ : ∃ wo : World, wo = wr := ⟨_, rfl⟩
          go_loopw [5, 25] (fun v j wi => ∃ n : Nat, n ≤ ys.length ∧ j = .int .i64 n ∧ Il w us K (IR us xs ys k n) v wi) (fun _ j _ => ys.length - (intOf j).toNat)
          case atStart => exact ⟨0, Nat.zero_le _, rfl, hq⟩
          case round =>
            clear hq c0
            obtain ⟨n, hn', rfl, hq⟩ := hrel
            by_cases hlt2 : n < ys.length
            · obtain ⟨b2, off2, u2, rfl, c0, hpt⟩ := Hy.out.at2 hq.below hlt2
              obtain ⟨a2, rfl⟩ := hpt.ptr
              have Hpt2 := Lib.hid hpt
              clear hpt
              go_wp2_with fail
              refine (HC.out _ _ _ _ _ hq.below Hpt.out Hpt2.out).mono ?_
              rintro e w1 ⟨r, rfl, hr, hd⟩
              have hr' := hr w Hpt.out Hpt2.out
              have hq1 := hq.after (hd.below _)
              cases hz : (inter1 us (xs.getD k .no) (ys.getD n .no)).isNo with
              | true =>
                obtain rfl := hr'.isno hz
                have hs := IR.skip hlt2 hz
                rw [← hs] at hq1
                clear hr hr' hq c0 hs hz
                go_wp2_with fail
                go_roundw
                case rel => exact ⟨n + 1, by omega, by go_num, hq1⟩
                case measure => simp [intOf]; omega
              | false =>
                obtain ⟨g, tl, p, rfl, _, _⟩ := hr'.nn hz
                have hs := IR.next hlt2 hz
                have hlen := IR.len (us := us) hlt hlt2
                have hb40 : (IR us xs ys k n).length < 1099511627776 := Nat.lt_of_lt_of_le hlen Hp.out
                obtain ⟨vs, hown, htl⟩ := hq1.own
                have hsz := hq1.below.size
                have Hs := Lib.hid hs
                have Hq1 := Lib.hid hq1
                have Htl := Lib.hid htl
                have Hr := Lib.hid hr'
                clear hr hr' hq c0 hs hz hlen hq1 htl
                go_wp2_with (at_builtin; refine wpList_append_own _ rfl _ _ 65 rfl w.heap.size 69 i0 (.pointer none) 1 8 Try.underlying65 hi hz0 hz1 hz2 rfl (by decide) _ _ _ rfl (hown.alloc _) ⟨w1.heap.size, 0, none⟩ 1 1 [.pointer (some ⟨g, 0, none⟩)] rfl rfl ?c1 ?c2 ?c3 ?c4 ?c5 ?_)
                case c1 => exact news_blk (Blk.new _ 69 #[.pointer (some ⟨g, 0, none⟩)])
                case c2 => intro u hu; simp at hu; subst hu; rfl
                case c3 => unfold maxLen; omega
                case c4 => omega
                case c5 => simp; omega
                · intro v' w2 hown' hgrow _
                  have hq' := Hq1.out.push hown Htl.out Hr.out hown' hgrow
                  rw [← Hs.out] at hq'
                  clear hown' hgrow hown
                  go_wp2_with fail
                  go_roundw
                  case rel => exact ⟨n + 1, by omega, by go_num, hq'⟩
                  case measure => simp [intOf]; omega
            · obtain rfl : n = ys.length := by omega
              rw [IR.row us xs ys hlt] at hq
              go_wp2_with fail
              go_roundw
              case rel => exact ⟨k + 1, by omega, by go_num, hq⟩
              case measure => simp [intOf]; omega
        · obtain rfl : k = xs.length := by omega
          rw [IR.done] at hq
          obtain ⟨A', c', hv, htl⟩ := hq.tl
          have Hb := Lib.hid hq.below
          have Htl := Lib.hid htl
          subst hv
          clear hq htl
          go_wp2_with fail
          refine (HN.out _ _ _ Hb.out Htl.out).mono ?_
          rintro e w2 hret
          obtain ⟨v2, rfl, hbt⟩ := hret
          have hR : RetU us K w (interL us xs ys) (.returned v2) w2 := by rw [HI.out]; exact RetU.of ⟨v2, rfl, hbt⟩ Hb.out
          have HR := Lib.hid hR
          clear hR hbt
          go_wp2_with fail
          go_ret
          exact HR.out
end
end Go.Proofs.Ytehadfnaknpagaa
