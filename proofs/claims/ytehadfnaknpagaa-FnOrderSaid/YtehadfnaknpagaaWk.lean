/-
  THE WALKS, ELEVENTH PART: outs; the package's lists: isEmpty, isAll, includes, supersetOf, subsetOf, equal.
-/
import Derived.Test.YtehadfnaknpagaaWj
namespace Go.Proofs.Ytehadfnaknpagaa
open Go.RowKit Pl

theorem Cp.after {w wr wq : World} {t : TypeId} {xs : List Tm} {k : Nat} {v : Value} (h : Cp w t xs k v wr) (hb : Below wr.heap.size wr wq) : Cp w t xs k v wq := ⟨own_below h.own hb, h.below.trans (hb.mono h.below.size)⟩
theorem Cp.step1 {w wr w1 : World} {t s : TypeId} {xs : List Tm} {k : Nat} {v v1 : Value} (h : Cp w t xs k v wr) (hk : k < xs.length)
    (hown : w1.ownsRow w.heap.size t 3 v1 (k + 1) (tcs (xs.take k) ++ [.int .i64 xs[k].kind, .bool xs[k].tilde, .int .i64 xs[k].type]))
    (hg : (wr.alloc (.cells #[.int .i64 xs[k].kind, .bool xs[k].tilde, .int .i64 xs[k].type] s)).grownBy w1 v.ownBlock) : Cp w t xs (k + 1) v1 w1 := by
  refine ⟨by rw [tcs_snoc xs k hk]; exact hown, ?_⟩
  exact (h.below.alloc h.below.size _).grown hg (by have := h.below.size; simp; omega) (fun g hg => (h.own.lt g hg).1)

section
variable (us : List Int) (K : Nat → Nat) (w : World)

set_option maxHeartbeats 800000 in
theorem outs_call (A : Option Addr) (c : Nat) (xs : List T) (hm : xs.length ≤ 1099511627776) (hk : Kn w us K) (hx : TL w us K A xs) :
    Calls Try.prog 86 #[.slice A xs.length c] w (RetS w (xs.map ofT)) := by
  obtain ⟨i0, hi, hz0, hz1, hz2⟩ := info_parts Try.info52
  have C := fun (v : Value) (x : T) w' (hb : Below w.heap.size w w') (h : PT w' us K v x) => out_call us K w' v x (hk.below hb) h
  have HC := Lib.hid C
  have Hx := Lib.hid hx
  clear hk hx C
  go_enter Try.func86, Try.ntmps86
  go_wp2_with fail
  go_loopw [3, 8] (fun v i wr => ∃ k : Nat, k ≤ xs.length ∧ i = .int .i64 k ∧ Cp w 52 (xs.map ofT) k v wr) (fun _ i _ => xs.length - (intOf i).toNat)
  case atStart => exact ⟨0, Nat.zero_le _, rfl, Cp.start _ _ _⟩
  case round =>
    obtain ⟨k, hk, rfl, hq⟩ := hrel
    by_cases hlt : k < xs.length
    · obtain ⟨b, off, u, rfl, c0, hpt⟩ := (Hx.out.below hq.below).at_ hlt
      obtain ⟨a, rfl⟩ := hpt.ptr
      have Hpt := Lib.hid hpt
      have Hq := Lib.hid hq
      have hbel := hq.below
      clear hpt hq
      go_wp2_with fail
      refine (HC.out _ _ _ hbel Hpt.out).mono ?_
      rintro e w1 ⟨rfl, hb1⟩
      have hq := Hq.out.after hb1
      have hs := hq.below.size
      have hlt' : k < (xs.map ofT).length := by simpa using hlt
      obtain ⟨⟨kd, tl, ty⟩, hz⟩ : ∃ z : Tm, ofT xs[k] = z := ⟨_, rfl⟩
      have hz' : (xs.map ofT)[k] = ⟨kd, tl, ty⟩ := by rw [List.getElem_map, hz]
      have Hz := Lib.hid hz'
      rw [hz]
      clear hb1 c0 hbel hz hz'
      go_wp2_with (at_builtin; refine wpList_append_own _ rfl _ _ 48 rfl w.heap.size 52 i0 (.agg #[.int .i64 0, .bool false, .int .i64 0]) 3 24 Try.underlying48 hi hz0 hz1 hz2 rfl (by decide) _ _ _ rfl (hq.own.alloc _) ⟨w1.heap.size, 0, none⟩ 1 1 [.int .i64 kd, .bool tl, .int .i64 ty] rfl rfl ?c1 ?c2 ?c3 ?c4 ?c5 ?_)
      case c1 => exact news_blk (Blk.new w1 52 #[.int .i64 kd, .bool tl, .int .i64 ty])
      case c2 => intro u hu; simp at hu; rcases hu with rfl | rfl | rfl <;> rfl
      case c3 => unfold maxLen; omega
      case c4 => omega
      case c5 => simp; omega
      · intro v' w2 hown' hgrow _
        have hq' := Cp.step1 (s := 52) hq hlt' (by rw [Hz.out]; exact hown') (by rw [Hz.out]; exact hgrow)
        clear hown' hgrow hq
        go_wp2_with fail
        go_roundw
        case rel => exact ⟨k + 1, by omega, by go_num, hq'⟩
        case measure => simp [intOf]; omega
    · obtain rfl : k = xs.length := by omega
      go_wp2_with fail
      go_ret
      have e : xs.length = (xs.map ofT).length := by simp
      rw [e] at hq
      exact hq.ret

set_option maxHeartbeats 400000 in
theorem isempty_call (A : Option Addr) (c : Nat) (xs : List T) (hm : xs.length ≤ 1099511627776) (hx : TL w us K A xs) :
    Calls Try.prog 82 #[.slice A xs.length c] w fun e w' => e = .returned (.bool (emptyL xs)) ∧ w = w' := by
  have Hx := Lib.hid hx
  clear hx
  go_enter Try.func82, Try.ntmps82
  go_wp2_with fail
  go_loop [7] (fun i => ∃ k : Nat, k ≤ xs.length ∧ i = .int .i64 k ∧ Non xs (fun x => !x.isNo) k) (fun i => xs.length - (intOf i).toNat)
  case atStart => exact ⟨0, Nat.zero_le _, rfl, Non.zero⟩
  case round =>
    obtain ⟨k, hk, rfl, hno⟩ := hrel
    by_cases hlt : k < xs.length
    · obtain ⟨b, off, u, rfl, c0, hpt⟩ := Hx.out.at_ hlt
      cases hx : xs[k] with
      | no =>
        rw [hx] at hpt
        obtain rfl := hpt
        have H := Lib.hid hx
        clear hx
        go_wp2_with fail
        go_round
        case rel => exact ⟨k + 1, by omega, by go_num, hno.succ hlt (by rw [H.out]; rfl)⟩
        case measure => simp [intOf]; omega
      | all =>
        rw [hx] at hpt
        obtain ⟨g, s, rfl, hg⟩ := hpt
        have H := Lib.hid hx
        clear hx
        go_wp2_with fail
        go_ret
        exact ⟨ret_b (all_no hlt (by rw [H.out]; rfl)).symm, rfl⟩
      | one b' n =>
        rw [hx] at hpt
        obtain ⟨hn, g, rfl, hg⟩ := hpt
        have H := Lib.hid hx
        clear hx
        go_wp2_with fail
        go_ret
        exact ⟨ret_b (all_no hlt (by rw [H.out]; rfl)).symm, rfl⟩
    · go_wp2_with fail
      go_ret
      exact ⟨ret_b (all_non hno hlt).symm, rfl⟩

set_option maxHeartbeats 400000 in
theorem isall_call (A : Option Addr) (c : Nat) (xs : List T) (hm : xs.length ≤ 1099511627776) (hx : TL w us K A xs) :
    Calls Try.prog 81 #[.slice A xs.length c] w fun e w' => e = .returned (.bool (allL xs)) ∧ w = w' := by
  have Hx := Lib.hid hx
  clear hx
  go_enter Try.func81, Try.ntmps81
  go_wp2_with fail
  go_loop [7] (fun i => ∃ k : Nat, k ≤ xs.length ∧ i = .int .i64 k ∧ Non xs T.isAll k) (fun i => xs.length - (intOf i).toNat)
  case atStart => exact ⟨0, Nat.zero_le _, rfl, Non.zero⟩
  case round =>
    obtain ⟨k, hk, rfl, hno⟩ := hrel
    by_cases hlt : k < xs.length
    · obtain ⟨b, off, u, rfl, c0, hpt⟩ := Hx.out.at_ hlt
      cases hx : xs[k] with
      | no =>
        rw [hx] at hpt
        obtain rfl := hpt
        have H := Lib.hid hx
        clear hx
        go_wp2_with fail
        go_round
        case rel => exact ⟨k + 1, by omega, by go_num, hno.succ hlt (by rw [H.out]; rfl)⟩
        case measure => simp [intOf]; omega
      | all =>
        rw [hx] at hpt
        obtain ⟨g, s, rfl, hg⟩ := hpt
        obtain ⟨a0, a1⟩ := hg.cells2
        have H := Lib.hid hx
        clear hx
        go_wp2_with fail
        go_ret
        exact ⟨ret_b (any_at hlt (by rw [H.out]; rfl)).symm, rfl⟩
      | one b' n =>
        rw [hx] at hpt
        obtain ⟨hn, g, rfl, hg⟩ := hpt
        obtain ⟨a0, a1⟩ := hg.cells2
        have H := Lib.hid hx
        clear hx
        go_wp2_with fail
        go_round
        case rel => exact ⟨k + 1, by omega, by go_num, hno.succ hlt (by rw [H.out]; rfl)⟩
        case measure => simp [intOf]; omega
    · go_wp2_with fail
      go_ret
      exact ⟨ret_b (hno.any hlt).symm, rfl⟩

set_option maxHeartbeats 400000 in
theorem includes_call (A : Option Addr) (c : Nat) (xs : List T) (i : Nat) (hm : xs.length ≤ 1099511627776) (hk : Kn w us K) (hw : WOk us) (hx : TL w us K A xs) (hi : i < us.length) :
    Calls Try.prog 85 #[.slice A xs.length c, kq K i] w fun e w' => e = .returned (.bool (inclL us xs i)) ∧ Below w.heap.size w w' := by
  have C := fun (v : Value) (x : T) w' (hb : Below w.heap.size w w') (h : PT w' us K v x) => incl_any us K w' v x i (hk.below hb) hw h hi
  have HC := Lib.hid C
  have Hx := Lib.hid hx
  clear hx C hk hw
  go_enter Try.func85, Try.ntmps85
  go_wp2_with fail
  go_loopw [9] (fun j wr => ∃ k : Nat, k ≤ xs.length ∧ j = .int .i64 k ∧ Below w.heap.size w wr ∧ Non xs (fun x => incl us x i) k) (fun i _ => xs.length - (intOf i).toNat)
  case atStart => exact ⟨0, Nat.zero_le _, rfl, Below.refl _ _, Non.zero⟩
  case round =>
    obtain ⟨k, hk, rfl, hb, hno⟩ := hrel
    by_cases hlt : k < xs.length
    · obtain ⟨b, off, u, rfl, c0, hpt⟩ := (Hx.out.below hb).at_ hlt
      obtain ⟨a, rfl⟩ := hpt.ptr
      have Hpt := Lib.hid hpt
      clear hpt
      cases h1 : incl us xs[k] i with
      | true =>
        have G := Lib.hid h1
        clear h1
        go_wp2_with fail
        refine (HC.out _ _ _ hb Hpt.out).mono ?_
        rintro e w1 ⟨rfl, hd⟩
        rw [G.out]
        go_wp2_with fail
        go_ret
        exact ⟨ret_b (any_at hlt G.out).symm, hb.trans (hd.below _)⟩
      | false =>
        have G := Lib.hid h1
        clear h1
        go_wp2_with fail
        refine (HC.out _ _ _ hb Hpt.out).mono ?_
        rintro e w1 ⟨rfl, hd⟩
        rw [G.out]
        go_wp2_with fail
        go_roundw
        case rel => exact ⟨k + 1, by omega, by go_num, hb.trans (hd.below _), hno.succ hlt G.out⟩
        case measure => simp [intOf]; omega
    · go_wp2_with fail
      go_ret
      exact ⟨ret_b (hno.any hlt).symm, hb⟩

set_option maxHeartbeats 400000 in
theorem superset_call (A : Option Addr) (c : Nat) (xs : List T) (v : Value) (y : T) (hm : xs.length ≤ 1099511627776) (hk : Kn w us K) (hw : WOk us) (hx : TL w us K A xs) (hy : PT w us K v y) :
    Calls Try.prog 94 #[.slice A xs.length c, v] w fun e w' => e = .returned (.bool (superL us xs y)) ∧ Below w.heap.size w w' := by
  have C := fun (u : Value) (x : T) w' (hb : Below w.heap.size w w') (h : PT w' us K u x) => sub_any us K w' v u y x (hk.below hb) hw (hy.below hb) h
  have HC := Lib.hid C
  have Hx := Lib.hid hx
  obtain ⟨a, rfl⟩ := hy.ptr
  clear hx C hk hw hy
  go_enter Try.func94, Try.ntmps94
  go_wp2_with fail
  go_loopw [9] (fun j wr => ∃ k : Nat, k ≤ xs.length ∧ j = .int .i64 k ∧ Below w.heap.size w wr ∧ Non xs (fun x => sub1 us y x) k) (fun i _ => xs.length - (intOf i).toNat)
  case atStart => exact ⟨0, Nat.zero_le _, rfl, Below.refl _ _, Non.zero⟩
  case round =>
    obtain ⟨k, hk, rfl, hb, hno⟩ := hrel
    by_cases hlt : k < xs.length
    · obtain ⟨b, off, u, rfl, c0, hpt⟩ := (Hx.out.below hb).at_ hlt
      obtain ⟨a', rfl⟩ := hpt.ptr
      have Hpt := Lib.hid hpt
      clear hpt
      cases h1 : sub1 us y xs[k] with
      | true =>
        have G := Lib.hid h1
        clear h1
        go_wp2_with fail
        refine (HC.out _ _ _ hb Hpt.out).mono ?_
        rintro e w1 ⟨rfl, hd⟩
        rw [G.out]
        go_wp2_with fail
        go_ret
        exact ⟨ret_b (any_at hlt G.out).symm, hb.trans (hd.below _)⟩
      | false =>
        have G := Lib.hid h1
        clear h1
        go_wp2_with fail
        refine (HC.out _ _ _ hb Hpt.out).mono ?_
        rintro e w1 ⟨rfl, hd⟩
        rw [G.out]
        go_wp2_with fail
        go_roundw
        case rel => exact ⟨k + 1, by omega, by go_num, hb.trans (hd.below _), hno.succ hlt G.out⟩
        case measure => simp [intOf]; omega
    · go_wp2_with fail
      go_ret
      exact ⟨ret_b (hno.any hlt).symm, hb⟩

set_option maxHeartbeats 800000 in
theorem subset_call (A : Option Addr) (c : Nat) (xs : List T) (D : Option Addr) (d : Nat) (ys : List T) (hm : xs.length ≤ 1099511627776) (hn : ys.length ≤ 1099511627776) (hk : Kn w us K) (hw : WOk us) (hx : TL w us K A xs) (hy : TL w us K D ys) :
    Calls Try.prog 91 #[.slice A xs.length c, .slice D ys.length d] w fun e w' => e = .returned (.bool (subL us xs ys)) ∧ Below w.heap.size w w' := by
  have E1 := isempty_call us K w D d ys hn hy
  have E2 := isempty_call us K w A c xs hm hx
  have C := fun (v : Value) (x : T) w' (hb : Below w.heap.size w w') (h : PT w' us K v x) => comp (superset_call us K w' D d ys v x hn (hk.below hb) hw (hy.below hb) h) hb (Nat.le_refl _)
  have HE1 := Lib.hid E1
  have HE2 := Lib.hid E2
  have HC := Lib.hid C
  have Hx := Lib.hid hx
  clear hx hy C hk hw E1 E2
  cases he : emptyL ys with
  | true =>
    have He := Lib.hid he
    clear he
    go_enter Try.func91, Try.ntmps91
    go_wp2_with fail
    refine HE1.out.mono ?_
    rintro e w1 ⟨rfl, rfl⟩
    rw [He.out]
    go_wp2_with fail
    refine HE2.out.mono ?_
    rintro e w1 ⟨rfl, rfl⟩
    go_wp2_with fail
    go_ret
    exact ⟨ret_b (by rw [subL, if_pos He.out]), Below.refl _ _⟩
  | false =>
    have He := Lib.hid he
    clear he
    go_enter Try.func91, Try.ntmps91
    go_wp2_with fail
    refine HE1.out.mono ?_
    rintro e w1 ⟨rfl, rfl⟩
    rw [He.out]
    go_wp2_with fail
    go_loopw [13] (fun j wr => ∃ k : Nat, k ≤ xs.length ∧ j = .int .i64 k ∧ Below w.heap.size w wr ∧ Non xs (fun x => !superL us ys x) k) (fun i _ => xs.length - (intOf i).toNat)
    case atStart => exact ⟨0, Nat.zero_le _, rfl, Below.refl _ _, Non.zero⟩
    case round =>
      obtain ⟨k, hk, rfl, hb, hno⟩ := hrel
      by_cases hlt : k < xs.length
      · obtain ⟨b, off, u, rfl, c0, hpt⟩ := (Hx.out.below hb).at_ hlt
        obtain ⟨a', rfl⟩ := hpt.ptr
        have Hpt := Lib.hid hpt
        clear hpt
        cases h1 : superL us ys xs[k] with
        | false =>
          have G := Lib.hid h1
          clear h1
          go_wp2_with fail
          refine (HC.out _ _ _ hb Hpt.out).mono ?_
          rintro e w1 ⟨rfl, hb1⟩
          rw [G.out]
          go_wp2_with fail
          go_ret
          exact ⟨ret_b (by rw [subL, if_neg (by rw [He.out]; decide)]; exact (all_no hlt G.out).symm), hb1⟩
        | true =>
          have G := Lib.hid h1
          clear h1
          go_wp2_with fail
          refine (HC.out _ _ _ hb Hpt.out).mono ?_
          rintro e w1 ⟨rfl, hb1⟩
          rw [G.out]
          go_wp2_with fail
          go_roundw
          case rel => exact ⟨k + 1, by omega, by go_num, hb1, hno.succ hlt (by rw [G.out]; rfl)⟩
          case measure => simp [intOf]; omega
      · go_wp2_with fail
        go_ret
        exact ⟨ret_b (by rw [subL, if_neg (by rw [He.out]; decide)]; exact (all_non hno hlt).symm), hb⟩

set_option maxHeartbeats 400000 in
theorem equal_call (A : Option Addr) (c : Nat) (xs : List T) (D : Option Addr) (d : Nat) (ys : List T) (hm : xs.length ≤ 1099511627776) (hn : ys.length ≤ 1099511627776) (hk : Kn w us K) (hw : WOk us) (hx : TL w us K A xs) (hy : TL w us K D ys) :
    Calls Try.prog 92 #[.slice A xs.length c, .slice D ys.length d] w fun e w' => e = .returned (.bool (eqL us xs ys)) ∧ Below w.heap.size w w' := by
  have C1 := subset_call us K w A c xs D d ys hm hn hk hw hx hy
  have C2 := fun w' (hb : Below w.heap.size w w') => comp (subset_call us K w' D d ys A c xs hn hm (hk.below hb) hw (hy.below hb) (hx.below hb)) hb (Nat.le_refl _)
  have H1 := Lib.hid C1
  have H2 := Lib.hid C2
  clear C1 C2 hx hy hk hw
  unfold eqL
  cases h1 : subL us xs ys with
  | false =>
    have G1 := Lib.hid h1
    clear h1
    go_enter Try.func92, Try.ntmps92
    go_wp2_with fail
    refine H1.out.mono ?_
    rintro e w1 ⟨rfl, hb1⟩
    rw [G1.out]
    go_wp2_with fail
    go_ret
    exact ⟨ret_b (by simp), hb1⟩
  | true =>
    have G1 := Lib.hid h1
    clear h1
    go_enter Try.func92, Try.ntmps92
    go_wp2_with fail
    refine H1.out.mono ?_
    rintro e w1 ⟨rfl, hb1⟩
    rw [G1.out]
    go_wp2_with fail
    refine (H2.out _ hb1).mono ?_
    rintro e w2 ⟨rfl, hb2⟩
    go_wp2_with fail
    go_ret
    exact ⟨ret_b (by simp), hb2⟩
end
end Go.Proofs.Ytehadfnaknpagaa
