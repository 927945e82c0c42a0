/-
  THE WALKS, NINTH PART: lists of terms that are built by append: terms, back, ins, outs.
-/
import Derived.Test.YtehadfnaknpagaaWh
namespace Go.Proofs.Ytehadfnaknpagaa
open Go.RowKit Pl

theorem Try.info52 : (Try.prog.info? 52).map (fun i => (i.zero, i.size, i.bytes)) = some (some (.agg #[.int .i64 0, .bool false, .int .i64 0]), 3, 24) := by kernel_rfl
theorem Try.info29 : (Try.prog.info? 29).map (fun i => (i.zero, i.size, i.bytes)) = some (some (.agg #[.int .i64 0, .bool false, .int .i64 0]), 3, 24) := by kernel_rfl
theorem Try.info69 : (Try.prog.info? 69).map (fun i => (i.zero, i.size, i.bytes)) = some (some (.pointer none), 1, 8) := by kernel_rfl

theorem news_blk {w : World} {g : Nat} {t : TypeId} {cs : Array Value} (h : Blk w g t cs) : ∀ j u, cs.toList[j]? = some u → w.cell? ((⟨g, 0, none⟩ : Addr).add j) = some u := by
  intro j u hu
  have hadd : (⟨g, 0, none⟩ : Addr).add j = ⟨g, j, none⟩ := by unfold Addr.add; split <;> simp_all
  rw [hadd, h.cell j]
  simpa using hu

theorem rd_own {w : World} {base : Nat} {e : TypeId} {size n : Nat} {v : Value} {xs : List Value} (h : w.ownsRow base e size v n xs) : ∃ A c, v = .slice A n c ∧ Rd w A xs := by
  rcases h.2 with ⟨rfl, rfl⟩ | ⟨g, cap, cur, rfl, _, hg, _, _, _, htake⟩
  · refine ⟨none, 0, rfl, fun hne => absurd ?_ hne⟩
    have := h.1
    simpa using this
  · refine ⟨some ⟨g, 0, none⟩, cap, rfl, fun _ => ⟨g, 0, rfl, fun j u hu => ?_⟩⟩
    rw [Nat.zero_add, cell_of_row w g j cur e (0, 0) hg]
    rw [← htake, List.getElem?_take] at hu
    split at hu
    · simpa using hu
    · cases hu

/-- a list of terms comes back -/
def RetS (w : World) (ts : List Tm) (e : Ending) (w' : World) : Prop := ∃ A c, e = .returned (.slice A ts.length c) ∧ Rd w' A (tcs ts) ∧ Below w.heap.size w w'

theorem tcs_snoc (xs : List Tm) (k : Nat) (h : k < xs.length) : tcs (xs.take (k + 1)) = tcs (xs.take k) ++ [.int .i64 xs[k].kind, .bool xs[k].tilde, .int .i64 xs[k].type] := by
  rw [List.take_succ_eq_append_getElem h]
  unfold tcs
  rw [List.flatMap_append]
  rfl

/-- the relation of a loop that copies a list of terms -/
structure Cp (w : World) (t : TypeId) (xs : List Tm) (k : Nat) (v : Value) (wr : World) : Prop where
  own : wr.ownsRow w.heap.size t 3 v k (tcs (xs.take k))
  below : Below w.heap.size w wr
theorem Cp.start (w : World) (t : TypeId) (xs : List Tm) : Cp w t xs 0 (.slice none 0 0) w := ⟨World.ownsRow_nil _ _ _ _, Below.refl _ _⟩
theorem Cp.step {w wr w1 : World} {t s : TypeId} {xs : List Tm} {k : Nat} {v v1 : Value} {o : Obj} (h : Cp w t xs k v wr) (hk : k < xs.length)
    (hown : w1.ownsRow w.heap.size t 3 v1 (k + 1) (tcs (xs.take k) ++ [.int .i64 xs[k].kind, .bool xs[k].tilde, .int .i64 xs[k].type]))
    (hg : ((wr.alloc o).alloc (.cells #[.int .i64 xs[k].kind, .bool xs[k].tilde, .int .i64 xs[k].type] s)).grownBy w1 v.ownBlock) : Cp w t xs (k + 1) v1 w1 := by
  refine ⟨by rw [tcs_snoc xs k hk]; exact hown, ?_⟩
  refine ((h.below.alloc h.below.size o).alloc (by have := h.below.size; simp; omega) _).grown hg (by have := h.below.size; simp; omega) (fun g hg => (h.own.lt g hg).1)
theorem Cp.ret {w wr : World} {t : TypeId} {xs : List Tm} {v : Value} (h : Cp w t xs xs.length v wr) : RetS w xs (.returned v) wr := by
  have h1 := h.own
  rw [List.take_length] at h1
  obtain ⟨A, c, rfl, hr⟩ := rd_own h1
  exact ⟨A, c, rfl, hr, h.below⟩

section
variable (D : Option Addr) (d : Nat) (xs : List Tm) (w : World)

set_option maxHeartbeats 400000 in
theorem terms_call (hm : xs.length ≤ 4294967296) (hd : Rd w D (tcs xs)) :
    Calls Try.prog 61 #[.slice D xs.length d] w (RetS w xs) := by
  obtain ⟨i0, hi, hz0, hz1, hz2⟩ := info_parts Try.info52
  have Hd := Lib.hid hd
  clear hd
  go_enter Try.func61, Try.ntmps61
  go_wp2_with fail
  go_loopw [3, 8] (fun v i wr => ∃ k : Nat, k ≤ xs.length ∧ i = .int .i64 k ∧ Cp w 52 xs k v wr) (fun _ i _ => xs.length - (intOf i).toNat)
  case atStart => exact ⟨0, Nat.zero_le _, rfl, Cp.start _ _ _⟩
  case round =>
    obtain ⟨k, hk, rfl, hq⟩ := hrel
    by_cases hlt : k < xs.length
    · obtain ⟨b, off, rfl, c0, c1, c2⟩ := (Hd.out.below hq.below).tm hlt
      have hs := hq.below.size
      go_wp2_with (at_builtin; refine wpList_append_own _ rfl _ _ 48 rfl w.heap.size 52 i0 (.agg #[.int .i64 0, .bool false, .int .i64 0]) 3 24 Try.underlying48 hi hz0 hz1 hz2 rfl (by decide) _ _ _ rfl ((hq.own.alloc _).alloc _) ⟨wr.heap.size + 1, 0, none⟩ 1 1 [.int .i64 xs[k].kind, .bool xs[k].tilde, .int .i64 xs[k].type] rfl rfl ?c1 ?c2 ?c3 ?c4 ?c5 ?_)
      case c1 =>
        have := news_blk (Blk.new (wr.alloc (.cells #[.int .i64 xs[k].kind, .bool xs[k].tilde, .int .i64 xs[k].type] 29)) 52 #[.int .i64 xs[k].kind, .bool xs[k].tilde, .int .i64 xs[k].type])
        simpa using this
      case c2 => intro u hu; simp at hu; rcases hu with rfl | rfl | rfl <;> rfl
      case c3 => unfold maxLen; omega
      case c4 => omega
      case c5 => simp; omega
      · intro v' w1 hown' hgrow _
        have hq' := hq.step hlt hown' hgrow
        clear hown' hgrow hq
        go_wp2_with fail
        go_roundw
        case rel => exact ⟨k + 1, by omega, by go_num, hq'⟩
        case measure => simp [intOf]; omega
    · obtain rfl : k = xs.length := by omega
      go_wp2_with fail
      go_ret
      exact hq.ret

set_option maxHeartbeats 400000 in
theorem back_call (hm : xs.length ≤ 1099511627776) (hd : Rd w D (tcs xs)) :
    Calls Try.prog 67 #[.slice D xs.length d] w (RetS w xs) := by
  obtain ⟨i0, hi, hz0, hz1, hz2⟩ := info_parts Try.info29
  have Hd := Lib.hid hd
  clear hd
  go_enter Try.func67, Try.ntmps67
  go_wp2_with fail
  go_loopw [3, 8] (fun v i wr => ∃ k : Nat, k ≤ xs.length ∧ i = .int .i64 k ∧ Cp w 29 xs k v wr) (fun _ i _ => xs.length - (intOf i).toNat)
  case atStart => exact ⟨0, Nat.zero_le _, rfl, Cp.start _ _ _⟩
  case round =>
    obtain ⟨k, hk, rfl, hq⟩ := hrel
    by_cases hlt : k < xs.length
    · obtain ⟨b, off, rfl, c0, c1, c2⟩ := (Hd.out.below hq.below).tm hlt
      have hs := hq.below.size
      go_wp2_with (at_builtin; refine wpList_append_own _ rfl _ _ 23 rfl w.heap.size 29 i0 (.agg #[.int .i64 0, .bool false, .int .i64 0]) 3 24 Try.underlying23 hi hz0 hz1 hz2 rfl (by decide) _ _ _ rfl ((hq.own.alloc _).alloc _) ⟨wr.heap.size + 1, 0, none⟩ 1 1 [.int .i64 xs[k].kind, .bool xs[k].tilde, .int .i64 xs[k].type] rfl rfl ?c1 ?c2 ?c3 ?c4 ?c5 ?_)
      case c1 =>
        have := news_blk (Blk.new (wr.alloc (.cells #[.int .i64 xs[k].kind, .bool xs[k].tilde, .int .i64 xs[k].type] 52)) 29 #[.int .i64 xs[k].kind, .bool xs[k].tilde, .int .i64 xs[k].type])
        simpa using this
      case c2 => intro u hu; simp at hu; rcases hu with rfl | rfl | rfl <;> rfl
      case c3 => unfold maxLen; omega
      case c4 => omega
      case c5 => simp; omega
      · intro v' w1 hown' hgrow _
        have hq' := hq.step hlt hown' hgrow
        clear hown' hgrow hq
        go_wp2_with fail
        go_roundw
        case rel => exact ⟨k + 1, by omega, by go_num, hq'⟩
        case measure => simp [intOf]; omega
    · obtain rfl : k = xs.length := by omega
      go_wp2_with fail
      go_ret
      exact hq.ret
end
end Go.Proofs.Ytehadfnaknpagaa
