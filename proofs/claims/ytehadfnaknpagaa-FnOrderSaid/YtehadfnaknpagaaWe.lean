/-
  THE WALKS, FIFTH PART: the package's world of types.
-/
import Derived.Test.YtehadfnaknpagaaWd
import Derived.Deep.OwnRows
import Derived.RegionTactic
import Derived.ChangeAlike
namespace Go.Proofs.Ytehadfnaknpagaa
open Go.RowKit Pl

theorem Try.info72 : (Try.prog.info? 72).map (fun i => (i.zero, i.size, i.bytes)) = some (some (.pointer none), 1, 8) := by kernel_rfl
theorem Blk.set {w : World} {g : Nat} {t : TypeId} {cs : Array Value} (h : Blk w g t cs) (i : Nat) (u : Value) : Blk (w.setCell ⟨g, i, none⟩ u) g t (cs.setIfInBounds i u) := by
  unfold Blk at h ⊢
  simp [World.setCell, Array.getElem?_modify, h]
theorem Blk.far {w : World} {g : Nat} {t : TypeId} {cs : Array Value} (h : Blk w g t cs) {p : Addr} (hp : g ≠ p.block) (u : Value) : Blk (w.setCell p u) g t cs := (Below.heap_setCell w p u g hp).trans h
theorem Blk.frozen {w : World} {g : Nat} {t : TypeId} {cs : Array Value} (h : Blk w g t cs) (i : Nat) : w.frozen? ⟨g, i, none⟩ = false := by
  unfold Blk at h
  simp [World.frozen?, h]

/-- the pointer to type i, M the block of the row of types -/
abbrev kp (M i : Nat) : Value := .pointer (some ⟨M + 1 + i, 0, none⟩)
/-- after k rounds of the first loop -/
structure Wl1 (w : World) (n k : Nat) (wr : World) : Prop where
  row : wr.rowIs w.heap.size 72 n fun i => if i < k then kp w.heap.size i else .pointer none
  kinds : ∀ i, i < k → Blk wr (w.heap.size + 1 + i) 83 #[.int .i64 (i : Int), .pointer none]
  size : wr.heap.size = w.heap.size + 1 + k
  below : Below w.heap.size w wr
/-- after k rounds of the second loop -/
structure Wl2 (w : World) (us : List Int) (k : Nat) (wr : World) : Prop where
  row : wr.rowIs w.heap.size 72 us.length fun i => kp w.heap.size i
  kinds : ∀ i, i < us.length → Blk wr (w.heap.size + 1 + i) 83 #[.int .i64 (i : Int), if i < k then kp w.heap.size (un us i) else .pointer none]
  size : wr.heap.size = w.heap.size + 1 + us.length
  below : Below w.heap.size w wr

theorem Wl1.start (w : World) (n : Nat) : Wl1 w n 0 (w.alloc (.cells (madeCells #[.pointer none] n) 72)) where
  row := (World.rowIs_made w (.pointer none) n 72).congr fun i _ => by simp
  kinds := fun i h => absurd h (by omega)
  size := by simp
  below := (Below.refl _ _).alloc (Nat.le_refl _) _
theorem Wl1.step {w : World} {n k : Nat} {wr : World} (h : Wl1 w n k wr) :
    Wl1 w n (k + 1) ((wr.alloc (.cells #[.int .i64 (k : Int), .pointer none] 83)).setCell ⟨w.heap.size, k, none⟩ (.pointer (some ⟨wr.heap.size, 0, none⟩))) where
  row := ((h.row.alloc _).set k _).congr fun i _ => by
    rw [h.size]
    by_cases e : i = k
    · subst e; simp
    · rw [if_neg e]
      by_cases e2 : i < k
      · rw [if_pos e2, if_pos (by omega)]
      · rw [if_neg e2, if_neg (by omega)]
  kinds := fun i hi => by
    by_cases e : i = k
    · subst e
      have := Blk.new wr 83 #[.int .i64 (i : Int), .pointer none]
      rw [h.size] at this
      exact this.far (by simp; omega) _
    · exact ((h.kinds i (by omega)).alloc _).far (by simp; omega) _
  size := by simp [World.setCell, h.size]; omega
  below := (h.below.alloc (by rw [h.size]; omega) _).setCell (by simp) _
theorem Wl1.next {w : World} {us : List Int} {wr : World} (h : Wl1 w us.length us.length wr) : Wl2 w us 0 wr where
  row := h.row.congr fun i hi => by rw [if_pos hi]
  kinds := fun i hi => by rw [if_neg (by omega)]; exact h.kinds i hi
  size := h.size
  below := h.below
theorem Wl2.drew {w : World} {us : List Int} {k : Nat} {wr : World} (h : Wl2 w us k wr) : Wl2 w us k wr.drew := ⟨h.row.drew, h.kinds, h.size, h.below.drew⟩
theorem Wl2.drewN {w : World} {us : List Int} {k : Nat} {wr : World} (h : Wl2 w us k wr) (n : Nat) : Wl2 w us k (wr.drewN n) := ⟨h.row, h.kinds, h.size, below_drewN h.below n⟩
theorem Wl2.step {w : World} {us : List Int} {k : Nat} {wr : World} (h : Wl2 w us k wr) :
    Wl2 w us (k + 1) (wr.setCell ⟨w.heap.size + 1 + k, 1, none⟩ (kp w.heap.size (un us k))) where
  row := h.row.setOther (by simp; omega) _
  kinds := fun i hi => by
    by_cases e : i = k
    · subst e
      have := (h.kinds i hi).set 1 (kp w.heap.size (un us i))
      rw [if_pos (by omega)]
      exact this
    · have := (h.kinds i hi).far (p := ⟨w.heap.size + 1 + k, 1, none⟩) (by simp; omega) (kp w.heap.size (un us k))
      have e2 : (i < k + 1) = (i < k) := by simp; omega
      simp only [e2]
      exact this
  size := by simpa [World.setCell] using h.size
  below := h.below.setCell (by simp; omega) _

set_option maxHeartbeats 400000 in
theorem world_any (us : List Int) (A : Option Addr) (c : Nat) (w : World) (hl : us.length ≤ 2147483647) (hw : WOk us) (hr : Rd w A (ints us)) :
    Calls Try.prog 80 #[.slice A us.length c] w fun e w' => e = .returned (.slice (some ⟨w.heap.size, 0, none⟩) us.length us.length) ∧ Wl2 w us us.length w' := by
  have hmk := run_make_row' (P := Try.prog) 67 72 (.pointer none) 8 Try.underlying67 Try.info72 rfl .i64 .i64 us.length (by omega) (by omega)
  have Hr := Lib.hid hr
  have Hw := Lib.hid hw
  clear hr hw
  go_enter Try.func80, Try.ntmps80
  go_wp2_with fail
  clear hmk
  go_loopw [12] (fun i wr => ∃ k : Nat, k ≤ us.length ∧ i = .int .i64 k ∧ Wl1 w us.length k wr) (fun i _ => us.length - (intOf i).toNat)
  case atStart => exact ⟨0, Nat.zero_le _, rfl, Wl1.start _ _⟩
  case round =>
    obtain ⟨k, hk, rfl, hq⟩ := hrel
    by_cases hlt : k < us.length
    · have hc := fun o => (hq.row.alloc o).cell hlt
      have hf := fun o => (hq.row.alloc o).frozen k
      simp only [if_neg (Nat.lt_irrefl k)] at hc
      go_wp2_with fail
      go_roundw
      case rel => exact ⟨k + 1, by omega, by go_num, hq.step⟩
      case measure => simp [intOf]; omega
    · obtain rfl : k = us.length := by omega
      have h2 := hq.next
      clear hq
      go_wp2_with fail
      go_loopw [24] (fun i wr => ∃ k : Nat, k ≤ us.length ∧ i = .int .i64 k ∧ Wl2 w us k wr) (fun i _ => us.length - (intOf i).toNat)
      case atStart => exact ⟨0, Nat.zero_le _, rfl, h2⟩
      case round =>
        rename_i wr0
        clear h2
        obtain ⟨k, hk, rfl, hq⟩ := hrel
        by_cases hlt : k < us.length
        · obtain ⟨b, off, rfl, c0⟩ := (Hr.out.below hq.below).un Hw.out hlt
          have hu := Hw.out.lt k hlt
          obtain ⟨j, hj⟩ : ∃ j, un us k = j := ⟨_, rfl⟩
          have hst := hq.step
          rw [hj] at c0 hu hst
          have Hst := Lib.hid hst
          have Hj := Lib.hid hj
          clear hj hst
          have q1 := hq.row.cell hlt
          have q2 := hq.row.cell hu
          have q3 := (hq.kinds k hlt).cell 1
          have q4 := (hq.kinds k hlt).frozen 1
          simp only [if_neg (Nat.lt_irrefl k)] at q3
          simp at q3
          go_wp2_with fail
          go_region
          all_goals
            go_wp2_with fail
            go_roundw
            case rel => exact ⟨k + 1, by omega, by go_num, Hst.out.drew⟩
            case measure => simp [intOf]; omega
        · obtain rfl : k = us.length := by omega
          go_wp2_with fail
          go_ret
          exact ⟨rfl, hq⟩
end Go.Proofs.Ytehadfnaknpagaa
