/-
  THE WALKS, FOURTH PART: the laws' valid, list and all.
-/
import Derived.Test.YtehadfnaknpagaaWc
namespace Go.Proofs.Ytehadfnaknpagaa
open Go.RowKit Pl

/-- a list of terms as it lies in memory -/
structure Sl where
  D : Option Addr
  d : Nat
  xs : List Tm
abbrev Sl.val (s : Sl) : Value := .slice s.D s.xs.length s.d
def Sl.ok (w : World) (s : Sl) : Prop := Rd w s.D (tcs s.xs) ∧ s.xs.length ≤ 4294967296
theorem Sl.ok.below {w w' : World} {s : Sl} (h : s.ok w) (hb : Below w.heap.size w w') : s.ok w' := ⟨h.1.below hb, h.2⟩
def VLs (us : List Int) (ls : List Sl) : Bool := (ls.all fun s => VB us s.xs) && WB us

set_option maxHeartbeats 400000 in
theorem valid_any (us : List Int) (A : Option Addr) (c : Nat) (L : Option Addr) (d : Nat) (ls : List Sl) (w : World) (hl : us.length ≤ 2147483647) (hm : ls.length ≤ 100) (hr : Rd w A (ints us))
    (hd : Rd w L (ls.map Sl.val)) (hs : ∀ s ∈ ls, s.ok w) :
    Calls Try.prog 33 #[.slice A us.length c, .slice L ls.length d] w fun e w' => e = .returned (.bool (VLs us ls)) ∧ Below w.heap.size w w' := by
  have C1 := fun (D : Option Addr) (d : Nat) (xs : List Tm) (h : Sl.ok w ⟨D, d, xs⟩) w' (hb : Below w.heap.size w w') => comp (specvalid_any us A c D d xs w' hl h.2 (hr.below hb) (h.1.below hb)) hb (Nat.le_refl _)
  have C2 := fun w' (hb : Below w.heap.size w w') => comp (specvalid_any us A c none 0 [] w' hl (by simp) (hr.below hb) (fun h => absurd rfl h)) hb (Nat.le_refl _)
  have H1 := Lib.hid C1
  have H2 := Lib.hid C2
  have Hd := Lib.hid hd
  have Hs := Lib.hid hs
  clear C1 C2 hr hd hs
  go_enter Try.func33, Try.ntmps33
  go_wp2_with fail
  go_loopw [9] (fun i wr => ∃ k : Nat, k ≤ ls.length ∧ i = .int .i64 k ∧ Below w.heap.size w wr ∧ Non ls (fun s => !VB us s.xs) k) (fun i _ => ls.length - (intOf i).toNat)
  case atStart => exact ⟨0, Nat.zero_le _, rfl, Below.refl _ _, Non.zero⟩
  case round =>
    obtain ⟨k, hk, rfl, hb, hno⟩ := hrel
    by_cases hlt : k < ls.length
    · have hne : ls.map Sl.val ≠ [] := by intro e; have := congrArg List.length e; simp at this; rw [this] at hlt; simp at hlt
      obtain ⟨b, off, rfl, call⟩ := (Hd.out.below hb) hne
      have c0 := call k _ (by rw [List.getElem?_map, List.getElem?_eq_getElem hlt]; rfl)
      clear call hne
      obtain ⟨⟨D, e, xs⟩, hx⟩ : ∃ s : Sl, ls[k] = s := ⟨_, rfl⟩
      have hsk := Hs.out _ (List.getElem_mem hlt)
      rw [hx] at c0 hsk
      dsimp only [Sl.val] at c0
      have Hx := Lib.hid hx
      have Hk := Lib.hid hsk
      clear hx hsk
      cases hv : VB us xs with
      | true =>
        have G := Lib.hid hv
        clear hv
        go_wp2_with fail
        refine (H1.out D e xs Hk.out _ hb).mono ?_
        rintro e w1 ⟨rfl, hb1⟩
        rw [G.out]
        go_wp2_with fail
        go_roundw
        case rel => exact ⟨k + 1, by omega, by go_num, hb1, hno.succ hlt (by rw [Hx.out]; simp [G.out])⟩
        case measure => simp [intOf]; omega
      | false =>
        have G := Lib.hid hv
        clear hv
        go_wp2_with fail
        refine (H1.out D e xs Hk.out _ hb).mono ?_
        rintro e w1 ⟨rfl, hb1⟩
        rw [G.out]
        go_wp2_with fail
        go_ret
        exact ⟨ret_b (by rw [VLs, all_no hlt (by rw [Hx.out]; exact G.out)]; rfl), hb1⟩
    · go_wp2_with fail
      refine (H2.out _ hb).mono ?_
      rintro e w1 ⟨rfl, hb1⟩
      go_wp2_with fail
      go_ret
      exact ⟨ret_b (by rw [VLs, all_non hno hlt]; simp [VB]), hb1⟩

theorem list_any (x : Tm) (w : World) :
    Calls Try.prog 36 #[tmv x] w fun e w' => e = .returned (.slice (some ⟨w.heap.size + 1, 0, none⟩) 1 1) ∧ w' = (w.alloc (.cells #[.int .i64 x.kind, .bool x.tilde, .int .i64 x.type] 29)).alloc (.cells #[.int .i64 x.kind, .bool x.tilde, .int .i64 x.type] 29) := by
  go_enter Try.func36, Try.ntmps36
  go_wp2
  go_ret
  exact ⟨rfl, rfl⟩

theorem all_any (w : World) :
    Calls Try.prog 37 #[] w fun e w' => e = .returned (tmv ⟨1, false, 0⟩) ∧ Below w.heap.size w w' := by
  go_enter Try.func37, Try.ntmps37
  go_wp2
  refine bodyPost_ret (v := tmv ⟨1, false, 0⟩) (by simp [results, Try.results37, go_sem]) rfl ⟨rfl, ?_⟩
  exact (Below.refl _ _).alloc (Nat.le_refl _) _
end Go.Proofs.Ytehadfnaknpagaa
