/-
  THE WALKS, TWENTIETH PART: the thin package's TermIntersect and TermUnion; the laws' list, all, works.
-/
import Derived.Test.YtehadfnaknpagaaWs
namespace Go.Proofs.Ytehadfnaknpagaa
open Go.RowKit Pl

theorem rd_blk {w : World} {g : Nat} {t : TypeId} {cs : Array Value} (h : Blk w g t cs) : Rd w (some ⟨g, 0, none⟩) cs.toList :=
  fun _ => ⟨g, 0, rfl, fun j u hu => by rw [Nat.zero_add, h.cell j]; simpa using hu⟩

section
variable (us : List Int) (A : Option Addr) (c : Nat) (x y : Tm) (w : World)

set_option maxHeartbeats 1000000 in
theorem itinter_call (hl : us.length ≤ 2147483647) (hw : WOk us) (hr : Rd w A (ints us)) (hx : TB us x = true) (hy : TB us y = true) :
    Calls Try.prog 55 #[.slice A us.length c, tmv x, tmv y] w fun e w' => e = .returned (tmv (ofT (inter1 us (toT x) (toT y)))) ∧ Below w.heap.size w w' := by
  obtain ⟨w0, hw0⟩ : ∃ w0 : World, w0 = ((w.alloc (box x 29)).alloc (box y 29)).alloc (.cells #[.int .i64 0, .bool false, .int .i64 0] 29) := ⟨_, rfl⟩
  have a0 : Below w.heap.size w w0 := by rw [hw0]; exact (((Below.refl _ _).alloc (Nat.le_refl _) _).alloc (by simp) _).alloc (by simp; omega) _
  have b2 : Blk w0 (w.heap.size + 1 + 1) 29 #[.int .i64 0, .bool false, .int .i64 0] := by rw [hw0]; have := Blk.new ((w.alloc (box x 29)).alloc (box y 29)) 29 #[.int .i64 0, .bool false, .int .i64 0]; simpa using this
  have CX := Lib.hid (xinter_call us A c x y w0 hl hw (hr.below a0) hx hy)
  have A0 := Lib.hid a0
  have B2 := Lib.hid b2
  clear hr a0 b2 hw hx hy
  go_enter Try.func55, Try.ntmps55
  go_wp2_with fail
  rw [← hw0]
  clear hw0
  refine CX.out.mono ?_
  rintro e w1 ⟨rfl, hb1⟩
  have t2 := B2.out.below hb1
  obtain ⟨r0, r1, r2⟩ := t2.cells3
  have f0 := t2.frozen 0
  have f1 := t2.frozen 1
  have f2 := t2.frozen 2
  have hfin := Lib.hid (A0.out.trans (hb1.mono A0.out.size))
  clear t2 hb1
  go_wp2_with fail
  refine bodyPost_ret (v := tmv (ofT (inter1 us (toT x) (toT y)))) (by simp [results, Try.results55, go_sem, r0, r1, r2]) rfl ⟨rfl, ?_⟩
  exact ((hfin.out.setCell (by simp; omega) _).setCell (by simp; omega) _).setCell (by simp; omega) _

set_option maxHeartbeats 2000000 in
theorem itunion_call (hl : us.length ≤ 2147483647) (hw : WOk us) (hr : Rd w A (ints us)) (hx : TB us x = true) (hy : TB us y = true) :
    Calls Try.prog 57 #[.slice A us.length c, tmv x, tmv y] w fun e w' => e = .returned (tm2 (union1 us (toT x) (toT y))) ∧ Below w.heap.size w w' := by
  obtain ⟨w0, hw0⟩ : ∃ w0 : World, w0 = (((w.alloc (box x 29)).alloc (box y 29)).alloc (.cells #[.int .i64 0, .bool false, .int .i64 0] 29)).alloc (.cells #[.int .i64 0, .bool false, .int .i64 0] 29) := ⟨_, rfl⟩
  have a0 : Below w.heap.size w w0 := by rw [hw0]; exact ((((Below.refl _ _).alloc (Nat.le_refl _) _).alloc (by simp) _).alloc (by simp; omega) _).alloc (by simp; omega) _
  have b2 : Blk w0 (w.heap.size + 1 + 1) 29 #[.int .i64 0, .bool false, .int .i64 0] := by rw [hw0]; have := (Blk.new ((w.alloc (box x 29)).alloc (box y 29)) 29 #[.int .i64 0, .bool false, .int .i64 0]).alloc (.cells #[.int .i64 0, .bool false, .int .i64 0] 29); simpa using this
  have b3 : Blk w0 (w.heap.size + 1 + 1 + 1) 29 #[.int .i64 0, .bool false, .int .i64 0] := by rw [hw0]; have := Blk.new (((w.alloc (box x 29)).alloc (box y 29)).alloc (.cells #[.int .i64 0, .bool false, .int .i64 0] 29)) 29 #[.int .i64 0, .bool false, .int .i64 0]; simpa using this
  obtain ⟨⟨k1, l1, m1⟩, hz1⟩ : ∃ z : Tm, ofT (union1 us (toT x) (toT y)).1 = z := ⟨_, rfl⟩
  obtain ⟨⟨k2, l2, m2⟩, hz2⟩ : ∃ z : Tm, ofT (union1 us (toT x) (toT y)).2 = z := ⟨_, rfl⟩
  have hCX := xunion_call us A c x y w0 hl hw (hr.below a0) hx hy
  have e2 : tm2 (union1 us (toT x) (toT y)) = .tuple #[tmv ⟨k1, l1, m1⟩, tmv ⟨k2, l2, m2⟩] := by unfold tm2; rw [hz1, hz2]
  rw [e2] at hCX
  rw [e2]
  have CX := Lib.hid hCX
  have A0 := Lib.hid a0
  have B2 := Lib.hid b2
  have B3 := Lib.hid b3
  clear hr a0 b2 b3 hw hx hy hCX e2 hz1 hz2
  go_enter Try.func57, Try.ntmps57
  go_wp2_with fail
  rw [← hw0]
  clear hw0
  refine CX.out.mono ?_
  rintro e w1 ⟨rfl, hb1⟩
  have hfin := Lib.hid (A0.out.trans (hb1.mono A0.out.size))
  have T2 := B2.out.below hb1
  have T3 := B3.out.below hb1
  have hlt := T3.lt
  obtain ⟨w2, hw2⟩ : ∃ w2 : World, w2 = (w1.alloc (.cells #[.int .i64 k1, .bool l1, .int .i64 m1] 52)).alloc (.cells #[.int .i64 k2, .bool l2, .int .i64 m2] 52) := ⟨_, rfl⟩
  have hb2 : Below w1.heap.size w1 w2 := by rw [hw2]; exact ((Below.refl _ _).alloc (Nat.le_refl _) _).alloc (by simp) _
  have d1 : Blk w2 w1.heap.size 52 #[.int .i64 k1, .bool l1, .int .i64 m1] := by rw [hw2]; exact (Blk.new _ _ _).alloc _
  have d2 : Blk w2 (w1.heap.size + 1) 52 #[.int .i64 k2, .bool l2, .int .i64 m2] := by rw [hw2]; have := Blk.new (w1.alloc (.cells #[.int .i64 k1, .bool l1, .int .i64 m1] 52)) 52 #[.int .i64 k2, .bool l2, .int .i64 m2]; simpa using this
  obtain ⟨r0, r1, r2⟩ := (T2.below hb2).cells3
  have f0 := (T2.below hb2).frozen 0
  have f1 := (T2.below hb2).frozen 1
  have f2 := (T2.below hb2).frozen 2
  obtain ⟨s0, s1, s2⟩ := (T3.below hb2).cells3
  have g0 := (T3.below hb2).frozen 0
  have g1 := (T3.below hb2).frozen 1
  have g2 := (T3.below hb2).frozen 2
  obtain ⟨p0, p1, p2⟩ := d1.cells3
  obtain ⟨q0, q1, q2⟩ := d2.cells3
  have HF := Lib.hid (hfin.out.trans (hb2.mono hfin.out.size))
  have n1 : ¬ w.heap.size + 1 + 1 + 1 = w.heap.size + 1 + 1 := by omega
  have n2 : ¬ w.heap.size + 1 + 1 = w.heap.size + 1 + 1 + 1 := by omega
  have n3 : ¬ w1.heap.size = w.heap.size + 1 + 1 := by omega
  have n4 : ¬ w1.heap.size = w.heap.size + 1 + 1 + 1 := by omega
  have n5 : ¬ w1.heap.size + 1 = w.heap.size + 1 + 1 := by omega
  have n6 : ¬ w1.heap.size + 1 = w.heap.size + 1 + 1 + 1 := by omega
  have HW := Lib.hid hw2
  clear hb1 T2 T3 hb2 d1 d2 hfin hlt hw2
  go_wp2_with fail
  rw [← HW.out]
  go_region
  all_goals
    go_wp2_with fail
    refine bodyPost_ret (v := .tuple #[tmv ⟨k1, l1, m1⟩, tmv ⟨k2, l2, m2⟩]) (by simp [results, Try.results57, go_sem, r0, r1, r2, s0, s1, s2]) rfl ⟨rfl, ?_⟩
    exact ((((((HF.out.setCell (by simp; omega) _).setCell (by simp; omega) _).setCell (by simp; omega) _).setCell (by simp; omega) _).setCell (by simp; omega) _).setCell (by simp; omega) _).drew

theorem list_call : Calls Try.prog 36 #[tmv x] w (RetS w [x]) :=
  (list_any x w).mono fun e w' ⟨he, hw'⟩ => by
    subst hw'
    refine ⟨_, _, he, ?_, ((Below.refl _ _).alloc (Nat.le_refl _) _).alloc (by simp) _⟩
    have := rd_blk (Blk.new (w.alloc (box x 29)) 29 #[.int .i64 x.kind, .bool x.tilde, .int .i64 x.type])
    simp only [World.size_alloc] at this
    exact this
end

theorem wok_zero : WOk [0] := wok_of (by decide)
theorem all_ok : TB [0] ⟨1, false, 0⟩ = true := by decide

theorem w41 (A : Option Addr) (w0 w : World) (hb : Below w0.heap.size w0 w) (h : Rd w A (ints [0])) :
    Calls Try.prog 41 #[.slice A 1 1, tmv ⟨1, false, 0⟩, .int .i64 0] w fun e w' => e = .returned (.bool true) ∧ Below w0.heap.size w0 w' :=
  comp (itincl_call [0] A 1 ⟨1, false, 0⟩ 0 w (by decide) wok_zero h all_ok (by decide)) hb (Nat.le_refl _)
theorem w39 (A D : Option Addr) (d : Nat) (w0 w : World) (hb : Below w0.heap.size w0 w) (h : Rd w A (ints [0])) (h2 : Rd w D (tcs [⟨1, false, 0⟩])) :
    Calls Try.prog 39 #[.slice A 1 1, .slice D 1 d] w fun e w' => e = .returned (.bool false) ∧ Below w0.heap.size w0 w' :=
  comp (iempty_call [0] A 1 D d [⟨1, false, 0⟩] w (by decide) (by decide) wok_zero h h2 (by decide)) hb (Nat.le_refl _)
theorem w34 (A D : Option Addr) (d : Nat) (w0 w : World) (hb : Below w0.heap.size w0 w) (h : Rd w A (ints [0])) (h2 : Rd w D (tcs [⟨1, false, 0⟩])) :
    Calls Try.prog 34 #[.slice A 1 1, .slice D 1 d] w fun e w' => e = .returned (.bool true) ∧ Below w0.heap.size w0 w' :=
  comp (iall_call [0] A 1 D d [⟨1, false, 0⟩] w (by decide) (by decide) wok_zero h h2 (by decide)) hb (Nat.le_refl _)
theorem rd_zero (w : World) : Rd (w.alloc (.cells #[.int .i64 0] 3)) (some ⟨w.heap.size, 0, none⟩) (ints [0]) := rd_blk (Blk.new w 3 #[.int .i64 0])

set_option maxHeartbeats 1000000 in
theorem works_call (w : World) : Calls Try.prog 38 #[] w fun e w' => e = .returned (.bool true) ∧ Below w.heap.size w w' := by
  have CA := Lib.hid (fun w' (hb : Below w.heap.size w w') => comp (all_any w') hb (Nat.le_refl _))
  have CA2 := Lib.hid (fun w' => all_any w')
  have CL := Lib.hid (fun w' => list_call ⟨1, false, 0⟩ w')
  have HB := Lib.hid (fun o => (Below.refl w.heap.size w).alloc (Nat.le_refl _) o)
  have HR := Lib.hid (rd_zero w)
  go_enter Try.func38, Try.ntmps38
  go_wp2_with fail
  refine (CA2.out _).mono ?_
  rintro e w1 ⟨rfl, hb1⟩
  have K1 := Lib.hid ((HB.out _).trans (hb1.mono (HB.out _).size))
  have R1 := Lib.hid (HR.out.below hb1)
  clear hb1
  go_wp2_with fail
  refine (w41 _ w w1 K1.out R1.out).mono ?_
  rintro e w2 ⟨rfl, hb2⟩
  have K2 := Lib.hid hb2
  clear hb2
  go_wp2_with fail
  refine (CA2.out _).mono ?_
  rintro e w3 ⟨rfl, hb3⟩
  have K3 := Lib.hid ((K2.out.alloc K2.out.size _).trans (hb3.mono (K2.out.alloc K2.out.size _).size))
  have R3 := Lib.hid ((rd_zero w2).below hb3)
  clear hb3
  go_wp2_with fail
  refine (CL.out _).mono ?_
  rintro e w4 ⟨D4, d4, rfl, hd4, hb4⟩
  have K4 := Lib.hid (K3.out.trans (hb4.mono K3.out.size))
  have R4 := Lib.hid (R3.out.below hb4)
  have D4h := Lib.hid hd4
  clear hb4 hd4
  go_wp2_with fail
  refine (w39 _ _ _ w w4 K4.out R4.out D4h.out).mono ?_
  rintro e w5 ⟨rfl, hb5⟩
  have K5 := Lib.hid hb5
  clear hb5
  go_wp2_with fail
  refine (CA2.out _).mono ?_
  rintro e w6 ⟨rfl, hb6⟩
  have K6 := Lib.hid ((K5.out.alloc K5.out.size _).trans (hb6.mono (K5.out.alloc K5.out.size _).size))
  have R6 := Lib.hid ((rd_zero w5).below hb6)
  clear hb6
  go_wp2_with fail
  refine (CL.out _).mono ?_
  rintro e w7 ⟨D7, d7, rfl, hd7, hb7⟩
  have K7 := Lib.hid (K6.out.trans (hb7.mono K6.out.size))
  have R7 := Lib.hid (R6.out.below hb7)
  have D7h := Lib.hid hd7
  clear hb7 hd7
  go_wp2_with fail
  refine (w34 _ _ _ w w7 K7.out R7.out D7h.out).mono ?_
  rintro e w8 ⟨rfl, hb8⟩
  go_wp2_with fail
  go_ret
  exact ⟨rfl, hb8⟩
end Go.Proofs.Ytehadfnaknpagaa
