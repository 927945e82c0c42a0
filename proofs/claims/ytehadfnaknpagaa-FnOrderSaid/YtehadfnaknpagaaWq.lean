/-
  THE WALKS, SEVENTEENTH PART: the package's exports TermIntersect and TermUnion.
-/
import Derived.Test.YtehadfnaknpagaaWp
namespace Go.Proofs.Ytehadfnaknpagaa
open Go.RowKit Pl

section
variable (us : List Int) (A : Option Addr) (c : Nat) (x y : Tm) (w : World)

set_option maxHeartbeats 1000000 in
theorem xinter_call (hl : us.length ≤ 2147483647) (hw : WOk us) (hr : Rd w A (ints us)) (hx : TB us x = true) (hy : TB us y = true) :
    Calls Try.prog 76 #[.slice A us.length c, tmv x, tmv y] w fun e w' => e = .returned (tmv (ofT (inter1 us (toT x) (toT y)))) ∧ Below w.heap.size w w' := by
  obtain ⟨w0, hw0⟩ : ∃ w0 : World, w0 = ((w.alloc (box x 52)).alloc (box y 52)).alloc (.cells #[.int .i64 0, .bool false, .int .i64 0] 52) := ⟨_, rfl⟩
  have a0 : Below w.heap.size w w0 := by rw [hw0]; exact (((Below.refl _ _).alloc (Nat.le_refl _) _).alloc (by simp) _).alloc (by simp; omega) _
  have b0 : Blk w0 w.heap.size 52 #[.int .i64 x.kind, .bool x.tilde, .int .i64 x.type] := by rw [hw0]; exact ((Blk.new _ _ _).alloc _).alloc _
  have b1 : Blk w0 (w.heap.size + 1) 52 #[.int .i64 y.kind, .bool y.tilde, .int .i64 y.type] := by rw [hw0]; have := (Blk.new (w.alloc (box x 52)) 52 #[.int .i64 y.kind, .bool y.tilde, .int .i64 y.type]).alloc (.cells #[.int .i64 0, .bool false, .int .i64 0] 52); simpa using this
  have b2 : Blk w0 (w.heap.size + 2) 52 #[.int .i64 0, .bool false, .int .i64 0] := by rw [hw0]; have := Blk.new ((w.alloc (box x 52)).alloc (box y 52)) 52 #[.int .i64 0, .bool false, .int .i64 0]; simpa using this
  have Hr := Lib.hid hr
  have A0 := Lib.hid a0
  have B0 := Lib.hid b0
  have B1 := Lib.hid b1
  have B2 := Lib.hid b2
  clear hr a0 b0 b1 b2
  go_enter Try.func76, Try.ntmps76
  go_wp2_with fail
  rw [← hw0]
  clear hw0
  refine (world_call us A c _ hl hw (Hr.out.below A0.out)).mono ?_
  rintro e w1 ⟨W, K, rfl, hd, hb1⟩
  have a1 : Below w.heap.size w w1 := A0.out.trans (hb1.mono A0.out.size)
  have hS : ∀ w', Below w1.heap.size w1 w' → (w'.cell? ⟨w.heap.size, 0, none⟩ = some (.int .i64 x.kind) ∧ w'.cell? ⟨w.heap.size, 1, none⟩ = some (.bool x.tilde) ∧ w'.cell? ⟨w.heap.size, 2, none⟩ = some (.int .i64 x.type) ∧
      w'.cell? ⟨w.heap.size + 1, 0, none⟩ = some (.int .i64 y.kind) ∧ w'.cell? ⟨w.heap.size + 1, 1, none⟩ = some (.bool y.tilde) ∧ w'.cell? ⟨w.heap.size + 1, 2, none⟩ = some (.int .i64 y.type)) := fun w' h => by
    obtain ⟨p0, p1, p2⟩ := ((B0.out.below hb1).below h).cells3
    obtain ⟨q0, q1, q2⟩ := ((B1.out.below hb1).below h).cells3
    exact ⟨p0, p1, p2, q0, q1, q2⟩
  have hT : ∀ w', Below w1.heap.size w1 w' → Blk w' (w.heap.size + 1 + 1) 52 #[.int .i64 0, .bool false, .int .i64 0] := fun w' h => (B2.out.below hb1).below h
  have HT := Lib.hid hT
  have HS := Lib.hid hS
  have CX := Lib.hid (fun w' (hb : Below w1.heap.size w1 w') => in_call2 us K w1 w' W us.length x hl hd hx hb)
  have CY := Lib.hid (fun w' (hb : Below w1.heap.size w1 w') => in_call2 us K w1 w' W us.length y hl hd hy hb)
  have CE := Lib.hid (fun (v u : Value) w' (hb : Below w1.heap.size w1 w') (h1 : PT w' us K v (toT x)) (h2 : PT w' us K u (toT y)) => inter_any us K w' v u (toT x) (toT y) (hd.kn.below hb) hw h1 h2)
  have CO := Lib.hid (fun (v : Value) (z : T) w' (hb : Below w1.heap.size w1 w') (h1 : PT w' us K v z) => comp (out_call us K w' v z (hd.kn.below hb) h1) hb (Nat.le_refl _))
  have A1 := Lib.hid a1
  have R1 := Lib.hid (Below.refl w1.heap.size w1)
  have n1 : ¬ w.heap.size + 1 + 1 = w.heap.size := by omega
  have n2 : ¬ w.heap.size = w.heap.size + 1 + 1 := by omega
  clear hS hT hd hw hx hy hb1 a1
  go_wp2_with fail
  go_region_held3 (fun w' => w'.cell? ⟨w.heap.size, 0, none⟩ = some (.int .i64 x.kind) ∧ w'.cell? ⟨w.heap.size, 1, none⟩ = some (.bool x.tilde) ∧ w'.cell? ⟨w.heap.size, 2, none⟩ = some (.int .i64 x.type) ∧
      w'.cell? ⟨w.heap.size + 1, 0, none⟩ = some (.int .i64 y.kind) ∧ w'.cell? ⟨w.heap.size + 1, 1, none⟩ = some (.bool y.tilde) ∧ w'.cell? ⟨w.heap.size + 1, 2, none⟩ = some (.int .i64 y.type))
    (first | exact HS.out _ R1.out.drew | exact HS.out _ (by assumption) | go_keep)
    (first | (go_at_call 83; (with_reducible refine (CX.out _ R1.out.drew).mono ?_); rintro e w2 ⟨a2, rfl, hp2, hb2, hc2⟩) | (go_at_call 83; (with_reducible refine (CY.out _ (by assumption)).mono ?_); rintro e w3 ⟨a3, rfl, hp3, hb3, hc3⟩) | (go_at_call 96; (with_reducible refine (CE.out _ _ _ (by assumption) (hp2.below hb3) hp3).mono ?_); rintro e w4 ⟨v4, rfl, hp4, hd4⟩; have hc4 := hc3.trans (hd4.below w1.heap.size)) | (go_at_call 95; (with_reducible refine (CO.out _ _ _ (by assumption) (hp4 _ ((hp2.below hb3).below (hd4.below _)) (hp3.below (hd4.below _)))).mono ?_); rintro e w5 ⟨rfl, hc5⟩; obtain ⟨r0, r1, r2⟩ := (HT.out _ hc5).cells3; have f0 := (HT.out _ hc5).frozen 0; have f1 := (HT.out _ hc5).frozen 1; have f2 := (HT.out _ hc5).frozen 2))
  all_goals
    go_wp2_with fail
    have hfin := A1.out.trans (hc5.mono A1.out.size)
    refine bodyPost_ret (v := tmv (ofT (inter1 us (toT x) (toT y)))) (by simp [results, Try.results76, go_sem, r0, r1, r2]) rfl ⟨rfl, ?_⟩
    exact ((hfin.setCell (by simp; omega) _).setCell (by simp; omega) _).setCell (by simp; omega) _
/-- two terms come back -/
abbrev tm2 (z : T × T) : Value := .tuple #[tmv (ofT z.1), tmv (ofT z.2)]

set_option maxHeartbeats 1000000 in
theorem xunion_call (hl : us.length ≤ 2147483647) (hw : WOk us) (hr : Rd w A (ints us)) (hx : TB us x = true) (hy : TB us y = true) :
    Calls Try.prog 77 #[.slice A us.length c, tmv x, tmv y] w fun e w' => e = .returned (tm2 (union1 us (toT x) (toT y))) ∧ Below w.heap.size w w' := by
  obtain ⟨z1, z2, hzz⟩ : ∃ z1 z2, union1 us (toT x) (toT y) = (z1, z2) := ⟨_, _, rfl⟩
  rw [hzz]
  have HZ := Lib.hid hzz
  clear hzz
  obtain ⟨w0, hw0⟩ : ∃ w0 : World, w0 = (((w.alloc (box x 52)).alloc (box y 52)).alloc (.cells #[.int .i64 0, .bool false, .int .i64 0] 52)).alloc (.cells #[.int .i64 0, .bool false, .int .i64 0] 52) := ⟨_, rfl⟩
  have a0 : Below w.heap.size w w0 := by rw [hw0]; exact ((((Below.refl _ _).alloc (Nat.le_refl _) _).alloc (by simp) _).alloc (by simp; omega) _).alloc (by simp; omega) _
  have b0 : Blk w0 w.heap.size 52 #[.int .i64 x.kind, .bool x.tilde, .int .i64 x.type] := by rw [hw0]; exact (((Blk.new _ _ _).alloc _).alloc _).alloc _
  have b1 : Blk w0 (w.heap.size + 1) 52 #[.int .i64 y.kind, .bool y.tilde, .int .i64 y.type] := by rw [hw0]; have := ((Blk.new (w.alloc (box x 52)) 52 #[.int .i64 y.kind, .bool y.tilde, .int .i64 y.type]).alloc (.cells #[.int .i64 0, .bool false, .int .i64 0] 52)).alloc (.cells #[.int .i64 0, .bool false, .int .i64 0] 52); simpa using this
  have b2 : Blk w0 (w.heap.size + 1 + 1) 52 #[.int .i64 0, .bool false, .int .i64 0] := by rw [hw0]; have := (Blk.new ((w.alloc (box x 52)).alloc (box y 52)) 52 #[.int .i64 0, .bool false, .int .i64 0]).alloc (.cells #[.int .i64 0, .bool false, .int .i64 0] 52); simpa using this
  have b3 : Blk w0 (w.heap.size + 1 + 1 + 1) 52 #[.int .i64 0, .bool false, .int .i64 0] := by rw [hw0]; have := Blk.new (((w.alloc (box x 52)).alloc (box y 52)).alloc (.cells #[.int .i64 0, .bool false, .int .i64 0] 52)) 52 #[.int .i64 0, .bool false, .int .i64 0]; simpa using this
  have Hr := Lib.hid hr
  have A0 := Lib.hid a0
  have B0 := Lib.hid b0
  have B1 := Lib.hid b1
  have B2 := Lib.hid b2
  have B3 := Lib.hid b3
  clear hr a0 b0 b1 b2 b3
  go_enter Try.func77, Try.ntmps77
  go_wp2_with fail
  rw [← hw0]
  clear hw0
  refine (world_call us A c _ hl hw (Hr.out.below A0.out)).mono ?_
  rintro e w1 ⟨W, K, rfl, hd, hb1⟩
  have a1 : Below w.heap.size w w1 := A0.out.trans (hb1.mono A0.out.size)
  have hS : ∀ w', Below w1.heap.size w1 w' → (w'.cell? ⟨w.heap.size, 0, none⟩ = some (.int .i64 x.kind) ∧ w'.cell? ⟨w.heap.size, 1, none⟩ = some (.bool x.tilde) ∧ w'.cell? ⟨w.heap.size, 2, none⟩ = some (.int .i64 x.type) ∧
      w'.cell? ⟨w.heap.size + 1, 0, none⟩ = some (.int .i64 y.kind) ∧ w'.cell? ⟨w.heap.size + 1, 1, none⟩ = some (.bool y.tilde) ∧ w'.cell? ⟨w.heap.size + 1, 2, none⟩ = some (.int .i64 y.type)) := fun w' h => by
    obtain ⟨p0, p1, p2⟩ := ((B0.out.below hb1).below h).cells3
    obtain ⟨q0, q1, q2⟩ := ((B1.out.below hb1).below h).cells3
    exact ⟨p0, p1, p2, q0, q1, q2⟩
  have hT : ∀ w', Below w1.heap.size w1 w' → Blk w' (w.heap.size + 1 + 1) 52 #[.int .i64 0, .bool false, .int .i64 0] ∧ Blk w' (w.heap.size + 1 + 1 + 1) 52 #[.int .i64 0, .bool false, .int .i64 0] := fun w' h => ⟨(B2.out.below hb1).below h, (B3.out.below hb1).below h⟩
  have HT := Lib.hid hT
  have HS := Lib.hid hS
  have CX := Lib.hid (fun w' (hb : Below w1.heap.size w1 w') => in_call2 us K w1 w' W us.length x hl hd hx hb)
  have CY := Lib.hid (fun w' (hb : Below w1.heap.size w1 w') => in_call2 us K w1 w' W us.length y hl hd hy hb)
  have CE := Lib.hid (fun (v u : Value) w' (hb : Below w1.heap.size w1 w') (h1 : PT w' us K v (toT x)) (h2 : PT w' us K u (toT y)) => (by have h := union_any us K w' v u (toT x) (toT y) (hd.kn.below hb) hw h1 h2; rw [HZ.out] at h; exact h : Calls Try.prog 97 #[v, u] w' (RetTT us K w' v (toT x) u (toT y) (z1, z2))))
  have CO := Lib.hid (fun (v : Value) (z : T) w' (hb : Below w1.heap.size w1 w') (h1 : PT w' us K v z) => (out_call us K w' v z (hd.kn.below hb) h1))
  have A1 := Lib.hid a1
  have R1 := Lib.hid (Below.refl w1.heap.size w1)
  clear hS hT hd hw hx hy hb1 a1
  go_wp2_with fail
  go_region_held3 (fun w' => w'.cell? ⟨w.heap.size, 0, none⟩ = some (.int .i64 x.kind) ∧ w'.cell? ⟨w.heap.size, 1, none⟩ = some (.bool x.tilde) ∧ w'.cell? ⟨w.heap.size, 2, none⟩ = some (.int .i64 x.type) ∧
      w'.cell? ⟨w.heap.size + 1, 0, none⟩ = some (.int .i64 y.kind) ∧ w'.cell? ⟨w.heap.size + 1, 1, none⟩ = some (.bool y.tilde) ∧ w'.cell? ⟨w.heap.size + 1, 2, none⟩ = some (.int .i64 y.type))
    (first | exact HS.out _ R1.out.drew | exact HS.out _ (by assumption))
    (first | (go_at_call 83; (with_reducible refine (CX.out _ R1.out.drew).mono ?_); rintro e w2 ⟨a2, rfl, hp2, hb2, hc2⟩) | (go_at_call 83; (with_reducible refine (CY.out _ (by assumption)).mono ?_); rintro e w3 ⟨a3, rfl, hp3, hb3, hc3⟩) | (go_at_call 97; (with_reducible refine (CE.out _ _ _ (by assumption) (hp2.below hb3) hp3).mono ?_); rintro e w4 ⟨v4, u4, rfl, hp4, hd4⟩; have hc4 := hc3.trans (hd4.below w1.heap.size)))
  all_goals
    obtain ⟨hq1, hq2⟩ := hp4 _ ((hp2.below hb3).below (hd4.below _)) (hp3.below (hd4.below _))
    have Q1 := Lib.hid hq1
    have Q2 := Lib.hid hq2
    obtain ⟨o1, rfl⟩ := hq1.ptr
    obtain ⟨o2, rfl⟩ := hq2.ptr
    have C4 := Lib.hid hc4
    clear hp2 hp3 hb2 hb3 hc2 hc3 hd4 hp4 hc4 hq1 hq2
    go_wp2_with fail
    refine (CO.out _ _ _ C4.out Q1.out).mono ?_
    rintro e w5 ⟨rfl, hb5⟩
    have C5 := Lib.hid (C4.out.trans (hb5.mono C4.out.size))
    have Q3 := Lib.hid (Q2.out.below hb5)
    clear hb5
    go_wp2_with fail
    refine (CO.out _ _ _ C5.out Q3.out).mono ?_
    rintro e w6 ⟨rfl, hb6⟩
    have C6 := C5.out.trans (hb6.mono C5.out.size)
    obtain ⟨t2, t3⟩ := HT.out _ C6
    obtain ⟨r0, r1, r2⟩ := t2.cells3
    have f0 := t2.frozen 0
    have f1 := t2.frozen 1
    have f2 := t2.frozen 2
    obtain ⟨s0, s1, s2⟩ := t3.cells3
    have g0 := t3.frozen 0
    have g1 := t3.frozen 1
    have g2 := t3.frozen 2
    have n1 : ¬ w.heap.size + 1 + 1 + 1 = w.heap.size + 1 + 1 := by omega
    have n2 : ¬ w.heap.size + 1 + 1 = w.heap.size + 1 + 1 + 1 := by omega
    have hfin := Lib.hid (A1.out.trans (C6.mono A1.out.size))
    clear t2 t3 C6 hb6
    go_wp2_with fail
    refine bodyPost_ret (v := tm2 (z1, z2)) (by simp [results, Try.results77, go_sem, r0, r1, r2, s0, s1, s2]) rfl ⟨rfl, ?_⟩
    exact (((((hfin.out.setCell (by simp; omega) _).setCell (by simp; omega) _).setCell (by simp; omega) _).setCell (by simp; omega) _).setCell (by simp; omega) _).setCell (by simp; omega) _
end
end Go.Proofs.Ytehadfnaknpagaa
