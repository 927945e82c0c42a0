/-
  THE WALKS, SIXTEENTH PART: the package's exports for terms.
-/
import Derived.Test.YtehadfnaknpagaaWo
import Derived.Deep.RegionHeld3
namespace Go.Proofs.Ytehadfnaknpagaa
open Go.RowKit Pl

/-- in's contract, told of the world w0 besides -/
def RetQ (us : List Int) (K : Nat → Nat) (w0 w : World) (z : T) (e : Ending) (w' : World) : Prop := ∃ a, e = .returned (.pointer a) ∧ PT w' us K (.pointer a) z ∧ Below w.heap.size w w' ∧ Below w0.heap.size w0 w'
theorem in_call2 (us : List Int) (K : Nat → Nat) (w0 w : World) (W : Option Addr) (c : Nat) (t : Tm) (hl : us.length ≤ 2147483647) (hd : Wd w0 us W K) (ht : TB us t = true) (hb : Below w0.heap.size w0 w) :
    Calls Try.prog 83 #[.slice W us.length c, tmv t] w (RetQ us K w0 w (toT t)) :=
  (in_call us K w W c t hl (hd.below hb) ht).mono fun e w' ⟨v, he, hp, hb'⟩ => by
    obtain ⟨a, rfl⟩ := hp.ptr
    exact ⟨a, he, hp, hb', hb.trans (hb'.mono hb.size)⟩
/-- ins' contract likewise -/
def RetLQ (us : List Int) (K : Nat → Nat) (w0 w : World) (xs : List T) (e : Ending) (w' : World) : Prop := ∃ A c, e = .returned (.slice A xs.length c) ∧ TL w' us K A xs ∧ Below w.heap.size w w' ∧ Below w0.heap.size w0 w'
theorem ins_call2 (us : List Int) (K : Nat → Nat) (w0 w : World) (W : Option Addr) (c : Nat) (D : Option Addr) (d : Nat) (ts : List Tm) (hl : us.length ≤ 2147483647) (hm : ts.length ≤ 1099511627776) (hd : Wd w0 us W K) (hr : Rd w D (tcs ts)) (ht : ts.all (TB us) = true) (hb : Below w0.heap.size w0 w) :
    Calls Try.prog 79 #[.slice W us.length c, .slice D ts.length d] w (RetLQ us K w0 w (terms ts)) :=
  (ins_call us K w W c D d ts hl hm (hd.below hb) hr ht).mono fun e w' ⟨v, he, hbt⟩ => by
    obtain ⟨A, c, rfl, htl⟩ := hbt.tl
    exact ⟨A, c, he, htl, hbt.bel, hb.trans (hbt.bel.mono hb.size)⟩
/-- a term in a box -/
abbrev box (t : Tm) (s : TypeId) : Obj := .cells #[.int .i64 t.kind, .bool t.tilde, .int .i64 t.type] s
theorem toT_one {t : Tm} (h : t.kind = 2) : toT t = .one t.tilde t.type.toNat := by unfold toT; rw [h]; rfl

section
variable (us : List Int) (A : Option Addr) (c : Nat) (x y : Tm) (D : Option Addr) (d : Nat) (xs : List Tm) (t : Nat) (w : World)

set_option maxHeartbeats 1000000 in
theorem xequal_call (hl : us.length ≤ 2147483647) (hw : WOk us) (hr : Rd w A (ints us)) (hx : TB us x = true) (hy : TB us y = true) :
    Calls Try.prog 70 #[.slice A us.length c, tmv x, tmv y] w fun e w' => e = .returned (.bool (eq1 (toT x) (toT y))) ∧ Below w.heap.size w w' := by
  obtain ⟨w0, hw0⟩ : ∃ w0 : World, w0 = (w.alloc (box x 52)).alloc (box y 52) := ⟨_, rfl⟩
  have a0 : Below w.heap.size w w0 := by rw [hw0]; exact ((Below.refl _ _).alloc (Nat.le_refl _) _).alloc (by simp) _
  have b0 : Blk w0 w.heap.size 52 #[.int .i64 x.kind, .bool x.tilde, .int .i64 x.type] := by rw [hw0]; exact (Blk.new _ _ _).alloc _
  have b1 : Blk w0 (w.heap.size + 1) 52 #[.int .i64 y.kind, .bool y.tilde, .int .i64 y.type] := by rw [hw0]; have := Blk.new (w.alloc (box x 52)) 52 #[.int .i64 y.kind, .bool y.tilde, .int .i64 y.type]; simpa using this
  have Hr := Lib.hid hr
  have A0 := Lib.hid a0
  have B0 := Lib.hid b0
  have B1 := Lib.hid b1
  clear hr a0 b0 b1
  go_enter Try.func70, Try.ntmps70
  go_wp2_with fail
  rw [← hw0]
  clear hw0
  refine (world_call us A c _ hl hw (Hr.out.below A0.out)).mono ?_
  rintro e w1 ⟨W, K, rfl, hd, hb1⟩
  have a1 : Below w.heap.size w w1 := A0.out.trans (hb1.mono A0.out.size)
  have hS : ∀ w', Below w1.heap.size w1 w' → (w'.cell? ⟨w.heap.size, 0, none⟩ = some (.int .i64 x.kind) ∧ w'.cell? ⟨w.heap.size, 1, none⟩ = some (.bool x.tilde) ∧ w'.cell? ⟨w.heap.size, 2, none⟩ = some (.int .i64 x.type) ∧ w'.cell? ⟨w.heap.size + 1, 0, none⟩ = some (.int .i64 y.kind) ∧ w'.cell? ⟨w.heap.size + 1, 1, none⟩ = some (.bool y.tilde) ∧ w'.cell? ⟨w.heap.size + 1, 2, none⟩ = some (.int .i64 y.type)) := fun w' h => by
    obtain ⟨p0, p1, p2⟩ := ((B0.out.below hb1).below h).cells3
    obtain ⟨q0, q1, q2⟩ := ((B1.out.below hb1).below h).cells3
    exact ⟨p0, p1, p2, q0, q1, q2⟩
  have HS := Lib.hid hS
  have CX := Lib.hid (fun w' (hb : Below w1.heap.size w1 w') => in_call2 us K w1 w' W us.length x hl hd hx hb)
  have CY := Lib.hid (fun w' (hb : Below w1.heap.size w1 w') => in_call2 us K w1 w' W us.length y hl hd hy hb)
  have CE := Lib.hid (fun (v u : Value) w' (hb : Below w1.heap.size w1 w') (h1 : PT w' us K v (toT x)) (h2 : PT w' us K u (toT y)) => eq_any us K w' v u (toT x) (toT y) (hd.kn.below hb) h1 h2)
  have A1 := Lib.hid a1
  have R1 := Lib.hid (Below.refl w1.heap.size w1)
  clear hS hd hw hx hy hb1 a1
  go_wp2_with fail
  go_region_held3 (fun w' => w'.cell? ⟨w.heap.size, 0, none⟩ = some (.int .i64 x.kind) ∧ w'.cell? ⟨w.heap.size, 1, none⟩ = some (.bool x.tilde) ∧ w'.cell? ⟨w.heap.size, 2, none⟩ = some (.int .i64 x.type) ∧ w'.cell? ⟨w.heap.size + 1, 0, none⟩ = some (.int .i64 y.kind) ∧ w'.cell? ⟨w.heap.size + 1, 1, none⟩ = some (.bool y.tilde) ∧ w'.cell? ⟨w.heap.size + 1, 2, none⟩ = some (.int .i64 y.type))
    (first | exact HS.out _ R1.out.drew | exact HS.out _ (by assumption))
    (first | (go_at_call 83; (with_reducible refine (CX.out _ R1.out.drew).mono ?_); rintro e w2 ⟨a2, rfl, hp2, hb2, hc2⟩) | (go_at_call 83; (with_reducible refine (CY.out _ (by assumption)).mono ?_); rintro e w3 ⟨a3, rfl, hp3, hb3, hc3⟩) | (go_at_call 89; (with_reducible refine (CE.out _ _ _ (by assumption) (hp2.below hb3) hp3).mono ?_); rintro e w4 ⟨rfl, hd4⟩; have hc4 := hc3.trans (hd4.below w1.heap.size)))
  all_goals
    have hf := Lib.hid hc4
    clear hp2 hp3 hb2 hb3 hc2 hc3 hd4 hc4
    go_wp2_with fail
    go_ret
    exact ⟨rfl, A1.out.trans (hf.out.mono A1.out.size)⟩

set_option maxHeartbeats 1000000 in
theorem xsubset_call (hl : us.length ≤ 2147483647) (hw : WOk us) (hr : Rd w A (ints us)) (hx : TB us x = true) (hy : TB us y = true) :
    Calls Try.prog 74 #[.slice A us.length c, tmv x, tmv y] w fun e w' => e = .returned (.bool (sub1 us (toT x) (toT y))) ∧ Below w.heap.size w w' := by
  obtain ⟨w0, hw0⟩ : ∃ w0 : World, w0 = (w.alloc (box x 52)).alloc (box y 52) := ⟨_, rfl⟩
  have a0 : Below w.heap.size w w0 := by rw [hw0]; exact ((Below.refl _ _).alloc (Nat.le_refl _) _).alloc (by simp) _
  have b0 : Blk w0 w.heap.size 52 #[.int .i64 x.kind, .bool x.tilde, .int .i64 x.type] := by rw [hw0]; exact (Blk.new _ _ _).alloc _
  have b1 : Blk w0 (w.heap.size + 1) 52 #[.int .i64 y.kind, .bool y.tilde, .int .i64 y.type] := by rw [hw0]; have := Blk.new (w.alloc (box x 52)) 52 #[.int .i64 y.kind, .bool y.tilde, .int .i64 y.type]; simpa using this
  have Hr := Lib.hid hr
  have A0 := Lib.hid a0
  have B0 := Lib.hid b0
  have B1 := Lib.hid b1
  clear hr a0 b0 b1
  go_enter Try.func74, Try.ntmps74
  go_wp2_with fail
  rw [← hw0]
  clear hw0
  refine (world_call us A c _ hl hw (Hr.out.below A0.out)).mono ?_
  rintro e w1 ⟨W, K, rfl, hd, hb1⟩
  have a1 : Below w.heap.size w w1 := A0.out.trans (hb1.mono A0.out.size)
  have hS : ∀ w', Below w1.heap.size w1 w' → (w'.cell? ⟨w.heap.size, 0, none⟩ = some (.int .i64 x.kind) ∧ w'.cell? ⟨w.heap.size, 1, none⟩ = some (.bool x.tilde) ∧ w'.cell? ⟨w.heap.size, 2, none⟩ = some (.int .i64 x.type) ∧ w'.cell? ⟨w.heap.size + 1, 0, none⟩ = some (.int .i64 y.kind) ∧ w'.cell? ⟨w.heap.size + 1, 1, none⟩ = some (.bool y.tilde) ∧ w'.cell? ⟨w.heap.size + 1, 2, none⟩ = some (.int .i64 y.type)) := fun w' h => by
    obtain ⟨p0, p1, p2⟩ := ((B0.out.below hb1).below h).cells3
    obtain ⟨q0, q1, q2⟩ := ((B1.out.below hb1).below h).cells3
    exact ⟨p0, p1, p2, q0, q1, q2⟩
  have HS := Lib.hid hS
  have CX := Lib.hid (fun w' (hb : Below w1.heap.size w1 w') => in_call2 us K w1 w' W us.length x hl hd hx hb)
  have CY := Lib.hid (fun w' (hb : Below w1.heap.size w1 w') => in_call2 us K w1 w' W us.length y hl hd hy hb)
  have CE := Lib.hid (fun (v u : Value) w' (hb : Below w1.heap.size w1 w') (h1 : PT w' us K v (toT x)) (h2 : PT w' us K u (toT y)) => sub_any us K w' v u (toT x) (toT y) (hd.kn.below hb) hw h1 h2)
  have A1 := Lib.hid a1
  have R1 := Lib.hid (Below.refl w1.heap.size w1)
  clear hS hd hw hx hy hb1 a1
  go_wp2_with fail
  go_region_held3 (fun w' => w'.cell? ⟨w.heap.size, 0, none⟩ = some (.int .i64 x.kind) ∧ w'.cell? ⟨w.heap.size, 1, none⟩ = some (.bool x.tilde) ∧ w'.cell? ⟨w.heap.size, 2, none⟩ = some (.int .i64 x.type) ∧ w'.cell? ⟨w.heap.size + 1, 0, none⟩ = some (.int .i64 y.kind) ∧ w'.cell? ⟨w.heap.size + 1, 1, none⟩ = some (.bool y.tilde) ∧ w'.cell? ⟨w.heap.size + 1, 2, none⟩ = some (.int .i64 y.type))
    (first | exact HS.out _ R1.out.drew | exact HS.out _ (by assumption))
    (first | (go_at_call 83; (with_reducible refine (CX.out _ R1.out.drew).mono ?_); rintro e w2 ⟨a2, rfl, hp2, hb2, hc2⟩) | (go_at_call 83; (with_reducible refine (CY.out _ (by assumption)).mono ?_); rintro e w3 ⟨a3, rfl, hp3, hb3, hc3⟩) | (go_at_call 93; (with_reducible refine (CE.out _ _ _ (by assumption) (hp2.below hb3) hp3).mono ?_); rintro e w4 ⟨rfl, hd4⟩; have hc4 := hc3.trans (hd4.below w1.heap.size)))
  all_goals
    have hf := Lib.hid hc4
    clear hp2 hp3 hb2 hb3 hc2 hc3 hd4 hc4
    go_wp2_with fail
    go_ret
    exact ⟨rfl, A1.out.trans (hf.out.mono A1.out.size)⟩

set_option maxHeartbeats 1000000 in
theorem xdisjoint_call (hl : us.length ≤ 2147483647) (hw : WOk us) (hr : Rd w A (ints us)) (hx : TB us x = true) (hy : TB us y = true) (hkx : x.kind = 2) (hky : y.kind = 2) :
    Calls Try.prog 71 #[.slice A us.length c, tmv x, tmv y] w fun e w' => e = .returned (.bool (disj us (toT x) (toT y))) ∧ Below w.heap.size w w' := by
  obtain ⟨w0, hw0⟩ : ∃ w0 : World, w0 = (w.alloc (box x 52)).alloc (box y 52) := ⟨_, rfl⟩
  have a0 : Below w.heap.size w w0 := by rw [hw0]; exact ((Below.refl _ _).alloc (Nat.le_refl _) _).alloc (by simp) _
  have b0 : Blk w0 w.heap.size 52 #[.int .i64 x.kind, .bool x.tilde, .int .i64 x.type] := by rw [hw0]; exact (Blk.new _ _ _).alloc _
  have b1 : Blk w0 (w.heap.size + 1) 52 #[.int .i64 y.kind, .bool y.tilde, .int .i64 y.type] := by rw [hw0]; have := Blk.new (w.alloc (box x 52)) 52 #[.int .i64 y.kind, .bool y.tilde, .int .i64 y.type]; simpa using this
  have Hr := Lib.hid hr
  have A0 := Lib.hid a0
  have B0 := Lib.hid b0
  have B1 := Lib.hid b1
  have HKX := Lib.hid hkx
  have HKY := Lib.hid hky
  clear hr a0 b0 b1 hkx hky
  go_enter Try.func71, Try.ntmps71
  go_wp2_with fail
  rw [← hw0]
  clear hw0
  refine (world_call us A c _ hl hw (Hr.out.below A0.out)).mono ?_
  rintro e w1 ⟨W, K, rfl, hd, hb1⟩
  have a1 : Below w.heap.size w w1 := A0.out.trans (hb1.mono A0.out.size)
  have hS : ∀ w', Below w1.heap.size w1 w' → (w'.cell? ⟨w.heap.size, 0, none⟩ = some (.int .i64 x.kind) ∧ w'.cell? ⟨w.heap.size, 1, none⟩ = some (.bool x.tilde) ∧ w'.cell? ⟨w.heap.size, 2, none⟩ = some (.int .i64 x.type) ∧ w'.cell? ⟨w.heap.size + 1, 0, none⟩ = some (.int .i64 y.kind) ∧ w'.cell? ⟨w.heap.size + 1, 1, none⟩ = some (.bool y.tilde) ∧ w'.cell? ⟨w.heap.size + 1, 2, none⟩ = some (.int .i64 y.type)) := fun w' h => by
    obtain ⟨p0, p1, p2⟩ := ((B0.out.below hb1).below h).cells3
    obtain ⟨q0, q1, q2⟩ := ((B1.out.below hb1).below h).cells3
    exact ⟨p0, p1, p2, q0, q1, q2⟩
  have HS := Lib.hid hS
  have CX := Lib.hid (fun w' (hb : Below w1.heap.size w1 w') => in_call2 us K w1 w' W us.length x hl hd hx hb)
  have CY := Lib.hid (fun w' (hb : Below w1.heap.size w1 w') => in_call2 us K w1 w' W us.length y hl hd hy hb)
  have CE := Lib.hid (fun (v u : Value) w' (hb : Below w1.heap.size w1 w') (h1 : PT w' us K v (toT x)) (h2 : PT w' us K u (toT y)) => (by rw [toT_one HKX.out] at h1 ⊢; rw [toT_one HKY.out] at h2 ⊢; exact disj_any us K w' v u x.tilde y.tilde x.type.toNat y.type.toNat (hd.kn.below hb) hw h1 h2 : Calls Try.prog 90 #[v, u] w' fun e w'' => e = .returned (.bool (disj us (toT x) (toT y))) ∧ Dr w' w''))
  have A1 := Lib.hid a1
  have R1 := Lib.hid (Below.refl w1.heap.size w1)
  clear hS hd hw hx hy hb1 a1
  go_wp2_with fail
  go_region_held3 (fun w' => w'.cell? ⟨w.heap.size, 0, none⟩ = some (.int .i64 x.kind) ∧ w'.cell? ⟨w.heap.size, 1, none⟩ = some (.bool x.tilde) ∧ w'.cell? ⟨w.heap.size, 2, none⟩ = some (.int .i64 x.type) ∧ w'.cell? ⟨w.heap.size + 1, 0, none⟩ = some (.int .i64 y.kind) ∧ w'.cell? ⟨w.heap.size + 1, 1, none⟩ = some (.bool y.tilde) ∧ w'.cell? ⟨w.heap.size + 1, 2, none⟩ = some (.int .i64 y.type))
    (first | exact HS.out _ R1.out.drew | exact HS.out _ (by assumption))
    (first | (go_at_call 83; (with_reducible refine (CX.out _ R1.out.drew).mono ?_); rintro e w2 ⟨a2, rfl, hp2, hb2, hc2⟩) | (go_at_call 83; (with_reducible refine (CY.out _ (by assumption)).mono ?_); rintro e w3 ⟨a3, rfl, hp3, hb3, hc3⟩) | (go_at_call 90; (with_reducible refine (CE.out _ _ _ (by assumption) (hp2.below hb3) hp3).mono ?_); rintro e w4 ⟨rfl, hd4⟩; have hc4 := hc3.trans (hd4.below w1.heap.size)))
  all_goals
    have hf := Lib.hid hc4
    clear hp2 hp3 hb2 hb3 hc2 hc3 hd4 hc4
    go_wp2_with fail
    go_ret
    exact ⟨rfl, A1.out.trans (hf.out.mono A1.out.size)⟩

set_option maxHeartbeats 1000000 in
theorem xincludes_call (hl : us.length ≤ 2147483647) (hw : WOk us) (hr : Rd w A (ints us)) (hx : TB us x = true) (ht : t < us.length) :
    Calls Try.prog 64 #[.slice A us.length c, tmv x, .int .i64 (t : Int)] w fun e w' => e = .returned (.bool (incl us (toT x) t)) ∧ Below w.heap.size w w' := by
  obtain ⟨w0, hw0⟩ : ∃ w0 : World, w0 = w.alloc (box x 52) := ⟨_, rfl⟩
  have a0 : Below w.heap.size w w0 := by rw [hw0]; exact (Below.refl _ _).alloc (Nat.le_refl _) _
  have b0 : Blk w0 w.heap.size 52 #[.int .i64 x.kind, .bool x.tilde, .int .i64 x.type] := by rw [hw0]; exact Blk.new _ _ _
  have Hr := Lib.hid hr
  have A0 := Lib.hid a0
  have B0 := Lib.hid b0
  have t0 : (0 : Int) ≤ (t : Int) := by omega
  have t1 : (t : Int) < (us.length : Int) := by omega
  clear hr a0 b0
  go_enter Try.func64, Try.ntmps64
  go_wp2_with fail
  rw [← hw0]
  clear hw0
  refine (world_call us A c _ hl hw (Hr.out.below A0.out)).mono ?_
  rintro e w1 ⟨W, K, rfl, hd, hb1⟩
  have a1 : Below w.heap.size w w1 := A0.out.trans (hb1.mono A0.out.size)
  obtain ⟨wb, wo, rfl, hwc⟩ := hd.at_ ht
  have hS : ∀ w', Below w1.heap.size w1 w' → (w'.cell? ⟨w.heap.size, 0, none⟩ = some (.int .i64 x.kind) ∧ w'.cell? ⟨w.heap.size, 1, none⟩ = some (.bool x.tilde) ∧ w'.cell? ⟨w.heap.size, 2, none⟩ = some (.int .i64 x.type) ∧ w'.cell? ⟨wb, wo + t, none⟩ = some (kq K t)) := fun w' h => by
    obtain ⟨p0, p1, p2⟩ := ((B0.out.below hb1).below h).cells3
    exact ⟨p0, p1, p2, (h.cell (World.block_lt_of_cell? w1 _ hwc)).trans hwc⟩
  have HS := Lib.hid hS
  have CX := Lib.hid (fun w' (hb : Below w1.heap.size w1 w') => in_call2 us K w1 w' _ us.length x hl hd hx hb)
  have CE := Lib.hid (fun (v : Value) w' (hb : Below w1.heap.size w1 w') (h1 : PT w' us K v (toT x)) => incl_any us K w' v (toT x) t (hd.kn.below hb) hw h1 ht)
  have A1 := Lib.hid a1
  have R1 := Lib.hid (Below.refl w1.heap.size w1)
  clear hS hd hw hx hb1 a1 hwc
  go_wp2_with fail
  go_region_held3 (fun w' => w'.cell? ⟨w.heap.size, 0, none⟩ = some (.int .i64 x.kind) ∧ w'.cell? ⟨w.heap.size, 1, none⟩ = some (.bool x.tilde) ∧ w'.cell? ⟨w.heap.size, 2, none⟩ = some (.int .i64 x.type) ∧ w'.cell? ⟨wb, wo + t, none⟩ = some (kq K t))
    (first | exact HS.out _ R1.out.drew | exact HS.out _ (by assumption))
    (first | (go_at_call 83; (with_reducible refine (CX.out _ R1.out.drew).mono ?_); rintro e w2 ⟨a2, rfl, hp2, hb2, hc2⟩) | (go_at_call 84; (with_reducible refine (CE.out _ _ (by assumption) hp2).mono ?_); rintro e w4 ⟨rfl, hd4⟩; have hc4 := hc2.trans (hd4.below w1.heap.size)))
  all_goals
    have hf := Lib.hid hc4
    clear hp2 hb2 hc2 hd4 hc4
    go_wp2_with fail
    go_ret
    exact ⟨rfl, A1.out.trans (hf.out.mono A1.out.size)⟩

set_option maxHeartbeats 1000000 in
theorem xincludesL_call (hl : us.length ≤ 2147483647) (hm : xs.length ≤ 1099511627776) (hw : WOk us) (hr : Rd w A (ints us)) (hd' : Rd w D (tcs xs)) (hx : xs.all (TB us) = true) (ht : t < us.length) :
    Calls Try.prog 66 #[.slice A us.length c, .slice D xs.length d, .int .i64 (t : Int)] w fun e w' => e = .returned (.bool (inclL us (terms xs) t)) ∧ Below w.heap.size w w' := by
  have t0 : (0 : Int) ≤ (t : Int) := by omega
  have t1 : (t : Int) < (us.length : Int) := by omega
  have hm' : (terms xs).length ≤ 1099511627776 := by simpa [terms] using hm
  have Hr := Lib.hid hr
  have Hm := Lib.hid hm'
  have Hd' := Lib.hid hd'
  clear hr hm' hd'
  go_enter Try.func66, Try.ntmps66
  go_wp2_with fail
  refine (world_call us A c _ hl hw Hr.out).mono ?_
  rintro e w1 ⟨W, K, rfl, hd, hb1⟩
  obtain ⟨wb, wo, rfl, hwc⟩ := hd.at_ ht
  have hS : ∀ w', Below w1.heap.size w1 w' → (w'.cell? ⟨wb, wo + t, none⟩ = some (kq K t)) := fun w' h => (h.cell (World.block_lt_of_cell? w1 _ hwc)).trans hwc
  have HS := Lib.hid hS
  have CX := Lib.hid (fun w' (hb : Below w1.heap.size w1 w') => ins_call2 us K w1 w' _ us.length D d xs hl hm hd ((Hd'.out.below hb1).below hb) hx hb)
  have CE := Lib.hid (fun (B : Option Addr) (q : Nat) w' (hb : Below w1.heap.size w1 w') (h1 : TL w' us K B (terms xs)) => comp (includes_call us K w' B q (terms xs) t Hm.out (hd.kn.below hb) hw h1 ht) hb (Nat.le_refl _))
  have A1 := Lib.hid hb1
  have R1 := Lib.hid (Below.refl w1.heap.size w1)
  clear hS hd hw hx hb1 hwc
  go_wp2_with fail
  go_region_held3 (fun w' => w'.cell? ⟨wb, wo + t, none⟩ = some (kq K t))
    (first | exact HS.out _ R1.out.drew | exact HS.out _ (by assumption))
    (first | (go_at_call 79; (with_reducible refine (CX.out _ R1.out.drew).mono ?_); rintro e w2 ⟨A2, c2, rfl, hp2, hb2, hc2⟩) | (go_at_call 85; (with_reducible refine (CE.out _ _ _ (by assumption) hp2).mono ?_); rintro e w4 ⟨rfl, hc4⟩))
  all_goals
    have hf := Lib.hid hc4
    clear hp2 hb2 hc2 hc4
    go_wp2_with fail
    go_ret
    exact ⟨rfl, A1.out.trans (hf.out.mono A1.out.size)⟩

set_option maxHeartbeats 1000000 in
theorem xsuper_call (hl : us.length ≤ 2147483647) (hm : xs.length ≤ 1099511627776) (hw : WOk us) (hr : Rd w A (ints us)) (hd' : Rd w D (tcs xs)) (hx : xs.all (TB us) = true) (hy : TB us y = true) :
    Calls Try.prog 75 #[.slice A us.length c, .slice D xs.length d, tmv y] w fun e w' => e = .returned (.bool (superL us (terms xs) (toT y))) ∧ Below w.heap.size w w' := by
  obtain ⟨w0, hw0⟩ : ∃ w0 : World, w0 = w.alloc (box y 52) := ⟨_, rfl⟩
  have a0 : Below w.heap.size w w0 := by rw [hw0]; exact (Below.refl _ _).alloc (Nat.le_refl _) _
  have b0 : Blk w0 w.heap.size 52 #[.int .i64 y.kind, .bool y.tilde, .int .i64 y.type] := by rw [hw0]; exact Blk.new _ _ _
  have hm' : (terms xs).length ≤ 1099511627776 := by simpa [terms] using hm
  have Hr := Lib.hid hr
  have Hm := Lib.hid hm'
  have Hd' := Lib.hid hd'
  have A0 := Lib.hid a0
  have B0 := Lib.hid b0
  clear hr a0 b0 hm' hd'
  go_enter Try.func75, Try.ntmps75
  go_wp2_with fail
  rw [← hw0]
  clear hw0
  refine (world_call us A c _ hl hw (Hr.out.below A0.out)).mono ?_
  rintro e w1 ⟨W, K, rfl, hd, hb1⟩
  have a1 : Below w.heap.size w w1 := A0.out.trans (hb1.mono A0.out.size)
  have hS : ∀ w', Below w1.heap.size w1 w' → (w'.cell? ⟨w.heap.size, 0, none⟩ = some (.int .i64 y.kind) ∧ w'.cell? ⟨w.heap.size, 1, none⟩ = some (.bool y.tilde) ∧ w'.cell? ⟨w.heap.size, 2, none⟩ = some (.int .i64 y.type)) := fun w' h => ((B0.out.below hb1).below h).cells3
  have HS := Lib.hid hS
  have CX := Lib.hid (fun w' (hb : Below w1.heap.size w1 w') => ins_call2 us K w1 w' _ us.length D d xs hl hm hd ((Hd'.out.below a1).below (hb.mono (Nat.le_refl _))) hx hb)
  have CY := Lib.hid (fun w' (hb : Below w1.heap.size w1 w') => in_call2 us K w1 w' W us.length y hl hd hy hb)
  have CE := Lib.hid (fun (B : Option Addr) (q : Nat) (v : Value) w' (hb : Below w1.heap.size w1 w') (h1 : TL w' us K B (terms xs)) (h2 : PT w' us K v (toT y)) => comp (superset_call us K w' B q (terms xs) v (toT y) Hm.out (hd.kn.below hb) hw h1 h2) hb (Nat.le_refl _))
  have A1 := Lib.hid a1
  have R1 := Lib.hid (Below.refl w1.heap.size w1)
  clear hS hd hw hx hb1 a1 hy
  go_wp2_with fail
  go_region_held3 (fun w' => w'.cell? ⟨w.heap.size, 0, none⟩ = some (.int .i64 y.kind) ∧ w'.cell? ⟨w.heap.size, 1, none⟩ = some (.bool y.tilde) ∧ w'.cell? ⟨w.heap.size, 2, none⟩ = some (.int .i64 y.type))
    (first | exact HS.out _ R1.out.drew | exact HS.out _ (by assumption))
    (first | (go_at_call 79; (with_reducible refine (CX.out _ R1.out.drew).mono ?_); rintro e w2 ⟨A2, c2, rfl, hp2, hb2, hc2⟩) | (go_at_call 83; (with_reducible refine (CY.out _ (by assumption)).mono ?_); rintro e w3 ⟨a3, rfl, hp3, hb3, hc3⟩) | (go_at_call 94; (with_reducible refine (CE.out _ _ _ _ (by assumption) (hp2.below hb3) hp3).mono ?_); rintro e w4 ⟨rfl, hc4⟩))
  all_goals
    have hf := Lib.hid hc4
    clear hp2 hp3 hb2 hb3 hc2 hc3 hc4
    go_wp2_with fail
    go_ret
    exact ⟨rfl, A1.out.trans (hf.out.mono A1.out.size)⟩
end
end Go.Proofs.Ytehadfnaknpagaa
