/-
  THE WALKS, NINETEENTH PART: the thin package.
-/
import Derived.Test.YtehadfnaknpagaaWr
namespace Go.Proofs.Ytehadfnaknpagaa
open Go.RowKit Pl

section
variable (us : List Int) (A : Option Addr) (c : Nat) (x y : Tm) (t : Nat) (D : Option Addr) (d : Nat) (xs : List Tm) (E : Option Addr) (g : Nat) (ys : List Tm) (w : World)

set_option maxHeartbeats 400000 in
theorem iall_call (hl : us.length ≤ 2147483647) (hm : xs.length ≤ 4294967296) (hw : WOk us) (hr : Rd w A (ints us)) (hd : Rd w D (tcs xs)) (hx : xs.all (TB us) = true) :
    Calls Try.prog 34 #[.slice A us.length c, .slice D xs.length d] w fun e w' => e = .returned (.bool (allL (terms xs))) ∧ Below w.heap.size w w' := by
  have CT := Lib.hid (terms_call D d xs w hm hd)
  have CX := Lib.hid (fun (D : Option Addr) (d : Nat) w' (hb : Below w.heap.size w w') (h : Rd w' D (tcs xs)) => comp (xall_call us A c D d xs w' hl hm hw (hr.below hb) h hx) hb (Nat.le_refl _))
  clear hr hd hw hx
  go_enter Try.func34, Try.ntmps34
  go_wp2_with fail
  refine CT.out.mono ?_
  rintro e w1 ⟨D1, d1, rfl, hd1, hb1⟩
  have C1 := Lib.hid (CX.out D1 d1 w1 hb1 hd1)
  clear hd1 hb1
  go_wp2_with fail
  refine C1.out.mono ?_
  rintro e w2 ⟨rfl, hb2⟩
  go_wp2_with fail
  go_ret
  exact ⟨rfl, hb2⟩

set_option maxHeartbeats 400000 in
theorem iempty_call (hl : us.length ≤ 2147483647) (hm : xs.length ≤ 4294967296) (hw : WOk us) (hr : Rd w A (ints us)) (hd : Rd w D (tcs xs)) (hx : xs.all (TB us) = true) :
    Calls Try.prog 39 #[.slice A us.length c, .slice D xs.length d] w fun e w' => e = .returned (.bool (emptyL (terms xs))) ∧ Below w.heap.size w w' := by
  have CT := Lib.hid (terms_call D d xs w hm hd)
  have CX := Lib.hid (fun (D : Option Addr) (d : Nat) w' (hb : Below w.heap.size w w') (h : Rd w' D (tcs xs)) => comp (xempty_call us A c D d xs w' hl hm hw (hr.below hb) h hx) hb (Nat.le_refl _))
  clear hr hd hw hx
  go_enter Try.func39, Try.ntmps39
  go_wp2_with fail
  refine CT.out.mono ?_
  rintro e w1 ⟨D1, d1, rfl, hd1, hb1⟩
  have C1 := Lib.hid (CX.out D1 d1 w1 hb1 hd1)
  clear hd1 hb1
  go_wp2_with fail
  refine C1.out.mono ?_
  rintro e w2 ⟨rfl, hb2⟩
  go_wp2_with fail
  go_ret
  exact ⟨rfl, hb2⟩

set_option maxHeartbeats 400000 in
theorem iincludes_call (hl : us.length ≤ 2147483647) (hm : xs.length ≤ 4294967296) (hw : WOk us) (hr : Rd w A (ints us)) (hd : Rd w D (tcs xs)) (hx : xs.all (TB us) = true) (ht : t < us.length) :
    Calls Try.prog 43 #[.slice A us.length c, .slice D xs.length d, .int .i64 (t : Int)] w fun e w' => e = .returned (.bool (inclL us (terms xs) t)) ∧ Below w.heap.size w w' := by
  have CT := Lib.hid (terms_call D d xs w hm hd)
  have CX := Lib.hid (fun (D : Option Addr) (d : Nat) w' (hb : Below w.heap.size w w') (h : Rd w' D (tcs xs)) => comp (xincludesL_call us A c D d xs t w' hl (by omega) hw (hr.below hb) h hx ht) hb (Nat.le_refl _))
  clear hr hd hw hx
  go_enter Try.func43, Try.ntmps43
  go_wp2_with fail
  refine CT.out.mono ?_
  rintro e w1 ⟨D1, d1, rfl, hd1, hb1⟩
  have C1 := Lib.hid (CX.out D1 d1 w1 hb1 hd1)
  clear hd1 hb1
  go_wp2_with fail
  refine C1.out.mono ?_
  rintro e w2 ⟨rfl, hb2⟩
  go_wp2_with fail
  go_ret
  exact ⟨rfl, hb2⟩

set_option maxHeartbeats 400000 in
theorem isub_call (hl : us.length ≤ 2147483647) (hm : xs.length ≤ 4294967296) (hn : ys.length ≤ 4294967296) (hw : WOk us) (hr : Rd w A (ints us)) (hd : Rd w D (tcs xs)) (he : Rd w E (tcs ys)) (hx : xs.all (TB us) = true) (hy : ys.all (TB us) = true) :
    Calls Try.prog 51 #[.slice A us.length c, .slice D xs.length d, .slice E ys.length g] w fun e w' => e = .returned (.bool (subL us (terms xs) (terms ys))) ∧ Below w.heap.size w w' := by
  have CT := Lib.hid (terms_call D d xs w hm hd)
  have CU := Lib.hid (fun w' (hb : Below w.heap.size w w') => terms_call E g ys w' hn (he.below hb))
  have CX := Lib.hid (fun (D : Option Addr) (d : Nat) (E : Option Addr) (g : Nat) w' (hb : Below w.heap.size w w') (h : Rd w' D (tcs xs)) (h2 : Rd w' E (tcs ys)) => comp (xsub_call us A c D d xs E g ys w' hl hm hn hw (hr.below hb) h h2 hx hy) hb (Nat.le_refl _))
  clear hr hd he hw hx hy
  go_enter Try.func51, Try.ntmps51
  go_wp2_with fail
  refine CT.out.mono ?_
  rintro e w1 ⟨D1, d1, rfl, hd1, hb1⟩
  have C1 := Lib.hid (CU.out w1 hb1)
  have K1 := Lib.hid hd1
  have K2 := Lib.hid hb1
  clear hd1 hb1
  go_wp2_with fail
  refine C1.out.mono ?_
  rintro e w2 ⟨E1, g1, rfl, he1, hb2⟩
  have C2 := Lib.hid (CX.out D1 d1 E1 g1 w2 (K2.out.trans (hb2.mono K2.out.size)) (K1.out.below hb2) he1)
  clear he1 hb2
  go_wp2_with fail
  refine C2.out.mono ?_
  rintro e w3 ⟨rfl, hb3⟩
  go_wp2_with fail
  go_ret
  exact ⟨rfl, hb3⟩

set_option maxHeartbeats 400000 in
theorem ieq_call (hl : us.length ≤ 2147483647) (hm : xs.length ≤ 4294967296) (hn : ys.length ≤ 4294967296) (hw : WOk us) (hr : Rd w A (ints us)) (hd : Rd w D (tcs xs)) (he : Rd w E (tcs ys)) (hx : xs.all (TB us) = true) (hy : ys.all (TB us) = true) :
    Calls Try.prog 52 #[.slice A us.length c, .slice D xs.length d, .slice E ys.length g] w fun e w' => e = .returned (.bool (eqL us (terms xs) (terms ys))) ∧ Below w.heap.size w w' := by
  have CT := Lib.hid (terms_call D d xs w hm hd)
  have CU := Lib.hid (fun w' (hb : Below w.heap.size w w') => terms_call E g ys w' hn (he.below hb))
  have CX := Lib.hid (fun (D : Option Addr) (d : Nat) (E : Option Addr) (g : Nat) w' (hb : Below w.heap.size w w') (h : Rd w' D (tcs xs)) (h2 : Rd w' E (tcs ys)) => comp (xeq_call us A c D d xs E g ys w' hl hm hn hw (hr.below hb) h h2 hx hy) hb (Nat.le_refl _))
  clear hr hd he hw hx hy
  go_enter Try.func52, Try.ntmps52
  go_wp2_with fail
  refine CT.out.mono ?_
  rintro e w1 ⟨D1, d1, rfl, hd1, hb1⟩
  have C1 := Lib.hid (CU.out w1 hb1)
  have K1 := Lib.hid hd1
  have K2 := Lib.hid hb1
  clear hd1 hb1
  go_wp2_with fail
  refine C1.out.mono ?_
  rintro e w2 ⟨E1, g1, rfl, he1, hb2⟩
  have C2 := Lib.hid (CX.out D1 d1 E1 g1 w2 (K2.out.trans (hb2.mono K2.out.size)) (K1.out.below hb2) he1)
  clear he1 hb2
  go_wp2_with fail
  refine C2.out.mono ?_
  rintro e w3 ⟨rfl, hb3⟩
  go_wp2_with fail
  go_ret
  exact ⟨rfl, hb3⟩

set_option maxHeartbeats 400000 in
theorem inorm_call (hl : us.length ≤ 2147483647) (hm : xs.length ≤ 4294967296) (hw : WOk us) (hr : Rd w A (ints us)) (hd : Rd w D (tcs xs)) (hx : xs.all (TB us) = true) (hq : (norm us (terms xs)).length ≤ 1099511627776) :
    Calls Try.prog 59 #[.slice A us.length c, .slice D xs.length d] w (RetS w ((norm us (terms xs)).map ofT)) := by
  have CT := Lib.hid (terms_call D d xs w hm hd)
  have CX := Lib.hid (fun (D : Option Addr) (d : Nat) w' (hb : Below w.heap.size w w') (h : Rd w' D (tcs xs)) => xnorm_call us A c D d xs w' hl hm hw (hr.below hb) h hx hq)
  have Hq := Lib.hid (show ((norm us (terms xs)).map ofT).length ≤ 1099511627776 by rw [List.length_map]; exact hq)
  clear hr hd hw hx hq
  go_enter Try.func59, Try.ntmps59
  go_wp2_with fail
  refine CT.out.mono ?_
  rintro e w1 ⟨D1, d1, rfl, hd1, hb1⟩
  have C1 := Lib.hid (CX.out D1 d1 w1 hb1 hd1)
  have K2 := Lib.hid hb1
  clear hd1 hb1
  go_wp2_with fail
  refine C1.out.mono ?_
  rintro e w2 ⟨D2, d2, rfl, hd2, hb2⟩
  have C2 := Lib.hid (back_call D2 d2 _ w2 Hq.out hd2)
  have K3 := Lib.hid (K2.out.trans (hb2.mono K2.out.size))
  rw [List.length_map] at C2
  clear hd2 hb2
  go_wp2_with fail
  refine C2.out.mono ?_
  rintro e w3 hret
  have H4 := Lib.hid (hret.of K3.out)
  obtain ⟨A5, c5, rfl, _, _⟩ := hret
  go_wp2_with fail
  go_ret
  have h := H4.out
  rw [List.length_map] at h
  exact h

set_option maxHeartbeats 400000 in
theorem iunion_call (hl : us.length ≤ 2147483647) (hm : xs.length ≤ 4294967296) (hn : ys.length ≤ 4294967296) (hw : WOk us) (hr : Rd w A (ints us)) (hd : Rd w D (tcs xs)) (he : Rd w E (tcs ys)) (hx : xs.all (TB us) = true) (hy : ys.all (TB us) = true) (hq : (unionL us (terms xs) (terms ys)).length ≤ 1099511627776) :
    Calls Try.prog 44 #[.slice A us.length c, .slice D xs.length d, .slice E ys.length g] w (RetS w ((unionL us (terms xs) (terms ys)).map ofT)) := by
  have CT := Lib.hid (terms_call D d xs w hm hd)
  have CU := Lib.hid (fun w' (hb : Below w.heap.size w w') => terms_call E g ys w' hn (he.below hb))
  have CX := Lib.hid (fun (D : Option Addr) (d : Nat) (E : Option Addr) (g : Nat) w' (hb : Below w.heap.size w w') (h : Rd w' D (tcs xs)) (h2 : Rd w' E (tcs ys)) => xunionL_call us A c D d xs E g ys w' hl hm hn hw (hr.below hb) h h2 hx hy hq)
  have Hq := Lib.hid (show ((unionL us (terms xs) (terms ys)).map ofT).length ≤ 1099511627776 by rw [List.length_map]; exact hq)
  clear hr hd he hw hx hy hq
  go_enter Try.func44, Try.ntmps44
  go_wp2_with fail
  refine CT.out.mono ?_
  rintro e w1 ⟨D1, d1, rfl, hd1, hb1⟩
  have C1 := Lib.hid (CU.out w1 hb1)
  have K1 := Lib.hid hd1
  have K2 := Lib.hid hb1
  clear hd1 hb1
  go_wp2_with fail
  refine C1.out.mono ?_
  rintro e w2 ⟨E1, g1, rfl, he1, hb2⟩
  have C2 := Lib.hid (CX.out D1 d1 E1 g1 w2 (K2.out.trans (hb2.mono K2.out.size)) (K1.out.below hb2) he1)
  have K3 := Lib.hid (K2.out.trans (hb2.mono K2.out.size))
  clear he1 hb2
  go_wp2_with fail
  refine C2.out.mono ?_
  rintro e w3 ⟨D2, d2, rfl, hd2, hb3⟩
  have C3 := Lib.hid (back_call D2 d2 _ w3 Hq.out hd2)
  have K4 := Lib.hid (K3.out.trans (hb3.mono K3.out.size))
  rw [List.length_map] at C3
  clear hd2 hb3
  go_wp2_with fail
  refine C3.out.mono ?_
  rintro e w4 hret
  have H4 := Lib.hid (hret.of K4.out)
  obtain ⟨A5, c5, rfl, _, _⟩ := hret
  go_wp2_with fail
  go_ret
  have h := H4.out
  rw [List.length_map] at h
  exact h

set_option maxHeartbeats 400000 in
theorem iinter_call (hl : us.length ≤ 2147483647) (hm : xs.length ≤ 4294967296) (hn : ys.length ≤ 4294967296) (hp : xs.length * ys.length ≤ 1099511627776) (hw : WOk us) (hr : Rd w A (ints us)) (hd : Rd w D (tcs xs)) (he : Rd w E (tcs ys)) (hx : xs.all (TB us) = true) (hy : ys.all (TB us) = true) (hq : (interL us (terms xs) (terms ys)).length ≤ 1099511627776) :
    Calls Try.prog 45 #[.slice A us.length c, .slice D xs.length d, .slice E ys.length g] w (RetS w ((interL us (terms xs) (terms ys)).map ofT)) := by
  have CT := Lib.hid (terms_call D d xs w hm hd)
  have CU := Lib.hid (fun w' (hb : Below w.heap.size w w') => terms_call E g ys w' hn (he.below hb))
  have CX := Lib.hid (fun (D : Option Addr) (d : Nat) (E : Option Addr) (g : Nat) w' (hb : Below w.heap.size w w') (h : Rd w' D (tcs xs)) (h2 : Rd w' E (tcs ys)) => xinterL_call us A c D d xs E g ys w' hl hm hn hp hw (hr.below hb) h h2 hx hy hq)
  have Hq := Lib.hid (show ((interL us (terms xs) (terms ys)).map ofT).length ≤ 1099511627776 by rw [List.length_map]; exact hq)
  clear hr hd he hw hx hy hq hp
  go_enter Try.func45, Try.ntmps45
  go_wp2_with fail
  refine CT.out.mono ?_
  rintro e w1 ⟨D1, d1, rfl, hd1, hb1⟩
  have C1 := Lib.hid (CU.out w1 hb1)
  have K1 := Lib.hid hd1
  have K2 := Lib.hid hb1
  clear hd1 hb1
  go_wp2_with fail
  refine C1.out.mono ?_
  rintro e w2 ⟨E1, g1, rfl, he1, hb2⟩
  have C2 := Lib.hid (CX.out D1 d1 E1 g1 w2 (K2.out.trans (hb2.mono K2.out.size)) (K1.out.below hb2) he1)
  have K3 := Lib.hid (K2.out.trans (hb2.mono K2.out.size))
  clear he1 hb2
  go_wp2_with fail
  refine C2.out.mono ?_
  rintro e w3 ⟨D2, d2, rfl, hd2, hb3⟩
  have C3 := Lib.hid (back_call D2 d2 _ w3 Hq.out hd2)
  have K4 := Lib.hid (K3.out.trans (hb3.mono K3.out.size))
  rw [List.length_map] at C3
  clear hd2 hb3
  go_wp2_with fail
  refine C3.out.mono ?_
  rintro e w4 hret
  have H4 := Lib.hid (hret.of K4.out)
  obtain ⟨A5, c5, rfl, _, _⟩ := hret
  go_wp2_with fail
  go_ret
  have h := H4.out
  rw [List.length_map] at h
  exact h

set_option maxHeartbeats 400000 in
theorem itequal_call (hl : us.length ≤ 2147483647) (hw : WOk us) (hr : Rd w A (ints us)) (hx : TB us x = true) (hy : TB us y = true) :
    Calls Try.prog 47 #[.slice A us.length c, tmv x, tmv y] w fun e w' => e = .returned (.bool (eq1 (toT x) (toT y))) ∧ Below w.heap.size w w' := by
  have CX := Lib.hid (fun w' (hb : Below w.heap.size w w') => comp (xequal_call us A c x y w' hl hw (hr.below hb) hx hy) hb (Nat.le_refl _))
  have HB := Lib.hid (fun o o' => ((Below.refl w.heap.size w).alloc (Nat.le_refl _) o).alloc (by simp) o')
  clear hr hw hx hy
  go_enter Try.func47, Try.ntmps47
  go_wp2_with fail
  refine (CX.out _ (HB.out _ _)).mono ?_
  rintro e w2 ⟨rfl, hb2⟩
  go_wp2_with fail
  go_ret
  exact ⟨rfl, hb2⟩

set_option maxHeartbeats 400000 in
theorem itsub_call (hl : us.length ≤ 2147483647) (hw : WOk us) (hr : Rd w A (ints us)) (hx : TB us x = true) (hy : TB us y = true) :
    Calls Try.prog 53 #[.slice A us.length c, tmv x, tmv y] w fun e w' => e = .returned (.bool (sub1 us (toT x) (toT y))) ∧ Below w.heap.size w w' := by
  have CX := Lib.hid (fun w' (hb : Below w.heap.size w w') => comp (xsubset_call us A c x y w' hl hw (hr.below hb) hx hy) hb (Nat.le_refl _))
  have HB := Lib.hid (fun o o' => ((Below.refl w.heap.size w).alloc (Nat.le_refl _) o).alloc (by simp) o')
  clear hr hw hx hy
  go_enter Try.func53, Try.ntmps53
  go_wp2_with fail
  refine (CX.out _ (HB.out _ _)).mono ?_
  rintro e w2 ⟨rfl, hb2⟩
  go_wp2_with fail
  go_ret
  exact ⟨rfl, hb2⟩

set_option maxHeartbeats 400000 in
theorem itdisj_call (hl : us.length ≤ 2147483647) (hw : WOk us) (hr : Rd w A (ints us)) (hx : TB us x = true) (hy : TB us y = true) (hkx : x.kind = 2) (hky : y.kind = 2) :
    Calls Try.prog 49 #[.slice A us.length c, tmv x, tmv y] w fun e w' => e = .returned (.bool (disj us (toT x) (toT y))) ∧ Below w.heap.size w w' := by
  have CX := Lib.hid (fun w' (hb : Below w.heap.size w w') => comp (xdisjoint_call us A c x y w' hl hw (hr.below hb) hx hy hkx hky) hb (Nat.le_refl _))
  have HB := Lib.hid (fun o o' => ((Below.refl w.heap.size w).alloc (Nat.le_refl _) o).alloc (by simp) o')
  clear hr hw hx hy hkx hky
  go_enter Try.func49, Try.ntmps49
  go_wp2_with fail
  refine (CX.out _ (HB.out _ _)).mono ?_
  rintro e w2 ⟨rfl, hb2⟩
  go_wp2_with fail
  go_ret
  exact ⟨rfl, hb2⟩

set_option maxHeartbeats 400000 in
theorem itincl_call (hl : us.length ≤ 2147483647) (hw : WOk us) (hr : Rd w A (ints us)) (hx : TB us x = true) (ht : t < us.length) :
    Calls Try.prog 41 #[.slice A us.length c, tmv x, .int .i64 (t : Int)] w fun e w' => e = .returned (.bool (incl us (toT x) t)) ∧ Below w.heap.size w w' := by
  have CX := Lib.hid (fun w' (hb : Below w.heap.size w w') => comp (xincludes_call us A c x t w' hl hw (hr.below hb) hx ht) hb (Nat.le_refl _))
  have HB := Lib.hid (fun o => (Below.refl w.heap.size w).alloc (Nat.le_refl _) o)
  clear hr hw hx ht
  go_enter Try.func41, Try.ntmps41
  go_wp2_with fail
  refine (CX.out _ (HB.out _)).mono ?_
  rintro e w2 ⟨rfl, hb2⟩
  go_wp2_with fail
  go_ret
  exact ⟨rfl, hb2⟩

set_option maxHeartbeats 1000000 in
theorem isuper_call (hl : us.length ≤ 2147483647) (hm : xs.length ≤ 4294967296) (hw : WOk us) (hr : Rd w A (ints us)) (hd : Rd w D (tcs xs)) (hx : xs.all (TB us) = true) (hy : TB us y = true) :
    Calls Try.prog 54 #[.slice A us.length c, .slice D xs.length d, tmv y] w fun e w' => e = .returned (.bool (superL us (terms xs) (toT y))) ∧ Below w.heap.size w w' := by
  obtain ⟨w0, hw0⟩ : ∃ w0 : World, w0 = w.alloc (box y 29) := ⟨_, rfl⟩
  have a0 : Below w.heap.size w w0 := by rw [hw0]; exact (Below.refl _ _).alloc (Nat.le_refl _) _
  have b0 : Blk w0 w.heap.size 29 #[.int .i64 y.kind, .bool y.tilde, .int .i64 y.type] := by rw [hw0]; exact Blk.new _ _ _
  have hS : ∀ w', Below w0.heap.size w0 w' → (w'.cell? ⟨w.heap.size, 0, none⟩ = some (.int .i64 y.kind) ∧ w'.cell? ⟨w.heap.size, 1, none⟩ = some (.bool y.tilde) ∧ w'.cell? ⟨w.heap.size, 2, none⟩ = some (.int .i64 y.type)) := fun w' h => (b0.below h).cells3
  have a1 : ∀ w', Below w0.heap.size w0 w' → Below w.heap.size w w' := fun w' h => a0.trans (h.mono a0.size)
  have CT := Lib.hid (fun w' (hb : Below w0.heap.size w0 w') => (terms_call D d xs w' hm (hd.below (a1 w' hb))).mono fun e w'' h => (⟨h.of hb, h⟩ : RetS w0 xs e w'' ∧ RetS w' xs e w''))
  have CX := Lib.hid (fun (D : Option Addr) (d : Nat) w' (hb : Below w0.heap.size w0 w') (h : Rd w' D (tcs xs)) => comp (xsuper_call us A c y D d xs w' hl (by omega) hw (hr.below (a1 w' hb)) h hx hy) hb (Nat.le_refl _))
  have HS := Lib.hid hS
  have A1 := Lib.hid a1
  have R1 := Lib.hid (Below.refl w0.heap.size w0)
  clear hr hw hx hd hS a1 b0 a0 hy
  go_enter Try.func54, Try.ntmps54
  go_wp2_with fail
  rw [← hw0]
  clear hw0
  go_region_held3 (fun w' => w'.cell? ⟨w.heap.size, 0, none⟩ = some (.int .i64 y.kind) ∧ w'.cell? ⟨w.heap.size, 1, none⟩ = some (.bool y.tilde) ∧ w'.cell? ⟨w.heap.size, 2, none⟩ = some (.int .i64 y.type))
    (first | exact HS.out _ R1.out.drew | exact HS.out _ (by assumption))
    (first | (go_at_call 61; (with_reducible refine (CT.out _ R1.out.drew).mono ?_); rintro e w2 ⟨⟨A2, c2, rfl, hp2, hc2⟩, _⟩) | (go_at_call 75; (with_reducible refine (CX.out _ _ _ (by assumption) hp2).mono ?_); rintro e w4 ⟨rfl, hc4⟩))
  all_goals
    have hf := Lib.hid hc4
    clear hp2 hc2 hc4
    go_wp2_with fail
    go_ret
    exact ⟨rfl, A1.out _ hf.out⟩
end
end Go.Proofs.Ytehadfnaknpagaa
