/-
  PROVED HERE: FnAssociates: of three lists it does not matter which union, or which intersection, is taken first. Conditions: what comes in holds together at most 1048576 values (the second form of the statement).
-/
import Derived.Test.YtehadfnaknpagaaXc
namespace Go.Proofs.Ytehadfnaknpagaa
open Go.ChangeShapes Go.WideShapes Go.ChangeAt Go.RowKit Pl

set_option maxHeartbeats 4000000 in
theorem walk30 (us : List Int) (A : Option Addr) (c : Nat) (xs : List Tm) (D_x : Option Addr) (d_x : Nat) (ys : List Tm) (D_y : Option Addr) (d_y : Nat) (zs : List Tm) (D_z : Option Addr) (d_z : Nat) (w : World)
    (hr : Rd w A (ints us)) (hd_x : Rd w D_x (tcs xs)) (hd_y : Rd w D_y (tcs ys)) (hd_z : Rd w D_z (tcs zs)) (hbound : us.length + xs.length + ys.length + zs.length ≤ 1048576) :
    Calls Try.prog 30 #[.slice A us.length c, .slice D_x xs.length d_x, .slice D_y ys.length d_y, .slice D_z zs.length d_z] w fun e w' => e = .returned (.bool true) ∧ Below w.heap.size w w' := by
  have hl : us.length ≤ 2147483647 := by omega
  have l_x : xs.length ≤ 2147483647 := by omega
  have l_y : ys.length ≤ 2147483647 := by omega
  have l_z : zs.length ≤ 2147483647 := by omega
  have Hr := Lib.hid hr
  have Hx := Lib.hid hd_x
  have Hy := Lib.hid hd_y
  have Hz := Lib.hid hd_z
  clear hr hd_x hd_y hd_z
  cases hv : VX us [xs, ys, zs] with
  | false =>
    have G := Lib.hid hv
    clear hv
    clear hbound
    have K0 := Lib.hid (Below.refl w.heap.size w)
    go_enter Try.func30, Try.ntmps30
    go_wp2_with fail
    have hs : ∀ s ∈ ([⟨D_x, d_x, xs⟩, ⟨D_y, d_y, ys⟩, ⟨D_z, d_z, zs⟩] : List Sl), s.ok (w.alloc (.cells #[.slice D_x (List.length xs) d_x, .slice D_y (List.length ys) d_y, .slice D_z (List.length zs) d_z] 23)) := by
      intro s hs
      simp only [List.mem_cons, List.not_mem_nil, or_false] at hs
      rcases hs with rfl | rfl | rfl
      · exact ⟨Hx.out.below (al _ _), by dsimp only; omega⟩
      · exact ⟨Hy.out.below (al _ _), by dsimp only; omega⟩
      · exact ⟨Hz.out.below (al _ _), by dsimp only; omega⟩
    have CV := Lib.hid (valid_any us A c (some ⟨w.heap.size, 0, none⟩) 3 [⟨D_x, d_x, xs⟩, ⟨D_y, d_y, ys⟩, ⟨D_z, d_z, zs⟩] (w.alloc (.cells #[.slice D_x (List.length xs) d_x, .slice D_y (List.length ys) d_y, .slice D_z (List.length zs) d_z] 23)) hl (by simp) (Hr.out.below (al _ _)) (rd_blk (Blk.new _ _ _)) hs)
    clear hs
    refine (CV.out).mono ?_
    rintro e w1 ⟨rfl, hb⟩
    have K1 := Lib.hid (after (after K0.out (al _ _)) hb)
    clear hb
    rw [vls_vx G.out]
    go_wp2_with fail
    go_ret
    exact ⟨rfl, K1.out⟩
  | true =>
    obtain ⟨hw, hs⟩ := vx_iff hv
    have tb_x := hs xs (by simp)
    have ok_x := terms_ok tb_x
    have tb_y := hs ys (by simp)
    have ok_y := terms_ok tb_y
    have tb_z := hs zs (by simp)
    have ok_z := terms_ok tb_z
    have G := Lib.hid hv
    have T_x := Lib.hid tb_x
    have T_y := Lib.hid tb_y
    have T_z := Lib.hid tb_z
    have HW := Lib.hid hw
    have ko_u1 := unionL_ok hw ok_x ok_y
    have ok_u1 := made_ok ko_u1
    have le_u1 : (unionL us (terms xs) (terms ys)).length ≤ xs.length + (ys.length) := by
      have h := unionL_len hw ok_x ok_y
      rw [terms_len, terms_len] at h
      have h1 : List.length xs ≤ xs.length := (Nat.le_refl _)
      have h2 : List.length ys ≤ ys.length := (Nat.le_refl _)
      omega
    have L_u1 := Lib.hid (show List.length ((unionL us (terms xs) (terms ys)).map ofT) ≤ 4294967296 from made_len (by omega))
    have Q_u1 := Lib.hid (show (unionL us (terms xs) (terms ys)).length ≤ 1099511627776 by omega)
    have T_u1 := Lib.hid (all_tb hw ko_u1)
    have ko_u2 := unionL_ok hw ok_u1 ok_z
    have ok_u2 := made_ok ko_u2
    have le_u2 : (unionL us (terms ((unionL us (terms xs) (terms ys)).map ofT)) (terms zs)).length ≤ xs.length + (ys.length) + (zs.length) := by
      have h := unionL_len hw ok_u1 ok_z
      rw [terms_len, terms_len] at h
      have h1 : List.length ((unionL us (terms xs) (terms ys)).map ofT) ≤ xs.length + (ys.length) := (made_len le_u1)
      have h2 : List.length zs ≤ zs.length := (Nat.le_refl _)
      omega
    have L_u2 := Lib.hid (show List.length ((unionL us (terms ((unionL us (terms xs) (terms ys)).map ofT)) (terms zs)).map ofT) ≤ 4294967296 from made_len (by omega))
    have Q_u2 := Lib.hid (show (unionL us (terms ((unionL us (terms xs) (terms ys)).map ofT)) (terms zs)).length ≤ 1099511627776 by omega)
    have T_u2 := Lib.hid (all_tb hw ko_u2)
    have ko_u3 := unionL_ok hw ok_y ok_z
    have ok_u3 := made_ok ko_u3
    have le_u3 : (unionL us (terms ys) (terms zs)).length ≤ ys.length + (zs.length) := by
      have h := unionL_len hw ok_y ok_z
      rw [terms_len, terms_len] at h
      have h1 : List.length ys ≤ ys.length := (Nat.le_refl _)
      have h2 : List.length zs ≤ zs.length := (Nat.le_refl _)
      omega
    have L_u3 := Lib.hid (show List.length ((unionL us (terms ys) (terms zs)).map ofT) ≤ 4294967296 from made_len (by omega))
    have Q_u3 := Lib.hid (show (unionL us (terms ys) (terms zs)).length ≤ 1099511627776 by omega)
    have T_u3 := Lib.hid (all_tb hw ko_u3)
    have ko_u4 := unionL_ok hw ok_x ok_u3
    have ok_u4 := made_ok ko_u4
    have le_u4 : (unionL us (terms xs) (terms ((unionL us (terms ys) (terms zs)).map ofT))).length ≤ xs.length + (ys.length + (zs.length)) := by
      have h := unionL_len hw ok_x ok_u3
      rw [terms_len, terms_len] at h
      have h1 : List.length xs ≤ xs.length := (Nat.le_refl _)
      have h2 : List.length ((unionL us (terms ys) (terms zs)).map ofT) ≤ ys.length + (zs.length) := (made_len le_u3)
      omega
    have L_u4 := Lib.hid (show List.length ((unionL us (terms xs) (terms ((unionL us (terms ys) (terms zs)).map ofT))).map ofT) ≤ 4294967296 from made_len (by omega))
    have Q_u4 := Lib.hid (show (unionL us (terms xs) (terms ((unionL us (terms ys) (terms zs)).map ofT))).length ≤ 1099511627776 by omega)
    have T_u4 := Lib.hid (all_tb hw ko_u4)
    have ko_i1 := interL_ok hw ok_x ok_y
    have ok_i1 := made_ok ko_i1
    have le_i1 : (interL us (terms xs) (terms ys)).length ≤ us.length + 1 := interL_short hw ok_x ok_y
    have L_i1 := Lib.hid (show List.length ((interL us (terms xs) (terms ys)).map ofT) ≤ 4294967296 from made_len (by omega))
    have Q_i1 := Lib.hid (show (interL us (terms xs) (terms ys)).length ≤ 1099511627776 by omega)
    have T_i1 := Lib.hid (all_tb hw ko_i1)
    have P_i1 := Lib.hid (show List.length xs * List.length ys ≤ 1099511627776 from by
      have h1 : List.length xs ≤ xs.length := (Nat.le_refl _)
      have h2 : List.length ys ≤ ys.length := (Nat.le_refl _)
      exact mul_bd2 (by omega) (by omega))
    have ko_i2 := interL_ok hw ok_i1 ok_z
    have ok_i2 := made_ok ko_i2
    have le_i2 : (interL us (terms ((interL us (terms xs) (terms ys)).map ofT)) (terms zs)).length ≤ us.length + 1 := interL_short hw ok_i1 ok_z
    have L_i2 := Lib.hid (show List.length ((interL us (terms ((interL us (terms xs) (terms ys)).map ofT)) (terms zs)).map ofT) ≤ 4294967296 from made_len (by omega))
    have Q_i2 := Lib.hid (show (interL us (terms ((interL us (terms xs) (terms ys)).map ofT)) (terms zs)).length ≤ 1099511627776 by omega)
    have T_i2 := Lib.hid (all_tb hw ko_i2)
    have P_i2 := Lib.hid (show List.length ((interL us (terms xs) (terms ys)).map ofT) * List.length zs ≤ 1099511627776 from by
      have h1 : List.length ((interL us (terms xs) (terms ys)).map ofT) ≤ us.length + 1 := (made_len le_i1)
      have h2 : List.length zs ≤ zs.length := (Nat.le_refl _)
      exact mul_bd (by omega))
    have ko_i3 := interL_ok hw ok_y ok_z
    have ok_i3 := made_ok ko_i3
    have le_i3 : (interL us (terms ys) (terms zs)).length ≤ us.length + 1 := interL_short hw ok_y ok_z
    have L_i3 := Lib.hid (show List.length ((interL us (terms ys) (terms zs)).map ofT) ≤ 4294967296 from made_len (by omega))
    have Q_i3 := Lib.hid (show (interL us (terms ys) (terms zs)).length ≤ 1099511627776 by omega)
    have T_i3 := Lib.hid (all_tb hw ko_i3)
    have P_i3 := Lib.hid (show List.length ys * List.length zs ≤ 1099511627776 from by
      have h1 : List.length ys ≤ ys.length := (Nat.le_refl _)
      have h2 : List.length zs ≤ zs.length := (Nat.le_refl _)
      exact mul_bd2 (by omega) (by omega))
    have ko_i4 := interL_ok hw ok_x ok_i3
    have ok_i4 := made_ok ko_i4
    have le_i4 : (interL us (terms xs) (terms ((interL us (terms ys) (terms zs)).map ofT))).length ≤ us.length + 1 := interL_short hw ok_x ok_i3
    have L_i4 := Lib.hid (show List.length ((interL us (terms xs) (terms ((interL us (terms ys) (terms zs)).map ofT))).map ofT) ≤ 4294967296 from made_len (by omega))
    have Q_i4 := Lib.hid (show (interL us (terms xs) (terms ((interL us (terms ys) (terms zs)).map ofT))).length ≤ 1099511627776 by omega)
    have T_i4 := Lib.hid (all_tb hw ko_i4)
    have P_i4 := Lib.hid (show List.length xs * List.length ((interL us (terms ys) (terms zs)).map ofT) ≤ 1099511627776 from by
      have h1 : List.length xs ≤ xs.length := (Nat.le_refl _)
      have h2 : List.length ((interL us (terms ys) (terms zs)).map ofT) ≤ us.length + 1 := (made_len le_i3)
      exact mul_bd (by omega))
    have h_E1 : eqL us (terms ((unionL us (terms ((unionL us (terms xs) (terms ys)).map ofT)) (terms zs)).map ofT)) (terms ((unionL us (terms xs) (terms ((unionL us (terms ys) (terms zs)).map ofT))).map ofT)) = true := by
      simp only [back_T2]
      exact union_assoc hw ok_x ok_y ok_z
    have E1 := Lib.hid h_E1
    clear h_E1
    have h_E2 : eqL us (terms ((interL us (terms ((interL us (terms xs) (terms ys)).map ofT)) (terms zs)).map ofT)) (terms ((interL us (terms xs) (terms ((interL us (terms ys) (terms zs)).map ofT))).map ofT)) = true := by
      simp only [back_T2]
      exact inter_assoc hw ok_x ok_y ok_z
    have E2 := Lib.hid h_E2
    clear h_E2
    clear hv hs hw tb_x ok_x tb_y ok_y tb_z ok_z ko_u1 ok_u1 le_u1 ko_u2 ok_u2 le_u2 ko_u3 ok_u3 le_u3 ko_u4 ok_u4 le_u4 ko_i1 ok_i1 le_i1 ko_i2 ok_i2 le_i2 ko_i3 ok_i3 le_i3 ko_i4 ok_i4 le_i4 hbound
    have K0 := Lib.hid (Below.refl w.heap.size w)
    go_enter Try.func30, Try.ntmps30
    go_wp2_with fail
    have hs : ∀ s ∈ ([⟨D_x, d_x, xs⟩, ⟨D_y, d_y, ys⟩, ⟨D_z, d_z, zs⟩] : List Sl), s.ok (w.alloc (.cells #[.slice D_x (List.length xs) d_x, .slice D_y (List.length ys) d_y, .slice D_z (List.length zs) d_z] 23)) := by
      intro s hs
      simp only [List.mem_cons, List.not_mem_nil, or_false] at hs
      rcases hs with rfl | rfl | rfl
      · exact ⟨Hx.out.below (al _ _), by dsimp only; omega⟩
      · exact ⟨Hy.out.below (al _ _), by dsimp only; omega⟩
      · exact ⟨Hz.out.below (al _ _), by dsimp only; omega⟩
    have CV := Lib.hid (valid_any us A c (some ⟨w.heap.size, 0, none⟩) 3 [⟨D_x, d_x, xs⟩, ⟨D_y, d_y, ys⟩, ⟨D_z, d_z, zs⟩] (w.alloc (.cells #[.slice D_x (List.length xs) d_x, .slice D_y (List.length ys) d_y, .slice D_z (List.length zs) d_z] 23)) hl (by simp) (Hr.out.below (al _ _)) (rd_blk (Blk.new _ _ _)) hs)
    clear hs
    refine (CV.out).mono ?_
    rintro e w1 ⟨rfl, hb⟩
    have K1 := Lib.hid (after (after K0.out (al _ _)) hb)
    clear hb
    rw [vls_vx G.out]
    go_wp2_with fail
    refine (iunion_call us A c D_x d_x xs D_y d_y ys w1 hl (by omega) (by omega) HW.out (Hr.out.below K1.out) (Hx.out.below K1.out) (Hy.out.below K1.out) T_x.out T_y.out Q_u1.out).mono ?_
    rintro e w2 ⟨D_u1, d_u1, rfl, hd, hb⟩
    have K2 := Lib.hid (after K1.out hb)
    clear hb
    have R_u1 := Lib.hid hd
    clear hd
    try rw [List.length_map]
    go_wp2_with fail
    have hC := iunion_call us A c D_u1 d_u1 ((unionL us (terms xs) (terms ys)).map ofT) D_z d_z zs w2 hl L_u1.out (by omega) HW.out (Hr.out.below K2.out) R_u1.out (Hz.out.below K2.out) T_u1.out T_z.out Q_u2.out
    try simp only [List.length_map] at hC
    refine hC.mono ?_
    clear hC
    rintro e w3 ⟨D_u2, d_u2, rfl, hd, hb⟩
    have K3 := Lib.hid (after K2.out hb)
    have R_u1 := Lib.hid (R_u1.out.below hb)
    clear hb
    have R_u2 := Lib.hid hd
    clear hd
    try rw [List.length_map]
    go_wp2_with fail
    have hC := iunion_call us A c D_y d_y ys D_z d_z zs w3 hl (by omega) (by omega) HW.out (Hr.out.below K3.out) (Hy.out.below K3.out) (Hz.out.below K3.out) T_y.out T_z.out Q_u3.out
    try simp only [List.length_map] at hC
    refine hC.mono ?_
    clear hC
    rintro e w4 ⟨D_u3, d_u3, rfl, hd, hb⟩
    have K4 := Lib.hid (after K3.out hb)
    have R_u1 := Lib.hid (R_u1.out.below hb)
    have R_u2 := Lib.hid (R_u2.out.below hb)
    clear hb
    have R_u3 := Lib.hid hd
    clear hd
    try rw [List.length_map]
    go_wp2_with fail
    have hC := iunion_call us A c D_x d_x xs D_u3 d_u3 ((unionL us (terms ys) (terms zs)).map ofT) w4 hl (by omega) L_u3.out HW.out (Hr.out.below K4.out) (Hx.out.below K4.out) R_u3.out T_x.out T_u3.out Q_u4.out
    try simp only [List.length_map] at hC
    refine hC.mono ?_
    clear hC
    rintro e w5 ⟨D_u4, d_u4, rfl, hd, hb⟩
    have K5 := Lib.hid (after K4.out hb)
    have R_u1 := Lib.hid (R_u1.out.below hb)
    have R_u2 := Lib.hid (R_u2.out.below hb)
    have R_u3 := Lib.hid (R_u3.out.below hb)
    clear hb
    have R_u4 := Lib.hid hd
    clear hd
    try rw [List.length_map]
    go_wp2_with fail
    have hC := ieq_call us A c D_u2 d_u2 ((unionL us (terms ((unionL us (terms xs) (terms ys)).map ofT)) (terms zs)).map ofT) D_u4 d_u4 ((unionL us (terms xs) (terms ((unionL us (terms ys) (terms zs)).map ofT))).map ofT) w5 hl L_u2.out L_u4.out HW.out (Hr.out.below K5.out) R_u2.out R_u4.out T_u2.out T_u4.out
    try simp only [List.length_map] at hC
    refine hC.mono ?_
    clear hC
    rintro e w6 ⟨rfl, hb⟩
    have K6 := Lib.hid (after K5.out hb)
    have R_u1 := Lib.hid (R_u1.out.below hb)
    have R_u2 := Lib.hid (R_u2.out.below hb)
    have R_u3 := Lib.hid (R_u3.out.below hb)
    have R_u4 := Lib.hid (R_u4.out.below hb)
    clear hb
    rw [E1.out]
    go_wp2_with fail
    have hC := iinter_call us A c D_x d_x xs D_y d_y ys w6 hl (by omega) (by omega) P_i1.out HW.out (Hr.out.below K6.out) (Hx.out.below K6.out) (Hy.out.below K6.out) T_x.out T_y.out Q_i1.out
    try simp only [List.length_map] at hC
    refine hC.mono ?_
    clear hC
    rintro e w7 ⟨D_i1, d_i1, rfl, hd, hb⟩
    have K7 := Lib.hid (after K6.out hb)
    have R_u1 := Lib.hid (R_u1.out.below hb)
    have R_u2 := Lib.hid (R_u2.out.below hb)
    have R_u3 := Lib.hid (R_u3.out.below hb)
    have R_u4 := Lib.hid (R_u4.out.below hb)
    clear hb
    have R_i1 := Lib.hid hd
    clear hd
    try rw [List.length_map]
    go_wp2_with fail
    have hC := iinter_call us A c D_i1 d_i1 ((interL us (terms xs) (terms ys)).map ofT) D_z d_z zs w7 hl L_i1.out (by omega) P_i2.out HW.out (Hr.out.below K7.out) R_i1.out (Hz.out.below K7.out) T_i1.out T_z.out Q_i2.out
    try simp only [List.length_map] at hC
    refine hC.mono ?_
    clear hC
    rintro e w8 ⟨D_i2, d_i2, rfl, hd, hb⟩
    have K8 := Lib.hid (after K7.out hb)
    have R_u1 := Lib.hid (R_u1.out.below hb)
    have R_u2 := Lib.hid (R_u2.out.below hb)
    have R_u3 := Lib.hid (R_u3.out.below hb)
    have R_u4 := Lib.hid (R_u4.out.below hb)
    have R_i1 := Lib.hid (R_i1.out.below hb)
    clear hb
    have R_i2 := Lib.hid hd
    clear hd
    try rw [List.length_map]
    go_wp2_with fail
    have hC := iinter_call us A c D_y d_y ys D_z d_z zs w8 hl (by omega) (by omega) P_i3.out HW.out (Hr.out.below K8.out) (Hy.out.below K8.out) (Hz.out.below K8.out) T_y.out T_z.out Q_i3.out
    try simp only [List.length_map] at hC
    refine hC.mono ?_
    clear hC
    rintro e w9 ⟨D_i3, d_i3, rfl, hd, hb⟩
    have K9 := Lib.hid (after K8.out hb)
    have R_u1 := Lib.hid (R_u1.out.below hb)
    have R_u2 := Lib.hid (R_u2.out.below hb)
    have R_u3 := Lib.hid (R_u3.out.below hb)
    have R_u4 := Lib.hid (R_u4.out.below hb)
    have R_i1 := Lib.hid (R_i1.out.below hb)
    have R_i2 := Lib.hid (R_i2.out.below hb)
    clear hb
    have R_i3 := Lib.hid hd
    clear hd
    try rw [List.length_map]
    go_wp2_with fail
    have hC := iinter_call us A c D_x d_x xs D_i3 d_i3 ((interL us (terms ys) (terms zs)).map ofT) w9 hl (by omega) L_i3.out P_i4.out HW.out (Hr.out.below K9.out) (Hx.out.below K9.out) R_i3.out T_x.out T_i3.out Q_i4.out
    try simp only [List.length_map] at hC
    refine hC.mono ?_
    clear hC
    rintro e w10 ⟨D_i4, d_i4, rfl, hd, hb⟩
    have K10 := Lib.hid (after K9.out hb)
    have R_u1 := Lib.hid (R_u1.out.below hb)
    have R_u2 := Lib.hid (R_u2.out.below hb)
    have R_u3 := Lib.hid (R_u3.out.below hb)
    have R_u4 := Lib.hid (R_u4.out.below hb)
    have R_i1 := Lib.hid (R_i1.out.below hb)
    have R_i2 := Lib.hid (R_i2.out.below hb)
    have R_i3 := Lib.hid (R_i3.out.below hb)
    clear hb
    have R_i4 := Lib.hid hd
    clear hd
    try rw [List.length_map]
    go_wp2_with fail
    have hC := ieq_call us A c D_i2 d_i2 ((interL us (terms ((interL us (terms xs) (terms ys)).map ofT)) (terms zs)).map ofT) D_i4 d_i4 ((interL us (terms xs) (terms ((interL us (terms ys) (terms zs)).map ofT))).map ofT) w10 hl L_i2.out L_i4.out HW.out (Hr.out.below K10.out) R_i2.out R_i4.out T_i2.out T_i4.out
    try simp only [List.length_map] at hC
    refine hC.mono ?_
    clear hC
    rintro e w11 ⟨rfl, hb⟩
    have K11 := Lib.hid (after K10.out hb)
    have R_u1 := Lib.hid (R_u1.out.below hb)
    have R_u2 := Lib.hid (R_u2.out.below hb)
    have R_u3 := Lib.hid (R_u3.out.below hb)
    have R_u4 := Lib.hid (R_u4.out.below hb)
    have R_i1 := Lib.hid (R_i1.out.below hb)
    have R_i2 := Lib.hid (R_i2.out.below hb)
    have R_i3 := Lib.hid (R_i3.out.below hb)
    have R_i4 := Lib.hid (R_i4.out.below hb)
    clear hb
    rw [E2.out]
    go_wp2_with fail
    go_ret
    exact ⟨rfl, K11.out⟩

theorem fnAssociates_contract (H : Type) (enc : TypeId × Value → H) (W : World) (base : Nat) (args : Array Value) (ds gs : List (DataW H)) (before : List MemPlace)
    (hval : ∀ (j : Nat) t v, Try.f30.params[j]? = some t → args[j]? = some v → Value.okWide Try.prog W .any base t v)
    (hW : DataW.Whole enc Try.prog Try.f30.params.toList Rows.fnAssociatesSpec.vars false W args.toList ds gs before) (hk : Rows.uptoSmall H (ds ++ gs) = true) :
    Calls Try.prog 30 args W fun e W' => ∃ v, e = .returned v ∧ Rows.fnAssociatesSpec.post enc Try.prog Try.f30 false true false false W args v W' := by
  have hW' := hW
  obtain ⟨p, q, hA0, hV, rfl, hfz, hnd⟩ := hW
  have hA : DataW.TrodAll enc Try.prog W 0 (fun _ => true) true Try.f30.params.toList args.toList ds p := hA0
  rw [Try.params30] at hA hval
  obtain ⟨v0, vs0, d0, ds0, p0, q0, hargs, rfl, rfl, h0, r0⟩ := trodAll_cons hA
  obtain ⟨v1, vs1, d1, ds1, p1, q1, rfl, rfl, rfl, h1, r1⟩ := trodAll_cons r0
  obtain ⟨v2, vs2, d2, ds2, p2, q2, rfl, rfl, rfl, h2, r2⟩ := trodAll_cons r1
  obtain ⟨v3, vs3, d3, ds3, p3, q3, rfl, rfl, rfl, h3, r3⟩ := trodAll_cons r2
  obtain ⟨rfl, rfl, rfl⟩ := trodAll_nil r3
  obtain rfl : args = #[v0, v1, v2, v3] := by cases args; simp_all
  obtain ⟨rfl, rfl⟩ := trodVars_none hV
  have k0 := h0
  have lt0 : ∀ x ∈ p0, x.block < W.heap.size := by obtain ⟨m, hm⟩ := k0; exact DataW.trod_lt m _ _ _ hm
  obtain ⟨A0, l0, c0, rfl, rd0, bd0⟩ := open_us (hval 0 22 v0 rfl rfl) h0
  have k1 := h1
  have lt1 : ∀ x ∈ p1, x.block < W.heap.size := by obtain ⟨m, hm⟩ := k1; exact DataW.trod_lt m _ _ _ hm
  obtain ⟨A1, l1, c1, rfl, rd1, bd1⟩ := open_ts (hval 1 23 v1 rfl rfl) h1
  have k2 := h2
  have lt2 : ∀ x ∈ p2, x.block < W.heap.size := by obtain ⟨m, hm⟩ := k2; exact DataW.trod_lt m _ _ _ hm
  obtain ⟨A2, l2, c2, rfl, rd2, bd2⟩ := open_ts (hval 2 23 v2 rfl rfl) h2
  have k3 := h3
  have lt3 : ∀ x ∈ p3, x.block < W.heap.size := by obtain ⟨m, hm⟩ := k3; exact DataW.trod_lt m _ _ _ hm
  obtain ⟨A3, l3, c3, rfl, rd3, bd3⟩ := open_ts (hval 3 23 v3 rfl rfl) h3
  have hbound : l0.length + l1.length + l2.length + l3.length ≤ 1048576 := by
    have h : Rows.uptoBulkAll ([d0, d1, d2, d3] ++ []) ≤ 1048576 := of_decide_eq_true hk
    rw [List.append_nil] at h
    simp only [Rows.uptoBulkAll] at h
    omega
  clear hA0
  refine (walk30 l0 A0 c0 l1 A1 c1 l2 A2 c2 l3 A3 c3 W rd0 rd1 rd2 rd3 hbound).mono fun e W' ⟨he, bel⟩ => ?_
  subst he
  exact ⟨_, rfl, _, _, _, [], _, [], hW', trodAll_mk1 (shut_bool Try.underlying4 _), (trodAll_cons_mk (Below.trod Try.laidOut (by kernel_rfl) (of_decide_eq_true (by kernel_rfl)) k0 bel lt0) (trodAll_cons_mk (Below.trod Try.laidOut (by kernel_rfl) (of_decide_eq_true (by kernel_rfl)) k1 bel lt1) (trodAll_cons_mk (Below.trod Try.laidOut (by kernel_rfl) (of_decide_eq_true (by kernel_rfl)) k2 bel lt2) (trodAll_cons_mk (Below.trod Try.laidOut (by kernel_rfl) (of_decide_eq_true (by kernel_rfl)) k3 bel lt3) trodAll_mk0)))), rfl, bel.frame _, fun h => by cases h⟩

set_option maxRecDepth 100000 in
theorem fnAssociates_lifted (os : Os) (started : os.Started) (H : Type) (enc : TypeId × Value → H) (F : Stop.Interp) :
    ReturnsInHanded {} Try.checked os 30 .any ((Rows.OpenSpec.upto Rows.fnAssociatesSpec).pre6 enc Try.prog Try.f30 Rows.fnAssociatesUptoRow.domain false) (((Rows.OpenSpec.upto Rows.fnAssociatesSpec).at F).post enc Try.prog Try.f30 false true false false) := by
  refine returnsInHanded_of_cond (C := Try.checked) (s := Rows.OpenSpec.upto Rows.fnAssociatesSpec) (k := Rows.uptoSmall) rfl Try.own started (by kernel_rfl) Try.func30
    (OpenSpec.witness (enc := enc) (C := Try.checked) (s := Rows.OpenSpec.upto Rows.fnAssociatesSpec) (k := Rows.uptoSmall) rfl false ⟨#[], #[.slice none 0 0, .slice none 0 0, .slice none 0 0, .slice none 0 0], []⟩ 8 (by kernel_rfl) (by kernel_rfl) (by kernel_rfl)
      (x := ([.nil, .nil, .nil, .nil], [], [])) (by kernel_rfl) rfl (by kernel_rfl)) ?_
  intro W base args ds gs before hval hW _ hk _
  exact fnAssociates_contract H enc W base args ds gs before hval hW hk

theorem fnAssociates_closed : joinedFacts Try.prog 30 Try.f30 (Rows.OpenSpec.upto Rows.fnAssociatesSpec).bare Rows.fnAssociatesUptoRow = true := closed_of (by kernel_rfl)

theorem fnAssociates_holds : Rows.FnAssociatesUptoSaid :=
  OpenClaim.holds_of_cond 30 Try.f30 rfl rfl rfl rfl rfl rfl rfl ⟨rfl, rfl, rfl, rfl, rfl⟩ rfl rfl rfl rfl rfl (by as_aux_lemma => kernel_rfl) Try.func30 fnAssociates_closed
    (of_decide_eq_true (by as_aux_lemma => kernel_rfl)) (by as_aux_lemma => (unfold Func.isWrapper; first | (rw [if_pos (by decide +kernel)]; kernel_rfl) | (rw [if_neg (by decide +kernel)]; exact ⟨rfl, rfl⟩)))
    (fun os started H enc _ F => fnAssociates_lifted os started H enc F)
end Go.Proofs.Ytehadfnaknpagaa
