/-
  PROVED HERE: FnDistributes: an intersection with a union is the union of the intersections, and the other way round. Conditions: what comes in holds together at most 1048576 values (the second form of the statement).
-/
import Derived.Test.YtehadfnaknpagaaXc
namespace Go.Proofs.Ytehadfnaknpagaa
open Go.ChangeShapes Go.WideShapes Go.ChangeAt Go.RowKit Pl

set_option maxHeartbeats 4000000 in
theorem walk32 (us : List Int) (A : Option Addr) (c : Nat) (xs : List Tm) (D_x : Option Addr) (d_x : Nat) (ys : List Tm) (D_y : Option Addr) (d_y : Nat) (zs : List Tm) (D_z : Option Addr) (d_z : Nat) (w : World)
    (hr : Rd w A (ints us)) (hd_x : Rd w D_x (tcs xs)) (hd_y : Rd w D_y (tcs ys)) (hd_z : Rd w D_z (tcs zs)) (hbound : us.length + xs.length + ys.length + zs.length ≤ 1048576) :
    Calls Try.prog 32 #[.slice A us.length c, .slice D_x xs.length d_x, .slice D_y ys.length d_y, .slice D_z zs.length d_z] w fun e w' => e = .returned (.bool true) ∧ Below w.heap.size w w' := by
  have hl : us.length ≤ 2147483647 := by omega
  have l_x : xs.length ≤ 2147483647 := by omega
  have l_y : ys.length ≤ 2147483647 := by omega
  have l_z : zs.length ≤ 2147483647 := by omega
  have Hr := Lib.hid hr
  have Hx := Lib.hid hd_x
  have Hy := Lib.hid hd_y
  have Hz := Lib.hid hd_z
  clear hr hd_x hd_y hd_z
  cases hv : VX us [xs, ys, zs] with
  | false =>
    have G := Lib.hid hv
    clear hv
    clear hbound
    have K0 := Lib.hid (Below.refl w.heap.size w)
    go_enter Try.func32, Try.ntmps32
    go_wp2_with fail
    have hs : ∀ s ∈ ([⟨D_x, d_x, xs⟩, ⟨D_y, d_y, ys⟩, ⟨D_z, d_z, zs⟩] : List Sl), s.ok (w.alloc (.cells #[.slice D_x (List.length xs) d_x, .slice D_y (List.length ys) d_y, .slice D_z (List.length zs) d_z] 23)) := by
      intro s hs
      simp only [List.mem_cons, List.not_mem_nil, or_false] at hs
      rcases hs with rfl | rfl | rfl
      · exact ⟨Hx.out.below (al _ _), by dsimp only; omega⟩
      · exact ⟨Hy.out.below (al _ _), by dsimp only; omega⟩
      · exact ⟨Hz.out.below (al _ _), by dsimp only; omega⟩
    have CV := Lib.hid (valid_any us A c (some ⟨w.heap.size, 0, none⟩) 3 [⟨D_x, d_x, xs⟩, ⟨D_y, d_y, ys⟩, ⟨D_z, d_z, zs⟩] (w.alloc (.cells #[.slice D_x (List.length xs) d_x, .slice D_y (List.length ys) d_y, .slice D_z (List.length zs) d_z] 23)) hl (by simp) (Hr.out.below (al _ _)) (rd_blk (Blk.new _ _ _)) hs)
    clear hs
    refine (CV.out).mono ?_
    rintro e w1 ⟨rfl, hb⟩
    have K1 := Lib.hid (after (after K0.out (al _ _)) hb)
    clear hb
    rw [vls_vx G.out]
    go_wp2_with fail
    go_ret
    exact ⟨rfl, K1.out⟩
  | true =>
    obtain ⟨hw, hs⟩ := vx_iff hv
    have tb_x := hs xs (by simp)
    have ok_x := terms_ok tb_x
    have tb_y := hs ys (by simp)
    have ok_y := terms_ok tb_y
    have tb_z := hs zs (by simp)
    have ok_z := terms_ok tb_z
    have G := Lib.hid hv
    have T_x := Lib.hid tb_x
    have T_y := Lib.hid tb_y
    have T_z := Lib.hid tb_z
    have HW := Lib.hid hw
    have ko_a1 := unionL_ok hw ok_y ok_z
    have ok_a1 := made_ok ko_a1
    have le_a1 : (unionL us (terms ys) (terms zs)).length ≤ ys.length + (zs.length) := by
      have h := unionL_len hw ok_y ok_z
      rw [terms_len, terms_len] at h
      have h1 : List.length ys ≤ ys.length := (Nat.le_refl _)
      have h2 : List.length zs ≤ zs.length := (Nat.le_refl _)
      omega
    have L_a1 := Lib.hid (show List.length ((unionL us (terms ys) (terms zs)).map ofT) ≤ 4294967296 from made_len (by omega))
    have Q_a1 := Lib.hid (show (unionL us (terms ys) (terms zs)).length ≤ 1099511627776 by omega)
    have T_a1 := Lib.hid (all_tb hw ko_a1)
    have ko_a2 := interL_ok hw ok_x ok_a1
    have ok_a2 := made_ok ko_a2
    have le_a2 : (interL us (terms xs) (terms ((unionL us (terms ys) (terms zs)).map ofT))).length ≤ us.length + 1 := interL_short hw ok_x ok_a1
    have L_a2 := Lib.hid (show List.length ((interL us (terms xs) (terms ((unionL us (terms ys) (terms zs)).map ofT))).map ofT) ≤ 4294967296 from made_len (by omega))
    have Q_a2 := Lib.hid (show (interL us (terms xs) (terms ((unionL us (terms ys) (terms zs)).map ofT))).length ≤ 1099511627776 by omega)
    have T_a2 := Lib.hid (all_tb hw ko_a2)
    have P_a2 := Lib.hid (show List.length xs * List.length ((unionL us (terms ys) (terms zs)).map ofT) ≤ 1099511627776 from by
      have h1 : List.length xs ≤ xs.length := (Nat.le_refl _)
      have h2 : List.length ((unionL us (terms ys) (terms zs)).map ofT) ≤ ys.length + (zs.length) := (made_len le_a1)
      exact mul_bd2 (by omega) (by omega))
    have ko_a3 := interL_ok hw ok_x ok_y
    have ok_a3 := made_ok ko_a3
    have le_a3 : (interL us (terms xs) (terms ys)).length ≤ us.length + 1 := interL_short hw ok_x ok_y
    have L_a3 := Lib.hid (show List.length ((interL us (terms xs) (terms ys)).map ofT) ≤ 4294967296 from made_len (by omega))
    have Q_a3 := Lib.hid (show (interL us (terms xs) (terms ys)).length ≤ 1099511627776 by omega)
    have T_a3 := Lib.hid (all_tb hw ko_a3)
    have P_a3 := Lib.hid (show List.length xs * List.length ys ≤ 1099511627776 from by
      have h1 : List.length xs ≤ xs.length := (Nat.le_refl _)
      have h2 : List.length ys ≤ ys.length := (Nat.le_refl _)
      exact mul_bd2 (by omega) (by omega))
    have ko_a4 := interL_ok hw ok_x ok_z
    have ok_a4 := made_ok ko_a4
    have le_a4 : (interL us (terms xs) (terms zs)).length ≤ us.length + 1 := interL_short hw ok_x ok_z
    have L_a4 := Lib.hid (show List.length ((interL us (terms xs) (terms zs)).map ofT) ≤ 4294967296 from made_len (by omega))
    have Q_a4 := Lib.hid (show (interL us (terms xs) (terms zs)).length ≤ 1099511627776 by omega)
    have T_a4 := Lib.hid (all_tb hw ko_a4)
    have P_a4 := Lib.hid (show List.length xs * List.length zs ≤ 1099511627776 from by
      have h1 : List.length xs ≤ xs.length := (Nat.le_refl _)
      have h2 : List.length zs ≤ zs.length := (Nat.le_refl _)
      exact mul_bd2 (by omega) (by omega))
    have ko_a5 := unionL_ok hw ok_a3 ok_a4
    have ok_a5 := made_ok ko_a5
    have le_a5 : (unionL us (terms ((interL us (terms xs) (terms ys)).map ofT)) (terms ((interL us (terms xs) (terms zs)).map ofT))).length ≤ us.length + 1 + (us.length + 1) := by
      have h := unionL_len hw ok_a3 ok_a4
      rw [terms_len, terms_len] at h
      have h1 : List.length ((interL us (terms xs) (terms ys)).map ofT) ≤ us.length + 1 := (made_len le_a3)
      have h2 : List.length ((interL us (terms xs) (terms zs)).map ofT) ≤ us.length + 1 := (made_len le_a4)
      omega
    have L_a5 := Lib.hid (show List.length ((unionL us (terms ((interL us (terms xs) (terms ys)).map ofT)) (terms ((interL us (terms xs) (terms zs)).map ofT))).map ofT) ≤ 4294967296 from made_len (by omega))
    have Q_a5 := Lib.hid (show (unionL us (terms ((interL us (terms xs) (terms ys)).map ofT)) (terms ((interL us (terms xs) (terms zs)).map ofT))).length ≤ 1099511627776 by omega)
    have T_a5 := Lib.hid (all_tb hw ko_a5)
    have ko_b1 := interL_ok hw ok_y ok_z
    have ok_b1 := made_ok ko_b1
    have le_b1 : (interL us (terms ys) (terms zs)).length ≤ us.length + 1 := interL_short hw ok_y ok_z
    have L_b1 := Lib.hid (show List.length ((interL us (terms ys) (terms zs)).map ofT) ≤ 4294967296 from made_len (by omega))
    have Q_b1 := Lib.hid (show (interL us (terms ys) (terms zs)).length ≤ 1099511627776 by omega)
    have T_b1 := Lib.hid (all_tb hw ko_b1)
    have P_b1 := Lib.hid (show List.length ys * List.length zs ≤ 1099511627776 from by
      have h1 : List.length ys ≤ ys.length := (Nat.le_refl _)
      have h2 : List.length zs ≤ zs.length := (Nat.le_refl _)
      exact mul_bd2 (by omega) (by omega))
    have ko_b2 := unionL_ok hw ok_x ok_b1
    have ok_b2 := made_ok ko_b2
    have le_b2 : (unionL us (terms xs) (terms ((interL us (terms ys) (terms zs)).map ofT))).length ≤ xs.length + (us.length + 1) := by
      have h := unionL_len hw ok_x ok_b1
      rw [terms_len, terms_len] at h
      have h1 : List.length xs ≤ xs.length := (Nat.le_refl _)
      have h2 : List.length ((interL us (terms ys) (terms zs)).map ofT) ≤ us.length + 1 := (made_len le_b1)
      omega
    have L_b2 := Lib.hid (show List.length ((unionL us (terms xs) (terms ((interL us (terms ys) (terms zs)).map ofT))).map ofT) ≤ 4294967296 from made_len (by omega))
    have Q_b2 := Lib.hid (show (unionL us (terms xs) (terms ((interL us (terms ys) (terms zs)).map ofT))).length ≤ 1099511627776 by omega)
    have T_b2 := Lib.hid (all_tb hw ko_b2)
    have ko_b3 := unionL_ok hw ok_x ok_y
    have ok_b3 := made_ok ko_b3
    have le_b3 : (unionL us (terms xs) (terms ys)).length ≤ xs.length + (ys.length) := by
      have h := unionL_len hw ok_x ok_y
      rw [terms_len, terms_len] at h
      have h1 : List.length xs ≤ xs.length := (Nat.le_refl _)
      have h2 : List.length ys ≤ ys.length := (Nat.le_refl _)
      omega
    have L_b3 := Lib.hid (show List.length ((unionL us (terms xs) (terms ys)).map ofT) ≤ 4294967296 from made_len (by omega))
    have Q_b3 := Lib.hid (show (unionL us (terms xs) (terms ys)).length ≤ 1099511627776 by omega)
    have T_b3 := Lib.hid (all_tb hw ko_b3)
    have ko_b4 := unionL_ok hw ok_x ok_z
    have ok_b4 := made_ok ko_b4
    have le_b4 : (unionL us (terms xs) (terms zs)).length ≤ xs.length + (zs.length) := by
      have h := unionL_len hw ok_x ok_z
      rw [terms_len, terms_len] at h
      have h1 : List.length xs ≤ xs.length := (Nat.le_refl _)
      have h2 : List.length zs ≤ zs.length := (Nat.le_refl _)
      omega
    have L_b4 := Lib.hid (show List.length ((unionL us (terms xs) (terms zs)).map ofT) ≤ 4294967296 from made_len (by omega))
    have Q_b4 := Lib.hid (show (unionL us (terms xs) (terms zs)).length ≤ 1099511627776 by omega)
    have T_b4 := Lib.hid (all_tb hw ko_b4)
    have ko_b5 := interL_ok hw ok_b3 ok_b4
    have ok_b5 := made_ok ko_b5
    have le_b5 : (interL us (terms ((unionL us (terms xs) (terms ys)).map ofT)) (terms ((unionL us (terms xs) (terms zs)).map ofT))).length ≤ us.length + 1 := interL_short hw ok_b3 ok_b4
    have L_b5 := Lib.hid (show List.length ((interL us (terms ((unionL us (terms xs) (terms ys)).map ofT)) (terms ((unionL us (terms xs) (terms zs)).map ofT))).map ofT) ≤ 4294967296 from made_len (by omega))
    have Q_b5 := Lib.hid (show (interL us (terms ((unionL us (terms xs) (terms ys)).map ofT)) (terms ((unionL us (terms xs) (terms zs)).map ofT))).length ≤ 1099511627776 by omega)
    have T_b5 := Lib.hid (all_tb hw ko_b5)
    have P_b5 := Lib.hid (show List.length ((unionL us (terms xs) (terms ys)).map ofT) * List.length ((unionL us (terms xs) (terms zs)).map ofT) ≤ 1099511627776 from by
      have h1 : List.length ((unionL us (terms xs) (terms ys)).map ofT) ≤ xs.length + (ys.length) := (made_len le_b3)
      have h2 : List.length ((unionL us (terms xs) (terms zs)).map ofT) ≤ xs.length + (zs.length) := (made_len le_b4)
      exact mul_bd2 (by omega) (by omega))
    have h_E1 : eqL us (terms ((interL us (terms xs) (terms ((unionL us (terms ys) (terms zs)).map ofT))).map ofT)) (terms ((unionL us (terms ((interL us (terms xs) (terms ys)).map ofT)) (terms ((interL us (terms xs) (terms zs)).map ofT))).map ofT)) = true := by
      simp only [back_T2]
      exact inter_union hw ok_x ok_y ok_z
    have E1 := Lib.hid h_E1
    clear h_E1
    have h_E2 : eqL us (terms ((unionL us (terms xs) (terms ((interL us (terms ys) (terms zs)).map ofT))).map ofT)) (terms ((interL us (terms ((unionL us (terms xs) (terms ys)).map ofT)) (terms ((unionL us (terms xs) (terms zs)).map ofT))).map ofT)) = true := by
      simp only [back_T2]
      exact union_inter hw ok_x ok_y ok_z
    have E2 := Lib.hid h_E2
    clear h_E2
    clear hv hs hw tb_x ok_x tb_y ok_y tb_z ok_z ko_a1 ok_a1 le_a1 ko_a2 ok_a2 le_a2 ko_a3 ok_a3 le_a3 ko_a4 ok_a4 le_a4 ko_a5 ok_a5 le_a5 ko_b1 ok_b1 le_b1 ko_b2 ok_b2 le_b2 ko_b3 ok_b3 le_b3 ko_b4 ok_b4 le_b4 ko_b5 ok_b5 le_b5 hbound
    have K0 := Lib.hid (Below.refl w.heap.size w)
    go_enter Try.func32, Try.ntmps32
    go_wp2_with fail
    have hs : ∀ s ∈ ([⟨D_x, d_x, xs⟩, ⟨D_y, d_y, ys⟩, ⟨D_z, d_z, zs⟩] : List Sl), s.ok (w.alloc (.cells #[.slice D_x (List.length xs) d_x, .slice D_y (List.length ys) d_y, .slice D_z (List.length zs) d_z] 23)) := by
      intro s hs
      simp only [List.mem_cons, List.not_mem_nil, or_false] at hs
      rcases hs with rfl | rfl | rfl
      · exact ⟨Hx.out.below (al _ _), by dsimp only; omega⟩
      · exact ⟨Hy.out.below (al _ _), by dsimp only; omega⟩
      · exact ⟨Hz.out.below (al _ _), by dsimp only; omega⟩
    have CV := Lib.hid (valid_any us A c (some ⟨w.heap.size, 0, none⟩) 3 [⟨D_x, d_x, xs⟩, ⟨D_y, d_y, ys⟩, ⟨D_z, d_z, zs⟩] (w.alloc (.cells #[.slice D_x (List.length xs) d_x, .slice D_y (List.length ys) d_y, .slice D_z (List.length zs) d_z] 23)) hl (by simp) (Hr.out.below (al _ _)) (rd_blk (Blk.new _ _ _)) hs)
    clear hs
    refine (CV.out).mono ?_
    rintro e w1 ⟨rfl, hb⟩
    have K1 := Lib.hid (after (after K0.out (al _ _)) hb)
    clear hb
    rw [vls_vx G.out]
    go_wp2_with fail
    refine (iunion_call us A c D_y d_y ys D_z d_z zs w1 hl (by omega) (by omega) HW.out (Hr.out.below K1.out) (Hy.out.below K1.out) (Hz.out.below K1.out) T_y.out T_z.out Q_a1.out).mono ?_
    rintro e w2 ⟨D_a1, d_a1, rfl, hd, hb⟩
    have K2 := Lib.hid (after K1.out hb)
    clear hb
    have R_a1 := Lib.hid hd
    clear hd
    try rw [List.length_map]
    go_wp2_with fail
    have hC := iinter_call us A c D_x d_x xs D_a1 d_a1 ((unionL us (terms ys) (terms zs)).map ofT) w2 hl (by omega) L_a1.out P_a2.out HW.out (Hr.out.below K2.out) (Hx.out.below K2.out) R_a1.out T_x.out T_a1.out Q_a2.out
    try simp only [List.length_map] at hC
    refine hC.mono ?_
    clear hC
    rintro e w3 ⟨D_a2, d_a2, rfl, hd, hb⟩
    have K3 := Lib.hid (after K2.out hb)
    have R_a1 := Lib.hid (R_a1.out.below hb)
    clear hb
    have R_a2 := Lib.hid hd
    clear hd
    try rw [List.length_map]
    go_wp2_with fail
    have hC := iinter_call us A c D_x d_x xs D_y d_y ys w3 hl (by omega) (by omega) P_a3.out HW.out (Hr.out.below K3.out) (Hx.out.below K3.out) (Hy.out.below K3.out) T_x.out T_y.out Q_a3.out
    try simp only [List.length_map] at hC
    refine hC.mono ?_
    clear hC
    rintro e w4 ⟨D_a3, d_a3, rfl, hd, hb⟩
    have K4 := Lib.hid (after K3.out hb)
    have R_a1 := Lib.hid (R_a1.out.below hb)
    have R_a2 := Lib.hid (R_a2.out.below hb)
    clear hb
    have R_a3 := Lib.hid hd
    clear hd
    try rw [List.length_map]
    go_wp2_with fail
    have hC := iinter_call us A c D_x d_x xs D_z d_z zs w4 hl (by omega) (by omega) P_a4.out HW.out (Hr.out.below K4.out) (Hx.out.below K4.out) (Hz.out.below K4.out) T_x.out T_z.out Q_a4.out
    try simp only [List.length_map] at hC
    refine hC.mono ?_
    clear hC
    rintro e w5 ⟨D_a4, d_a4, rfl, hd, hb⟩
    have K5 := Lib.hid (after K4.out hb)
    have R_a1 := Lib.hid (R_a1.out.below hb)
    have R_a2 := Lib.hid (R_a2.out.below hb)
    have R_a3 := Lib.hid (R_a3.out.below hb)
    clear hb
    have R_a4 := Lib.hid hd
    clear hd
    try rw [List.length_map]
    go_wp2_with fail
    have hC := iunion_call us A c D_a3 d_a3 ((interL us (terms xs) (terms ys)).map ofT) D_a4 d_a4 ((interL us (terms xs) (terms zs)).map ofT) w5 hl L_a3.out L_a4.out HW.out (Hr.out.below K5.out) R_a3.out R_a4.out T_a3.out T_a4.out Q_a5.out
    try simp only [List.length_map] at hC
    refine hC.mono ?_
    clear hC
    rintro e w6 ⟨D_a5, d_a5, rfl, hd, hb⟩
    have K6 := Lib.hid (after K5.out hb)
    have R_a1 := Lib.hid (R_a1.out.below hb)
    have R_a2 := Lib.hid (R_a2.out.below hb)
    have R_a3 := Lib.hid (R_a3.out.below hb)
    have R_a4 := Lib.hid (R_a4.out.below hb)
    clear hb
    have R_a5 := Lib.hid hd
    clear hd
    try rw [List.length_map]
    go_wp2_with fail
    have hC := ieq_call us A c D_a2 d_a2 ((interL us (terms xs) (terms ((unionL us (terms ys) (terms zs)).map ofT))).map ofT) D_a5 d_a5 ((unionL us (terms ((interL us (terms xs) (terms ys)).map ofT)) (terms ((interL us (terms xs) (terms zs)).map ofT))).map ofT) w6 hl L_a2.out L_a5.out HW.out (Hr.out.below K6.out) R_a2.out R_a5.out T_a2.out T_a5.out
    try simp only [List.length_map] at hC
    refine hC.mono ?_
    clear hC
    rintro e w7 ⟨rfl, hb⟩
    have K7 := Lib.hid (after K6.out hb)
    have R_a1 := Lib.hid (R_a1.out.below hb)
    have R_a2 := Lib.hid (R_a2.out.below hb)
    have R_a3 := Lib.hid (R_a3.out.below hb)
    have R_a4 := Lib.hid (R_a4.out.below hb)
    have R_a5 := Lib.hid (R_a5.out.below hb)
    clear hb
    rw [E1.out]
    go_wp2_with fail
    have hC := iinter_call us A c D_y d_y ys D_z d_z zs w7 hl (by omega) (by omega) P_b1.out HW.out (Hr.out.below K7.out) (Hy.out.below K7.out) (Hz.out.below K7.out) T_y.out T_z.out Q_b1.out
    try simp only [List.length_map] at hC
    refine hC.mono ?_
    clear hC
    rintro e w8 ⟨D_b1, d_b1, rfl, hd, hb⟩
    have K8 := Lib.hid (after K7.out hb)
    have R_a1 := Lib.hid (R_a1.out.below hb)
    have R_a2 := Lib.hid (R_a2.out.below hb)
    have R_a3 := Lib.hid (R_a3.out.below hb)
    have R_a4 := Lib.hid (R_a4.out.below hb)
    have R_a5 := Lib.hid (R_a5.out.below hb)
    clear hb
    have R_b1 := Lib.hid hd
    clear hd
    try rw [List.length_map]
    go_wp2_with fail
    have hC := iunion_call us A c D_x d_x xs D_b1 d_b1 ((interL us (terms ys) (terms zs)).map ofT) w8 hl (by omega) L_b1.out HW.out (Hr.out.below K8.out) (Hx.out.below K8.out) R_b1.out T_x.out T_b1.out Q_b2.out
    try simp only [List.length_map] at hC
    refine hC.mono ?_
    clear hC
    rintro e w9 ⟨D_b2, d_b2, rfl, hd, hb⟩
    have K9 := Lib.hid (after K8.out hb)
    have R_a1 := Lib.hid (R_a1.out.below hb)
    have R_a2 := Lib.hid (R_a2.out.below hb)
    have R_a3 := Lib.hid (R_a3.out.below hb)
    have R_a4 := Lib.hid (R_a4.out.below hb)
    have R_a5 := Lib.hid (R_a5.out.below hb)
    have R_b1 := Lib.hid (R_b1.out.below hb)
    clear hb
    have R_b2 := Lib.hid hd
    clear hd
    try rw [List.length_map]
    go_wp2_with fail
    have hC := iunion_call us A c D_x d_x xs D_y d_y ys w9 hl (by omega) (by omega) HW.out (Hr.out.below K9.out) (Hx.out.below K9.out) (Hy.out.below K9.out) T_x.out T_y.out Q_b3.out
    try simp only [List.length_map] at hC
    refine hC.mono ?_
    clear hC
    rintro e w10 ⟨D_b3, d_b3, rfl, hd, hb⟩
    have K10 := Lib.hid (after K9.out hb)
    have R_a1 := Lib.hid (R_a1.out.below hb)
    have R_a2 := Lib.hid (R_a2.out.below hb)
    have R_a3 := Lib.hid (R_a3.out.below hb)
    have R_a4 := Lib.hid (R_a4.out.below hb)
    have R_a5 := Lib.hid (R_a5.out.below hb)
    have R_b1 := Lib.hid (R_b1.out.below hb)
    have R_b2 := Lib.hid (R_b2.out.below hb)
    clear hb
    have R_b3 := Lib.hid hd
    clear hd
    try rw [List.length_map]
    go_wp2_with fail
    have hC := iunion_call us A c D_x d_x xs D_z d_z zs w10 hl (by omega) (by omega) HW.out (Hr.out.below K10.out) (Hx.out.below K10.out) (Hz.out.below K10.out) T_x.out T_z.out Q_b4.out
    try simp only [List.length_map] at hC
    refine hC.mono ?_
    clear hC
    rintro e w11 ⟨D_b4, d_b4, rfl, hd, hb⟩
    have K11 := Lib.hid (after K10.out hb)
    have R_a1 := Lib.hid (R_a1.out.below hb)
    have R_a2 := Lib.hid (R_a2.out.below hb)
    have R_a3 := Lib.hid (R_a3.out.below hb)
    have R_a4 := Lib.hid (R_a4.out.below hb)
    have R_a5 := Lib.hid (R_a5.out.below hb)
    have R_b1 := Lib.hid (R_b1.out.below hb)
    have R_b2 := Lib.hid (R_b2.out.below hb)
    have R_b3 := Lib.hid (R_b3.out.below hb)
    clear hb
    have R_b4 := Lib.hid hd
    clear hd
    try rw [List.length_map]
    go_wp2_with fail
    have hC := iinter_call us A c D_b3 d_b3 ((unionL us (terms xs) (terms ys)).map ofT) D_b4 d_b4 ((unionL us (terms xs) (terms zs)).map ofT) w11 hl L_b3.out L_b4.out P_b5.out HW.out (Hr.out.below K11.out) R_b3.out R_b4.out T_b3.out T_b4.out Q_b5.out
    try simp only [List.length_map] at hC
    refine hC.mono ?_
    clear hC
    rintro e w12 ⟨D_b5, d_b5, rfl, hd, hb⟩
    have K12 := Lib.hid (after K11.out hb)
    have R_a1 := Lib.hid (R_a1.out.below hb)
    have R_a2 := Lib.hid (R_a2.out.below hb)
    have R_a3 := Lib.hid (R_a3.out.below hb)
    have R_a4 := Lib.hid (R_a4.out.below hb)
    have R_a5 := Lib.hid (R_a5.out.below hb)
    have R_b1 := Lib.hid (R_b1.out.below hb)
    have R_b2 := Lib.hid (R_b2.out.below hb)
    have R_b3 := Lib.hid (R_b3.out.below hb)
    have R_b4 := Lib.hid (R_b4.out.below hb)
    clear hb
    have R_b5 := Lib.hid hd
    clear hd
    try rw [List.length_map]
    go_wp2_with fail
    have hC := ieq_call us A c D_b2 d_b2 ((unionL us (terms xs) (terms ((interL us (terms ys) (terms zs)).map ofT))).map ofT) D_b5 d_b5 ((interL us (terms ((unionL us (terms xs) (terms ys)).map ofT)) (terms ((unionL us (terms xs) (terms zs)).map ofT))).map ofT) w12 hl L_b2.out L_b5.out HW.out (Hr.out.below K12.out) R_b2.out R_b5.out T_b2.out T_b5.out
    try simp only [List.length_map] at hC
    refine hC.mono ?_
    clear hC
    rintro e w13 ⟨rfl, hb⟩
    have K13 := Lib.hid (after K12.out hb)
    have R_a1 := Lib.hid (R_a1.out.below hb)
    have R_a2 := Lib.hid (R_a2.out.below hb)
    have R_a3 := Lib.hid (R_a3.out.below hb)
    have R_a4 := Lib.hid (R_a4.out.below hb)
    have R_a5 := Lib.hid (R_a5.out.below hb)
    have R_b1 := Lib.hid (R_b1.out.below hb)
    have R_b2 := Lib.hid (R_b2.out.below hb)
    have R_b3 := Lib.hid (R_b3.out.below hb)
    have R_b4 := Lib.hid (R_b4.out.below hb)
    have R_b5 := Lib.hid (R_b5.out.below hb)
    clear hb
    rw [E2.out]
    go_wp2_with fail
    go_ret
    exact ⟨rfl, K13.out⟩

theorem fnDistributes_contract (H : Type) (enc : TypeId × Value → H) (W : World) (base : Nat) (args : Array Value) (ds gs : List (DataW H)) (before : List MemPlace)
    (hval : ∀ (j : Nat) t v, Try.f32.params[j]? = some t → args[j]? = some v → Value.okWide Try.prog W .any base t v)
    (hW : DataW.Whole enc Try.prog Try.f32.params.toList Rows.fnDistributesSpec.vars false W args.toList ds gs before) (hk : Rows.uptoSmall H (ds ++ gs) = true) :
    Calls Try.prog 32 args W fun e W' => ∃ v, e = .returned v ∧ Rows.fnDistributesSpec.post enc Try.prog Try.f32 false true false false W args v W' := by
  have hW' := hW
  obtain ⟨p, q, hA0, hV, rfl, hfz, hnd⟩ := hW
  have hA : DataW.TrodAll enc Try.prog W 0 (fun _ => true) true Try.f32.params.toList args.toList ds p := hA0
  rw [Try.params32] at hA hval
  obtain ⟨v0, vs0, d0, ds0, p0, q0, hargs, rfl, rfl, h0, r0⟩ := trodAll_cons hA
  obtain ⟨v1, vs1, d1, ds1, p1, q1, rfl, rfl, rfl, h1, r1⟩ := trodAll_cons r0
  obtain ⟨v2, vs2, d2, ds2, p2, q2, rfl, rfl, rfl, h2, r2⟩ := trodAll_cons r1
  obtain ⟨v3, vs3, d3, ds3, p3, q3, rfl, rfl, rfl, h3, r3⟩ := trodAll_cons r2
  obtain ⟨rfl, rfl, rfl⟩ := trodAll_nil r3
  obtain rfl : args = #[v0, v1, v2, v3] := by cases args; simp_all
  obtain ⟨rfl, rfl⟩ := trodVars_none hV
  have k0 := h0
  have lt0 : ∀ x ∈ p0, x.block < W.heap.size := by obtain ⟨m, hm⟩ := k0; exact DataW.trod_lt m _ _ _ hm
  obtain ⟨A0, l0, c0, rfl, rd0, bd0⟩ := open_us (hval 0 22 v0 rfl rfl) h0
  have k1 := h1
  have lt1 : ∀ x ∈ p1, x.block < W.heap.size := by obtain ⟨m, hm⟩ := k1; exact DataW.trod_lt m _ _ _ hm
  obtain ⟨A1, l1, c1, rfl, rd1, bd1⟩ := open_ts (hval 1 23 v1 rfl rfl) h1
  have k2 := h2
  have lt2 : ∀ x ∈ p2, x.block < W.heap.size := by obtain ⟨m, hm⟩ := k2; exact DataW.trod_lt m _ _ _ hm
  obtain ⟨A2, l2, c2, rfl, rd2, bd2⟩ := open_ts (hval 2 23 v2 rfl rfl) h2
  have k3 := h3
  have lt3 : ∀ x ∈ p3, x.block < W.heap.size := by obtain ⟨m, hm⟩ := k3; exact DataW.trod_lt m _ _ _ hm
  obtain ⟨A3, l3, c3, rfl, rd3, bd3⟩ := open_ts (hval 3 23 v3 rfl rfl) h3
  have hbound : l0.length + l1.length + l2.length + l3.length ≤ 1048576 := by
    have h : Rows.uptoBulkAll ([d0, d1, d2, d3] ++ []) ≤ 1048576 := of_decide_eq_true hk
    rw [List.append_nil] at h
    simp only [Rows.uptoBulkAll] at h
    omega
  clear hA0
  refine (walk32 l0 A0 c0 l1 A1 c1 l2 A2 c2 l3 A3 c3 W rd0 rd1 rd2 rd3 hbound).mono fun e W' ⟨he, bel⟩ => ?_
  subst he
  exact ⟨_, rfl, _, _, _, [], _, [], hW', trodAll_mk1 (shut_bool Try.underlying4 _), (trodAll_cons_mk (Below.trod Try.laidOut (by kernel_rfl) (of_decide_eq_true (by kernel_rfl)) k0 bel lt0) (trodAll_cons_mk (Below.trod Try.laidOut (by kernel_rfl) (of_decide_eq_true (by kernel_rfl)) k1 bel lt1) (trodAll_cons_mk (Below.trod Try.laidOut (by kernel_rfl) (of_decide_eq_true (by kernel_rfl)) k2 bel lt2) (trodAll_cons_mk (Below.trod Try.laidOut (by kernel_rfl) (of_decide_eq_true (by kernel_rfl)) k3 bel lt3) trodAll_mk0)))), rfl, bel.frame _, fun h => by cases h⟩

set_option maxRecDepth 100000 in
theorem fnDistributes_lifted (os : Os) (started : os.Started) (H : Type) (enc : TypeId × Value → H) (F : Stop.Interp) :
    ReturnsInHanded {} Try.checked os 32 .any ((Rows.OpenSpec.upto Rows.fnDistributesSpec).pre6 enc Try.prog Try.f32 Rows.fnDistributesUptoRow.domain false) (((Rows.OpenSpec.upto Rows.fnDistributesSpec).at F).post enc Try.prog Try.f32 false true false false) := by
  refine returnsInHanded_of_cond (C := Try.checked) (s := Rows.OpenSpec.upto Rows.fnDistributesSpec) (k := Rows.uptoSmall) rfl Try.own started (by kernel_rfl) Try.func32
    (OpenSpec.witness (enc := enc) (C := Try.checked) (s := Rows.OpenSpec.upto Rows.fnDistributesSpec) (k := Rows.uptoSmall) rfl false ⟨#[], #[.slice none 0 0, .slice none 0 0, .slice none 0 0, .slice none 0 0], []⟩ 8 (by kernel_rfl) (by kernel_rfl) (by kernel_rfl)
      (x := ([.nil, .nil, .nil, .nil], [], [])) (by kernel_rfl) rfl (by kernel_rfl)) ?_
  intro W base args ds gs before hval hW _ hk _
  exact fnDistributes_contract H enc W base args ds gs before hval hW hk

theorem fnDistributes_closed : joinedFacts Try.prog 32 Try.f32 (Rows.OpenSpec.upto Rows.fnDistributesSpec).bare Rows.fnDistributesUptoRow = true := closed_of (by kernel_rfl)

theorem fnDistributes_holds : Rows.FnDistributesUptoSaid :=
  OpenClaim.holds_of_cond 32 Try.f32 rfl rfl rfl rfl rfl rfl rfl ⟨rfl, rfl, rfl, rfl, rfl⟩ rfl rfl rfl rfl rfl (by as_aux_lemma => kernel_rfl) Try.func32 fnDistributes_closed
    (of_decide_eq_true (by as_aux_lemma => kernel_rfl)) (by as_aux_lemma => (unfold Func.isWrapper; first | (rw [if_pos (by decide +kernel)]; kernel_rfl) | (rw [if_neg (by decide +kernel)]; exact ⟨rfl, rfl⟩)))
    (fun os started H enc _ F => fnDistributes_lifted os started H enc F)
end Go.Proofs.Ytehadfnaknpagaa
