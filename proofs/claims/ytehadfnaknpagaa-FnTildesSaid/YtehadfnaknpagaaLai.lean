/-
  PROVED HERE: FnTildes: for a type that is its own underlying type, the term with the tilde has the type, and is no subset of any list of types without tildes. Conditions: none.
-/
import Derived.Test.YtehadfnaknpagaaXf
namespace Go.Proofs.Ytehadfnaknpagaa
open Go.ChangeShapes Go.WideShapes Go.ChangeAt Go.RowKit Pl

/-- types' terms without tildes -/
def pls (ms : List Int) : List Tm := ms.map fun n => ⟨2, false, n⟩
theorem pls_len (ms : List Int) : (pls ms).length = ms.length := List.length_map _
theorem pls_terms (ms : List Int) : terms (pls ms) = (ms.map Int.toNat).map fun m => T.one false m := by
  unfold terms pls
  rw [List.map_map, List.map_map]
  congr 1
theorem til_of {us : List Int} {t : Int} (h : TB us ⟨2, true, t⟩ = true) : ∃ n : Nat, t = n ∧ n < us.length ∧ un us n = n := by
  have h1 := tok_of h
  have e : toT ⟨2, true, t⟩ = .one true t.toNat := by simp [toT]
  rw [e] at h1
  obtain ⟨h1, h2⟩ := h1
  simp [TB] at h
  exact ⟨t.toNat, by omega, h1, h2 rfl⟩
theorem cp_step {w wr w1 : World} {ms : List Int} {k : Nat} {v v1 : Value} {o : Obj} (h : Cp w 29 (pls ms) k v wr) (hk : k < ms.length)
    (hown : w1.ownsRow w.heap.size 29 3 v1 (k + 1) (tcs ((pls ms).take k) ++ [.int .i64 2, .bool false, .int .i64 (ms.getD k 0)]))
    (hg : (wr.alloc o).grownBy w1 v.ownBlock) : Cp w 29 (pls ms) (k + 1) v1 w1 := by
  have hk' : k < (pls ms).length := by rw [pls_len]; exact hk
  have e : (pls ms)[k] = ⟨2, false, ms.getD k 0⟩ := by
    have h1 : (pls ms)[k]? = some ⟨2, false, ms.getD k 0⟩ := by
      show (ms.map fun n => (⟨2, false, n⟩ : Tm))[k]? = _
      rw [List.getElem?_map, List.getD_eq_getElem?_getD, List.getElem?_eq_getElem hk]
      rfl
    rw [List.getElem?_eq_getElem hk'] at h1
    exact Option.some.inj h1
  refine ⟨by rw [tcs_snoc (pls ms) k hk', e]; exact hown, ?_⟩
  exact (h.below.alloc h.below.size o).grown hg (by have := h.below.size; simp; omega) (fun g hg => (h.own.lt g hg).1)
theorem cp_ret {w wr : World} {ms : List Int} {v : Value} (h : Cp w 29 (pls ms) ms.length v wr) : ∃ D c, v = .slice D ms.length c ∧ Rd wr D (tcs (pls ms)) ∧ Below w.heap.size w wr := by
  have h' : Cp w 29 (pls ms) (pls ms).length v wr := by rw [pls_len]; exact h
  obtain ⟨A, c, he, hr, hb⟩ := h'.ret
  rw [pls_len] at he
  cases he
  exact ⟨A, c, rfl, hr, hb⟩

set_option linter.unusedSimpArgs false in
set_option maxHeartbeats 4000000 in
theorem walk16 (us : List Int) (A : Option Addr) (c : Nat) (t : Int) (ms : List Int) (E : Option Addr) (g : Nat) (w : World) (hr : Rd w A (ints us)) (_lo : -9223372036854775808 ≤ t) (_hi : t ≤ 9223372036854775807) (hm : Rd w E (ints ms)) :
    Calls Try.prog 16 #[.slice A us.length c, .int .i64 t, .slice E ms.length g] w fun e w' => e = .returned (.bool true) ∧ Below w.heap.size w w' := by
  by_cases q0 : 2147483647 < us.length
  · go_enter Try.func16, Try.ntmps16
    go_wp2_with fail
    go_ret
    exact ⟨rfl, Below.refl _ _⟩
  by_cases q1 : 2147483647 < ms.length
  · go_enter Try.func16, Try.ntmps16
    go_wp2_with fail
    go_ret
    exact ⟨rfl, Below.refl _ _⟩
  have hl : us.length ≤ 2147483647 := by omega
  have l_m : ms.length ≤ 2147483647 := by omega
  obtain ⟨i0, hi, hz0, hz1, hz2⟩ := info_parts Try.info29
  obtain ⟨w0, hw0⟩ : ∃ w0 : World, w0 = w.alloc (.cells #[.int .i64 2, .bool true, .int .i64 t] 29) := ⟨_, rfl⟩
  have a0 : Below w.heap.size w w0 := by rw [hw0]; exact al _ _
  have b0 : Blk w0 w.heap.size 29 #[.int .i64 2, .bool true, .int .i64 t] := by rw [hw0]; exact Blk.new _ _ _
  have Hr := Lib.hid (fun w' (h : Below w0.heap.size w0 w') => (hr.below a0).below h)
  have Hm := Lib.hid (fun w' (h : Below w0.heap.size w0 w') => (hm.below a0).below h)
  have A0 := Lib.hid a0
  have B0 := Lib.hid b0
  have R1 := Lib.hid (Below.refl w0.heap.size w0)
  have CL := Lib.hid (fun (z : Tm) w' (hb : Below w0.heap.size w0 w') => (list_call z w').mono fun e w'' h => (by obtain ⟨D, d, he, hd, hb2⟩ := h; exact ⟨D, d, he, hd, hb2, after hb hb2⟩ : ∃ D d, e = .returned (.slice D 1 d) ∧ Rd w'' D (tcs [z]) ∧ Below w'.heap.size w' w'' ∧ Below w0.heap.size w0 w''))
  have CV : Hid (∀ (b : Bool), VX us [[⟨2, true, t⟩], pls ms] = b → ∀ (D : Option Addr) (d : Nat) (F : Option Addr) (f : Nat) w', Below w0.heap.size w0 w' → Rd w' D (tcs [⟨2, true, t⟩]) → Rd w' F (tcs (pls ms)) → Calls Try.prog 33 #[.slice A us.length c, .slice (some ⟨w'.heap.size, 0, none⟩) 2 2] (w'.alloc (.cells #[.slice D 1 d, .slice F ms.length f] 23)) fun e w'' => e = .returned (.bool b) ∧ Below w0.heap.size w0 w'' ∧ Below w'.heap.size w' w'') := Lib.hid fun b hv D d F f w' hb h1 h2 => by
    have hb' := hb.alloc hb.size (.cells #[.slice D 1 d, .slice F (pls ms).length f] 23)
    have hs : ∀ s ∈ ([⟨D, d, [⟨2, true, t⟩]⟩, ⟨F, f, pls ms⟩] : List Sl), s.ok (w'.alloc (.cells #[.slice D 1 d, .slice F (pls ms).length f] 23)) := by
      intro s hs
      simp only [List.mem_cons, List.not_mem_nil, or_false] at hs
      rcases hs with rfl | rfl
      · exact ⟨h1.below (al _ _), by simp⟩
      · exact ⟨h2.below (al _ _), by dsimp only; rw [pls_len]; omega⟩
    have h := valid_any us A c (some ⟨w'.heap.size, 0, none⟩) 2 [⟨D, d, [⟨2, true, t⟩]⟩, ⟨F, f, pls ms⟩] (w'.alloc (.cells #[.slice D 1 d, .slice F (pls ms).length f] 23)) hl (by simp) (Hr.out _ hb') (rd_blk (Blk.new _ _ _)) hs
    rw [vls_vx hv, pls_len] at h
    exact h.mono fun e w'' ⟨he, hb2⟩ => ⟨he, after (by rw [pls_len] at hb'; exact hb') hb2, after (al _ _) hb2⟩
  clear hr hm a0 b0
  go_enter Try.func16, Try.ntmps16
  go_wp2_with fail
  rw [← hw0]
  clear hw0
  go_loopw [8, 24] (fun v i wr => ∃ k : Nat, k ≤ ms.length ∧ i = .int .i64 k ∧ Cp w0 29 (pls ms) k v wr) (fun _ i _ => ms.length - (intOf i).toNat)
  case atStart => exact ⟨0, Nat.zero_le _, rfl, Cp.start _ _ _⟩
  case round =>
    obtain ⟨k, hk, rfl, hq⟩ := hrel
    by_cases hlt : k < ms.length
    · obtain ⟨b, off, rfl, c0⟩ := (Hm.out _ hq.below).int hlt
      have hs := hq.below.size
      obtain ⟨m, hmm⟩ : ∃ m, m = ms.getD k 0 := ⟨_, rfl⟩
      rw [← hmm] at c0
      have HM := Lib.hid hmm
      clear hmm
      go_wp2_with (at_builtin; refine wpList_append_own _ rfl _ _ 23 rfl w0.heap.size 29 i0 (.agg #[.int .i64 0, .bool false, .int .i64 0]) 3 24 Try.underlying23 hi hz0 hz1 hz2 rfl (by decide) _ _ _ rfl (hq.own.alloc _) ⟨wr.heap.size, 0, none⟩ 1 1 [.int .i64 2, .bool false, .int .i64 m] rfl rfl ?c1 ?c2 ?c3 ?c4 ?c5 ?_)
      case c1 =>
        have := news_blk (Blk.new wr 29 #[.int .i64 2, .bool false, .int .i64 m])
        simpa using this
      case c2 => intro u hu; simp at hu; rcases hu with rfl | rfl | rfl <;> rfl
      case c3 => unfold maxLen; omega
      case c4 => omega
      case c5 => simp; omega
      · intro v' w1 hown' hgrow _
        rw [HM.out] at hown'
        have hq' := cp_step hq hlt hown' hgrow
        clear hown' hgrow hq
        go_wp2_with fail
        go_roundw
        case rel => exact ⟨k + 1, by omega, by go_num, hq'⟩
        case measure => simp [intOf]; omega
    · obtain rfl : k = ms.length := by omega
      obtain ⟨F, f, rfl, hF, hb⟩ := cp_ret hq
      obtain ⟨p0, p1, p2⟩ := (B0.out.below hb).cells3
      have KB := Lib.hid hb
      have HF := Lib.hid hF
      clear hq hF hb
      cases hv : VX us [[⟨2, true, t⟩], pls ms] with
      | false =>
        have CW := Lib.hid (CV.out false hv)
        clear hv CV
        go_wp2_with fail
        refine (CL.out ⟨2, true, t⟩ _ KB.out).mono ?_
        rintro e w1 ⟨D1, d1, rfl, hp1, hb1, hc1⟩
        have P1 := Lib.hid hp1
        have K1 := Lib.hid hc1
        have F1 := Lib.hid (HF.out.below hb1)
        clear hp1 hb1 hc1 p0 p1 p2
        go_wp2_with fail
        refine (CW.out D1 d1 F f w1 K1.out P1.out F1.out).mono ?_
        rintro e w2 ⟨rfl, hb2, hb3⟩
        have K2 := Lib.hid hb2
        have F2 := Lib.hid (F1.out.below hb3)
        clear hb2 hb3
        go_wp2_with fail
        go_ret
        exact ⟨rfl, after A0.out K2.out⟩
      | true =>
        have cw := CV.out true hv
        obtain ⟨hw, hs⟩ := vx_iff hv
        have hx : TB us ⟨2, true, t⟩ = true := by have := hs [⟨2, true, t⟩] (by simp); simpa using this
        have hy := hs (pls ms) (by simp)
        obtain ⟨n, rfl, hn, hu⟩ := til_of hx
        have CW := Lib.hid cw
        have HW := Lib.hid hw
        have HX := Lib.hid hx
        have HY := Lib.hid hy
        have HO := Lib.hid (show TB us ⟨2, false, (n : Int)⟩ = true by simp [TB]; omega)
        have HN := Lib.hid hn
        have HU := Lib.hid hu
        clear hv CV cw hw hs hx hy hn hu
        go_wp2_with fail
        refine (CL.out ⟨2, true, (n : Int)⟩ _ KB.out).mono ?_
        rintro e w1 ⟨D1, d1, rfl, hp1, hb1, hc1⟩
        have P1 := Lib.hid hp1
        have K1 := Lib.hid hc1
        have F1 := Lib.hid (HF.out.below hb1)
        clear hp1 hb1 hc1 p0 p1 p2
        go_wp2_with fail
        refine (CW.out D1 d1 F f w1 K1.out P1.out F1.out).mono ?_
        rintro e w2 ⟨rfl, hb2, hb3⟩
        have K2 := Lib.hid hb2
        have F2 := Lib.hid (F1.out.below hb3)
        clear hb2 hb3
        obtain ⟨w3, hw3⟩ : ∃ w3 : World, w3 = w2.alloc (.cells #[.int .i64 2, .bool false, .int .i64 (n : Int)] 29) := ⟨_, rfl⟩
        have k3 : Below w0.heap.size w0 w3 := by rw [hw3]; exact K2.out.alloc K2.out.size _
        have d0 : Blk w3 w2.heap.size 29 #[.int .i64 2, .bool false, .int .i64 (n : Int)] := by rw [hw3]; exact Blk.new _ _ _
        have HS := Lib.hid (fun w' (h : Below w3.heap.size w3 w') => (by
          obtain ⟨p0, p1, p2⟩ := ((B0.out.below k3).below h).cells3
          obtain ⟨s0, s1, s2⟩ := (d0.below h).cells3
          exact ⟨⟨p0, p1, p2⟩, ⟨s0, s1, s2⟩⟩ : (w'.cell? ⟨w.heap.size, 0, none⟩ = some (.int .i64 2) ∧ w'.cell? ⟨w.heap.size, 1, none⟩ = some (.bool true) ∧ w'.cell? ⟨w.heap.size, 2, none⟩ = some (.int .i64 (n : Int))) ∧ (w'.cell? ⟨w2.heap.size, 0, none⟩ = some (.int .i64 2) ∧ w'.cell? ⟨w2.heap.size, 1, none⟩ = some (.bool false) ∧ w'.cell? ⟨w2.heap.size, 2, none⟩ = some (.int .i64 (n : Int)))))
        have R3 := Lib.hid (Below.refl w3.heap.size w3)
        have K3 := Lib.hid k3
        have r0 : ∀ o, (w2.alloc o).cell? ⟨w.heap.size, 0, none⟩ = some (.int .i64 2) := fun o => ((B0.out.below K2.out).alloc o).cells3.1
        have r1 : ∀ o, (w2.alloc o).cell? ⟨w.heap.size, 1, none⟩ = some (.bool true) := fun o => ((B0.out.below K2.out).alloc o).cells3.2.1
        have r2 : ∀ o, (w2.alloc o).cell? ⟨w.heap.size, 2, none⟩ = some (.int .i64 (n : Int)) := fun o => ((B0.out.below K2.out).alloc o).cells3.2.2
        have HW3 := Lib.hid hw3
        have F3 := Lib.hid (fun w' (h : Below w3.heap.size w3 w') => (F2.out.below (by rw [hw3]; exact al _ _ : Below w2.heap.size w2 w3)).below h)
        clear k3 d0 hw3
        go_wp2_with fail
        rw [← HW3.out]
        clear r0 r1 r2

        have e1 : toT ⟨2, true, (n : Int)⟩ = .one true n := by simp [toT]
        have e2 : toT ⟨2, false, (n : Int)⟩ = .one false n := by simp [toT]
        have C41 : Hid (∀ w', Below w3.heap.size w3 w' → Calls Try.prog 41 #[.slice A us.length c, tmv ⟨2, true, (n : Int)⟩, .int .i64 (n : Int)] w' fun e w'' => e = .returned (.bool true) ∧ Below w3.heap.size w3 w'') := Lib.hid fun w' hb => by
          have h := comp (itincl_call us A c ⟨2, true, (n : Int)⟩ n w' hl HW.out (Hr.out _ (after K3.out hb)) HX.out HN.out) hb (Nat.le_refl _)
          rw [e1, til_incl HU.out] at h
          exact h
        have C53 : Hid (∀ w', Below w3.heap.size w3 w' → Calls Try.prog 53 #[.slice A us.length c, tmv ⟨2, false, (n : Int)⟩, tmv ⟨2, true, (n : Int)⟩] w' fun e w'' => e = .returned (.bool true) ∧ Below w3.heap.size w3 w'') := Lib.hid fun w' hb => by
          have h := comp (itsub_call us A c ⟨2, false, (n : Int)⟩ ⟨2, true, (n : Int)⟩ w' hl HW.out (Hr.out _ (after K3.out hb)) HO.out HX.out) hb (Nat.le_refl _)
          rw [e1, e2, til_sub HU.out] at h
          exact h
        have C53b : Hid (∀ w', Below w3.heap.size w3 w' → Calls Try.prog 53 #[.slice A us.length c, tmv ⟨2, true, (n : Int)⟩, tmv ⟨2, false, (n : Int)⟩] w' fun e w'' => e = .returned (.bool false) ∧ Below w3.heap.size w3 w'') := Lib.hid fun w' hb => by
          have h := comp (itsub_call us A c ⟨2, true, (n : Int)⟩ ⟨2, false, (n : Int)⟩ w' hl HW.out (Hr.out _ (after K3.out hb)) HX.out HO.out) hb (Nat.le_refl _)
          rw [e1, e2, til_not] at h
          exact h
        have C51 : Hid (∀ (D : Option Addr) (d : Nat) w', Below w3.heap.size w3 w' → Rd w' D (tcs [⟨2, true, (n : Int)⟩]) → Calls Try.prog 51 #[.slice A us.length c, .slice D 1 d, .slice F ms.length f] w' fun e w'' => e = .returned (.bool false) ∧ Below w3.heap.size w3 w'') := Lib.hid fun D d w' hb h1 => by
          have h := comp (isub_call us A c D d [⟨2, true, (n : Int)⟩] F f (pls ms) w' hl (by simp) (by rw [pls_len]; omega) HW.out (Hr.out _ (after K3.out hb)) h1 (F3.out _ hb) (by simp [HX.out]) HY.out) hb (Nat.le_refl _)
          rw [pls_len, pls_terms, show terms [⟨2, true, (n : Int)⟩] = [T.one true n] by simp [terms, toT], til_list] at h
          exact h
        clear e1 e2
        refine (C41.out _ R3.out).mono ?_
        rintro e w4 ⟨rfl, hc4⟩
        obtain ⟨⟨p0, p1, p2⟩, ⟨s0, s1, s2⟩⟩ := HS.out _ hc4
        have H4 := Lib.hid hc4
        clear hc4
        go_wp2_with fail
        clear p0 p1 p2 s0 s1 s2
        refine (C53.out _ H4.out).mono ?_
        rintro e w5 ⟨rfl, hc5⟩
        obtain ⟨⟨p0, p1, p2⟩, ⟨s0, s1, s2⟩⟩ := HS.out _ hc5
        have H5 := Lib.hid hc5
        clear hc5
        go_wp2_with fail
        clear p0 p1 p2 s0 s1 s2
        refine (C53b.out _ H5.out).mono ?_
        rintro e w6 ⟨rfl, hc6⟩
        obtain ⟨⟨p0, p1, p2⟩, ⟨s0, s1, s2⟩⟩ := HS.out _ hc6
        have H6 := Lib.hid hc6
        clear hc6
        go_wp2_with fail
        clear p0 p1 p2 s0 s1 s2
        refine (CL.out ⟨2, true, (n : Int)⟩ _ (after K3.out H6.out)).mono ?_
        rintro e w7 ⟨D7, d7, rfl, hp7, hb7, hc7⟩
        have H7 := Lib.hid (after H6.out hb7)
        have P7 := Lib.hid hp7
        clear hp7 hb7 hc7
        go_wp2_with fail
        refine (C51.out _ _ _ H7.out P7.out).mono ?_
        rintro e w8 ⟨rfl, hc8⟩
        have H8 := Lib.hid hc8
        clear hc8
        go_wp2_with fail
        go_ret
        exact ⟨rfl, after A0.out (after K3.out H8.out)⟩

theorem fnTildes_contract (H : Type) (enc : TypeId × Value → H) (W : World) (base : Nat) (args : Array Value) (ds gs : List (DataW H)) (before : List MemPlace)
    (hval : ∀ (j : Nat) t v, Try.f16.params[j]? = some t → args[j]? = some v → Value.okWide Try.prog W .any base t v)
    (hW : DataW.Whole enc Try.prog Try.f16.params.toList Rows.fnTildesSpec.vars false W args.toList ds gs before) :
    Calls Try.prog 16 args W fun e W' => ∃ v, e = .returned v ∧ Rows.fnTildesSpec.post enc Try.prog Try.f16 false true false false W args v W' := by
  have hW' := hW
  obtain ⟨p, q, hA0, hV, rfl, hfz, hnd⟩ := hW
  have hA : DataW.TrodAll enc Try.prog W 0 (fun _ => true) true Try.f16.params.toList args.toList ds p := hA0
  rw [Try.params16] at hA hval
  obtain ⟨v0, vs0, d0, ds0, p0, q0, hargs, rfl, rfl, h0, r0⟩ := trodAll_cons hA
  obtain ⟨v1, vs1, d1, ds1, p1, q1, rfl, rfl, rfl, h1, r1⟩ := trodAll_cons r0
  obtain ⟨v2, vs2, d2, ds2, p2, q2, rfl, rfl, rfl, h2, r2⟩ := trodAll_cons r1
  obtain ⟨rfl, rfl, rfl⟩ := trodAll_nil r2
  obtain rfl : args = #[v0, v1, v2] := by cases args; simp_all
  obtain ⟨rfl, rfl⟩ := trodVars_none hV
  have k0 := h0
  have lt0 : ∀ x ∈ p0, x.block < W.heap.size := by obtain ⟨m, hm⟩ := k0; exact DataW.trod_lt m _ _ _ hm
  obtain ⟨A0, l0, c0, rfl, rd0, bd0⟩ := open_us (hval 0 22 v0 rfl rfl) h0
  have k1 := h1
  have lt1 : ∀ x ∈ p1, x.block < W.heap.size := by obtain ⟨m, hm⟩ := k1; exact DataW.trod_lt m _ _ _ hm
  obtain ⟨x1, rfl, lo1, hi1⟩ := open_i (hval 1 3 v1 rfl rfl) h1
  have k2 := h2
  have lt2 : ∀ x ∈ p2, x.block < W.heap.size := by obtain ⟨m, hm⟩ := k2; exact DataW.trod_lt m _ _ _ hm
  obtain ⟨A2, l2, c2, rfl, rd2, bd2⟩ := open_us (hval 2 22 v2 rfl rfl) h2
  clear hA0
  refine (walk16 l0 A0 c0 x1 l2 A2 c2 W rd0 lo1 hi1 rd2).mono fun e W' ⟨he, bel⟩ => ?_
  subst he
  exact ⟨_, rfl, _, _, _, [], _, [], hW', trodAll_mk1 (shut_bool Try.underlying4 _), (trodAll_cons_mk (Below.trod Try.laidOut (by kernel_rfl) (of_decide_eq_true (by kernel_rfl)) k0 bel lt0) (trodAll_cons_mk (Below.trod Try.laidOut (by kernel_rfl) (of_decide_eq_true (by kernel_rfl)) k1 bel lt1) (trodAll_cons_mk (Below.trod Try.laidOut (by kernel_rfl) (of_decide_eq_true (by kernel_rfl)) k2 bel lt2) trodAll_mk0))), rfl, bel.frame _, fun h => by cases h⟩

set_option maxRecDepth 100000 in
theorem fnTildes_lifted (os : Os) (started : os.Started) (H : Type) (enc : TypeId × Value → H) :
    ReturnsInHanded {} Try.checked os 16 .any (Rows.fnTildesSpec.pre6 enc Try.prog Try.f16 Rows.fnTildesRow.domain false) (Rows.fnTildesSpec.post enc Try.prog Try.f16 false true false false) := by
  refine returnsInHanded_of_change (C := Try.checked) Try.own started (by kernel_rfl) Try.func16
    (ChangeSpec.witness6 (enc := enc) (C := Try.checked) false ⟨#[], #[.slice none 0 0, .int .i64 0, .slice none 0 0], []⟩ 8 (by kernel_rfl) (by kernel_rfl) (by kernel_rfl) (by kernel_rfl)) ?_
  intro W base args ds gs before hval hW _ _
  exact fnTildes_contract H enc W base args ds gs before hval hW

theorem fnTildes_closed : joinedFacts Try.prog 16 Try.f16 Rows.fnTildesSpec Rows.fnTildesRow = true := closed_of (by kernel_rfl)

theorem fnTildes_holds : Rows.FnTildesSaid :=
  OpenClaim.holds_of_wide 16 Try.f16 rfl rfl rfl rfl rfl rfl rfl ⟨rfl, rfl, rfl, rfl, rfl⟩ rfl rfl rfl rfl rfl (by as_aux_lemma => kernel_rfl) Try.func16 fnTildes_closed
    (of_decide_eq_true (by as_aux_lemma => kernel_rfl)) (by as_aux_lemma => (unfold Func.isWrapper; first | (rw [if_pos (by decide +kernel)]; kernel_rfl) | (rw [if_neg (by decide +kernel)]; exact ⟨rfl, rfl⟩)))
    (fun os started H enc _ => fnTildes_lifted os started H enc)
end Go.Proofs.Ytehadfnaknpagaa
