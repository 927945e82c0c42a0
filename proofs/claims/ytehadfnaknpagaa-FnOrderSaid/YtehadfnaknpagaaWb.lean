/-
  THE WALKS, SECOND PART: the reference's loops over points.
-/
import Derived.Test.YtehadfnaknpagaaWa
import Derived.Test.YtehadfnaknpagaaPb
namespace Go.Proofs.Ytehadfnaknpagaa
open Go.RowKit Pl

/-- a call's contract, told of the world in which the caller began -/
theorem comp {P : Program} {f : FuncId} {args : Array Value} {w0 w' : World} {B : Nat} {v : Value}
    (h : Calls P f args w' fun e w'' => e = .returned v ∧ Below w'.heap.size w' w'') (hb : Below B w0 w') (hB : B ≤ w0.heap.size) :
    Calls P f args w' fun e w'' => e = .returned v ∧ Below B w0 w'' :=
  h.mono fun _ _ ⟨he, hw⟩ => ⟨he, hb.trans (hw.mono (Nat.le_trans hB hb.size))⟩

/-- a block that is known whole -/
def Blk (w : World) (g : Nat) (t : TypeId) (cs : Array Value) : Prop := w.heap[g]? = some (.cells cs t (0, 0))
theorem Blk.lt {w : World} {g : Nat} {t : TypeId} {cs : Array Value} (h : Blk w g t cs) : g < w.heap.size := by
  rcases Nat.lt_or_ge g w.heap.size with hlt | hge
  · exact hlt
  · unfold Blk at h; rw [Array.getElem?_eq_none hge] at h; cases h
theorem Blk.cell {w : World} {g : Nat} {t : TypeId} {cs : Array Value} (h : Blk w g t cs) (i : Nat) : w.cell? ⟨g, i, none⟩ = cs[i]? := cell_of_row w g i cs t (0, 0) h
theorem Blk.new (w : World) (t : TypeId) (cs : Array Value) : Blk (w.alloc (.cells cs t)) w.heap.size t cs := heap_alloc_new w _
theorem Blk.alloc {w : World} {g : Nat} {t : TypeId} {cs : Array Value} (h : Blk w g t cs) (o : Obj) : Blk (w.alloc o) g t cs := (Below.heap_alloc w o g h.lt).trans h
theorem Blk.below {w w' : World} {g : Nat} {t : TypeId} {cs : Array Value} (h : Blk w g t cs) (hb : Below w.heap.size w w') : Blk w' g t cs := (hb.block g h.lt).trans h
theorem Blk.cells3 {w : World} {g : Nat} {t : TypeId} {a b c : Value} (h : Blk w g t #[a, b, c]) : w.cell? ⟨g, 0, none⟩ = some a ∧ w.cell? ⟨g, 1, none⟩ = some b ∧ w.cell? ⟨g, 2, none⟩ = some c := ⟨h.cell 0, h.cell 1, h.cell 2⟩

section
variable (us : List Int) (A : Option Addr) (c : Nat) (D : Option Addr) (d : Nat) (xs : List Tm) (E : Option Addr) (g : Nat) (ys : List Tm) (F : Option Addr) (m : Nat) (zs : List Tm) (w : World)

set_option maxHeartbeats 400000 in
theorem subset_any (hl : us.length ≤ 2147483647) (hm : xs.length ≤ 4294967296) (hn : ys.length ≤ 4294967296) (hw : WOk us) (hr : Rd w A (ints us))
    (hd : Rd w D (tcs xs)) (he : Rd w E (tcs ys)) (hx : xs.all (TB us) = true) (hy : ys.all (TB us) = true) :
    Calls Try.prog 35 #[.slice A us.length c, .slice D xs.length d, .slice E ys.length g] w fun e w' => e = .returned (.bool (subS us (terms xs) (terms ys))) ∧ Below w.heap.size w w' := by
  have ht : top us ≤ 4294967296 := by unfold top; omega
  rw [subS_eq]
  have C1 := fun (t : Nat) (h : t < top us) w' (hb : Below w.heap.size w w') => comp (inlist_any us A c t D d xs w' hl hm hw (hr.below hb) h (hd.below hb) hx) hb (Nat.le_refl _)
  have C2 := fun (t : Nat) (h : t < top us) w' (hb : Below w.heap.size w w') => comp (inlist_any us A c t E g ys w' hl hn hw (hr.below hb) h (he.below hb) hy) hb (Nat.le_refl _)
  have H1 := Lib.hid C1
  have H2 := Lib.hid C2
  clear C1 C2 hx hd hr hw hy he
  go_enter Try.func35, Try.ntmps35
  go_wp2_with fail
  refine (types_any us A c _ hl).mono ?_
  rintro e w1 ⟨rfl, rfl⟩
  go_wp2_with fail
  go_loopw [10] (fun i wr => ∃ k : Nat, k ≤ top us ∧ i = .int .i64 k ∧ Below w.heap.size w wr ∧ NonR (fun t => memL us (terms xs) t && !memL us (terms ys) t) k) (fun i _ => top us - (intOf i).toNat)
  case atStart => exact ⟨0, Nat.zero_le _, rfl, Below.refl _ _, NonR.zero⟩
  case round =>
    obtain ⟨k, hk, rfl, hb, hno⟩ := hrel
    by_cases hlt : k < top us
    · cases h1 : memL us (terms xs) k with
      | false =>
        have G1 := Lib.hid h1
        clear h1
        go_wp2_with fail
        refine (H1.out k hlt _ hb).mono ?_
        rintro e w1 ⟨rfl, hb1⟩
        rw [G1.out]
        go_wp2_with fail
        go_roundw
        case rel => exact ⟨k + 1, by omega, by go_num, hb1, hno.succ (by rw [G1.out]; rfl)⟩
        case measure => simp [intOf]; omega
      | true =>
        have G1 := Lib.hid h1
        clear h1
        cases h2 : memL us (terms ys) k with
        | false =>
          have G2 := Lib.hid h2
          clear h2
          go_wp2_with fail
          refine (H1.out k hlt _ hb).mono ?_
          rintro e w1 ⟨rfl, hb1⟩
          rw [G1.out]
          go_wp2_with fail
          refine (H2.out k hlt _ hb1).mono ?_
          rintro e w2 ⟨rfl, hb2⟩
          rw [G2.out]
          go_wp2_with fail
          go_ret
          exact ⟨ret_b (all_hit hlt (by rw [G1.out, G2.out]; rfl)).symm, hb2⟩
        | true =>
          have G2 := Lib.hid h2
          clear h2
          go_wp2_with fail
          refine (H1.out k hlt _ hb).mono ?_
          rintro e w1 ⟨rfl, hb1⟩
          rw [G1.out]
          go_wp2_with fail
          refine (H2.out k hlt _ hb1).mono ?_
          rintro e w2 ⟨rfl, hb2⟩
          rw [G2.out]
          go_wp2_with fail
          go_roundw
          case rel => exact ⟨k + 1, by omega, by go_num, hb2, hno.succ (by rw [G1.out, G2.out]; rfl)⟩
          case measure => simp [intOf]; omega
    · go_wp2_with fail
      go_ret
      exact ⟨ret_b (hno.all hlt).symm, hb⟩
-- GEN

theorem same_any (hl : us.length ≤ 2147483647) (hm : xs.length ≤ 4294967296) (hn : ys.length ≤ 4294967296) (hw : WOk us) (hr : Rd w A (ints us))
    (hd : Rd w D (tcs xs)) (he : Rd w E (tcs ys)) (hx : xs.all (TB us) = true) (hy : ys.all (TB us) = true) :
    Calls Try.prog 48 #[.slice A us.length c, .slice D xs.length d, .slice E ys.length g] w fun e w' => e = .returned (.bool (sameS us (terms xs) (terms ys))) ∧ Below w.heap.size w w' := by
  unfold sameS
  have C1 := subset_any us A c D d xs E g ys w hl hm hn hw hr hd he hx hy
  have C2 := fun w' (hb : Below w.heap.size w w') => comp (subset_any us A c E g ys D d xs w' hl hn hm hw (hr.below hb) (he.below hb) (hd.below hb) hy hx) hb (Nat.le_refl _)
  have H1 := Lib.hid C1
  have H2 := Lib.hid C2
  clear C1 C2 hx hd hr hw hy he
  cases h1 : subS us (terms xs) (terms ys) with
  | false =>
    have G1 := Lib.hid h1
    clear h1
    go_enter Try.func48, Try.ntmps48
    go_wp2_with fail
    refine H1.out.mono ?_
    rintro e w1 ⟨rfl, hb1⟩
    rw [G1.out]
    go_wp2_with fail
    go_ret
    exact ⟨ret_b (by simp), hb1⟩
  | true =>
    have G1 := Lib.hid h1
    clear h1
    go_enter Try.func48, Try.ntmps48
    go_wp2_with fail
    refine H1.out.mono ?_
    rintro e w1 ⟨rfl, hb1⟩
    rw [G1.out]
    go_wp2_with fail
    refine (H2.out _ hb1).mono ?_
    rintro e w2 ⟨rfl, hb2⟩
    go_wp2_with fail
    go_ret
    exact ⟨ret_b (by simp), hb2⟩

set_option maxHeartbeats 1000000 in
theorem isunion_any (hl : us.length ≤ 2147483647) (hm : xs.length ≤ 4294967296) (hn : ys.length ≤ 4294967296) (ho : zs.length ≤ 4294967296) (hw : WOk us) (hr : Rd w A (ints us))
    (hd : Rd w D (tcs xs)) (he : Rd w E (tcs ys)) (hf : Rd w F (tcs zs)) (hx : xs.all (TB us) = true) (hy : ys.all (TB us) = true) (hz : zs.all (TB us) = true) :
    Calls Try.prog 58 #[.slice A us.length c, .slice F zs.length m, .slice D xs.length d, .slice E ys.length g] w fun e w' => e = .returned (.bool (isUnionS us (terms zs) (terms xs) (terms ys))) ∧ Below w.heap.size w w' := by
  have ht : top us ≤ 4294967296 := by unfold top; omega
  unfold isUnionS
  have C1 := fun (t : Nat) (h : t < top us) w' (hb : Below w.heap.size w w') => comp (inlist_any us A c t F m zs w' hl ho hw (hr.below hb) h (hf.below hb) hz) hb (Nat.le_refl _)
  have C2 := fun (t : Nat) (h : t < top us) w' (hb : Below w.heap.size w w') => comp (inlist_any us A c t D d xs w' hl (by omega) hw (hr.below hb) h (hd.below hb) hx) hb (Nat.le_refl _)
  have C3 := fun (t : Nat) (h : t < top us) w' (hb : Below w.heap.size w w') => comp (inlist_any us A c t E g ys w' hl (by omega) hw (hr.below hb) h (he.below hb) hy) hb (Nat.le_refl _)
  have H1 := Lib.hid C1
  have H2 := Lib.hid C2
  have H3 := Lib.hid C3
  clear C1 C2 C3 hx hd hr hw hy he hz hf
  go_enter Try.func58, Try.ntmps58
  go_wp2_with fail
  refine (types_any us A c _ hl).mono ?_
  rintro e w1 ⟨rfl, rfl⟩
  go_wp2_with fail
  go_loopw [12] (fun i wr => ∃ k : Nat, k ≤ top us ∧ i = .int .i64 k ∧ Below w.heap.size w wr ∧ NonR (fun t => memL us (terms zs) t != (memL us (terms xs) t || memL us (terms ys) t)) k) (fun i _ => top us - (intOf i).toNat)
  case atStart => exact ⟨0, Nat.zero_le _, rfl, Below.refl _ _, NonR.zero⟩
  case round =>
    obtain ⟨k, hk, rfl, hb, hno⟩ := hrel
    by_cases hlt : k < top us
    · skip
      cases h1 : memL us (terms zs) k with
      | false =>
        have G1 := Lib.hid h1
        clear h1
        cases h2 : memL us (terms xs) k with
        | false =>
          have G2 := Lib.hid h2
          clear h2
          cases h3 : memL us (terms ys) k with
          | false =>
            have G3 := Lib.hid h3
            clear h3
            go_wp2_with fail
            refine (H1.out k hlt _ hb).mono ?_
            rintro e w1 ⟨rfl, hb1⟩
            rw [G1.out]
            go_wp2_with fail
            refine (H2.out k hlt _ hb1).mono ?_
            rintro e w2 ⟨rfl, hb2⟩
            rw [G2.out]
            go_wp2_with fail
            refine (H3.out k hlt _ hb2).mono ?_
            rintro e w3 ⟨rfl, hb3⟩
            rw [G3.out]
            go_wp2_with fail
            go_roundw
            case rel => exact ⟨k + 1, by omega, by go_num, hb3, hno.succ (by rw [G1.out, G2.out, G3.out]; rfl)⟩
            case measure => simp [intOf]; omega
          | true =>
            have G3 := Lib.hid h3
            clear h3
            go_wp2_with fail
            refine (H1.out k hlt _ hb).mono ?_
            rintro e w1 ⟨rfl, hb1⟩
            rw [G1.out]
            go_wp2_with fail
            refine (H2.out k hlt _ hb1).mono ?_
            rintro e w2 ⟨rfl, hb2⟩
            rw [G2.out]
            go_wp2_with fail
            refine (H3.out k hlt _ hb2).mono ?_
            rintro e w3 ⟨rfl, hb3⟩
            rw [G3.out]
            go_wp2_with fail
            go_ret
            exact ⟨ret_b (all_hit hlt (by rw [G1.out, G2.out, G3.out]; rfl)).symm, hb3⟩
        | true =>
          have G2 := Lib.hid h2
          clear h2
          cases h3 : memL us (terms ys) k with
          | false =>
            have G3 := Lib.hid h3
            clear h3
            go_wp2_with fail
            refine (H1.out k hlt _ hb).mono ?_
            rintro e w1 ⟨rfl, hb1⟩
            rw [G1.out]
            go_wp2_with fail
            refine (H2.out k hlt _ hb1).mono ?_
            rintro e w2 ⟨rfl, hb2⟩
            rw [G2.out]
            go_wp2_with fail
            go_ret
            exact ⟨ret_b (all_hit hlt (by rw [G1.out, G2.out, G3.out]; rfl)).symm, hb2⟩
          | true =>
            have G3 := Lib.hid h3
            clear h3
            go_wp2_with fail
            refine (H1.out k hlt _ hb).mono ?_
            rintro e w1 ⟨rfl, hb1⟩
            rw [G1.out]
            go_wp2_with fail
            refine (H2.out k hlt _ hb1).mono ?_
            rintro e w2 ⟨rfl, hb2⟩
            rw [G2.out]
            go_wp2_with fail
            go_ret
            exact ⟨ret_b (all_hit hlt (by rw [G1.out, G2.out, G3.out]; rfl)).symm, hb2⟩
      | true =>
        have G1 := Lib.hid h1
        clear h1
        cases h2 : memL us (terms xs) k with
        | false =>
          have G2 := Lib.hid h2
          clear h2
          cases h3 : memL us (terms ys) k with
          | false =>
            have G3 := Lib.hid h3
            clear h3
            go_wp2_with fail
            refine (H1.out k hlt _ hb).mono ?_
            rintro e w1 ⟨rfl, hb1⟩
            rw [G1.out]
            go_wp2_with fail
            refine (H2.out k hlt _ hb1).mono ?_
            rintro e w2 ⟨rfl, hb2⟩
            rw [G2.out]
            go_wp2_with fail
            refine (H3.out k hlt _ hb2).mono ?_
            rintro e w3 ⟨rfl, hb3⟩
            rw [G3.out]
            go_wp2_with fail
            go_ret
            exact ⟨ret_b (all_hit hlt (by rw [G1.out, G2.out, G3.out]; rfl)).symm, hb3⟩
          | true =>
            have G3 := Lib.hid h3
            clear h3
            go_wp2_with fail
            refine (H1.out k hlt _ hb).mono ?_
            rintro e w1 ⟨rfl, hb1⟩
            rw [G1.out]
            go_wp2_with fail
            refine (H2.out k hlt _ hb1).mono ?_
            rintro e w2 ⟨rfl, hb2⟩
            rw [G2.out]
            go_wp2_with fail
            refine (H3.out k hlt _ hb2).mono ?_
            rintro e w3 ⟨rfl, hb3⟩
            rw [G3.out]
            go_wp2_with fail
            go_roundw
            case rel => exact ⟨k + 1, by omega, by go_num, hb3, hno.succ (by rw [G1.out, G2.out, G3.out]; rfl)⟩
            case measure => simp [intOf]; omega
        | true =>
          have G2 := Lib.hid h2
          clear h2
          cases h3 : memL us (terms ys) k with
          | false =>
            have G3 := Lib.hid h3
            clear h3
            go_wp2_with fail
            refine (H1.out k hlt _ hb).mono ?_
            rintro e w1 ⟨rfl, hb1⟩
            rw [G1.out]
            go_wp2_with fail
            refine (H2.out k hlt _ hb1).mono ?_
            rintro e w2 ⟨rfl, hb2⟩
            rw [G2.out]
            go_wp2_with fail
            go_roundw
            case rel => exact ⟨k + 1, by omega, by go_num, hb2, hno.succ (by rw [G1.out, G2.out, G3.out]; rfl)⟩
            case measure => simp [intOf]; omega
          | true =>
            have G3 := Lib.hid h3
            clear h3
            go_wp2_with fail
            refine (H1.out k hlt _ hb).mono ?_
            rintro e w1 ⟨rfl, hb1⟩
            rw [G1.out]
            go_wp2_with fail
            refine (H2.out k hlt _ hb1).mono ?_
            rintro e w2 ⟨rfl, hb2⟩
            rw [G2.out]
            go_wp2_with fail
            go_roundw
            case rel => exact ⟨k + 1, by omega, by go_num, hb2, hno.succ (by rw [G1.out, G2.out, G3.out]; rfl)⟩
            case measure => simp [intOf]; omega
    · go_wp2_with fail
      go_ret
      exact ⟨ret_b (hno.all hlt).symm, hb⟩

set_option maxHeartbeats 1000000 in
theorem isinter_any (hl : us.length ≤ 2147483647) (hm : xs.length ≤ 4294967296) (hn : ys.length ≤ 4294967296) (ho : zs.length ≤ 4294967296) (hw : WOk us) (hr : Rd w A (ints us))
    (hd : Rd w D (tcs xs)) (he : Rd w E (tcs ys)) (hf : Rd w F (tcs zs)) (hx : xs.all (TB us) = true) (hy : ys.all (TB us) = true) (hz : zs.all (TB us) = true) :
    Calls Try.prog 56 #[.slice A us.length c, .slice F zs.length m, .slice D xs.length d, .slice E ys.length g] w fun e w' => e = .returned (.bool (isInterS us (terms zs) (terms xs) (terms ys))) ∧ Below w.heap.size w w' := by
  have ht : top us ≤ 4294967296 := by unfold top; omega
  unfold isInterS
  have C1 := fun (t : Nat) (h : t < top us) w' (hb : Below w.heap.size w w') => comp (inlist_any us A c t F m zs w' hl ho hw (hr.below hb) h (hf.below hb) hz) hb (Nat.le_refl _)
  have C2 := fun (t : Nat) (h : t < top us) w' (hb : Below w.heap.size w w') => comp (inlist_any us A c t D d xs w' hl (by omega) hw (hr.below hb) h (hd.below hb) hx) hb (Nat.le_refl _)
  have C3 := fun (t : Nat) (h : t < top us) w' (hb : Below w.heap.size w w') => comp (inlist_any us A c t E g ys w' hl (by omega) hw (hr.below hb) h (he.below hb) hy) hb (Nat.le_refl _)
  have H1 := Lib.hid C1
  have H2 := Lib.hid C2
  have H3 := Lib.hid C3
  clear C1 C2 C3 hx hd hr hw hy he hz hf
  go_enter Try.func56, Try.ntmps56
  go_wp2_with fail
  refine (types_any us A c _ hl).mono ?_
  rintro e w1 ⟨rfl, rfl⟩
  go_wp2_with fail
  go_loopw [12] (fun i wr => ∃ k : Nat, k ≤ top us ∧ i = .int .i64 k ∧ Below w.heap.size w wr ∧ NonR (fun t => memL us (terms zs) t != (memL us (terms xs) t && memL us (terms ys) t)) k) (fun i _ => top us - (intOf i).toNat)
  case atStart => exact ⟨0, Nat.zero_le _, rfl, Below.refl _ _, NonR.zero⟩
  case round =>
    obtain ⟨k, hk, rfl, hb, hno⟩ := hrel
    by_cases hlt : k < top us
    · skip
      cases h1 : memL us (terms zs) k with
      | false =>
        have G1 := Lib.hid h1
        clear h1
        cases h2 : memL us (terms xs) k with
        | false =>
          have G2 := Lib.hid h2
          clear h2
          cases h3 : memL us (terms ys) k with
          | false =>
            have G3 := Lib.hid h3
            clear h3
            go_wp2_with fail
            refine (H1.out k hlt _ hb).mono ?_
            rintro e w1 ⟨rfl, hb1⟩
            rw [G1.out]
            go_wp2_with fail
            refine (H2.out k hlt _ hb1).mono ?_
            rintro e w2 ⟨rfl, hb2⟩
            rw [G2.out]
            go_wp2_with fail
            go_roundw
            case rel => exact ⟨k + 1, by omega, by go_num, hb2, hno.succ (by rw [G1.out, G2.out, G3.out]; rfl)⟩
            case measure => simp [intOf]; omega
          | true =>
            have G3 := Lib.hid h3
            clear h3
            go_wp2_with fail
            refine (H1.out k hlt _ hb).mono ?_
            rintro e w1 ⟨rfl, hb1⟩
            rw [G1.out]
            go_wp2_with fail
            refine (H2.out k hlt _ hb1).mono ?_
            rintro e w2 ⟨rfl, hb2⟩
            rw [G2.out]
            go_wp2_with fail
            go_roundw
            case rel => exact ⟨k + 1, by omega, by go_num, hb2, hno.succ (by rw [G1.out, G2.out, G3.out]; rfl)⟩
            case measure => simp [intOf]; omega
        | true =>
          have G2 := Lib.hid h2
          clear h2
          cases h3 : memL us (terms ys) k with
          | false =>
            have G3 := Lib.hid h3
            clear h3
            go_wp2_with fail
            refine (H1.out k hlt _ hb).mono ?_
            rintro e w1 ⟨rfl, hb1⟩
            rw [G1.out]
            go_wp2_with fail
            refine (H2.out k hlt _ hb1).mono ?_
            rintro e w2 ⟨rfl, hb2⟩
            rw [G2.out]
            go_wp2_with fail
            refine (H3.out k hlt _ hb2).mono ?_
            rintro e w3 ⟨rfl, hb3⟩
            rw [G3.out]
            go_wp2_with fail
            go_roundw
            case rel => exact ⟨k + 1, by omega, by go_num, hb3, hno.succ (by rw [G1.out, G2.out, G3.out]; rfl)⟩
            case measure => simp [intOf]; omega
          | true =>
            have G3 := Lib.hid h3
            clear h3
            go_wp2_with fail
            refine (H1.out k hlt _ hb).mono ?_
            rintro e w1 ⟨rfl, hb1⟩
            rw [G1.out]
            go_wp2_with fail
            refine (H2.out k hlt _ hb1).mono ?_
            rintro e w2 ⟨rfl, hb2⟩
            rw [G2.out]
            go_wp2_with fail
            refine (H3.out k hlt _ hb2).mono ?_
            rintro e w3 ⟨rfl, hb3⟩
            rw [G3.out]
            go_wp2_with fail
            go_ret
            exact ⟨ret_b (all_hit hlt (by rw [G1.out, G2.out, G3.out]; rfl)).symm, hb3⟩
      | true =>
        have G1 := Lib.hid h1
        clear h1
        cases h2 : memL us (terms xs) k with
        | false =>
          have G2 := Lib.hid h2
          clear h2
          cases h3 : memL us (terms ys) k with
          | false =>
            have G3 := Lib.hid h3
            clear h3
            go_wp2_with fail
            refine (H1.out k hlt _ hb).mono ?_
            rintro e w1 ⟨rfl, hb1⟩
            rw [G1.out]
            go_wp2_with fail
            refine (H2.out k hlt _ hb1).mono ?_
            rintro e w2 ⟨rfl, hb2⟩
            rw [G2.out]
            go_wp2_with fail
            go_ret
            exact ⟨ret_b (all_hit hlt (by rw [G1.out, G2.out, G3.out]; rfl)).symm, hb2⟩
          | true =>
            have G3 := Lib.hid h3
            clear h3
            go_wp2_with fail
            refine (H1.out k hlt _ hb).mono ?_
            rintro e w1 ⟨rfl, hb1⟩
            rw [G1.out]
            go_wp2_with fail
            refine (H2.out k hlt _ hb1).mono ?_
            rintro e w2 ⟨rfl, hb2⟩
            rw [G2.out]
            go_wp2_with fail
            go_ret
            exact ⟨ret_b (all_hit hlt (by rw [G1.out, G2.out, G3.out]; rfl)).symm, hb2⟩
        | true =>
          have G2 := Lib.hid h2
          clear h2
          cases h3 : memL us (terms ys) k with
          | false =>
            have G3 := Lib.hid h3
            clear h3
            go_wp2_with fail
            refine (H1.out k hlt _ hb).mono ?_
            rintro e w1 ⟨rfl, hb1⟩
            rw [G1.out]
            go_wp2_with fail
            refine (H2.out k hlt _ hb1).mono ?_
            rintro e w2 ⟨rfl, hb2⟩
            rw [G2.out]
            go_wp2_with fail
            refine (H3.out k hlt _ hb2).mono ?_
            rintro e w3 ⟨rfl, hb3⟩
            rw [G3.out]
            go_wp2_with fail
            go_ret
            exact ⟨ret_b (all_hit hlt (by rw [G1.out, G2.out, G3.out]; rfl)).symm, hb3⟩
          | true =>
            have G3 := Lib.hid h3
            clear h3
            go_wp2_with fail
            refine (H1.out k hlt _ hb).mono ?_
            rintro e w1 ⟨rfl, hb1⟩
            rw [G1.out]
            go_wp2_with fail
            refine (H2.out k hlt _ hb1).mono ?_
            rintro e w2 ⟨rfl, hb2⟩
            rw [G2.out]
            go_wp2_with fail
            refine (H3.out k hlt _ hb2).mono ?_
            rintro e w3 ⟨rfl, hb3⟩
            rw [G3.out]
            go_wp2_with fail
            go_roundw
            case rel => exact ⟨k + 1, by omega, by go_num, hb3, hno.succ (by rw [G1.out, G2.out, G3.out]; rfl)⟩
            case measure => simp [intOf]; omega
    · go_wp2_with fail
      go_ret
      exact ⟨ret_b (hno.all hlt).symm, hb⟩

set_option maxHeartbeats 1000000 in
theorem disjs_any (x y : Tm) (hl : us.length ≤ 2147483647) (hw : WOk us) (hr : Rd w A (ints us)) (hx : TB us x = true) (hy : TB us y = true) :
    Calls Try.prog 50 #[.slice A us.length c, tmv x, tmv y] w fun e w' => e = .returned (.bool (disjS us (toT x) (toT y))) ∧ Below w.heap.size w w' := by
  have ht : top us ≤ 4294967296 := by unfold top; omega
  unfold disjS
  obtain ⟨w0, hw0⟩ : ∃ w0 : World, w0 = (w.alloc (.cells #[.int .i64 x.kind, .bool x.tilde, .int .i64 x.type] 29)).alloc (.cells #[.int .i64 y.kind, .bool y.tilde, .int .i64 y.type] 29) := ⟨_, rfl⟩
  have a0 : Below w.heap.size w w0 := by rw [hw0]; exact ((Below.refl _ _).alloc (Nat.le_refl _) _).alloc (by simp) _
  have b0 : Blk w0 w.heap.size 29 #[.int .i64 x.kind, .bool x.tilde, .int .i64 x.type] := by rw [hw0]; exact (Blk.new _ _ _).alloc _
  have b1 : Blk w0 (w.heap.size + 1) 29 #[.int .i64 y.kind, .bool y.tilde, .int .i64 y.type] := by rw [hw0]; have := Blk.new (w.alloc (.cells #[.int .i64 x.kind, .bool x.tilde, .int .i64 x.type] 29)) 29 #[.int .i64 y.kind, .bool y.tilde, .int .i64 y.type]; simpa using this
  have a1 : ∀ w', Below w0.heap.size w0 w' → Below w.heap.size w w' := fun w' h => a0.trans (h.mono a0.size)
  have C1 := fun (t : Nat) (h : t < top us) w' (hb : Below w0.heap.size w0 w') => comp (in_any us A c t x w' hl hw (hr.below (a1 w' hb)) h hx) hb (Nat.le_refl _)
  have C2 := fun (t : Nat) (h : t < top us) w' (hb : Below w0.heap.size w0 w') => comp (in_any us A c t y w' hl hw (hr.below (a1 w' hb)) h hy) hb (Nat.le_refl _)
  have H1 := Lib.hid C1
  have H2 := Lib.hid C2
  have A1 := Lib.hid a1
  have B0 := Lib.hid b0
  have B1 := Lib.hid b1
  clear C1 C2 hx hr hw hy a0 a1 b0 b1
  go_enter Try.func50, Try.ntmps50
  go_wp2_with fail
  rw [← hw0]
  refine (types_any us A c _ hl).mono ?_
  rintro e w1 ⟨rfl, rfl⟩
  clear hw0
  go_wp2_with fail
  go_loopw [10] (fun i wr => ∃ k : Nat, k ≤ top us ∧ i = .int .i64 k ∧ Below w0.heap.size w0 wr ∧ NonR (fun t => mem us (toT x) t && mem us (toT y) t) k) (fun i _ => top us - (intOf i).toNat)
  case atStart => exact ⟨0, Nat.zero_le _, rfl, Below.refl _ _, NonR.zero⟩
  case round =>
    obtain ⟨k, hk, rfl, hb, hno⟩ := hrel
    obtain ⟨p0, p1, p2⟩ := (B0.out.below hb).cells3
    by_cases hlt : k < top us
    · cases h1 : mem us (toT x) k with
      | false =>
        have G1 := Lib.hid h1
        clear h1
        go_wp2_with fail
        refine (H1.out k hlt _ hb).mono ?_
        rintro e w1 ⟨rfl, hb1⟩
        rw [G1.out]
        go_wp2_with fail
        go_roundw
        case rel => exact ⟨k + 1, by omega, by go_num, hb1, hno.succ (by rw [G1.out]; rfl)⟩
        case measure => simp [intOf]; omega
      | true =>
        have G1 := Lib.hid h1
        clear h1
        cases h2 : mem us (toT y) k with
        | false =>
          have G2 := Lib.hid h2
          clear h2
          go_wp2_with fail
          refine (H1.out k hlt _ hb).mono ?_
          rintro e w1 ⟨rfl, hb1⟩
          rw [G1.out]
          obtain ⟨r0, r1, r2⟩ := (B1.out.below hb1).cells3
          go_wp2_with fail
          refine (H2.out k hlt _ hb1).mono ?_
          rintro e w2 ⟨rfl, hb2⟩
          rw [G2.out]
          go_wp2_with fail
          go_roundw
          case rel => exact ⟨k + 1, by omega, by go_num, hb2, hno.succ (by rw [G1.out, G2.out]; rfl)⟩
          case measure => simp [intOf]; omega
        | true =>
          have G2 := Lib.hid h2
          clear h2
          go_wp2_with fail
          refine (H1.out k hlt _ hb).mono ?_
          rintro e w1 ⟨rfl, hb1⟩
          rw [G1.out]
          obtain ⟨r0, r1, r2⟩ := (B1.out.below hb1).cells3
          go_wp2_with fail
          refine (H2.out k hlt _ hb1).mono ?_
          rintro e w2 ⟨rfl, hb2⟩
          rw [G2.out]
          go_wp2_with fail
          go_ret
          exact ⟨ret_b (all_hit hlt (by rw [G1.out, G2.out]; rfl)).symm, A1.out _ hb2⟩
    · go_wp2_with fail
      go_ret
      exact ⟨ret_b (hno.all hlt).symm, A1.out _ hb⟩
end
end Go.Proofs.Ytehadfnaknpagaa
