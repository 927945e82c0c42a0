/-
  THE WALKS, SEVENTH PART: the package's terms: subsetOf, equal, intersect, union.
-/
import Derived.Test.YtehadfnaknpagaaWf
namespace Go.Proofs.Ytehadfnaknpagaa
open Go.RowKit Pl

/-- a term comes back: one of the two that came in, or none -/
def RetT (us : List Int) (K : Nat → Nat) (w : World) (v : Value) (x : T) (u : Value) (y : T) (z : T) (e : Ending) (w' : World) : Prop :=
  ∃ a, e = .returned a ∧ (∀ w0, PT w0 us K v x → PT w0 us K u y → PT w0 us K a z) ∧ Dr w w'
def RetTT (us : List Int) (K : Nat → Nat) (w : World) (v : Value) (x : T) (u : Value) (y : T) (z : T × T) (e : Ending) (w' : World) : Prop :=
  ∃ a b, e = .returned (.tuple #[a, b]) ∧ (∀ w0, PT w0 us K v x → PT w0 us K u y → PT w0 us K a z.1 ∧ PT w0 us K b z.2) ∧ Dr w w'

theorem eql_nil_ptr {P : Program} (w : World) (tp te : TypeId) (hp : P.underlying tp = some (.pointer te)) (a : Addr) :
    (binOp .eql tp (.pointer none) (.pointer (some a))).run P w = .ok (.bool false) w := by
  have h : ∀ d : Nat, (Op.equalIn (d + 1) tp (.pointer none) (.pointer (some a))).run P w = .ok false w := fun d => by
    simp [Op.equalIn, run_underlying hp]
  simp only [binOp]
  simp [Op.equal, Op.maxDepth, h 9999]

section
variable (us : List Int) (K : Nat → Nat) (w : World)

set_option maxHeartbeats 1000000 in
theorem sub_any (v u : Value) (x y : T) (hk : Kn w us K) (hw : WOk us) (hx : PT w us K v x) (hy : PT w us K u y) :
    Calls Try.prog 93 #[v, u] w fun e w' => e = .returned (.bool (sub1 us x y)) ∧ Dr w w' := by
  cases x with
  | no =>
    cases y with
    | no =>
      obtain rfl := hx
      obtain rfl := hy
      clear hk hw
      go_enter Try.func93, Try.ntmps93
      go_wp2_with fail
      go_ret
      exact ⟨rfl, Dr.refl _⟩
    | all =>
      obtain rfl := hx
      obtain ⟨h, r, rfl, hh⟩ := hy
      obtain ⟨b0, b1⟩ := hh.cells2
      clear hk hw hh
      go_enter Try.func93, Try.ntmps93
      go_wp2_with fail
      go_ret
      exact ⟨rfl, Dr.refl _⟩
    | one c m =>
      obtain rfl := hx
      obtain ⟨hm', h, rfl, hh⟩ := hy
      obtain ⟨b0, b1⟩ := hh.cells2
      clear hk hw hh
      go_enter Try.func93, Try.ntmps93
      go_wp2_with fail
      go_ret
      exact ⟨rfl, Dr.refl _⟩
  | all =>
    cases y with
    | no =>
      obtain ⟨g, s, rfl, hg⟩ := hx
      obtain ⟨a0, a1⟩ := hg.cells2
      obtain rfl := hy
      clear hk hw hg
      go_enter Try.func93, Try.ntmps93
      go_wp2_with fail
      go_ret
      exact ⟨rfl, Dr.refl _⟩
    | all =>
      obtain ⟨g, s, rfl, hg⟩ := hx
      obtain ⟨a0, a1⟩ := hg.cells2
      obtain ⟨h, r, rfl, hh⟩ := hy
      obtain ⟨b0, b1⟩ := hh.cells2
      clear hk hw hg hh
      go_enter Try.func93, Try.ntmps93
      go_wp2_with fail
      go_ret
      exact ⟨rfl, Dr.refl _⟩
    | one c m =>
      obtain ⟨g, s, rfl, hg⟩ := hx
      obtain ⟨a0, a1⟩ := hg.cells2
      obtain ⟨hm', h, rfl, hh⟩ := hy
      obtain ⟨b0, b1⟩ := hh.cells2
      clear hk hw hg hh
      go_enter Try.func93, Try.ntmps93
      go_wp2_with fail
      go_ret
      exact ⟨rfl, Dr.refl _⟩
  | one b n =>
    cases y with
    | no =>
      obtain ⟨hn', g, rfl, hg⟩ := hx
      obtain ⟨a0, a1⟩ := hg.cells2
      obtain rfl := hy
      clear hk hw hg
      go_enter Try.func93, Try.ntmps93
      go_wp2_with fail
      go_ret
      exact ⟨rfl, Dr.refl _⟩
    | all =>
      obtain ⟨hn', g, rfl, hg⟩ := hx
      obtain ⟨a0, a1⟩ := hg.cells2
      obtain ⟨h, r, rfl, hh⟩ := hy
      obtain ⟨b0, b1⟩ := hh.cells2
      clear hk hw hg hh
      go_enter Try.func93, Try.ntmps93
      go_wp2_with fail
      go_ret
      exact ⟨rfl, Dr.refl _⟩
    | one c m =>
      have hD := disj_any us K w v u b c n m hk hw hx hy
      have HD := Lib.hid hD
      obtain ⟨hn', g, rfl, hg⟩ := hx
      obtain ⟨hm', h, rfl, hh⟩ := hy
      have Gg := Lib.hid hg
      have Gh := Lib.hid hh
      obtain ⟨a0, a1⟩ := hg.cells2
      obtain ⟨b0, b1⟩ := hh.cells2
      clear hD hg hh hk hw
      cases hd : disj us (.one b n) (.one c m) with
      | true =>
        have Hd := Lib.hid hd
        clear hd
        go_enter Try.func93, Try.ntmps93
        go_wp2_with fail
        refine HD.out.mono ?_
        rintro e w1 ⟨rfl, hdr⟩
        rw [Hd.out]
        go_wp2_with fail
        go_ret
        exact ⟨ret_b (by simp [sub1, Hd.out]), hdr⟩
      | false =>
        have Hd := Lib.hid hd
        clear hd
        cases b <;> cases c
        · go_enter Try.func93, Try.ntmps93
          go_wp2_with fail
          refine HD.out.mono ?_
          rintro e w1 ⟨rfl, hdr⟩
          rw [Hd.out]
          obtain ⟨c0, c1⟩ := (Gg.out.dr hdr).cells2
          obtain ⟨d0, d1⟩ := (Gh.out.dr hdr).cells2
          go_wp2_with fail
          go_ret
          exact ⟨ret_b (by simp [sub1, Hd.out]), hdr⟩
        · go_enter Try.func93, Try.ntmps93
          go_wp2_with fail
          refine HD.out.mono ?_
          rintro e w1 ⟨rfl, hdr⟩
          rw [Hd.out]
          obtain ⟨c0, c1⟩ := (Gg.out.dr hdr).cells2
          obtain ⟨d0, d1⟩ := (Gh.out.dr hdr).cells2
          go_wp2_with fail
          go_ret
          exact ⟨ret_b (by simp [sub1, Hd.out]), hdr⟩
        · go_enter Try.func93, Try.ntmps93
          go_wp2_with fail
          refine HD.out.mono ?_
          rintro e w1 ⟨rfl, hdr⟩
          rw [Hd.out]
          obtain ⟨c0, c1⟩ := (Gg.out.dr hdr).cells2
          obtain ⟨d0, d1⟩ := (Gh.out.dr hdr).cells2
          go_wp2_with fail
          go_ret
          exact ⟨ret_b (by simp [sub1, Hd.out]), hdr⟩
        · go_enter Try.func93, Try.ntmps93
          go_wp2_with fail
          refine HD.out.mono ?_
          rintro e w1 ⟨rfl, hdr⟩
          rw [Hd.out]
          obtain ⟨c0, c1⟩ := (Gg.out.dr hdr).cells2
          obtain ⟨d0, d1⟩ := (Gh.out.dr hdr).cells2
          go_wp2_with fail
          go_ret
          exact ⟨ret_b (by simp [sub1, Hd.out]), hdr⟩

set_option maxHeartbeats 1000000 in
theorem eq_any (v u : Value) (x y : T) (hk : Kn w us K) (hx : PT w us K v x) (hy : PT w us K u y) :
    Calls Try.prog 89 #[v, u] w fun e w' => e = .returned (.bool (eq1 x y)) ∧ Dr w w' := by
  cases x with
  | no =>
    cases y with
    | no =>
      obtain rfl := hx
      obtain rfl := hy
      clear hk
      have e1 := fun (w : World) => eql_nil_ptr (P := Try.prog) w 69 85 Try.underlying69
      have e2 := fun (w : World) => eql_nil_ptr (P := Try.prog) w 72 83 Try.underlying72
      go_enter Try.func89, Try.ntmps89
      go_wp2_with fail
      go_ret
      exact ⟨rfl, Dr.refl _⟩
    | all =>
      obtain rfl := hx
      obtain ⟨h, r, rfl, hh⟩ := hy
      obtain ⟨b0, b1⟩ := hh.cells2
      clear hk hh
      have e1 := fun (w : World) => eql_nil_ptr (P := Try.prog) w 69 85 Try.underlying69
      have e2 := fun (w : World) => eql_nil_ptr (P := Try.prog) w 72 83 Try.underlying72
      go_enter Try.func89, Try.ntmps89
      go_wp2_with fail
      go_ret
      exact ⟨rfl, Dr.refl _⟩
    | one c m =>
      obtain rfl := hx
      obtain ⟨hm', h, rfl, hh⟩ := hy
      obtain ⟨b0, b1⟩ := hh.cells2
      clear hk hh
      have e1 := fun (w : World) => eql_nil_ptr (P := Try.prog) w 69 85 Try.underlying69
      have e2 := fun (w : World) => eql_nil_ptr (P := Try.prog) w 72 83 Try.underlying72
      go_enter Try.func89, Try.ntmps89
      go_wp2_with fail
      go_ret
      exact ⟨rfl, Dr.refl _⟩
  | all =>
    cases y with
    | no =>
      obtain ⟨g, s, rfl, hg⟩ := hx
      obtain ⟨a0, a1⟩ := hg.cells2
      obtain rfl := hy
      clear hk hg
      have e1 := fun (w : World) => eql_nil_ptr (P := Try.prog) w 69 85 Try.underlying69
      have e2 := fun (w : World) => eql_nil_ptr (P := Try.prog) w 72 83 Try.underlying72
      go_enter Try.func89, Try.ntmps89
      go_wp2_with fail
      go_ret
      exact ⟨rfl, Dr.refl _⟩
    | all =>
      obtain ⟨g, s, rfl, hg⟩ := hx
      obtain ⟨a0, a1⟩ := hg.cells2
      obtain ⟨h, r, rfl, hh⟩ := hy
      obtain ⟨b0, b1⟩ := hh.cells2
      clear hk hg hh
      have e1 := fun (w : World) => eql_nil_ptr (P := Try.prog) w 69 85 Try.underlying69
      have e2 := fun (w : World) => eql_nil_ptr (P := Try.prog) w 72 83 Try.underlying72
      go_enter Try.func89, Try.ntmps89
      go_wp2_with fail
      go_quiet (fail)
      go_wp2_with fail
      go_ret
      exact ⟨rfl, Dr.mk _ _⟩
    | one c m =>
      obtain ⟨g, s, rfl, hg⟩ := hx
      obtain ⟨a0, a1⟩ := hg.cells2
      obtain ⟨hm', h, rfl, hh⟩ := hy
      obtain ⟨b0, b1⟩ := hh.cells2
      clear hk hg hh
      have e1 := fun (w : World) => eql_nil_ptr (P := Try.prog) w 69 85 Try.underlying69
      have e2 := fun (w : World) => eql_nil_ptr (P := Try.prog) w 72 83 Try.underlying72
      go_enter Try.func89, Try.ntmps89
      go_wp2_with fail
      go_quiet (fail)
      go_wp2_with fail
      go_ret
      exact ⟨rfl, Dr.mk _ _⟩
  | one b n =>
    cases y with
    | no =>
      obtain ⟨hn', g, rfl, hg⟩ := hx
      obtain ⟨a0, a1⟩ := hg.cells2
      obtain rfl := hy
      clear hk hg
      have e1 := fun (w : World) => eql_nil_ptr (P := Try.prog) w 69 85 Try.underlying69
      have e2 := fun (w : World) => eql_nil_ptr (P := Try.prog) w 72 83 Try.underlying72
      go_enter Try.func89, Try.ntmps89
      go_wp2_with fail
      go_ret
      exact ⟨rfl, Dr.refl _⟩
    | all =>
      obtain ⟨hn', g, rfl, hg⟩ := hx
      obtain ⟨a0, a1⟩ := hg.cells2
      obtain ⟨h, r, rfl, hh⟩ := hy
      obtain ⟨b0, b1⟩ := hh.cells2
      clear hk hg hh
      have e1 := fun (w : World) => eql_nil_ptr (P := Try.prog) w 69 85 Try.underlying69
      have e2 := fun (w : World) => eql_nil_ptr (P := Try.prog) w 72 83 Try.underlying72
      go_enter Try.func89, Try.ntmps89
      go_wp2_with fail
      go_quiet (fail)
      go_wp2_with fail
      go_ret
      exact ⟨rfl, Dr.mk _ _⟩
    | one c m =>
      obtain ⟨hn', g, rfl, hg⟩ := hx
      obtain ⟨hm', h, rfl, hh⟩ := hy
      obtain ⟨a0, a1⟩ := hg.cells2
      obtain ⟨b0, b1⟩ := hh.cells2
      have I := fun w' (hd : Dr w w') => ident_any n m _ _ _ _ w' ((hk n hn').dr hd) ((hk m hm').dr hd)
      have HI := Lib.hid I
      clear I hg hh hk
      by_cases hbc : b = c
      · subst hbc
        have hbb : (b == b) = true := by simp
        go_enter Try.func89, Try.ntmps89
        go_wp2_with fail
        go_quiet ((go_at_call 100; exact Calls.quiet_of (HI.out _ (Dr.mk _ _))))
        go_wp2_with fail
        go_ret
        exact ⟨ret_b (by simp [eq1]), Dr.mk _ _⟩
      · have hbb : (b == c) = false := by simpa using hbc
        go_enter Try.func89, Try.ntmps89
        go_wp2_with fail
        go_quiet (fail)
        go_wp2_with fail
        go_ret
        exact ⟨ret_b (by simp [eq1, hbb]), Dr.mk _ _⟩

set_option maxHeartbeats 1000000 in
theorem inter_any (v u : Value) (x y : T) (hk : Kn w us K) (hw : WOk us) (hx : PT w us K v x) (hy : PT w us K u y) :
    Calls Try.prog 96 #[v, u] w (RetT us K w v x u y (inter1 us x y)) := by
  cases x with
  | no =>
    cases y with
    | no =>
      obtain rfl := hx
      obtain rfl := hy
      clear hk hw
      go_enter Try.func96, Try.ntmps96
      go_wp2_with fail
      go_ret
      exact ⟨_, rfl, fun _ _ _ => rfl, Dr.refl _⟩
    | all =>
      obtain rfl := hx
      obtain ⟨h, r, rfl, hh⟩ := hy
      obtain ⟨b0, b1⟩ := hh.cells2
      clear hk hw hh
      go_enter Try.func96, Try.ntmps96
      go_wp2_with fail
      go_ret
      exact ⟨_, rfl, fun _ _ _ => rfl, Dr.refl _⟩
    | one c m =>
      obtain rfl := hx
      obtain ⟨hm', h, rfl, hh⟩ := hy
      obtain ⟨b0, b1⟩ := hh.cells2
      clear hk hw hh
      go_enter Try.func96, Try.ntmps96
      go_wp2_with fail
      go_ret
      exact ⟨_, rfl, fun _ _ _ => rfl, Dr.refl _⟩
  | all =>
    cases y with
    | no =>
      obtain ⟨g, s, rfl, hg⟩ := hx
      obtain ⟨a0, a1⟩ := hg.cells2
      obtain rfl := hy
      clear hk hw hg
      go_enter Try.func96, Try.ntmps96
      go_wp2_with fail
      go_ret
      exact ⟨_, rfl, fun _ _ _ => rfl, Dr.refl _⟩
    | all =>
      obtain ⟨g, s, rfl, hg⟩ := hx
      obtain ⟨a0, a1⟩ := hg.cells2
      obtain ⟨h, r, rfl, hh⟩ := hy
      obtain ⟨b0, b1⟩ := hh.cells2
      clear hk hw hg hh
      go_enter Try.func96, Try.ntmps96
      go_wp2_with fail
      go_ret
      exact ⟨_, rfl, fun _ _ h => h, Dr.refl _⟩
    | one c m =>
      obtain ⟨g, s, rfl, hg⟩ := hx
      obtain ⟨a0, a1⟩ := hg.cells2
      obtain ⟨hm', h, rfl, hh⟩ := hy
      obtain ⟨b0, b1⟩ := hh.cells2
      clear hk hw hg hh
      go_enter Try.func96, Try.ntmps96
      go_wp2_with fail
      go_ret
      exact ⟨_, rfl, fun _ _ h => h, Dr.refl _⟩
  | one b n =>
    cases y with
    | no =>
      obtain ⟨hn', g, rfl, hg⟩ := hx
      obtain ⟨a0, a1⟩ := hg.cells2
      obtain rfl := hy
      clear hk hw hg
      go_enter Try.func96, Try.ntmps96
      go_wp2_with fail
      go_ret
      exact ⟨_, rfl, fun _ _ _ => rfl, Dr.refl _⟩
    | all =>
      obtain ⟨hn', g, rfl, hg⟩ := hx
      obtain ⟨a0, a1⟩ := hg.cells2
      obtain ⟨h, r, rfl, hh⟩ := hy
      obtain ⟨b0, b1⟩ := hh.cells2
      clear hk hw hg hh
      go_enter Try.func96, Try.ntmps96
      go_wp2_with fail
      go_ret
      exact ⟨_, rfl, fun _ h _ => h, Dr.refl _⟩
    | one c m =>
      have hD := disj_any us K w v u b c n m hk hw hx hy
      have HD := Lib.hid hD
      obtain ⟨hn', g, rfl, hg⟩ := hx
      obtain ⟨hm', h, rfl, hh⟩ := hy
      have Gg := Lib.hid hg
      have Gh := Lib.hid hh
      obtain ⟨a0, a1⟩ := hg.cells2
      obtain ⟨b0, b1⟩ := hh.cells2
      clear hD hg hh hk hw
      cases hd : disj us (.one b n) (.one c m) with
      | true =>
        have Hd := Lib.hid hd
        clear hd
        go_enter Try.func96, Try.ntmps96
        go_wp2_with fail
        refine HD.out.mono ?_
        rintro e w1 ⟨rfl, hdr⟩
        rw [Hd.out]
        go_wp2_with fail
        go_ret
        exact ⟨_, rfl, (by intro w0 h1 h2; simp only [inter1, Hd.out, if_true]; exact rfl), hdr⟩
      | false =>
        have Hd := Lib.hid hd
        clear hd
        cases b <;> cases c
        · go_enter Try.func96, Try.ntmps96
          go_wp2_with fail
          refine HD.out.mono ?_
          rintro e w1 ⟨rfl, hdr⟩
          rw [Hd.out]
          obtain ⟨c0, c1⟩ := (Gg.out.dr hdr).cells2
          obtain ⟨d0, d1⟩ := (Gh.out.dr hdr).cells2
          go_wp2_with fail
          go_ret
          exact ⟨_, rfl, (by intro w0 h1 h2; simp only [inter1, Hd.out]; exact h1), hdr⟩
        · go_enter Try.func96, Try.ntmps96
          go_wp2_with fail
          refine HD.out.mono ?_
          rintro e w1 ⟨rfl, hdr⟩
          rw [Hd.out]
          obtain ⟨c0, c1⟩ := (Gg.out.dr hdr).cells2
          obtain ⟨d0, d1⟩ := (Gh.out.dr hdr).cells2
          go_wp2_with fail
          go_ret
          exact ⟨_, rfl, (by intro w0 h1 h2; simp only [inter1, Hd.out]; exact h1), hdr⟩
        · go_enter Try.func96, Try.ntmps96
          go_wp2_with fail
          refine HD.out.mono ?_
          rintro e w1 ⟨rfl, hdr⟩
          rw [Hd.out]
          obtain ⟨c0, c1⟩ := (Gg.out.dr hdr).cells2
          obtain ⟨d0, d1⟩ := (Gh.out.dr hdr).cells2
          go_wp2_with fail
          go_ret
          exact ⟨_, rfl, (by intro w0 h1 h2; simp only [inter1, Hd.out]; exact h2), hdr⟩
        · go_enter Try.func96, Try.ntmps96
          go_wp2_with fail
          refine HD.out.mono ?_
          rintro e w1 ⟨rfl, hdr⟩
          rw [Hd.out]
          obtain ⟨c0, c1⟩ := (Gg.out.dr hdr).cells2
          obtain ⟨d0, d1⟩ := (Gh.out.dr hdr).cells2
          go_wp2_with fail
          go_ret
          exact ⟨_, rfl, (by intro w0 h1 h2; simp only [inter1, Hd.out]; exact h1), hdr⟩

set_option maxHeartbeats 1000000 in
theorem union_any (v u : Value) (x y : T) (hk : Kn w us K) (hw : WOk us) (hx : PT w us K v x) (hy : PT w us K u y) :
    Calls Try.prog 97 #[v, u] w (RetTT us K w v x u y (union1 us x y)) := by
  cases x with
  | no =>
    cases y with
    | no =>
      obtain rfl := hx
      obtain rfl := hy
      clear hk hw
      go_enter Try.func97, Try.ntmps97
      go_wp2_with fail
      go_ret2
      exact ⟨_, _, rfl, (fun _ _ _ => ⟨rfl, rfl⟩), Dr.refl _⟩
    | all =>
      obtain rfl := hx
      obtain ⟨h, r, rfl, hh⟩ := hy
      obtain ⟨b0, b1⟩ := hh.cells2
      clear hk hw hh
      go_enter Try.func97, Try.ntmps97
      go_wp2_with fail
      go_ret2
      exact ⟨_, _, rfl, (fun _ _ h2 => ⟨h2, rfl⟩), Dr.refl _⟩
    | one c m =>
      obtain rfl := hx
      obtain ⟨hm', h, rfl, hh⟩ := hy
      obtain ⟨b0, b1⟩ := hh.cells2
      clear hk hw hh
      go_enter Try.func97, Try.ntmps97
      go_wp2_with fail
      go_ret2
      exact ⟨_, _, rfl, (fun _ _ h2 => ⟨h2, rfl⟩), Dr.refl _⟩
  | all =>
    cases y with
    | no =>
      obtain ⟨g, s, rfl, hg⟩ := hx
      obtain ⟨a0, a1⟩ := hg.cells2
      obtain rfl := hy
      clear hk hw hg
      go_enter Try.func97, Try.ntmps97
      go_wp2_with fail
      go_ret2
      exact ⟨_, _, rfl, (fun _ h1 _ => ⟨h1, rfl⟩), Dr.refl _⟩
    | all =>
      obtain ⟨g, s, rfl, hg⟩ := hx
      obtain ⟨a0, a1⟩ := hg.cells2
      obtain ⟨h, r, rfl, hh⟩ := hy
      obtain ⟨b0, b1⟩ := hh.cells2
      clear hk hw hg hh
      go_enter Try.func97, Try.ntmps97
      go_wp2_with fail
      go_ret2
      exact ⟨_, _, rfl, (fun _ h1 _ => ⟨h1, rfl⟩), Dr.refl _⟩
    | one c m =>
      obtain ⟨g, s, rfl, hg⟩ := hx
      obtain ⟨a0, a1⟩ := hg.cells2
      obtain ⟨hm', h, rfl, hh⟩ := hy
      obtain ⟨b0, b1⟩ := hh.cells2
      clear hk hw hg hh
      go_enter Try.func97, Try.ntmps97
      go_wp2_with fail
      go_ret2
      exact ⟨_, _, rfl, (fun _ h1 _ => ⟨h1, rfl⟩), Dr.refl _⟩
  | one b n =>
    cases y with
    | no =>
      obtain ⟨hn', g, rfl, hg⟩ := hx
      obtain ⟨a0, a1⟩ := hg.cells2
      obtain rfl := hy
      clear hk hw hg
      go_enter Try.func97, Try.ntmps97
      go_wp2_with fail
      go_ret2
      exact ⟨_, _, rfl, (fun _ h1 _ => ⟨h1, rfl⟩), Dr.refl _⟩
    | all =>
      obtain ⟨hn', g, rfl, hg⟩ := hx
      obtain ⟨a0, a1⟩ := hg.cells2
      obtain ⟨h, r, rfl, hh⟩ := hy
      obtain ⟨b0, b1⟩ := hh.cells2
      clear hk hw hg hh
      go_enter Try.func97, Try.ntmps97
      go_wp2_with fail
      go_ret2
      exact ⟨_, _, rfl, (fun _ _ h2 => ⟨h2, rfl⟩), Dr.refl _⟩
    | one c m =>
      have hD := disj_any us K w v u b c n m hk hw hx hy
      have HD := Lib.hid hD
      obtain ⟨hn', g, rfl, hg⟩ := hx
      obtain ⟨hm', h, rfl, hh⟩ := hy
      have Gg := Lib.hid hg
      have Gh := Lib.hid hh
      obtain ⟨a0, a1⟩ := hg.cells2
      obtain ⟨b0, b1⟩ := hh.cells2
      clear hD hg hh hk hw
      cases hd : disj us (.one b n) (.one c m) with
      | true =>
        have Hd := Lib.hid hd
        clear hd
        go_enter Try.func97, Try.ntmps97
        go_wp2_with fail
        refine HD.out.mono ?_
        rintro e w1 ⟨rfl, hdr⟩
        rw [Hd.out]
        go_wp2_with fail
        go_ret2
        exact ⟨_, _, rfl, (by intro w0 h1 h2; simp only [union1, Hd.out, if_true]; exact ⟨h1, h2⟩), hdr⟩
      | false =>
        have Hd := Lib.hid hd
        clear hd
        cases b <;> cases c
        · go_enter Try.func97, Try.ntmps97
          go_wp2_with fail
          refine HD.out.mono ?_
          rintro e w1 ⟨rfl, hdr⟩
          rw [Hd.out]
          obtain ⟨c0, c1⟩ := (Gg.out.dr hdr).cells2
          obtain ⟨d0, d1⟩ := (Gh.out.dr hdr).cells2
          go_wp2_with fail
          go_ret2
          exact ⟨_, _, rfl, (by intro w0 h1 h2; simp only [union1, Hd.out]; exact ⟨h1, rfl⟩), hdr⟩
        · go_enter Try.func97, Try.ntmps97
          go_wp2_with fail
          refine HD.out.mono ?_
          rintro e w1 ⟨rfl, hdr⟩
          rw [Hd.out]
          obtain ⟨c0, c1⟩ := (Gg.out.dr hdr).cells2
          obtain ⟨d0, d1⟩ := (Gh.out.dr hdr).cells2
          go_wp2_with fail
          go_ret2
          exact ⟨_, _, rfl, (by intro w0 h1 h2; simp only [union1, Hd.out]; exact ⟨h2, rfl⟩), hdr⟩
        · go_enter Try.func97, Try.ntmps97
          go_wp2_with fail
          refine HD.out.mono ?_
          rintro e w1 ⟨rfl, hdr⟩
          rw [Hd.out]
          obtain ⟨c0, c1⟩ := (Gg.out.dr hdr).cells2
          obtain ⟨d0, d1⟩ := (Gh.out.dr hdr).cells2
          go_wp2_with fail
          go_ret2
          exact ⟨_, _, rfl, (by intro w0 h1 h2; simp only [union1, Hd.out]; exact ⟨h1, rfl⟩), hdr⟩
        · go_enter Try.func97, Try.ntmps97
          go_wp2_with fail
          refine HD.out.mono ?_
          rintro e w1 ⟨rfl, hdr⟩
          rw [Hd.out]
          obtain ⟨c0, c1⟩ := (Gg.out.dr hdr).cells2
          obtain ⟨d0, d1⟩ := (Gh.out.dr hdr).cells2
          go_wp2_with fail
          go_ret2
          exact ⟨_, _, rfl, (by intro w0 h1 h2; simp only [union1, Hd.out]; exact ⟨h1, rfl⟩), hdr⟩

end
end Go.Proofs.Ytehadfnaknpagaa
