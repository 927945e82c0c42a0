/-
  THE WALKS, TENTH PART: lists of pointers to terms: ins, outs.
-/
import Derived.Test.YtehadfnaknpagaaWi
namespace Go.Proofs.Ytehadfnaknpagaa
open Go.RowKit Pl

theorem own_below {w w' : World} {base : Nat} {e : TypeId} {size n : Nat} {v : Value} {xs : List Value} (h : w.ownsRow base e size v n xs) (hb : Below w.heap.size w w') : w'.ownsRow base e size v n xs := by
  refine ⟨h.1, ?_⟩
  rcases h.2 with hn | ⟨g, cap, cur, rfl, hbg, hg, rest⟩
  · exact .inl hn
  · exact .inr ⟨g, cap, cur, rfl, hbg, (hb.block g (Array.getElem?_eq_some_iff.1 hg).1).trans hg, rest⟩
theorem own_ne {w : World} {base : Nat} {e t : TypeId} {size n g : Nat} {v : Value} {xs : List Value} {cs : Array Value} (h : w.ownsRow base e size v n xs) (hg : Blk w g t cs) (hne : e ≠ t) : some g ≠ v.ownBlock := by
  rcases h.2 with ⟨rfl, _⟩ | ⟨g', cap, cur, rfl, _, hh, _⟩
  · simp [Value.ownBlock]
  · intro he
    have : g = g' := by simpa [Value.ownBlock] using he
    subst this
    unfold Blk at hg
    rw [hh] at hg
    injection hg with hg
    injection hg with _ ht
    exact hne ht
theorem Blk.grown {w w' : World} {row : Option Nat} {g : Nat} {t : TypeId} {cs : Array Value} (h : Blk w g t cs) (hb : w.grownBy w' row) (hg : some g ≠ row) : Blk w' g t cs := (hb.block g h.lt hg).trans h

theorem PT.ptr {w : World} {us : List Int} {K : Nat → Nat} {v : Value} {x : T} (h : PT w us K v x) : ∃ a, v = .pointer a := by
  cases x with
  | no => exact ⟨_, h⟩
  | all => obtain ⟨g, tl, hv, _⟩ := h; exact ⟨_, hv⟩
  | one b n => obtain ⟨_, g, hv, _⟩ := h; exact ⟨_, hv⟩
theorem PT.grown {w w' : World} {us : List Int} {K : Nat → Nat} {v : Value} {x : T} {row : Option Nat} (h : PT w us K v x) (hb : w.grownBy w' row) (hne : ∀ g cs, Blk w g 85 cs → some g ≠ row) : PT w' us K v x := by
  cases x with
  | no => exact h
  | all => obtain ⟨g, tl, hv, hg⟩ := h; exact ⟨g, tl, hv, hg.grown hb (hne _ _ hg)⟩
  | one b n => obtain ⟨hn, g, hv, hg⟩ := h; exact ⟨hn, g, hv, hg.grown hb (hne _ _ hg)⟩
theorem Kn.grown {w w' : World} {us : List Int} {K : Nat → Nat} {row : Option Nat} (h : Kn w us K) (hb : w.grownBy w' row) (hne : ∀ g cs, Blk w g 83 cs → some g ≠ row) : Kn w' us K := fun i hi => (h i hi).grown hb (hne _ _ (h i hi))

/-- values that point to terms -/
structure TLs (w : World) (us : List Int) (K : Nat → Nat) (vs : List Value) (xs : List T) : Prop where
  len : vs.length = xs.length
  pt : ∀ i (h : i < xs.length), ∃ v, vs[i]? = some v ∧ PT w us K v xs[i]
theorem TLs.nil (w : World) (us : List Int) (K : Nat → Nat) : TLs w us K [] [] := ⟨rfl, fun i h => absurd h (by simp)⟩
theorem TLs.below {w w' : World} {us : List Int} {K : Nat → Nat} {vs : List Value} {xs : List T} (h : TLs w us K vs xs) (hb : Below w.heap.size w w') : TLs w' us K vs xs :=
  ⟨h.len, fun i hi => by obtain ⟨v, h1, h2⟩ := h.pt i hi; exact ⟨v, h1, h2.below hb⟩⟩
theorem TLs.grown {w w' : World} {us : List Int} {K : Nat → Nat} {vs : List Value} {xs : List T} {row : Option Nat} (h : TLs w us K vs xs) (hb : w.grownBy w' row) (hne : ∀ g cs, Blk w g 85 cs → some g ≠ row) : TLs w' us K vs xs :=
  ⟨h.len, fun i hi => by obtain ⟨v, h1, h2⟩ := h.pt i hi; exact ⟨v, h1, h2.grown hb hne⟩⟩
theorem TLs.append {w : World} {us : List Int} {K : Nat → Nat} {vs vs' : List Value} {xs xs' : List T} (h : TLs w us K vs xs) (h' : TLs w us K vs' xs') : TLs w us K (vs ++ vs') (xs ++ xs') := by
  refine ⟨by simp [h.len, h'.len], fun i hi => ?_⟩
  by_cases hlt : i < xs.length
  · obtain ⟨v, h1, h2⟩ := h.pt i hlt
    refine ⟨v, ?_, ?_⟩
    · rw [List.getElem?_append_left (by rw [h.len]; exact hlt)]; exact h1
    · rw [List.getElem_append_left hlt]; exact h2
  · have hi' : i - xs.length < xs'.length := by simp at hi; omega
    obtain ⟨v, h1, h2⟩ := h'.pt _ hi'
    refine ⟨v, ?_, ?_⟩
    · rw [List.getElem?_append_right (by rw [h.len]; omega), h.len]; exact h1
    · rw [List.getElem_append_right (by omega)]; exact h2
theorem TLs.one {w : World} {us : List Int} {K : Nat → Nat} {v : Value} {x : T} (h : PT w us K v x) : TLs w us K [v] [x] := by
  refine ⟨rfl, fun i hi => ?_⟩
  have : i = 0 := by simp at hi; exact hi
  subst this
  exact ⟨v, rfl, h⟩

/-- a list of pointers to terms, read through a slice -/
def TL (w : World) (us : List Int) (K : Nat → Nat) (A : Option Addr) (xs : List T) : Prop := ∃ vs, Rd w A vs ∧ TLs w us K vs xs
theorem TL.below {w w' : World} {us : List Int} {K : Nat → Nat} {A : Option Addr} {xs : List T} (h : TL w us K A xs) (hb : Below w.heap.size w w') : TL w' us K A xs := by
  obtain ⟨vs, h1, h2⟩ := h
  exact ⟨vs, h1.below hb, h2.below hb⟩
theorem TL.at_ {w : World} {us : List Int} {K : Nat → Nat} {A : Option Addr} {xs : List T} (h : TL w us K A xs) {i : Nat} (hi : i < xs.length) :
    ∃ b off v, A = some ⟨b, off, none⟩ ∧ w.cell? ⟨b, off + i, none⟩ = some v ∧ PT w us K v xs[i] := by
  obtain ⟨vs, h1, h2⟩ := h
  obtain ⟨v, hv, hp⟩ := h2.pt i hi
  obtain ⟨b, off, hA, hc⟩ := h1 (by intro e; rw [e] at hv; simp at hv)
  exact ⟨b, off, v, hA, hc i v hv, hp⟩

/-- a list of pointers to terms, built by the call itself; w0: the world in which it began -/
def Bt (w0 : World) (us : List Int) (K : Nat → Nat) (xs : List T) (v : Value) (wr : World) : Prop :=
  ∃ vs, wr.ownsRow w0.heap.size 69 1 v xs.length vs ∧ TLs wr us K vs xs ∧ Below w0.heap.size w0 wr
theorem Bt.start (w : World) (us : List Int) (K : Nat → Nat) : Bt w us K [] (.slice none 0 0) w := ⟨[], World.ownsRow_nil _ _ _ _, TLs.nil _ _ _, Below.refl _ _⟩
theorem Bt.bel {w0 wr : World} {us : List Int} {K : Nat → Nat} {xs : List T} {v : Value} (h : Bt w0 us K xs v wr) : Below w0.heap.size w0 wr := by obtain ⟨_, _, _, h⟩ := h; exact h
theorem Bt.below {w0 wr wq : World} {us : List Int} {K : Nat → Nat} {xs : List T} {v : Value} (h : Bt w0 us K xs v wr) (hb : Below wr.heap.size wr wq) : Bt w0 us K xs v wq := by
  obtain ⟨vs, h1, h2, h3⟩ := h
  exact ⟨vs, own_below h1 hb, h2.below hb, h3.trans (hb.mono h3.size)⟩
theorem Bt.own {w0 wr : World} {us : List Int} {K : Nat → Nat} {xs : List T} {v : Value} (h : Bt w0 us K xs v wr) : ∃ vs, wr.ownsRow w0.heap.size 69 1 v xs.length vs ∧ TLs wr us K vs xs := by
  obtain ⟨vs, h1, h2, _⟩ := h; exact ⟨vs, h1, h2⟩
theorem Bt.tl {w0 wr : World} {us : List Int} {K : Nat → Nat} {xs : List T} {v : Value} (h : Bt w0 us K xs v wr) : ∃ A c, v = .slice A xs.length c ∧ TL wr us K A xs := by
  obtain ⟨vs, h1, h2, _⟩ := h
  obtain ⟨A, c, hv, hr⟩ := rd_own h1
  exact ⟨A, c, hv, vs, hr, h2⟩
/-- append's step -/
theorem Bt.step {w0 wr w1 : World} {us : List Int} {K : Nat → Nat} {xs : List T} {y : T} {v v1 u : Value} {vs : List Value} (hvs : wr.ownsRow w0.heap.size 69 1 v xs.length vs) (ht : TLs wr us K vs xs) (hb : Below w0.heap.size w0 wr) (hp : PT wr us K u y)
    (hown : w1.ownsRow w0.heap.size 69 1 v1 (xs.length + 1) (vs ++ [u])) (hg : (wr.alloc (.cells #[u] 69)).grownBy w1 v.ownBlock) : Bt w0 us K (xs ++ [y]) v1 w1 := by
  have hal : ∀ o, Below wr.heap.size wr (wr.alloc o) := fun o => (Below.refl _ _).alloc (Nat.le_refl _) o
  have hne : ∀ g cs, Blk (wr.alloc (.cells #[u] 69)) g 85 cs → some g ≠ v.ownBlock := fun g cs hgb => own_ne (own_below hvs (hal _)) hgb (by decide)
  refine ⟨vs ++ [u], by simpa using hown, ?_, ?_⟩
  · exact ((ht.below (hal _)).grown hg hne).append (TLs.one ((hp.below (hal _)).grown hg hne))
  · exact (hb.alloc hb.size _).grown hg (by have := hb.size; simp; omega) (fun g hgb => (hvs.lt g hgb).1)

/-- a list of terms of the package comes back -/
def RetL (us : List Int) (K : Nat → Nat) (w : World) (xs : List T) (e : Ending) (w' : World) : Prop := ∃ v, e = .returned v ∧ Bt w us K xs v w'

theorem terms_snoc (ts : List Tm) (k : Nat) (h : k < ts.length) : terms (ts.take (k + 1)) = terms (ts.take k) ++ [toT ts[k]] := by
  unfold terms
  rw [List.take_succ_eq_append_getElem h, List.map_append]; rfl
theorem terms_take_length (ts : List Tm) (k : Nat) (h : k ≤ ts.length) : (terms (ts.take k)).length = k := by simp [terms]; omega

section
variable (us : List Int) (K : Nat → Nat) (w : World)

set_option maxHeartbeats 800000 in
theorem ins_call (W : Option Addr) (c : Nat) (D : Option Addr) (d : Nat) (ts : List Tm) (hl : us.length ≤ 2147483647) (hm : ts.length ≤ 1099511627776) (hd : Wd w us W K) (hr : Rd w D (tcs ts)) (ht : ts.all (TB us) = true) :
    Calls Try.prog 79 #[.slice W us.length c, .slice D ts.length d] w (RetL us K w (terms ts)) := by
  obtain ⟨i0, hi, hz0, hz1, hz2⟩ := info_parts Try.info69
  have C := fun (t : Tm) (h : TB us t = true) w' (hb : Below w.heap.size w w') => in_call us K w' W c t hl (hd.below hb) h
  have HC := Lib.hid C
  have Hr := Lib.hid hr
  have Ht := Lib.hid ht
  clear hr hd ht C
  go_enter Try.func79, Try.ntmps79
  go_wp2_with fail
  go_loopw [5, 10] (fun v i wr => ∃ k : Nat, k ≤ ts.length ∧ i = .int .i64 k ∧ Bt w us K (terms (ts.take k)) v wr) (fun _ i _ => ts.length - (intOf i).toNat)
  case atStart => exact ⟨0, Nat.zero_le _, rfl, Bt.start _ _ _⟩
  case round =>
    obtain ⟨k, hk, rfl, hq⟩ := hrel
    by_cases hlt : k < ts.length
    · have hbel := hq.bel
      obtain ⟨b, off, rfl, c0, c1, c2⟩ := (Hr.out.below hbel).tm hlt
      go_wp2_with fail
      refine (HC.out ts[k] ?ht _ (hbel.alloc hbel.size _)).mono ?_
      case ht => exact List.all_eq_true.1 Ht.out _ (List.getElem_mem hlt)
      rintro e w1 ⟨u, rfl, hpt, hb1⟩
      have hq1 := hq.below (((Below.refl _ _).alloc (Nat.le_refl _) _).trans (hb1.mono (by simp)))
      clear hb1 hq c0 c1 c2 hbel
      obtain ⟨vs, hown, htl⟩ := hq1.own
      have hs := hq1.bel.size
      have hbel := hq1.bel
      rw [terms_take_length ts k (by omega)] at hown
      obtain ⟨a, rfl⟩ := hpt.ptr
      have Htl := Lib.hid htl
      have Hpt := Lib.hid hpt
      have Hq1 := Lib.hid hq1
      clear htl hpt hq1
      go_wp2_with (at_builtin; refine wpList_append_own _ rfl _ _ 65 rfl w.heap.size 69 i0 (.pointer none) 1 8 Try.underlying65 hi hz0 hz1 hz2 rfl (by decide) _ _ _ rfl (hown.alloc _) ⟨w1.heap.size, 0, none⟩ 1 1 [.pointer a] rfl rfl ?c1 ?c2 ?c3 ?c4 ?c5 ?_)
      case c1 => exact news_blk (Blk.new w1 69 #[.pointer a])
      case c2 => intro u hu; simp at hu; subst hu; rfl
      case c3 => unfold maxLen; omega
      case c4 => omega
      case c5 => simp; omega
      · intro v' w2 hown' hgrow _
        have hq' := Bt.step (y := toT ts[k]) (xs := terms (ts.take k)) (by rw [terms_take_length ts k (by omega)]; exact hown) Htl.out hbel Hpt.out (by rw [terms_take_length ts k (by omega)]; exact hown') hgrow
        rw [← terms_snoc ts k hlt] at hq'
        clear hown' hgrow hown
        go_wp2_with fail
        go_roundw
        case rel => exact ⟨k + 1, by omega, by go_num, hq'⟩
        case measure => simp [intOf]; omega
    · obtain rfl : k = ts.length := by omega
      go_wp2_with fail
      go_ret
      rw [List.take_length] at hq
      exact ⟨_, rfl, hq⟩
end
end Go.Proofs.Ytehadfnaknpagaa
