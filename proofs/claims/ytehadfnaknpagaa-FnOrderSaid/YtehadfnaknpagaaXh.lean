/-
  THE LAWS' FRAME, SIXTH PART: appends of parts of a list that came in, as run equations (FnOrder). Conditions: those that each lemma names.
-/
import Derived.Test.YtehadfnaknpagaaXg
import Derived.Laws.AppendOwnNone
import Derived.Deep.Upon
namespace Go.Proofs.Ytehadfnaknpagaa
open Go.RowKit Pl

theorem tcs_one {ts : List Tm} : ∀ u ∈ tcs ts, u.oneCell' = true := by
  intro u hu
  unfold tcs at hu
  rw [List.mem_flatMap] at hu
  obtain ⟨t, _, ht⟩ := hu
  simp at ht
  rcases ht with rfl | rfl | rfl <;> rfl
theorem tcs_app (xs ys : List Tm) : tcs (xs ++ ys) = tcs xs ++ tcs ys := by unfold tcs; rw [List.flatMap_append]
/-- a source of terms: nil with nothing, or an address with the cells -/
def Sc (w : World) (v : Value) (ts : List Tm) : Prop := (v = .slice none 0 0 ∧ ts = []) ∨ ∃ a c, v = .slice (some a) ts.length c ∧ ∀ j u, (tcs ts)[j]? = some u → w.cell? (a.add j) = some u
theorem app_own {w : World} {base n ty : Nat} {v sv : Value} {xs : List Value} {ts : List Tm} (hown : w.ownsRow base 29 3 v n xs) (hs : Sc w sv ts) (hn : n + ts.length ≤ 4294967296) (hb : base ≤ w.heap.size) :
    ∃ v' w', (Builtin.append_ #[23, 23] ty #[v, sv]).run Try.prog w = .ok v' w' ∧ w'.ownsRow base 29 3 v' (n + ts.length) (xs ++ tcs ts) ∧ w.grownBy w' v.ownBlock := by
  obtain ⟨i0, hi, hz0, hz1, hz2⟩ := info_parts Try.info29
  rcases hs with ⟨rfl, rfl⟩ | ⟨a, c, rfl, hc⟩
  · refine ⟨v, w, run_append_owned_none w base 23 ty 29 i0 3 Try.underlying23 hi v n xs hown, by simpa [tcs] using hown, ⟨rfl, rfl, rfl, Nat.le_refl _, fun _ _ _ => rfl⟩⟩
  · obtain ⟨v', w', h1, h2, h3, _⟩ := run_append_own w base 23 ty 29 i0 (.agg #[.int .i64 0, .bool false, .int .i64 0]) 3 24 Try.underlying23 hi hz0 hz1 hz2 rfl (by decide) v n xs hown a ts.length c (tcs ts) (by rw [tcs_length]) hc tcs_one (by unfold maxLen; omega) (by omega) hb
    exact ⟨v', w', h1, h2, h3⟩
theorem sc_src {w : World} {v : Value} {ts : List Tm} (h : Sc w v ts) : Src Try.prog 3 23 v ts.length (tcs ts) w := by
  rcases h with ⟨rfl, rfl⟩ | ⟨a, c, rfl, hc⟩
  · exact Src.ofNil w Try.underlying23 0
  · exact Src.ofSlice w Try.underlying23 a ts.length c (tcs ts) (by rw [tcs_length]) hc tcs_one
theorem came_own {w : World} {n g cap : Nat} {cur : Array Value} {xs : List Value} (hl : xs.length = n * 3) (hg : w.heap[g]? = some (.cells cur 29 (0, 0))) (hc : n ≤ cap) (hs : cur.size = cap * 3) (ht : cur.toList.take (n * 3) = xs) :
    Came w 3 (some ⟨g, 0, none⟩) g 0 n cap xs := by
  have hcell : ∀ j, w.cell? ⟨g, j, none⟩ = cur[j]? := fun j => cell_of_row w g j cur 29 (0, 0) hg
  refine ⟨hc, fun _ => rfl, fun _ => ?_, hl, fun j u hu => ?_, fun j hj => ⟨?_, ?_⟩⟩
  · rcases Nat.lt_or_ge g w.heap.size with h | h
    · exact h
    · rw [Array.getElem?_eq_none h] at hg; cases hg
  · rw [Nat.zero_add, hcell]
    rw [← ht, List.getElem?_take] at hu
    split at hu
    · simpa using hu
    · cases hu
  · rw [Nat.zero_add, hcell, Array.getElem?_eq_getElem (by rw [hs]; rw [Nat.sub_mul] at hj; omega)]; rfl
  · exact Blk.frozen (t := 29) (cs := cur) hg _
theorem app_keep {w : World} {base n ty : Nat} {v sv : Value} {xs : List Value} {ts : List Tm} (hown : w.ownsRow base 29 3 v n xs) (hs : Sc w sv ts) (hn : n + ts.length ≤ 4294967296) (hb : base ≤ w.heap.size) :
    ∃ v' w', (Builtin.append_ #[23, 23] ty #[v, sv]).run Try.prog w = .ok v' w' ∧ w'.ownsRow base 29 3 v' (n + ts.length) (xs ++ tcs ts) ∧ w.grownBy w' v.ownBlock ∧ (∀ A c, v = .slice A n c → Rd w' A xs) := by
  obtain ⟨i0, hi, hz0, hz1, hz2⟩ := info_parts Try.info29
  obtain ⟨v', w', h1, h2, h3⟩ := app_own (ty := ty) hown hs hn hb
  refine ⟨v', w', h1, h2, h3, fun A c hv => ?_⟩
  rcases hown.2 with ⟨hv0, hn0⟩ | ⟨g, cap, cur, hv0, hbg, hg, hnc, hcm, hsz, htake⟩
  · intro hne
    have := hown.1
    rw [hn0] at this
    exact absurd (List.eq_nil_of_length_eq_zero (by omega)) hne
  · rw [hv0] at hv
    obtain ⟨rfl, _, _⟩ := Value.slice.inj hv
    have hc := came_own hown.1 hg hnc hsz htake
    obtain ⟨v2, w2, hr, hu⟩ := run_append_upon (P := Try.prog) hc 23 23 ty i0 (.agg #[.int .i64 0, .bool false, .int .i64 0]) 24 Try.underlying23 hi hz0 hz1 hz2 rfl (Upon.start (e := 29) hc) sv ts.length (tcs ts) (sc_src hs) (by unfold maxLen; omega) (by omega)
    rw [hv0, hr] at h1
    obtain ⟨rfl, rfl⟩ : v2 = v' ∧ w2 = w' := by cases h1; exact ⟨rfl, rfl⟩
    intro _
    refine ⟨g, 0, rfl, fun j u hj => ?_⟩
    have hlt : j < n * 3 := by
      have := (List.getElem?_eq_some_iff.1 hj).1
      have := hown.1
      omega
    rw [hu.old (hc.lt (by omega)) (fun j' _ h => by omega)]
    exact hc.olds j u hj
end Go.Proofs.Ytehadfnaknpagaa
