/-
  SEAT b6616076a. What FnLoneWorkFinishRecordsAndAdvances (5) wants of worlds and lists: no walk.
-/
import Derived.Test.Qxb6616076aLoneFns
import Derived.Test.Qxb6616076aAdv
import Derived.Test.Qxb6616076aSameInts
import Derived.Test.Qxb6616076aCopyInts
import Derived.Test.Qxb6616076aCopy
namespace Go.Proofs.Qxb6616076a
open Go Go.RowKit
set_option linter.unusedVariables false

theorem Own.block {lo hi : Nat} {w : World} {a : Option Addr} {m cap : Nat} {nl : Bool} {xs : List Value} (h : Own lo hi w (.slice a m cap) nl xs) (hx : 0 < xs.length) :
    ∃ b, a = some ⟨b, 0, none⟩ ∧ m = xs.length ∧ nl = false ∧ lo ≤ b ∧ b < hi ∧ (∀ j, j < xs.length → w.cell? ⟨b, j, none⟩ = xs[j]?) ∧ ∀ j, w.frozen? ⟨b, j, none⟩ = false := by
  obtain ⟨a', cap', hv, hn, h0, h1⟩ := h
  simp only [Value.slice.injEq] at hv
  obtain ⟨rfl, rfl, rfl⟩ := hv
  rcases h1 with h1 | ⟨b, ha, hl, hh, hc, hf⟩
  · subst h1; simp at hx
  · exact ⟨b, ha, rfl, by rw [← hn, ha]; rfl, hl, hh, hc, hf⟩

theorem Own.set {lo hi b n cap : Nat} {w : World} {nl : Bool} {xs : List Value} (h : Own lo hi w (.slice (some ⟨b, 0, none⟩) n cap) nl xs) (i : Nat) (hi' : i < xs.length) (u : Value) :
    Own lo hi (w.setCell ⟨b, i, none⟩ u) (.slice (some ⟨b, 0, none⟩) n cap) nl (xs.set i u) ∧ Kept lo hi w (w.setCell ⟨b, i, none⟩ u) := by
  obtain ⟨b', ha, rfl, rfl, hl, hh, hc, hf⟩ := h.block (by omega)
  obtain rfl : b = b' := by simpa using ha
  refine ⟨⟨_, cap, by simp, rfl, fun h => by simp at h, .inr ⟨b, rfl, hl, hh, fun j hj => ?_, fun j => frozen_set (hf j)⟩⟩, ⟨rfl, rfl, rfl, by simp [World.setCell], fun k hk => Below.heap_setCell _ _ _ _ (by show k ≠ b; omega)⟩⟩
  have hj' : j < xs.length := by simpa using hj
  have hcj := hc j hj'
  rw [List.getElem?_eq_getElem hj'] at hcj
  rw [List.getElem?_set]
  by_cases e : i = j
  · subst e
    rw [if_pos rfl, if_pos hj']
    exact World.cell?_setCell_same w _ _ hcj
  · rw [if_neg e, List.getElem?_eq_getElem hj']
    exact off_other hcj e

theorem LW.keep {b bw bd n cw cd : Nat} {mu base : Int} {next : Nat} {W : List Int} {D : List Bool} {least : Nat} {halt : Bool} {w w' : World} (h : LW b bw bd n cw cd mu base next W D least halt w)
    {B : Nat} (hb : Below B w w') (h1 : b < B) (h2 : bw < B) (h3 : bd < B) : LW b bw bd n cw cd mu base next W D least halt w' := by
  have e : ∀ k j, k < B → w'.cell? ⟨k, j, none⟩ = w.cell? ⟨k, j, none⟩ := fun k j hk => hb.cell (p := ⟨k, j, none⟩) hk
  have f : ∀ k j, k < B → w'.frozen? ⟨k, j, none⟩ = w.frozen? ⟨k, j, none⟩ := fun k j hk => hb.frozen (p := ⟨k, j, none⟩) hk
  have z := hb.size
  exact ⟨h.n1, h.n2, h.n3, Nat.lt_of_lt_of_le h.s1 z, Nat.lt_of_lt_of_le h.s2 z, Nat.lt_of_lt_of_le h.s3 z, h.lw, h.ld, by rw [e _ _ h1]; exact h.c0, by rw [e _ _ h1]; exact h.c3, by rw [e _ _ h1]; exact h.c4, by rw [e _ _ h1]; exact h.c5, by rw [e _ _ h1]; exact h.c6, by rw [e _ _ h1]; exact h.c7, by rw [e _ _ h1]; exact h.c8,
    fun j => by rw [f _ _ h1]; exact h.fb j, fun j => by rw [f _ _ h2]; exact h.fw j, fun j => by rw [f _ _ h3]; exact h.fd j, fun j hj => by rw [e _ _ h2]; exact h.cW j hj, fun j hj => by rw [e _ _ h3]; exact h.cD j hj⟩

theorem LW.rdW {b bw bd n cw cd : Nat} {mu base : Int} {next : Nat} {W : List Int} {D : List Bool} {least : Nat} {halt : Bool} {w : World} (h : LW b bw bd n cw cd mu base next W D least halt w) :
    Rd 0 w.heap.size w (.slice (some ⟨bw, 0, none⟩) n cw) false (W.map (Value.int .i64)) := by
  refine ⟨_, cw, by simp [h.lw], rfl, fun h => by simp at h, .inr ⟨bw, 0, rfl, Nat.zero_le _, h.s2, fun j hj => ?_⟩⟩
  have hj' : j < W.length := by simpa using hj
  rw [Nat.zero_add, h.cW j (by rw [← h.lw]; exact hj')]
  simp [List.getD, hj']
theorem LW.rdD {b bw bd n cw cd : Nat} {mu base : Int} {next : Nat} {W : List Int} {D : List Bool} {least : Nat} {halt : Bool} {w : World} (h : LW b bw bd n cw cd mu base next W D least halt w) :
    Rd 0 w.heap.size w (.slice (some ⟨bd, 0, none⟩) n cd) false (D.map Value.bool) := by
  refine ⟨_, cd, by simp [h.ld], rfl, fun h => by simp at h, .inr ⟨bd, 0, rfl, Nat.zero_le _, h.s3, fun j hj => ?_⟩⟩
  have hj' : j < D.length := by simpa using hj
  rw [Nat.zero_add, h.cD j (by rw [← h.ld]; exact hj')]
  simp [List.getD, hj']

theorem Own.ints {lo hi b n cap : Nat} {w : World} {nl : Bool} {xs : List Int} (h : Own lo hi w (.slice (some ⟨b, 0, none⟩) n cap) nl (xs.map (Value.int .i64))) (j : Nat) (hj : j < xs.length) : w.cell? ⟨b, j, none⟩ = some (.int .i64 (xs.getD j 0)) := by
  obtain ⟨b', ha, _, _, _, _, hc, _⟩ := h.block (by simp; omega)
  obtain rfl : b = b' := by simpa using ha
  rw [hc j (by simpa using hj)]
  simp [List.getD, hj]
theorem Own.bools {lo hi b n cap : Nat} {w : World} {nl : Bool} {xs : List Bool} (h : Own lo hi w (.slice (some ⟨b, 0, none⟩) n cap) nl (xs.map Value.bool)) (j : Nat) (hj : j < xs.length) : w.cell? ⟨b, j, none⟩ = some (.bool (xs.getD j false)) := by
  obtain ⟨b', ha, _, _, _, _, hc, _⟩ := h.block (by simp; omega)
  obtain rfl : b = b' := by simpa using ha
  rw [hc j (by simpa using hj)]
  simp [List.getD, hj]

/-- The fresh loneWork over the two copies. -/
theorem LW.copies {w : World} {base : Int} {next least n cw cd bw bd lo m1 hi : Nat} {halt : Bool} {W : List Int} {D : List Bool} {k1 k2 : Bool} (hn : 0 < n) (lw : W.length = n) (ld : D.length = n)
    (o1 : Own lo m1 w (.slice (some ⟨bw, 0, none⟩) n cw) k1 (W.map (Value.int .i64))) (o2 : Own m1 hi w (.slice (some ⟨bd, 0, none⟩) n cd) k2 (D.map Value.bool)) (hm : m1 ≤ hi) (hhi : hi ≤ w.heap.size) :
    LW w.heap.size bw bd n cw cd 0 base next W D least halt (w.alloc (.cells #[.int .i32 0, .int .u32 0, .pointer none, .int .i64 base, .int .i64 next, .slice (some ⟨bw, 0, none⟩) n cw, .slice (some ⟨bd, 0, none⟩) n cd, .int .i64 least, .bool halt] 56)) ∧ lo ≤ bw ∧ m1 ≤ bd := by
  obtain ⟨b1, e1, _, _, p1, p2, _, f1⟩ := o1.block (by simp; omega)
  obtain ⟨b2, e2, _, _, q1, q2, _, f2⟩ := o2.block (by simp; omega)
  obtain rfl : bw = b1 := by simpa using e1
  obtain rfl : bd = b2 := by simpa using e2
  exact ⟨LW.new (by omega) (by omega) (by omega) lw ld (fun j hj => o1.ints j (by omega)) (fun j hj => o2.bools j (by omega)) f1 f2, p1, q1⟩

#print axioms LW.copies
#print axioms Own.set
end Go.Proofs.Qxb6616076a
