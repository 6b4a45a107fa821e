/-
  SEAT b6616170a. WHAT IS SAID OF A []byte IN MEMORY, with no walk in sight.
-/
import Derived.Test.Qxb6616170aProg
import Derived.WalkKit
import Derived.WalkLawsBesides
namespace Go.Proofs.Qxb6616170a
open Go Go.RowKit

/-- A byte's value. -/
abbrev byte (z : Int) : Value := .int .u8 z

/-- The slice value v reads as the bytes xs, which lie in a block from lo up to (not with) hi. -/
def Rd (lo hi : Nat) (w : World) (v : Value) (xs : List Int) : Prop :=
  ∃ a cap, v = .slice a xs.length cap ∧ (a = none → xs = [] ∧ cap = 0) ∧
    (xs = [] ∨ ∃ b off, a = some ⟨b, off, none⟩ ∧ lo ≤ b ∧ b < hi ∧ ∀ j, j < xs.length → w.cell? ⟨b, off + j, none⟩ = some (byte (xs.getD j 0)))

theorem Rd.widen {lo hi lo' hi' : Nat} {w : World} {v : Value} {xs : List Int} (h : Rd lo hi w v xs) (h1 : lo' ≤ lo) (h2 : hi ≤ hi') : Rd lo' hi' w v xs := by
  obtain ⟨a, cap, hv, h0, hx⟩ := h
  refine ⟨a, cap, hv, h0, ?_⟩
  rcases hx with hx | ⟨b, off, ha, hl, hh, hc⟩
  · exact .inl hx
  · exact .inr ⟨b, off, ha, by omega, by omega, hc⟩

theorem Rd.keep {lo hi : Nat} {w w' : World} {v : Value} {xs : List Int} (h : Rd lo hi w v xs) (hk : ∀ k, lo ≤ k → k < hi → w'.heap[k]? = w.heap[k]?) : Rd lo hi w' v xs := by
  obtain ⟨a, cap, hv, h0, hx⟩ := h
  refine ⟨a, cap, hv, h0, ?_⟩
  rcases hx with hx | ⟨b, off, ha, hl, hh, hc⟩
  · exact .inl hx
  · exact .inr ⟨b, off, ha, hl, hh, fun j hj => (World.cell?_of_block (w := w) (hk b hl hh)).trans (hc j hj)⟩

theorem Rd.below {lo hi B : Nat} {w w' : World} {v : Value} {xs : List Int} (h : Rd lo hi w v xs) (hb : Below B w w') (hB : hi ≤ B) : Rd lo hi w' v xs :=
  h.keep fun k _ hk => hb.block k (by omega)
theorem Rd.drewN {lo hi : Nat} {w : World} {v : Value} {xs : List Int} (h : Rd lo hi w v xs) (n : Nat) : Rd lo hi (w.drewN n) v xs := h.keep fun _ _ _ => rfl

/-- The slice value v is a row of the call's own, made at or behind block base: it holds xs. -/
def OB (base : Nat) (w : World) (v : Value) (xs : List Int) : Prop := w.ownsRow base 5 1 v xs.length (xs.map byte)

theorem OB.keep {base B : Nat} {w w' : World} {v : Value} {xs : List Int} (h : OB base w v xs) (hb : Below B w w') (hB : w.heap.size ≤ B) : OB base w' v xs := by
  obtain ⟨h1, h2⟩ := h
  refine ⟨h1, ?_⟩
  rcases h2 with h2 | ⟨g, cap, cur, hv, hg, hh, r⟩
  · exact .inl h2
  · refine .inr ⟨g, cap, cur, hv, hg, ?_, r⟩
    have hgs : g < w.heap.size := by
      rcases Nat.lt_or_ge g w.heap.size with c | c
      · exact c
      · rw [Array.getElem?_eq_none c] at hh; simp at hh
    rw [hb.block g (by omega)]; exact hh
theorem OB.drewN {base : Nat} {w : World} {v : Value} {xs : List Int} (h : OB base w v xs) (n : Nat) : OB base (w.drewN n) v xs := h
theorem OB.lower {base base' : Nat} {w : World} {v : Value} {xs : List Int} (h : OB base w v xs) (hb : base' ≤ base) : OB base' w v xs := by
  obtain ⟨h1, h2⟩ := h
  refine ⟨h1, ?_⟩
  rcases h2 with h2 | ⟨g, cap, cur, hv, hg, r⟩
  · exact .inl h2
  · exact .inr ⟨g, cap, cur, hv, by omega, r⟩

theorem OB.rd {base : Nat} {w : World} {v : Value} {xs : List Int} (h : OB base w v xs) : Rd base w.heap.size w v xs := by
  obtain ⟨hl, hx⟩ := h
  rcases hx with ⟨rfl, hn⟩ | ⟨g, cap, cur, rfl, hg, hh, hn', _, hs, ht⟩
  · obtain rfl : xs = [] := List.eq_nil_of_length_eq_zero hn
    exact ⟨none, 0, rfl, fun _ => ⟨rfl, rfl⟩, .inl rfl⟩
  · refine ⟨some ⟨g, 0, none⟩, cap, rfl, fun h => by simp at h, .inr ⟨g, 0, rfl, hg, ?_, fun j hj => ?_⟩⟩
    · rcases Nat.lt_or_ge g w.heap.size with h | h
      · exact h
      · rw [Array.getElem?_eq_none h] at hh; simp at hh
    · have : w.cell? ⟨g, 0 + j, none⟩ = cur[j]? := by simp [World.cell?, hh]
      rw [this, ← Array.getElem?_toList, ← List.getElem?_take_of_lt (show j < xs.length * 1 by omega), ht]
      simp [List.getD, hj]

/-- An owned row that is not empty, written out. -/
theorem OB.form {base : Nat} {w : World} {v : Value} {xs : List Int} (h : OB base w v xs) (hx : 0 < xs.length) : ∃ g cap, v = .slice (some ⟨g, 0, none⟩) xs.length cap ∧ base ≤ g ∧ g < w.heap.size ∧ xs.length ≤ cap ∧ cap ≤ maxLen := by
  obtain ⟨hl, hy⟩ := h
  rcases hy with ⟨rfl, hn⟩ | ⟨g, cap, cur, rfl, hg, hh, hn', hm, hs, ht⟩
  · omega
  · refine ⟨g, cap, rfl, hg, ?_, hn', hm⟩
    rcases Nat.lt_or_ge g w.heap.size with h | h
    · exact h
    · rw [Array.getElem?_eq_none h] at hh; simp at hh

/-- Of what reads xs from an address on, the part from k on for m. -/
theorem Rd.part {lo hi : Nat} {w : World} {b off n cap cap' k m : Nat} {xs : List Int} (h : Rd lo hi w (.slice (some ⟨b, off, none⟩) n cap) xs) (hkm : k + m ≤ xs.length) :
    Rd lo hi w (.slice (some ⟨b, off + k, none⟩) m cap') ((xs.drop k).take m) := by
  obtain ⟨a, c, hv, h0, hx⟩ := h
  simp only [Value.slice.injEq] at hv
  obtain ⟨rfl, rfl, rfl⟩ := hv
  have hl : ((xs.drop k).take m).length = m := by simp; omega
  refine ⟨some ⟨b, off + k, none⟩, cap', by rw [hl], fun h => by simp at h, ?_⟩
  by_cases hm : m = 0
  · left; rw [hm]; rfl
  · right
    rcases hx with hx | ⟨b', off', ha, h1, h2, hc⟩
    · subst hx; simp at hkm; omega
    · obtain ⟨rfl, rfl⟩ : b = b' ∧ off = off' := by simpa using ha
      refine ⟨b, off + k, rfl, h1, h2, fun j hj => ?_⟩
      rw [hl] at hj
      rw [Nat.add_assoc, hc (k + j) (by omega)]
      simp [List.getD, hj]

theorem step_row (bs : List Int) (z : Value) (k : Nat) (h : k < bs.length) :
    ((bs.take k).map byte ++ List.replicate (bs.length - k) z).set k (byte (bs.getD k 0)) = (bs.take (k + 1)).map byte ++ List.replicate (bs.length - (k + 1)) z := by
  apply List.ext_getElem
  · simp; omega
  intro i h1 h2
  simp only [List.getElem_set, List.getElem_append, List.length_map, List.length_take, List.getElem_map, List.getElem_take, List.getElem_replicate]
  by_cases e : k = i
  · subst e
    rw [if_pos rfl, dif_pos (by omega)]
    simp [List.getD, h]
  · rw [if_neg e]
    by_cases hi : i < k
    · rw [dif_pos (by omega), dif_pos (by omega)]
    · rw [dif_neg (by omega), dif_neg (by omega)]

theorem info5 : (Try.prog.info? 5).map (fun i => (i.zero, i.size, i.bytes)) = some (some (.int .u8 0), 1, 1) := by kernel_rfl
theorem eql_nil22 (w : World) (a : Option Addr) (n c : Nat) : (binOp .eql 22 (.slice a n c) (.slice none 0 0)).run Try.prog w = .ok (.bool a.isNone) w :=
  Lib.run_eql_slice_nil (P := Try.prog) w 22 5 a n c 0 0 Try.underlying22

#print axioms OB.rd
#print axioms Rd.part
end Go.Proofs.Qxb6616170a
