/-
  SEAT b6616076a. WHAT IS SAID OF A SLICE IN MEMORY, with no walk in sight.
-/
import Derived.Test.Qxb6616076aProg
import Derived.WalkKit
import Derived.WalkLawsBesides
namespace Go.Proofs.Qxb6616076a
open Go Go.RowKit

/-- The slice value v reads as the cells xs, which lie in a block from lo up to (not with) hi; nl: is it nil? -/
def Rd (lo hi : Nat) (w : World) (v : Value) (nl : Bool) (xs : List Value) : Prop :=
  ∃ a cap, v = .slice a xs.length cap ∧ a.isNone = nl ∧ (a = none → xs = [] ∧ cap = 0) ∧
    (xs = [] ∨ ∃ b off, a = some ⟨b, off, none⟩ ∧ lo ≤ b ∧ b < hi ∧ ∀ j, j < xs.length → w.cell? ⟨b, off + j, none⟩ = xs[j]?)

/-- The same, and its cells may be written; they open a block. -/
def Own (lo hi : Nat) (w : World) (v : Value) (nl : Bool) (xs : List Value) : Prop :=
  ∃ a cap, v = .slice a xs.length cap ∧ a.isNone = nl ∧ (a = none → xs = [] ∧ cap = 0) ∧
    (xs = [] ∨ ∃ b, a = some ⟨b, 0, none⟩ ∧ lo ≤ b ∧ b < hi ∧ (∀ j, j < xs.length → w.cell? ⟨b, j, none⟩ = xs[j]?) ∧ ∀ j, w.frozen? ⟨b, j, none⟩ = false)

/-- Outside the blocks from lo up to hi the world w' is as w was. -/
structure Kept (lo hi : Nat) (w w' : World) : Prop where
  os : w'.os = w.os
  tape : w'.tape = w.tape
  output : w'.output = w.output
  size : w'.heap.size = w.heap.size
  block : ∀ k, k < lo ∨ hi ≤ k → w'.heap[k]? = w.heap[k]?

theorem Kept.below {lo hi B : Nat} {w w' : World} (h : Kept lo hi w w') (hB : B ≤ lo) : Below B w w' :=
  ⟨h.os, h.tape, h.output, Nat.le_of_eq h.size.symm, fun k hk => h.block k (.inl (by omega))⟩

theorem Kept.refl (lo hi : Nat) (w : World) : Kept lo hi w w := ⟨rfl, rfl, rfl, rfl, fun _ _ => rfl⟩

theorem Kept.trans {lo hi : Nat} {a b c : World} (h : Kept lo hi a b) (k : Kept lo hi b c) : Kept lo hi a c :=
  ⟨k.os.trans h.os, k.tape.trans h.tape, k.output.trans h.output, k.size.trans h.size, fun i hi' => (k.block i hi').trans (h.block i hi')⟩

theorem Kept.widen {lo hi lo' hi' : Nat} {a b : World} (h : Kept lo hi a b) (h1 : lo' ≤ lo) (h2 : hi ≤ hi') : Kept lo' hi' a b :=
  ⟨h.os, h.tape, h.output, h.size, fun k hk => h.block k (by omega)⟩

theorem Own.rd {lo hi : Nat} {w : World} {v : Value} {nl : Bool} {xs : List Value} (h : Own lo hi w v nl xs) : Rd lo hi w v nl xs := by
  obtain ⟨a, cap, hv, hn, h0, h1⟩ := h
  refine ⟨a, cap, hv, hn, h0, ?_⟩
  rcases h1 with h1 | ⟨b, ha, hl, hh, hc, _⟩
  · exact .inl h1
  · exact .inr ⟨b, 0, ha, hl, hh, fun j hj => by simpa using hc j hj⟩

theorem Rd.widen {lo hi lo' hi' : Nat} {w : World} {v : Value} {nl : Bool} {xs : List Value} (h : Rd lo hi w v nl xs) (h1 : lo' ≤ lo) (h2 : hi ≤ hi') : Rd lo' hi' w v nl xs := by
  obtain ⟨a, cap, hv, hn, h0, hx⟩ := h
  refine ⟨a, cap, hv, hn, h0, ?_⟩
  rcases hx with hx | ⟨b, off, ha, hl, hh, hc⟩
  · exact .inl hx
  · exact .inr ⟨b, off, ha, by omega, by omega, hc⟩

theorem Own.widen {lo hi lo' hi' : Nat} {w : World} {v : Value} {nl : Bool} {xs : List Value} (h : Own lo hi w v nl xs) (h1 : lo' ≤ lo) (h2 : hi ≤ hi') : Own lo' hi' w v nl xs := by
  obtain ⟨a, cap, hv, hn, h0, hx⟩ := h
  refine ⟨a, cap, hv, hn, h0, ?_⟩
  rcases hx with hx | ⟨b, ha, hl, hh, hc, hf⟩
  · exact .inl hx
  · exact .inr ⟨b, ha, by omega, by omega, hc, hf⟩

/-- What is read stays as it is while its block does. -/
theorem Rd.keep {lo hi : Nat} {w w' : World} {v : Value} {nl : Bool} {xs : List Value} (h : Rd lo hi w v nl xs) (hk : ∀ k, lo ≤ k → k < hi → w'.heap[k]? = w.heap[k]?) : Rd lo hi w' v nl xs := by
  obtain ⟨a, cap, hv, hn, h0, hx⟩ := h
  refine ⟨a, cap, hv, hn, h0, ?_⟩
  rcases hx with hx | ⟨b, off, ha, hl, hh, hc⟩
  · exact .inl hx
  · exact .inr ⟨b, off, ha, hl, hh, fun j hj => (World.cell?_of_block (w := w) (hk b hl hh)).trans (hc j hj)⟩

theorem Own.keep {lo hi : Nat} {w w' : World} {v : Value} {nl : Bool} {xs : List Value} (h : Own lo hi w v nl xs) (hk : ∀ k, lo ≤ k → k < hi → w'.heap[k]? = w.heap[k]?) : Own lo hi w' v nl xs := by
  obtain ⟨a, cap, hv, hn, h0, hx⟩ := h
  refine ⟨a, cap, hv, hn, h0, ?_⟩
  rcases hx with hx | ⟨b, ha, hl, hh, hc, hf⟩
  · exact .inl hx
  · exact .inr ⟨b, ha, hl, hh, fun j hj => (World.cell?_of_block (w := w) (hk b hl hh)).trans (hc j hj), fun j => (World.frozen?_of_block (w := w) (hk b hl hh)).trans (hf j)⟩

theorem Rd.below {lo hi B : Nat} {w w' : World} {v : Value} {nl : Bool} {xs : List Value} (h : Rd lo hi w v nl xs) (hb : Below B w w') (hB : hi ≤ B) : Rd lo hi w' v nl xs :=
  h.keep fun k _ hk => hb.block k (by omega)
theorem Own.below {lo hi B : Nat} {w w' : World} {v : Value} {nl : Bool} {xs : List Value} (h : Own lo hi w v nl xs) (hb : Below B w w') (hB : hi ≤ B) : Own lo hi w' v nl xs :=
  h.keep fun k _ hk => hb.block k (by omega)
theorem Rd.kept {lo hi lo' hi' : Nat} {w w' : World} {v : Value} {nl : Bool} {xs : List Value} (h : Rd lo hi w v nl xs) (hb : Kept lo' hi' w w') (hB : hi ≤ lo' ∨ hi' ≤ lo) : Rd lo hi w' v nl xs :=
  h.keep fun k h1 h2 => hb.block k (by omega)
theorem Own.kept {lo hi lo' hi' : Nat} {w w' : World} {v : Value} {nl : Bool} {xs : List Value} (h : Own lo hi w v nl xs) (hb : Kept lo' hi' w w') (hB : hi ≤ lo' ∨ hi' ≤ lo) : Own lo hi w' v nl xs :=
  h.keep fun k h1 h2 => hb.block k (by omega)

theorem Own.of_owns {w : World} {lo hi : Nat} {e : TypeId} {v : Value} {n : Nat} {xs : List Value} {nl : Bool} (h : w.ownsRow lo e 1 v n xs) (hn : nl = true ↔ v = .slice none 0 0) (hhi : w.heap.size ≤ hi) : Own lo hi w v nl xs := by
  obtain ⟨hl, hx⟩ := h
  have hl' : xs.length = n := by simpa using hl
  rcases hx with ⟨rfl, rfl⟩ | ⟨g, cap, cur, rfl, hg, hh, hn', _, hs, ht⟩
  · obtain rfl : nl = true := hn.2 rfl
    obtain rfl : xs = [] := List.eq_nil_of_length_eq_zero hl'
    exact ⟨none, 0, rfl, rfl, fun _ => ⟨rfl, rfl⟩, .inl rfl⟩
  · have hnl : nl = false := by cases nl with | false => rfl | true => exact absurd (hn.1 rfl) (by simp)
    subst hnl
    refine ⟨some ⟨g, 0, none⟩, cap, by rw [hl'], rfl, fun h => by simp at h, .inr ⟨g, rfl, hg, ?_, fun j hj => ?_, fun j => ?_⟩⟩
    · rcases Nat.lt_or_ge g w.heap.size with h | h
      · omega
      · rw [Array.getElem?_eq_none h] at hh; simp at hh
    · have : w.cell? ⟨g, j, none⟩ = cur[j]? := by simp [World.cell?, hh]
      rw [this, ← ht, List.getElem?_take_of_lt (by omega), Array.getElem?_toList]
    · simp [World.frozen?, hh]

/-- What a copying call leaves: a value of its own that reads the same. -/
def Copied (w : World) (nl : Bool) (xs : List Value) (e : Ending) (w' : World) : Prop :=
  ∃ a cap, e = .returned (.slice a xs.length cap) ∧ Own w.heap.size w'.heap.size w' (.slice a xs.length cap) nl xs ∧ Below w.heap.size w w'

theorem Copied.mk {w w' : World} {nl : Bool} {xs : List Value} {v' : Value} (ho : Own w.heap.size w'.heap.size w' v' nl xs) (hb : Below w.heap.size w w') : Copied w nl xs (.returned v') w' := by
  have h := ho
  obtain ⟨a, cap, rfl, _⟩ := h
  exact ⟨a, cap, rfl, ho, hb⟩

theorem step_row {α : Type} (f : α → Value) (z : Value) (bs : List α) (d : α) (k : Nat) (h : k < bs.length) :
    ((bs.take k).map f ++ List.replicate (bs.length - k) z).set k (f (bs.getD k d)) = (bs.take (k + 1)).map f ++ List.replicate (bs.length - (k + 1)) z := by
  apply List.ext_getElem
  · simp; omega
  intro i h1 h2
  simp only [List.getElem_set, List.getElem_append, List.length_map, List.length_take, List.getElem_map, List.getElem_take, List.getElem_replicate]
  by_cases e : k = i
  · subst e
    rw [if_pos rfl, dif_pos (by omega)]
    simp [List.getD, h]
  · rw [if_neg e]
    by_cases hi : i < k
    · rw [dif_pos (by omega), dif_pos (by omega)]
    · rw [dif_neg (by omega), dif_neg (by omega)]

theorem info4 : (Try.prog.info? 4).map (fun i => (i.zero, i.size, i.bytes)) = some (some (.bool false), 1, 1) := by kernel_rfl
theorem info3 : (Try.prog.info? 3).map (fun i => (i.zero, i.size, i.bytes)) = some (some (.int .i64 0), 1, 8) := by kernel_rfl
theorem eql_nil22 (w : World) (a : Option Addr) (n c : Nat) : (binOp .eql 22 (.slice a n c) (.slice none 0 0)).run Try.prog w = .ok (.bool a.isNone) w :=
  Lib.run_eql_slice_nil (P := Try.prog) w 22 4 a n c 0 0 Try.underlying22
theorem eql_nil36 (w : World) (a : Option Addr) (n c : Nat) : (binOp .eql 36 (.slice a n c) (.slice none 0 0)).run Try.prog w = .ok (.bool a.isNone) w :=
  Lib.run_eql_slice_nil (P := Try.prog) w 36 3 a n c 0 0 Try.underlying36

end Go.Proofs.Qxb6616076a
