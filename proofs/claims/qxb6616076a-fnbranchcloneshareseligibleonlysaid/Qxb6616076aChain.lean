/-
  SEAT b6616076a. MANY SLICES AT ONCE: a chain of slices, each in blocks of its own, one behind the other.
-/
import Derived.Test.Qxb6616076aReads
import Derived.Test.Qxb6616076aBranch
namespace Go.Proofs.Qxb6616076a
open Go Go.RowKit

/-- A slice's value, whether it is nil, what it reads. -/
abbrev Seen : Type := Value × Bool × List Bool

/-- The slices of the list lie in blocks of their own from lo up to hi, in the list's order, and read as told. -/
def Chain (lo hi : Nat) (w : World) : List Seen → Prop
  | [] => lo ≤ hi
  | p :: l => ∃ m, lo ≤ m ∧ m ≤ hi ∧ Own lo m w p.1 p.2.1 (p.2.2.map Value.bool) ∧ Chain m hi w l

theorem Chain.le {w : World} : ∀ {l : List Seen} {lo hi : Nat}, Chain lo hi w l → lo ≤ hi
  | [], _, _, h => h
  | _ :: _, _, _, ⟨_, h1, h2, _, _⟩ => Nat.le_trans h1 h2

theorem Chain.keep {w w' : World} : ∀ {l : List Seen} {lo hi : Nat}, Chain lo hi w l → (∀ k, lo ≤ k → k < hi → w'.heap[k]? = w.heap[k]?) → Chain lo hi w' l
  | [], _, _, h, _ => h
  | _ :: _, _, _, ⟨m, h1, h2, h3, h4⟩, hk => ⟨m, h1, h2, h3.keep (fun k a b => hk k a (by omega)), h4.keep (fun k a b => hk k (by omega) b)⟩

theorem Chain.below {w w' : World} {l : List Seen} {lo hi B : Nat} (h : Chain lo hi w l) (hb : Below B w w') (hB : hi ≤ B) : Chain lo hi w' l :=
  h.keep fun k _ hk => hb.block k (by omega)
theorem Chain.kept {w w' : World} {l : List Seen} {lo hi lo' hi' : Nat} (h : Chain lo hi w l) (hb : Kept lo' hi' w w') (hB : hi ≤ lo' ∨ hi' ≤ lo) : Chain lo hi w' l :=
  h.keep fun k h1 h2 => hb.block k (by omega)

theorem Chain.mem {w : World} : ∀ {l : List Seen} {lo hi : Nat}, Chain lo hi w l → ∀ p ∈ l, Rd lo hi w p.1 p.2.1 (p.2.2.map Value.bool)
  | [], _, _, _, p, hp => by simp at hp
  | q :: l, lo, hi, ⟨m, h1, h2, h3, h4⟩, p, hp => by
    rcases List.mem_cons.1 hp with rfl | hp
    · exact h3.rd.widen (Nat.le_refl _) h2
    · exact (h4.mem p hp).widen h1 (Nat.le_refl _)

/-- One slice more, made behind all that was there. -/
theorem Chain.snoc {w w' : World} {v : Value} {n : Bool} {x : List Bool} : ∀ {l : List Seen} {lo : Nat}, Chain lo w.heap.size w l → Own w.heap.size w'.heap.size w' v n (x.map Value.bool) → Below w.heap.size w w' → Chain lo w'.heap.size w' (l ++ [(v, n, x)])
  | [], _, h, ho, hb => ⟨w'.heap.size, Nat.le_trans h hb.size, Nat.le_refl _, ho.widen h (Nat.le_refl _), Nat.le_refl _⟩
  | _ :: _, _, ⟨m, h1, h2, h3, h4⟩, ho, hb => ⟨m, h1, Nat.le_trans h2 hb.size, h3.below hb h2, h4.snoc ho hb⟩

/-- The i-th slice flipped. -/
theorem Chain.flipAt {v : Value} {n : Bool} {x : List Bool} : ∀ {l : List Seen} {lo hi : Nat} {w : World} (i : Nat), Chain lo hi w l → l[i]? = some (v, n, x) →
    Calls Try.prog 13 #[v] w fun e w' => e = .returned (.tuple #[]) ∧ Kept lo hi w w' ∧ Chain lo hi w' (l.set i (v, n, flipL x))
  | [], _, _, _, i, _, hi => by simp at hi
  | p :: l, lo, hi, w, 0, ⟨m, h1, h2, h3, h4⟩, hp => by
    obtain rfl : p = (v, n, x) := by simpa using hp
    refine (flip h3).mono fun e w' ⟨he, hk, ho⟩ => ⟨he, hk.widen (Nat.le_refl _) h2, ?_⟩
    exact ⟨m, h1, h2, ho, h4.kept hk (.inr (Nat.le_refl _))⟩
  | p :: l, lo, hi, w, i + 1, ⟨m, h1, h2, h3, h4⟩, hp => by
    refine (Chain.flipAt (n := n) (x := x) i h4 (by simpa using hp)).mono fun e w' ⟨he, hk, ho⟩ => ⟨he, hk.widen h1 (Nat.le_refl _), ?_⟩
    exact ⟨m, h1, h2, h3.kept hk (.inl (Nat.le_refl _)), ho⟩

/-- The slices of the list that came in: they read as told. -/
def Args (B : Nat) (w : World) (l : List Seen) : Prop := ∀ p ∈ l, Rd 0 B w p.1 p.2.1 (p.2.2.map Value.bool)

theorem Args.below {w w' : World} {l : List Seen} {B B' : Nat} (h : Args B w l) (hb : Below B' w w') (hB : B ≤ B') : Args B w' l := fun p hp => (h p hp).below hb hB
theorem Args.kept {w w' : World} {l : List Seen} {B lo' hi' : Nat} (h : Args B w l) (hb : Kept lo' hi' w w') (hB : B ≤ lo') : Args B w' l := fun p hp => (h p hp).kept hb (.inl hB)

/-- Ten cells of a block. -/
abbrev Ten (b : Nat) (v0 v1 v2 v3 v4 v5 v6 v7 v8 v9 : Value) (w : World) : Prop :=
  w.cell? ⟨b, 0, none⟩ = some v0 ∧ w.cell? ⟨b, 1, none⟩ = some v1 ∧ w.cell? ⟨b, 2, none⟩ = some v2 ∧ w.cell? ⟨b, 3, none⟩ = some v3 ∧ w.cell? ⟨b, 4, none⟩ = some v4 ∧
  w.cell? ⟨b, 5, none⟩ = some v5 ∧ w.cell? ⟨b, 6, none⟩ = some v6 ∧ w.cell? ⟨b, 7, none⟩ = some v7 ∧ w.cell? ⟨b, 8, none⟩ = some v8 ∧ w.cell? ⟨b, 9, none⟩ = some v9

theorem Ten.keep {b : Nat} {v0 v1 v2 v3 v4 v5 v6 v7 v8 v9 : Value} {w w' : World} (h : Ten b v0 v1 v2 v3 v4 v5 v6 v7 v8 v9 w) (hk : w'.heap[b]? = w.heap[b]?) : Ten b v0 v1 v2 v3 v4 v5 v6 v7 v8 v9 w' := by
  have e : ∀ j, w'.cell? ⟨b, j, none⟩ = w.cell? ⟨b, j, none⟩ := fun j => World.cell?_of_block (w := w) hk
  simp only [Ten, e]
  exact h
theorem Ten.new (w : World) (v0 v1 v2 v3 v4 v5 v6 v7 v8 v9 : Value) (t : TypeId) : Ten w.heap.size v0 v1 v2 v3 v4 v5 v6 v7 v8 v9 (w.alloc (.cells #[v0, v1, v2, v3, v4, v5, v6, v7, v8, v9] t)) := by
  simp [Ten]

#print axioms Chain.flipAt
end Go.Proofs.Qxb6616076a
