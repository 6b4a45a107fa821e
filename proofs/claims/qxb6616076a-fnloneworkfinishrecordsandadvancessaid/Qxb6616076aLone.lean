/-
  SEAT b6616076a. loneWork IN MEMORY, and what 'finish' computes, with no walk in sight.
-/
import Derived.Test.Qxb6616076aPlain
namespace Go.Proofs.Qxb6616076a
open Go Go.RowKit

/-- The loop of 'finish': base and next, moved on while next is short of least and done. -/
def adv (W : List Int) (D : List Bool) (least : Nat) : Nat → Int → Nat → Int × Nat
  | 0, base, next => (base, next)
  | f + 1, base, next => if next < least ∧ D.getD next false = true then adv W D least f (wrap64 (base + W.getD next 0)) (next + 1) else (base, next)

/-- A loneWork at block b, its work at block bw, its done at block bd; mu: the lock's word. -/
structure LW (b bw bd n cw cd : Nat) (mu base : Int) (next : Nat) (W : List Int) (D : List Bool) (least : Nat) (halt : Bool) (w : World) : Prop where
  n1 : b ≠ bw
  n2 : b ≠ bd
  n3 : bw ≠ bd
  s1 : b < w.heap.size
  s2 : bw < w.heap.size
  s3 : bd < w.heap.size
  lw : W.length = n
  ld : D.length = n
  c0 : w.cell? ⟨b, 0, none⟩ = some (.int .i32 mu)
  c3 : w.cell? ⟨b, 3, none⟩ = some (.int .i64 base)
  c4 : w.cell? ⟨b, 4, none⟩ = some (.int .i64 next)
  c5 : w.cell? ⟨b, 5, none⟩ = some (.slice (some ⟨bw, 0, none⟩) n cw)
  c6 : w.cell? ⟨b, 6, none⟩ = some (.slice (some ⟨bd, 0, none⟩) n cd)
  c7 : w.cell? ⟨b, 7, none⟩ = some (.int .i64 least)
  c8 : w.cell? ⟨b, 8, none⟩ = some (.bool halt)
  fb : ∀ j, w.frozen? ⟨b, j, none⟩ = false
  fw : ∀ j, w.frozen? ⟨bw, j, none⟩ = false
  fd : ∀ j, w.frozen? ⟨bd, j, none⟩ = false
  cW : ∀ j, j < n → w.cell? ⟨bw, j, none⟩ = some (.int .i64 (W.getD j 0))
  cD : ∀ j, j < n → w.cell? ⟨bd, j, none⟩ = some (.bool (D.getD j false))

/-- Outside three blocks the world w' is as w was. -/
structure Only (b bw bd : Nat) (w w' : World) : Prop where
  os : w'.os = w.os
  tape : w'.tape = w.tape
  output : w'.output = w.output
  size : w'.heap.size = w.heap.size
  block : ∀ k, k ≠ b → k ≠ bw → k ≠ bd → w'.heap[k]? = w.heap[k]?

theorem Only.refl (b bw bd : Nat) (w : World) : Only b bw bd w w := ⟨rfl, rfl, rfl, rfl, fun _ _ _ _ => rfl⟩
theorem Only.trans {b bw bd : Nat} {x y z : World} (h : Only b bw bd x y) (k : Only b bw bd y z) : Only b bw bd x z :=
  ⟨k.os.trans h.os, k.tape.trans h.tape, k.output.trans h.output, k.size.trans h.size, fun i a c d => (k.block i a c d).trans (h.block i a c d)⟩
theorem Only.drewN {b bw bd : Nat} {x y : World} (h : Only b bw bd x y) (n : Nat) : Only b bw bd x (y.drewN n) := h.trans ⟨rfl, rfl, rfl, rfl, fun _ _ _ _ => rfl⟩
theorem Only.drew {b bw bd : Nat} {x y : World} (h : Only b bw bd x y) : Only b bw bd x y.drew := h.trans ⟨rfl, rfl, rfl, rfl, fun _ _ _ _ => rfl⟩
theorem Only.setCell {b bw bd : Nat} {x y : World} (h : Only b bw bd x y) (k j : Nat) (v : Value) (hk : k = b ∨ k = bw ∨ k = bd) : Only b bw bd x (y.setCell ⟨k, j, none⟩ v) :=
  h.trans ⟨rfl, rfl, rfl, by simp [World.setCell], fun i a c d => Below.heap_setCell _ _ _ _ (by show i ≠ k; omega)⟩
theorem Only.below {b bw bd B : Nat} {x y : World} (h : Only b bw bd x y) (h1 : B ≤ b) (h2 : B ≤ bw) (h3 : B ≤ bd) : Below B x y :=
  ⟨h.os, h.tape, h.output, Nat.le_of_eq h.size.symm, fun k hk => h.block k (by omega) (by omega) (by omega)⟩

section
variable {b bw bd n cw cd : Nat} {mu base : Int} {next : Nat} {W : List Int} {D : List Bool} {least : Nat} {halt : Bool} {w : World}

theorem LW.same (h : LW b bw bd n cw cd mu base next W D least halt w) {w' : World} (hw : w'.heap = w.heap) : LW b bw bd n cw cd mu base next W D least halt w' := by
  have e : ∀ a, w'.cell? a = w.cell? a := fun a => World.cell?_of_block (w := w) (by rw [hw])
  have f : ∀ a, w'.frozen? a = w.frozen? a := fun a => World.frozen?_of_block (w := w) (by rw [hw])
  exact ⟨h.n1, h.n2, h.n3, by rw [hw]; exact h.s1, by rw [hw]; exact h.s2, by rw [hw]; exact h.s3, h.lw, h.ld, by rw [e]; exact h.c0, by rw [e]; exact h.c3, by rw [e]; exact h.c4, by rw [e]; exact h.c5, by rw [e]; exact h.c6, by rw [e]; exact h.c7, by rw [e]; exact h.c8,
    fun j => by rw [f]; exact h.fb j, fun j => by rw [f]; exact h.fw j, fun j => by rw [f]; exact h.fd j, fun j hj => by rw [e]; exact h.cW j hj, fun j hj => by rw [e]; exact h.cD j hj⟩

theorem LW.drewN (h : LW b bw bd n cw cd mu base next W D least halt w) (m : Nat) : LW b bw bd n cw cd mu base next W D least halt (w.drewN m) := h.same rfl
theorem LW.drew (h : LW b bw bd n cw cd mu base next W D least halt w) : LW b bw bd n cw cd mu base next W D least halt w.drew := h.same rfl

theorem off_other {w : World} {b j k : Nat} {v u : Value} (h : w.cell? ⟨b, k, none⟩ = some u) (hk : j ≠ k) : (w.setCell ⟨b, j, none⟩ v).cell? ⟨b, k, none⟩ = some u := by
  rw [World.cell?_setCell_other w ⟨b, j, none⟩ ⟨b, k, none⟩ v (by simp)]; exact h
theorem block_other {w : World} {b c j k : Nat} {v u : Value} (h : w.cell? ⟨c, k, none⟩ = some u) (hk : b ≠ c) : (w.setCell ⟨b, j, none⟩ v).cell? ⟨c, k, none⟩ = some u := by
  rw [World.cell?_setCell_other w ⟨b, j, none⟩ ⟨c, k, none⟩ v (by simp)]; exact h
theorem frozen_set {w : World} {a : Addr} {v : Value} {p : Addr} (h : w.frozen? p = false) : (w.setCell a v).frozen? p = false := by rw [World.frozen?_setCell]; exact h
theorem size_set (w : World) (a : Addr) (v : Value) : (w.setCell a v).heap.size = w.heap.size := by simp [World.setCell]

theorem LW.setMu (h : LW b bw bd n cw cd mu base next W D least halt w) (m : Int) : LW b bw bd n cw cd m base next W D least halt (w.setCell ⟨b, 0, none⟩ (.int .i32 m)) :=
  ⟨h.n1, h.n2, h.n3, by rw [size_set]; exact h.s1, by rw [size_set]; exact h.s2, by rw [size_set]; exact h.s3, h.lw, h.ld, World.cell?_setCell_same w _ _ h.c0, off_other h.c3 (by omega), off_other h.c4 (by omega), off_other h.c5 (by omega), off_other h.c6 (by omega), off_other h.c7 (by omega), off_other h.c8 (by omega),
    fun j => frozen_set (h.fb j), fun j => frozen_set (h.fw j), fun j => frozen_set (h.fd j), fun j hj => block_other (h.cW j hj) h.n1, fun j hj => block_other (h.cD j hj) h.n2⟩
theorem LW.setBase (h : LW b bw bd n cw cd mu base next W D least halt w) (m : Int) : LW b bw bd n cw cd mu m next W D least halt (w.setCell ⟨b, 3, none⟩ (.int .i64 m)) :=
  ⟨h.n1, h.n2, h.n3, by rw [size_set]; exact h.s1, by rw [size_set]; exact h.s2, by rw [size_set]; exact h.s3, h.lw, h.ld, off_other h.c0 (by omega), World.cell?_setCell_same w _ _ h.c3, off_other h.c4 (by omega), off_other h.c5 (by omega), off_other h.c6 (by omega), off_other h.c7 (by omega), off_other h.c8 (by omega),
    fun j => frozen_set (h.fb j), fun j => frozen_set (h.fw j), fun j => frozen_set (h.fd j), fun j hj => block_other (h.cW j hj) h.n1, fun j hj => block_other (h.cD j hj) h.n2⟩
theorem LW.setNext (h : LW b bw bd n cw cd mu base next W D least halt w) (m : Nat) : LW b bw bd n cw cd mu base m W D least halt (w.setCell ⟨b, 4, none⟩ (.int .i64 m)) :=
  ⟨h.n1, h.n2, h.n3, by rw [size_set]; exact h.s1, by rw [size_set]; exact h.s2, by rw [size_set]; exact h.s3, h.lw, h.ld, off_other h.c0 (by omega), off_other h.c3 (by omega), World.cell?_setCell_same w _ _ h.c4, off_other h.c5 (by omega), off_other h.c6 (by omega), off_other h.c7 (by omega), off_other h.c8 (by omega),
    fun j => frozen_set (h.fb j), fun j => frozen_set (h.fw j), fun j => frozen_set (h.fd j), fun j hj => block_other (h.cW j hj) h.n1, fun j hj => block_other (h.cD j hj) h.n2⟩
theorem LW.setLeast (h : LW b bw bd n cw cd mu base next W D least halt w) (m : Nat) : LW b bw bd n cw cd mu base next W D m halt (w.setCell ⟨b, 7, none⟩ (.int .i64 m)) :=
  ⟨h.n1, h.n2, h.n3, by rw [size_set]; exact h.s1, by rw [size_set]; exact h.s2, by rw [size_set]; exact h.s3, h.lw, h.ld, off_other h.c0 (by omega), off_other h.c3 (by omega), off_other h.c4 (by omega), off_other h.c5 (by omega), off_other h.c6 (by omega), World.cell?_setCell_same w _ _ h.c7, off_other h.c8 (by omega),
    fun j => frozen_set (h.fb j), fun j => frozen_set (h.fw j), fun j => frozen_set (h.fd j), fun j hj => block_other (h.cW j hj) h.n1, fun j hj => block_other (h.cD j hj) h.n2⟩

theorem getD_set {α : Type} (l : List α) (i j : Nat) (v d : α) (hi : i < l.length) : (l.set i v).getD j d = if j = i then v else l.getD j d := by
  simp only [List.getD_eq_getElem?_getD, List.getElem?_set]
  by_cases h : i = j
  · subst h; simp [hi]
  · rw [if_neg h, if_neg (Ne.symm h)]

theorem LW.setW (h : LW b bw bd n cw cd mu base next W D least halt w) (i : Nat) (hi : i < n) (v : Int) : LW b bw bd n cw cd mu base next (W.set i v) D least halt (w.setCell ⟨bw, i, none⟩ (.int .i64 v)) :=
  ⟨h.n1, h.n2, h.n3, by rw [size_set]; exact h.s1, by rw [size_set]; exact h.s2, by rw [size_set]; exact h.s3, by simpa using h.lw, h.ld, block_other h.c0 h.n1.symm, block_other h.c3 h.n1.symm, block_other h.c4 h.n1.symm, block_other h.c5 h.n1.symm, block_other h.c6 h.n1.symm, block_other h.c7 h.n1.symm, block_other h.c8 h.n1.symm,
    fun j => frozen_set (h.fb j), fun j => frozen_set (h.fw j), fun j => frozen_set (h.fd j), fun j hj => by
      rw [getD_set W i j v 0 (by rw [h.lw]; exact hi)]
      by_cases e : j = i
      · subst e; rw [if_pos rfl]; exact World.cell?_setCell_same w _ _ (h.cW j hj)
      · rw [if_neg e]; exact off_other (h.cW j hj) (Ne.symm e), fun j hj => block_other (h.cD j hj) h.n3⟩
theorem LW.setD (h : LW b bw bd n cw cd mu base next W D least halt w) (i : Nat) (hi : i < n) (v : Bool) : LW b bw bd n cw cd mu base next W (D.set i v) least halt (w.setCell ⟨bd, i, none⟩ (.bool v)) :=
  ⟨h.n1, h.n2, h.n3, by rw [size_set]; exact h.s1, by rw [size_set]; exact h.s2, by rw [size_set]; exact h.s3, h.lw, by simpa using h.ld, block_other h.c0 h.n2.symm, block_other h.c3 h.n2.symm, block_other h.c4 h.n2.symm, block_other h.c5 h.n2.symm, block_other h.c6 h.n2.symm, block_other h.c7 h.n2.symm, block_other h.c8 h.n2.symm,
    fun j => frozen_set (h.fb j), fun j => frozen_set (h.fw j), fun j => frozen_set (h.fd j), fun j hj => block_other (h.cW j hj) h.n3.symm, fun j hj => by
      rw [getD_set D i j v false (by rw [h.ld]; exact hi)]
      by_cases e : j = i
      · subst e; rw [if_pos rfl]; exact World.cell?_setCell_same w _ _ (h.cD j hj)
      · rw [if_neg e]; exact off_other (h.cD j hj) (Ne.symm e)⟩
end
end Go.Proofs.Qxb6616076a
