/-
  SEAT b6616076a. What FnLoneWorkAnyOrderTellsAloneWork (6) wants of lists and new blocks: no walk.
-/
import Derived.Test.Qxb6616076aLoneFns
import Derived.Test.Qxb6616076aAdv
import Derived.Deep.OwnRows
namespace Go.Proofs.Qxb6616076a
open Go Go.RowKit

/-- n elements from the address x on, in blocks below B. -/
def Row (B : Nat) (w : World) (x : Addr) (n : Nat) (f : Nat → Value) : Prop := ∀ j, j < n → (x.add j).block < B ∧ w.cell? (x.add j) = some (f j)
theorem Row.below {B : Nat} {w w' : World} {x : Addr} {n : Nat} {f : Nat → Value} (h : Row B w x n f) (hb : Below B w w') : Row B w' x n f :=
  fun j hj => ⟨(h j hj).1, (hb.cell (h j hj).1).trans (h j hj).2⟩

/-- What the first loop knows behind k rounds. -/
structure Chk (zs : List Int) (n k : Nat) (S : List Bool) : Prop where
  len : S.length = n
  rng : ∀ j, j < k → 0 ≤ zs.getD j 0 ∧ zs.getD j 0 < n
  see : ∀ x : Nat, S.getD x false = true ↔ ∃ j, j < k ∧ zs.getD j 0 = x
  inj : ∀ i j, i < j → j < k → zs.getD i 0 ≠ zs.getD j 0

theorem Chk.step {zs : List Int} {n k : Nat} {S : List Bool} (h : Chk zs n k S) {m : Nat} (hm : m < n) (hz : zs.getD k 0 = m) (hs : S.getD m false = false) : Chk zs n (k + 1) (S.set m true) := by
  refine ⟨by simpa using h.len, fun j hj => ?_, fun x => ?_, fun i j h1 h2 => ?_⟩
  · by_cases e : j = k
    · rw [e, hz]; omega
    · exact h.rng j (by omega)
  · rw [getD_set S m x true false (by rw [h.len]; exact hm)]
    by_cases e : x = m
    · rw [if_pos e]
      exact ⟨fun _ => ⟨k, by omega, by rw [hz, e]⟩, fun _ => rfl⟩
    · rw [if_neg e, h.see x]
      constructor
      · rintro ⟨j, a, b⟩; exact ⟨j, by omega, b⟩
      · rintro ⟨j, a, b⟩
        refine ⟨j, ?_, b⟩
        rcases Nat.lt_or_ge j k with c | c
        · exact c
        · obtain rfl : j = k := by omega
          rw [hz] at b; omega
  · by_cases e : j = k
    · subst e
      intro c
      rw [hz] at c
      have := (h.see m).2 ⟨i, h1, c⟩
      rw [hs] at this; cases this
    · exact h.inj i j h1 (by omega)

theorem getD_rep {α : Type} (n j : Nat) (v : α) : (List.replicate n v).getD j v = v := by
  simp only [List.getD_eq_getElem?_getD, List.getElem?_replicate]
  split <;> rfl

theorem Chk.start (zs : List Int) (n : Nat) : Chk zs n 0 (List.replicate n false) :=
  ⟨by simp, fun j h => by omega, fun x => by rw [getD_rep]; simp, fun i j _ h => by omega⟩

/-- The searches told in the first k calls. -/
def ordOf (zs : List Int) : Nat → List Nat
  | 0 => []
  | k + 1 => ordOf zs k ++ [(zs.getD k 0).toNat]

theorem ordOf_mem (zs : List Int) : ∀ (k x : Nat), x ∈ ordOf zs k ↔ ∃ j, j < k ∧ (zs.getD j 0).toNat = x
  | 0, x => by simp [ordOf]
  | k + 1, x => by
    rw [ordOf, List.mem_append, ordOf_mem zs k x, List.mem_singleton]
    constructor
    · rintro (⟨j, a, b⟩ | rfl)
      · exact ⟨j, by omega, b⟩
      · exact ⟨k, by omega, rfl⟩
    · rintro ⟨j, a, b⟩
      by_cases e : j = k
      · right; rw [← b, e]
      · left; exact ⟨j, by omega, b⟩
theorem ordOf_length (zs : List Int) : ∀ k, (ordOf zs k).length = k
  | 0 => rfl
  | k + 1 => by rw [ordOf, List.length_append, ordOf_length zs k]; rfl

theorem Chk.fresh {zs : List Int} {n k : Nat} {S : List Bool} (h : Chk zs n n S) (hk : k < n) : (zs.getD k 0).toNat ∉ ordOf zs k := by
  rw [ordOf_mem]
  rintro ⟨j, a, b⟩
  have h1 := h.rng j (by omega)
  have h2 := h.rng k hk
  exact h.inj j k a hk (by omega)

theorem len_le : ∀ (n : Nat) (l : List Nat), l.Nodup → (∀ y, y ∈ l → y < n) → l.length ≤ n
  | 0, l, _, h => by
    cases l with
    | nil => simp
    | cons a r => exact absurd (h a (by simp)) (by omega)
  | n + 1, l, hd, h => by
    have h1 := len_le n (l.erase n) (hd.erase n) (fun y hy => by
      have := (hd.mem_erase_iff).1 hy
      have := h y this.2
      omega)
    have h2 := List.length_erase (a := n) (l := l)
    split at h2 <;> omega

theorem Chk.nodup {zs : List Int} {n : Nat} {S : List Bool} (h : Chk zs n n S) : ∀ k, k ≤ n → (ordOf zs k).Nodup
  | 0, _ => by simp [ordOf]
  | k + 1, hk => by
    rw [ordOf, List.nodup_append]
    refine ⟨h.nodup k (by omega), by simp, fun a ha b hb => ?_⟩
    have hb : b = (zs.getD k 0).toNat := by simpa using hb
    rw [hb]
    intro e
    rw [e] at ha
    exact h.fresh (by omega) ha

/-- Every search is told of. -/
theorem Chk.all {zs : List Int} {n : Nat} {S : List Bool} (h : Chk zs n n S) (x : Nat) (hx : x < n) : x ∈ ordOf zs n := by
  apply Classical.byContradiction
  intro hc
  have := len_le n (x :: ordOf zs n) (List.nodup_cons.2 ⟨hc, h.nodup n (Nat.le_refl _)⟩) (fun y hy => by
    rcases List.mem_cons.1 hy with rfl | hy
    · exact hx
    · obtain ⟨j, a, b⟩ := (ordOf_mem zs n y).1 hy
      have := h.rng j a
      omega)
  rw [List.length_cons, ordOf_length] at this
  omega

theorem row_new (w : World) (z : Value) (n : Nat) (t : TypeId) (j : Nat) (hj : j < n) : (w.alloc (.cells (madeCells #[z] n) t)).cell? ⟨w.heap.size, j, none⟩ = some z := by
  have : (madeCells #[z] n)[j]? = some z := by
    rw [← Array.getElem?_toList, toList_madeCells_one]
    simp [hj]
  simp [this]
theorem row_new_frozen (w : World) (z : Array Value) (t : TypeId) (j : Nat) : (w.alloc (.cells z t)).frozen? ⟨w.heap.size, j, none⟩ = false := by
  simp

/-- The two slices made in the one order. -/
theorem made1 (w : World) (n : Nat) (base : Int) : LW (w.heap.size + 1 + 1) w.heap.size (w.heap.size + 1) n n n 0 base 0 (List.replicate n 0) (List.replicate n false) n false
    (((w.alloc (.cells (madeCells #[.int .i64 0] n) 3)).alloc (.cells (madeCells #[.bool false] n) 4)).alloc (.cells #[.int .i32 0, .int .u32 0, .pointer none, .int .i64 base, .int .i64 0, .slice (some ⟨w.heap.size, 0, none⟩) n n, .slice (some ⟨w.heap.size + 1, 0, none⟩) n n, .int .i64 n, .bool false] 56)) := by
  have e : (w.alloc (.cells (madeCells #[Value.int .i64 0] n) 3)).heap.size = w.heap.size + 1 := by simp
  have e2 : ((w.alloc (.cells (madeCells #[Value.int .i64 0] n) 3)).alloc (.cells (madeCells #[Value.bool false] n) 4)).heap.size = w.heap.size + 1 + 1 := by simp
  have b := Below.heap_alloc (w.alloc (.cells (madeCells #[Value.int .i64 0] n) 3)) (.cells (madeCells #[Value.bool false] n) 4) w.heap.size (by simp)
  have q := LW.new (w := (w.alloc (.cells (madeCells #[Value.int .i64 0] n) 3)).alloc (.cells (madeCells #[Value.bool false] n) 4)) (base := base) (next := 0) (least := n) (n := n) (cw := n) (cd := n) (bw := w.heap.size) (bd := w.heap.size + 1) (halt := false) (W := List.replicate n 0) (D := List.replicate n false)
    (by simp; omega) (by simp) (by omega) (by simp) (by simp)
    (fun j hj => by rw [World.cell?_of_block (a := ⟨w.heap.size, j, none⟩) b, row_new w _ n 3 j hj, getD_rep])
    (fun j hj => by have := row_new (w.alloc (.cells (madeCells #[Value.int .i64 0] n) 3)) (.bool false) n 4 j hj; rw [e] at this; rw [this, getD_rep])
    (fun j => by rw [World.frozen?_of_block (a := ⟨w.heap.size, j, none⟩) b]; exact row_new_frozen w _ 3 j)
    (fun j => by have := row_new_frozen (w.alloc (.cells (madeCells #[Value.int .i64 0] n) 3)) (madeCells #[.bool false] n) 4 j; rw [e] at this; exact this)
  rw [e2] at q
  exact q
/-- .. and in the other. -/
theorem made2 (w : World) (n : Nat) (base : Int) : LW (w.heap.size + 1 + 1) (w.heap.size + 1) w.heap.size n n n 0 base 0 (List.replicate n 0) (List.replicate n false) n false
    (((w.alloc (.cells (madeCells #[.bool false] n) 4)).alloc (.cells (madeCells #[.int .i64 0] n) 3)).alloc (.cells #[.int .i32 0, .int .u32 0, .pointer none, .int .i64 base, .int .i64 0, .slice (some ⟨w.heap.size + 1, 0, none⟩) n n, .slice (some ⟨w.heap.size, 0, none⟩) n n, .int .i64 n, .bool false] 56)) := by
  have e : (w.alloc (.cells (madeCells #[Value.bool false] n) 4)).heap.size = w.heap.size + 1 := by simp
  have e2 : ((w.alloc (.cells (madeCells #[Value.bool false] n) 4)).alloc (.cells (madeCells #[Value.int .i64 0] n) 3)).heap.size = w.heap.size + 1 + 1 := by simp
  have b := Below.heap_alloc (w.alloc (.cells (madeCells #[Value.bool false] n) 4)) (.cells (madeCells #[Value.int .i64 0] n) 3) w.heap.size (by simp)
  have q := LW.new (w := (w.alloc (.cells (madeCells #[Value.bool false] n) 4)).alloc (.cells (madeCells #[Value.int .i64 0] n) 3)) (base := base) (next := 0) (least := n) (n := n) (cw := n) (cd := n) (bw := w.heap.size + 1) (bd := w.heap.size) (halt := false) (W := List.replicate n 0) (D := List.replicate n false)
    (by simp) (by simp; omega) (by omega) (by simp) (by simp)
    (fun j hj => by have := row_new (w.alloc (.cells (madeCells #[Value.bool false] n) 4)) (.int .i64 0) n 3 j hj; rw [e] at this; rw [this, getD_rep])
    (fun j hj => by rw [World.cell?_of_block (a := ⟨w.heap.size, j, none⟩) b, row_new w _ n 4 j hj, getD_rep])
    (fun j => by have := row_new_frozen (w.alloc (.cells (madeCells #[Value.bool false] n) 4)) (madeCells #[.int .i64 0] n) 3 j; rw [e] at this; exact this)
    (fun j => by rw [World.frozen?_of_block (a := ⟨w.heap.size, j, none⟩) b]; exact row_new_frozen w _ 4 j)
  rw [e2] at q
  exact q

#print axioms made1
#print axioms made2
#print axioms Chk.all
end Go.Proofs.Qxb6616076a
