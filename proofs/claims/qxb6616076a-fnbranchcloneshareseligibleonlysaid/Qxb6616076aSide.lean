/-
  SEAT b6616076a. side.clone (26).
-/
import Derived.Test.Qxb6616076aClone
import Derived.Deep.RegionHeld3
import Derived.Deep.DrawnRows
namespace Go.Proofs.Qxb6616076a
open Go Go.RowKit
attribute [local go_sem ↓] Go.wp_at_zero Go.wp_at_succ

/-- Behind a call that makes memory alone, every old cell and mark is as it was. -/
theorem bcell {B : Nat} {W w1 : World} (hb : Below B W w1) : (∀ b o, b < B → w1.cell? ⟨b, o, none⟩ = W.cell? ⟨b, o, none⟩) ∧ (∀ b o, b < B → w1.frozen? ⟨b, o, none⟩ = W.frozen? ⟨b, o, none⟩) :=
  ⟨fun b o h => hb.cell (p := ⟨b, o, none⟩) h, fun b o h => hb.frozen (p := ⟨b, o, none⟩) h⟩

/-- What the walk of 'side.clone' holds while it calls: the boxed argument's cells. -/
abbrev SideS (w : World) (v1 v2 v3 v4 : Value) (w' : World) : Prop :=
  w'.cell? ⟨w.heap.size, 0, none⟩ = some v1 ∧ w'.cell? ⟨w.heap.size, 1, none⟩ = some v2 ∧ w'.cell? ⟨w.heap.size, 2, none⟩ = some v3 ∧ w'.cell? ⟨w.heap.size, 3, none⟩ = some v4 ∧ Below w.heap.size w w' ∧ w.heap.size + 2 ≤ w'.heap.size

theorem SideS.step {w W W' : World} {v1 v2 v3 v4 : Value} (h : SideS w v1 v2 v3 v4 W) (hb : Below W.heap.size W W') : SideS w v1 v2 v3 v4 W' := by
  obtain ⟨c0, c1, c2, c3, b, s⟩ := h
  have hz := hb.size
  exact ⟨((bcell hb).1 _ _ (by omega)).trans c0, ((bcell hb).1 _ _ (by omega)).trans c1, ((bcell hb).1 _ _ (by omega)).trans c2, ((bcell hb).1 _ _ (by omega)).trans c3, b.trans (hb.mono (by omega)), by omega⟩

/-- Four stores into one block. -/
theorem four_kept (W : World) (b : Nat) (y0 y1 y2 y3 : Value) : Kept b (b + 1) W ((((W.setCell ⟨b, 0, none⟩ y0).setCell ⟨b, 1, none⟩ y1).setCell ⟨b, 2, none⟩ y2).setCell ⟨b, 3, none⟩ y3) := by
  refine ⟨rfl, rfl, rfl, by simp [World.setCell], fun k hk => ?_⟩
  rw [Below.heap_setCell _ _ _ _ (by show k ≠ b; omega), Below.heap_setCell _ _ _ _ (by show k ≠ b; omega), Below.heap_setCell _ _ _ _ (by show k ≠ b; omega), Below.heap_setCell _ _ _ _ (by show k ≠ b; omega)]

theorem SideS.stored {w W : World} {v1 v2 v3 v4 : Value} (y0 y1 y2 y3 : Value) (h : SideS w v1 v2 v3 v4 W) :
    SideS w v1 v2 v3 v4 ((((W.setCell ⟨w.heap.size + 1, 0, none⟩ y0).setCell ⟨w.heap.size + 1, 1, none⟩ y1).setCell ⟨w.heap.size + 1, 2, none⟩ y2).setCell ⟨w.heap.size + 1, 3, none⟩ y3) := by
  obtain ⟨q0, q1, q2, q3, qb, qs⟩ := h
  have hk := four_kept W (w.heap.size + 1) y0 y1 y2 y3
  have hb := hk.below (Nat.le_refl _)
  have hz := hk.size
  exact ⟨((bcell hb).1 _ _ (by omega)).trans q0, ((bcell hb).1 _ _ (by omega)).trans q1, ((bcell hb).1 _ _ (by omega)).trans q2, ((bcell hb).1 _ _ (by omega)).trans q3, qb.trans (hb.mono (by omega)), by omega⟩

/-- What three copies made one behind the other, and a store into an elder block, leave. -/
theorem three_own {B : Nat} {W wa wb wc W4 : World} {u1 u2 u4 : Value} {n1 n2 n4 : Bool} {x1 x2 x4 : List Value} 
    (o1 : Own W.heap.size wa.heap.size wa u1 n1 x1) (b1 : Below W.heap.size W wa) (o2 : Own wa.heap.size wb.heap.size wb u2 n2 x2) (b2 : Below wa.heap.size wa wb) (o4 : Own wb.heap.size wc.heap.size wc u4 n4 x4) (b4 : Below wb.heap.size wb wc)
    (hk : Kept B (B + 1) wc W4) (hB : B < W.heap.size) :
    Own W.heap.size wa.heap.size W4 u1 n1 x1 ∧ Own wa.heap.size wb.heap.size W4 u2 n2 x2 ∧ Own wb.heap.size W4.heap.size W4 u4 n4 x4 ∧ W.heap.size ≤ wa.heap.size ∧ wa.heap.size ≤ wb.heap.size ∧ wb.heap.size ≤ W4.heap.size := by
  have s1 := b1.size
  have s2 := b2.size
  have s4 := b4.size
  have s5 := hk.size
  refine ⟨((o1.below b2 (Nat.le_refl _)).below b4 (by omega)).kept hk (by omega), (o2.below b4 (Nat.le_refl _)).kept hk (by omega), ?_, s1, s2, by omega⟩
  rw [s5]
  exact o4.kept hk (by omega)

/-- The result's own block, not yet written. -/
def Res (b n : Nat) (z : Value) (W : World) : Prop := b < W.heap.size ∧ (∀ j, j < n → W.cell? ⟨b, j, none⟩ = some z) ∧ ∀ j, W.frozen? ⟨b, j, none⟩ = false

theorem Res.step {b n : Nat} {z : Value} {W W' : World} (h : Res b n z W) (hb : Below W.heap.size W W') : Res b n z W' :=
  ⟨Nat.lt_of_lt_of_le h.1 hb.size, fun j hj => ((bcell hb).1 _ _ h.1).trans (h.2.1 j hj), fun j => ((bcell hb).2 _ _ h.1).trans (h.2.2 j)⟩

set_option maxHeartbeats 1000000 in
theorem side_clone {lo hi : Nat} {w : World} {a1 a2 a3 a4 : Option Addr} {k1 k2 k3 k4 c1 c2 c3 c4 : Nat} {n1 n2 n4 : Bool} {x1 x2 x4 : List Bool}
    (h1 : Rd lo hi w (.slice a1 k1 c1) n1 (x1.map Value.bool)) (h2 : Rd lo hi w (.slice a2 k2 c2) n2 (x2.map Value.bool)) (h4 : Rd lo hi w (.slice a4 k4 c4) n4 (x4.map Value.bool))
    (hhi : hi ≤ w.heap.size) (l1 : x1.length ≤ 1048576) (l2 : x2.length ≤ 1048576) (l4 : x4.length ≤ 1048576) :
    Calls Try.prog 26 #[.agg #[.slice a1 k1 c1, .slice a2 k2 c2, .slice a3 k3 c3, .slice a4 k4 c4]] w fun e w' => ∃ b1 d1 b2 d2 b4 d4 m1 m2, 
      e = .returned (.agg #[.slice b1 x1.length d1, .slice b2 x2.length d2, .slice a3 k3 c3, .slice b4 x4.length d4]) ∧
      Below w.heap.size w w' ∧ w.heap.size ≤ m1 ∧ m1 ≤ m2 ∧ m2 ≤ w'.heap.size ∧ 
      Own w.heap.size m1 w' (.slice b1 x1.length d1) n1 (x1.map Value.bool) ∧ Own m1 m2 w' (.slice b2 x2.length d2) n2 (x2.map Value.bool) ∧ Own m2 w'.heap.size w' (.slice b4 x4.length d4) n4 (x4.map Value.bool) := by
  have hR : Res (w.heap.size + 1) 4 (.slice none 0 0) ((w.alloc (Obj.cells #[.slice a1 k1 c1, .slice a2 k2 c2, .slice a3 k3 c3, .slice a4 k4 c4] 26)).alloc (Obj.cells #[.slice none 0 0, .slice none 0 0, .slice none 0 0, .slice none 0 0] 26)).drew := by
    refine ⟨by simp, fun j hj => ?_, fun j => by simp⟩
    match j, hj with
    | 0, _ => simp
    | 1, _ => simp
    | 2, _ => simp
    | 3, _ => simp
  go_enter Try.func26, Try.ntmps26
  go_wp2
  go_region_held3 (fun w' => w'.cell? ⟨w.heap.size, 0, none⟩ = some (.slice a1 k1 c1) ∧ w'.cell? ⟨w.heap.size, 1, none⟩ = some (.slice a2 k2 c2) ∧ w'.cell? ⟨w.heap.size, 2, none⟩ = some (.slice a3 k3 c3) ∧ w'.cell? ⟨w.heap.size, 3, none⟩ = some (.slice a4 k4 c4) ∧ Below w.heap.size w w' ∧ w.heap.size + 2 ≤ w'.heap.size)
     (first
      | with_reducible exact hSa
      | with_reducible exact hSb
      | with_reducible exact hSc
      | (refine ⟨by simp, by simp, by simp, by simp, ?_, by simp⟩; exact (((Below.refl _ _).alloc (Nat.le_refl _) _).alloc (by simp) _).drew)
      | with_reducible exact SideS.stored _ _ _ _ hSc)
     (first
      | (go_at_call_of 27 (Value.slice a1 k1 c1); rename_i hS _ _; have hS : SideS w _ _ _ _ _ := hS; refine (clone (lo := lo) (hi := hi) (h1.below (B := w.heap.size) hS.2.2.2.2.1 hhi) (Nat.le_trans hhi hS.2.2.2.2.1.size) l1).mono ?_; rintro e wa ⟨b1, d1, rfl, o1, bl1⟩; have hSa := SideS.step hS bl1)
      | (go_at_call_of 27 (Value.slice a2 k2 c2); refine (clone (lo := lo) (hi := hi) (h2.below (B := w.heap.size) hSa.2.2.2.2.1 hhi) (Nat.le_trans hhi hSa.2.2.2.2.1.size) l2).mono ?_; rintro e wb ⟨b2, d2, rfl, o2, bl2⟩; have hSb := SideS.step hSa bl2)
      | (go_at_call_of 27 (Value.slice a4 k4 c4); refine (clone (lo := lo) (hi := hi) (h4.below (B := w.heap.size) hSb.2.2.2.2.1 hhi) (Nat.le_trans hhi hSb.2.2.2.2.1.size) l4).mono ?_; rintro e wc ⟨b4, d4, rfl, o4, bl4⟩; have hSc := SideS.step hSb bl4; have hRc := ((hR.step bl1).step bl2).step bl4; have g0 := hRc.2.1 0 (by omega); have g1 := hRc.2.1 1 (by omega); have g2 := hRc.2.1 2 (by omega); have g3 := hRc.2.1 3 (by omega); have f0 := hRc.2.2 0; have f1 := hRc.2.2 1; have f2 := hRc.2.2 2; have f3 := hRc.2.2 3))
  have hk := four_kept wc (w.heap.size + 1) (.slice b1 x1.length d1) (.slice b2 x2.length d2) (.slice a3 k3 c3) (.slice b4 x4.length d4)
  have hSd := SideS.stored (.slice b1 x1.length d1) (.slice b2 x2.length d2) (.slice a3 k3 c3) (.slice b4 x4.length d4) hSc
  simp only [List.length_map] at *
  go_wp2
  have T := three_own o1 bl1 o2 bl2 o4 bl4 hk (by simp)
  refine bodyPost_ret (v := .agg #[.slice b1 x1.length d1, .slice b2 x2.length d2, .slice a3 k3 c3, .slice b4 x4.length d4]) (by simp [results, Try.results26, go_sem, g0, g1, g2, g3]) rfl ⟨b1, d1, b2, d2, b4, d4, wa.heap.size, wb.heap.size, rfl, hSd.2.2.2.2.1, ?_, T.2.2.2.2.1, T.2.2.2.2.2, T.1.widen ?_ (Nat.le_refl _), T.2.1, T.2.2.1⟩
  · have := T.2.2.2.1; simp at this; omega
  · simp; omega
#print axioms side_clone
end Go.Proofs.Qxb6616076a
