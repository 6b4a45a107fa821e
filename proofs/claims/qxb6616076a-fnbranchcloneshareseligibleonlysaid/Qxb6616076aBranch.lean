/-
  SEAT b6616076a. branch.clone (24), ZZbranchClone (10).
-/
import Derived.Test.Qxb6616076aSide
namespace Go.Proofs.Qxb6616076a
open Go Go.RowKit
attribute [local go_sem ↓] Go.wp_at_zero Go.wp_at_succ

/-- What the walk of 'branch.clone' holds while it calls: the boxed argument's cells. -/
abbrev BranchS (w : World) (v0 v1 v2 v3 v4 v5 v6 v7 v8 v9 : Value) (w' : World) : Prop :=
  w'.cell? ⟨w.heap.size, 0, none⟩ = some v0 ∧ w'.cell? ⟨w.heap.size, 1, none⟩ = some v1 ∧ w'.cell? ⟨w.heap.size, 2, none⟩ = some v2 ∧ w'.cell? ⟨w.heap.size, 3, none⟩ = some v3 ∧ w'.cell? ⟨w.heap.size, 4, none⟩ = some v4 ∧ w'.cell? ⟨w.heap.size, 5, none⟩ = some v5 ∧ w'.cell? ⟨w.heap.size, 6, none⟩ = some v6 ∧ w'.cell? ⟨w.heap.size, 7, none⟩ = some v7 ∧ w'.cell? ⟨w.heap.size, 8, none⟩ = some v8 ∧ w'.cell? ⟨w.heap.size, 9, none⟩ = some v9 ∧ Below w.heap.size w w' ∧ w.heap.size + 2 ≤ w'.heap.size

theorem BranchS.keep {w W W' : World} {v0 v1 v2 v3 v4 v5 v6 v7 v8 v9 : Value} (h : BranchS w v0 v1 v2 v3 v4 v5 v6 v7 v8 v9 W) {B : Nat} (hb : Below B W W') (hB : w.heap.size < B) : BranchS w v0 v1 v2 v3 v4 v5 v6 v7 v8 v9 W' := by
  obtain ⟨q0, q1, q2, q3, q4, q5, q6, q7, q8, q9, b, s⟩ := h
  have hz := hb.size
  exact ⟨((bcell hb).1 _ _ hB).trans q0, ((bcell hb).1 _ _ hB).trans q1, ((bcell hb).1 _ _ hB).trans q2, ((bcell hb).1 _ _ hB).trans q3, ((bcell hb).1 _ _ hB).trans q4, ((bcell hb).1 _ _ hB).trans q5, ((bcell hb).1 _ _ hB).trans q6, ((bcell hb).1 _ _ hB).trans q7, ((bcell hb).1 _ _ hB).trans q8, ((bcell hb).1 _ _ hB).trans q9, b.trans (hb.mono (by omega)), by omega⟩

theorem BranchS.bel {w W : World} {v0 v1 v2 v3 v4 v5 v6 v7 v8 v9 : Value} (h : BranchS w v0 v1 v2 v3 v4 v5 v6 v7 v8 v9 W) : Below w.heap.size w W := h.2.2.2.2.2.2.2.2.2.2.1
theorem BranchS.big {w W : World} {v0 v1 v2 v3 v4 v5 v6 v7 v8 v9 : Value} (h : BranchS w v0 v1 v2 v3 v4 v5 v6 v7 v8 v9 W) : w.heap.size + 2 ≤ W.heap.size := h.2.2.2.2.2.2.2.2.2.2.2

/-- What a clone of a branch leaves: the two eligible sets shared, each other set a copy of its own, one behind the other; nothing old has turned. -/
def Cloned (a3 : Option Addr) (k3 c3 : Nat) (a7 : Option Addr) (k7 c7 : Nat) (left : Int) (n1 n2 n4 n5 n6 n8 n9 : Bool) (x1 x2 x4 x5 x6 x8 x9 : List Bool) (w : World) (e : Ending) (w' : World) : Prop :=
  ∃ b1 d1 b2 d2 b4 d4 b5 d5 b6 d6 b8 d8 b9 d9 m1 m2 m3 m4 m5 m6,
      e = .returned (.agg #[.slice b1 x1.length d1, .slice b2 x2.length d2, .slice a3 k3 c3, .slice b4 x4.length d4, .slice b5 x5.length d5, .slice b6 x6.length d6, .slice a7 k7 c7, .slice b8 x8.length d8, .slice b9 x9.length d9, .int .i64 left]) ∧
      Below w.heap.size w w' ∧ w.heap.size ≤ m1 ∧ m1 ≤ m2 ∧ m2 ≤ m3 ∧ m3 ≤ m4 ∧ m4 ≤ m5 ∧ m5 ≤ m6 ∧ m6 ≤ w'.heap.size ∧
      Own w.heap.size m1 w' (.slice b1 x1.length d1) n1 (x1.map Value.bool) ∧ Own m1 m2 w' (.slice b2 x2.length d2) n2 (x2.map Value.bool) ∧ Own m2 m3 w' (.slice b4 x4.length d4) n4 (x4.map Value.bool) ∧ Own m3 m4 w' (.slice b5 x5.length d5) n5 (x5.map Value.bool) ∧ Own m4 m5 w' (.slice b6 x6.length d6) n6 (x6.map Value.bool) ∧ Own m5 m6 w' (.slice b8 x8.length d8) n8 (x8.map Value.bool) ∧ Own m6 w'.heap.size w' (.slice b9 x9.length d9) n9 (x9.map Value.bool)

/-- Ten stores into one block. -/
theorem ten_kept (W : World) (b : Nat) (y0 y1 y2 y3 y4 y5 y6 y7 y8 y9 : Value) : Kept b (b + 1) W ((((((((((W.setCell ⟨b, 0, none⟩ y0).setCell ⟨b, 1, none⟩ y1).setCell ⟨b, 2, none⟩ y2).setCell ⟨b, 3, none⟩ y3).setCell ⟨b, 4, none⟩ y4).setCell ⟨b, 5, none⟩ y5).setCell ⟨b, 6, none⟩ y6).setCell ⟨b, 7, none⟩ y7).setCell ⟨b, 8, none⟩ y8).setCell ⟨b, 9, none⟩ y9) := by
  have one : ∀ (W : World) (j : Nat) (y : Value), Kept b (b + 1) W (W.setCell ⟨b, j, none⟩ y) := fun W j y => ⟨rfl, rfl, rfl, by simp [World.setCell], fun k hk => Below.heap_setCell _ _ _ _ (by show k ≠ b; omega)⟩
  exact (((((((((one W 0 y0).trans (one _ 1 y1)).trans (one _ 2 y2)).trans (one _ 3 y3)).trans (one _ 4 y4)).trans (one _ 5 y5)).trans (one _ 6 y6)).trans (one _ 7 y7)).trans (one _ 8 y8)).trans (one _ 9 y9)

set_option maxHeartbeats 2000000 in
theorem branch_clone {lo hi : Nat} {w : World} {a1 a2 a3 a4 a5 a6 a7 a8 a9 : Option Addr} {k1 c1 k2 c2 k3 c3 k4 c4 k5 c5 k6 c6 k7 c7 k8 c8 k9 c9 : Nat} {left : Int} {n1 n2 n4 n5 n6 n8 n9 : Bool} {x1 x2 x4 x5 x6 x8 x9 : List Bool}
    (h1 : Rd lo hi w (.slice a1 k1 c1) n1 (x1.map Value.bool)) (l1 : x1.length ≤ 1048576)
    (h2 : Rd lo hi w (.slice a2 k2 c2) n2 (x2.map Value.bool)) (l2 : x2.length ≤ 1048576)
    (h4 : Rd lo hi w (.slice a4 k4 c4) n4 (x4.map Value.bool)) (l4 : x4.length ≤ 1048576)
    (h5 : Rd lo hi w (.slice a5 k5 c5) n5 (x5.map Value.bool)) (l5 : x5.length ≤ 1048576)
    (h6 : Rd lo hi w (.slice a6 k6 c6) n6 (x6.map Value.bool)) (l6 : x6.length ≤ 1048576)
    (h8 : Rd lo hi w (.slice a8 k8 c8) n8 (x8.map Value.bool)) (l8 : x8.length ≤ 1048576)
    (h9 : Rd lo hi w (.slice a9 k9 c9) n9 (x9.map Value.bool)) (l9 : x9.length ≤ 1048576)
    (hhi : hi ≤ w.heap.size) :
    Calls Try.prog 24 #[.agg #[.slice a1 k1 c1, .slice a2 k2 c2, .slice a3 k3 c3, .slice a4 k4 c4, .slice a5 k5 c5, .slice a6 k6 c6, .slice a7 k7 c7, .slice a8 k8 c8, .slice a9 k9 c9, .int .i64 left]] w fun e w' => Cloned a3 k3 c3 a7 k7 c7 left n1 n2 n4 n5 n6 n8 n9 x1 x2 x4 x5 x6 x8 x9 w e w' := by
  have hR : Res (w.heap.size + 1) 9 (.slice none 0 0) ((w.alloc (Obj.cells #[.slice a1 k1 c1, .slice a2 k2 c2, .slice a3 k3 c3, .slice a4 k4 c4, .slice a5 k5 c5, .slice a6 k6 c6, .slice a7 k7 c7, .slice a8 k8 c8, .slice a9 k9 c9, .int .i64 left] 28)).alloc (Obj.cells #[.slice none 0 0, .slice none 0 0, .slice none 0 0, .slice none 0 0, .slice none 0 0, .slice none 0 0, .slice none 0 0, .slice none 0 0, .slice none 0 0, .int .i64 0] 28)).drew := by
    refine ⟨by simp, fun j hj => ?_, fun j => by simp⟩
    match j, hj with
    | 0, _ => simp
    | 1, _ => simp
    | 2, _ => simp
    | 3, _ => simp
    | 4, _ => simp
    | 5, _ => simp
    | 6, _ => simp
    | 7, _ => simp
    | 8, _ => simp
  have hR9 : ((w.alloc (Obj.cells #[.slice a1 k1 c1, .slice a2 k2 c2, .slice a3 k3 c3, .slice a4 k4 c4, .slice a5 k5 c5, .slice a6 k6 c6, .slice a7 k7 c7, .slice a8 k8 c8, .slice a9 k9 c9, .int .i64 left] 28)).alloc (Obj.cells #[.slice none 0 0, .slice none 0 0, .slice none 0 0, .slice none 0 0, .slice none 0 0, .slice none 0 0, .slice none 0 0, .slice none 0 0, .slice none 0 0, .int .i64 0] 28)).drew.cell? ⟨w.heap.size + 1, 9, none⟩ = some (.int .i64 0) := by simp
  go_enter Try.func24, Try.ntmps24
  go_wp2
  go_region_held3 (fun w' => w'.cell? ⟨w.heap.size, 0, none⟩ = some (Value.slice a1 k1 c1) ∧ w'.cell? ⟨w.heap.size, 1, none⟩ = some (Value.slice a2 k2 c2) ∧ w'.cell? ⟨w.heap.size, 2, none⟩ = some (Value.slice a3 k3 c3) ∧ w'.cell? ⟨w.heap.size, 3, none⟩ = some (Value.slice a4 k4 c4) ∧ w'.cell? ⟨w.heap.size, 4, none⟩ = some (Value.slice a5 k5 c5) ∧ w'.cell? ⟨w.heap.size, 5, none⟩ = some (Value.slice a6 k6 c6) ∧ w'.cell? ⟨w.heap.size, 6, none⟩ = some (Value.slice a7 k7 c7) ∧ w'.cell? ⟨w.heap.size, 7, none⟩ = some (Value.slice a8 k8 c8) ∧ w'.cell? ⟨w.heap.size, 8, none⟩ = some (Value.slice a9 k9 c9) ∧ w'.cell? ⟨w.heap.size, 9, none⟩ = some (.int .i64 left) ∧ Below w.heap.size w w' ∧ w.heap.size + 2 ≤ w'.heap.size)
     (first
      | with_reducible exact hSa
      | with_reducible exact hSb
      | with_reducible exact hSc
      | (refine ⟨by simp, by simp, by simp, by simp, by simp, by simp, by simp, by simp, by simp, by simp, ?_, by simp⟩; exact (((Below.refl _ _).alloc (Nat.le_refl _) _).alloc (by simp) _).drew)
      | with_reducible exact BranchS.keep hSc ((ten_kept _ _ _ _ _ _ _ _ _ _ _ _).below (Nat.le_refl _)) (Nat.lt_succ_self _))
     (first
      | (go_at_call_of 26 (Value.slice a1 k1 c1); rename_i hS _ _; have hS : BranchS w _ _ _ _ _ _ _ _ _ _ _ := hS; refine (side_clone (lo := lo) (hi := hi) (h1.below (B := w.heap.size) hS.bel hhi) (h2.below (B := w.heap.size) hS.bel hhi) (h4.below (B := w.heap.size) hS.bel hhi) (Nat.le_trans hhi hS.bel.size) l1 l2 l4).mono ?_; rintro e wa ⟨b1, d1, b2, d2, b4, d4, m1, m2, rfl, bl1, q1, q2, q3, o1, o2, o4⟩; have hSa := BranchS.keep hS bl1 (Nat.lt_of_lt_of_le (by omega) hS.big))
      | (go_at_call_of 26 (Value.slice a5 k5 c5); refine (side_clone (lo := lo) (hi := hi) (h5.below (B := w.heap.size) hSa.bel hhi) (h6.below (B := w.heap.size) hSa.bel hhi) (h8.below (B := w.heap.size) hSa.bel hhi) (Nat.le_trans hhi hSa.bel.size) l5 l6 l8).mono ?_; rintro e wb ⟨b5, d5, b6, d6, b8, d8, m4, m5, rfl, bl2, q4, q5, q6, o5, o6, o8⟩; have hSb := BranchS.keep hSa bl2 (Nat.lt_of_lt_of_le (by omega) hSa.big))
      | (go_at_call_of 27 (Value.slice a9 k9 c9); refine (clone (lo := lo) (hi := hi) (h9.below (B := w.heap.size) hSb.bel hhi) (Nat.le_trans hhi hSb.bel.size) l9).mono ?_; rintro e wc ⟨b9, d9, rfl, o9, bl3⟩; have hSc := BranchS.keep hSb bl3 (Nat.lt_of_lt_of_le (by omega) hSb.big); have hRc := ((hR.step bl1).step bl2).step bl3; have g0 := hRc.2.1 0 (by omega); have g1 := hRc.2.1 1 (by omega); have g2 := hRc.2.1 2 (by omega); have g3 := hRc.2.1 3 (by omega); have g4 := hRc.2.1 4 (by omega); have g5 := hRc.2.1 5 (by omega); have g6 := hRc.2.1 6 (by omega); have g7 := hRc.2.1 7 (by omega); have g8 := hRc.2.1 8 (by omega); have f0 := hRc.2.2 0; have f1 := hRc.2.2 1; have f2 := hRc.2.2 2; have f3 := hRc.2.2 3; have f4 := hRc.2.2 4; have f5 := hRc.2.2 5; have f6 := hRc.2.2 6; have f7 := hRc.2.2 7; have f8 := hRc.2.2 8; have f9 := hRc.2.2 9; have g9 : wc.cell? ⟨w.heap.size + 1, 9, none⟩ = some (.int .i64 0) := ((bcell bl3).1 _ _ hSb.big).trans (((bcell bl2).1 _ _ hSa.big).trans (((bcell bl1).1 _ _ (by simp)).trans hR9))))
  have hk := ten_kept wc (w.heap.size + 1) (.slice b1 x1.length d1) (.slice b2 x2.length d2) (.slice a3 k3 c3) (.slice b4 x4.length d4) (.slice b5 x5.length d5) (.slice b6 x6.length d6) (.slice a7 k7 c7) (.slice b8 x8.length d8) (.slice b9 x9.length d9) (.int .i64 left)
  have hSd := BranchS.keep hSc (hk.below (Nat.le_refl _)) (Nat.lt_succ_self _)
  simp only [List.length_map] at *
  go_wp2
  have z1 := bl1.size
  have z2 := bl2.size
  have z3 := bl3.size
  have z4 := hk.size
  have e0 : (((w.alloc (Obj.cells #[.slice a1 k1 c1, .slice a2 k2 c2, .slice a3 k3 c3, .slice a4 k4 c4, .slice a5 k5 c5, .slice a6 k6 c6, .slice a7 k7 c7, .slice a8 k8 c8, .slice a9 k9 c9, .int .i64 left] 28)).alloc (Obj.cells #[.slice none 0 0, .slice none 0 0, .slice none 0 0, .slice none 0 0, .slice none 0 0, .slice none 0 0, .slice none 0 0, .slice none 0 0, .slice none 0 0, .int .i64 0] 28)).drew).heap.size = w.heap.size + 2 := by simp
  rw [e0] at z1 q1 o1 bl1
  have K1 : ∀ {lo hi : Nat} {v : Value} {nl : Bool} {xs : List Value}, Own lo hi wa v nl xs → w.heap.size + 2 ≤ lo → hi ≤ wa.heap.size → Own lo hi _ v nl xs := fun o h1 h2 => ((o.below bl2 h2).below bl3 (by omega)).kept hk (by omega)
  have K2 : ∀ {lo hi : Nat} {v : Value} {nl : Bool} {xs : List Value}, Own lo hi wb v nl xs → w.heap.size + 2 ≤ lo → hi ≤ wb.heap.size → Own lo hi _ v nl xs := fun o h1 h2 => (o.below bl3 h2).kept hk (by omega)
  have K3 : ∀ {lo hi : Nat} {v : Value} {nl : Bool} {xs : List Value}, Own lo hi wc v nl xs → w.heap.size + 2 ≤ lo → Own lo hi _ v nl xs := fun o h1 => o.kept hk (by omega)
  refine bodyPost_ret (v := .agg #[.slice b1 x1.length d1, .slice b2 x2.length d2, .slice a3 k3 c3, .slice b4 x4.length d4, .slice b5 x5.length d5, .slice b6 x6.length d6, .slice a7 k7 c7, .slice b8 x8.length d8, .slice b9 x9.length d9, .int .i64 left]) (by simp [results, Try.results24, go_sem, g0, g1, g2, g3, g4, g5, g6, g7, g8, g9]) rfl ⟨b1, d1, b2, d2, b4, d4, b5, d5, b6, d6, b8, d8, b9, d9, m1, m2, wa.heap.size, m4, m5, wb.heap.size, rfl, hSd.bel, ?_, q2, q3, q4, q5, q6, ?_, (K1 o1 ?_ ?_).widen ?_ (Nat.le_refl _), K1 o2 ?_ ?_, K1 o4 ?_ ?_, K2 o5 ?_ ?_, K2 o6 ?_ ?_, K2 o8 ?_ ?_, ?_⟩
  all_goals try omega
  rw [z4]
  exact K3 o9 (by omega)

set_option maxHeartbeats 2000000 in
theorem zz_clone {lo hi : Nat} {w : World} {a1 a2 a3 a4 a5 a6 a7 a8 a9 : Option Addr} {k1 c1 k2 c2 k3 c3 k4 c4 k5 c5 k6 c6 k7 c7 k8 c8 k9 c9 : Nat} {left : Int} {n1 n2 n4 n5 n6 n8 n9 : Bool} {x1 x2 x4 x5 x6 x8 x9 : List Bool}
    (h1 : Rd lo hi w (.slice a1 k1 c1) n1 (x1.map Value.bool)) (l1 : x1.length ≤ 1048576)
    (h2 : Rd lo hi w (.slice a2 k2 c2) n2 (x2.map Value.bool)) (l2 : x2.length ≤ 1048576)
    (h4 : Rd lo hi w (.slice a4 k4 c4) n4 (x4.map Value.bool)) (l4 : x4.length ≤ 1048576)
    (h5 : Rd lo hi w (.slice a5 k5 c5) n5 (x5.map Value.bool)) (l5 : x5.length ≤ 1048576)
    (h6 : Rd lo hi w (.slice a6 k6 c6) n6 (x6.map Value.bool)) (l6 : x6.length ≤ 1048576)
    (h8 : Rd lo hi w (.slice a8 k8 c8) n8 (x8.map Value.bool)) (l8 : x8.length ≤ 1048576)
    (h9 : Rd lo hi w (.slice a9 k9 c9) n9 (x9.map Value.bool)) (l9 : x9.length ≤ 1048576)
    (hhi : hi ≤ w.heap.size) :
    Calls Try.prog 10 #[.agg #[.slice a1 k1 c1, .slice a2 k2 c2, .slice a3 k3 c3, .slice a4 k4 c4, .slice a5 k5 c5, .slice a6 k6 c6, .slice a7 k7 c7, .slice a8 k8 c8, .slice a9 k9 c9, .int .i64 left]] w fun e w' => Cloned a3 k3 c3 a7 k7 c7 left n1 n2 n4 n5 n6 n8 n9 x1 x2 x4 x5 x6 x8 x9 w e w' := by
  have hb0 : Below w.heap.size w ((w.alloc (Obj.cells #[.slice a1 k1 c1, .slice a2 k2 c2, .slice a3 k3 c3, .slice a4 k4 c4, .slice a5 k5 c5, .slice a6 k6 c6, .slice a7 k7 c7, .slice a8 k8 c8, .slice a9 k9 c9, .int .i64 left] 28)).alloc (Obj.cells #[.slice none 0 0, .slice none 0 0, .slice none 0 0, .slice none 0 0, .slice none 0 0, .slice none 0 0, .slice none 0 0, .slice none 0 0, .slice none 0 0, .int .i64 0] 28)) := ((Below.refl _ _).alloc (Nat.le_refl _) _).alloc (by simp) _
  have hR : Res (w.heap.size + 1) 9 (.slice none 0 0) ((w.alloc (Obj.cells #[.slice a1 k1 c1, .slice a2 k2 c2, .slice a3 k3 c3, .slice a4 k4 c4, .slice a5 k5 c5, .slice a6 k6 c6, .slice a7 k7 c7, .slice a8 k8 c8, .slice a9 k9 c9, .int .i64 left] 28)).alloc (Obj.cells #[.slice none 0 0, .slice none 0 0, .slice none 0 0, .slice none 0 0, .slice none 0 0, .slice none 0 0, .slice none 0 0, .slice none 0 0, .slice none 0 0, .int .i64 0] 28)) := by
    refine ⟨by simp, fun j hj => ?_, fun j => by simp⟩
    match j, hj with
    | 0, _ => simp
    | 1, _ => simp
    | 2, _ => simp
    | 3, _ => simp
    | 4, _ => simp
    | 5, _ => simp
    | 6, _ => simp
    | 7, _ => simp
    | 8, _ => simp
  have hR9 : ((w.alloc (Obj.cells #[.slice a1 k1 c1, .slice a2 k2 c2, .slice a3 k3 c3, .slice a4 k4 c4, .slice a5 k5 c5, .slice a6 k6 c6, .slice a7 k7 c7, .slice a8 k8 c8, .slice a9 k9 c9, .int .i64 left] 28)).alloc (Obj.cells #[.slice none 0 0, .slice none 0 0, .slice none 0 0, .slice none 0 0, .slice none 0 0, .slice none 0 0, .slice none 0 0, .slice none 0 0, .slice none 0 0, .int .i64 0] 28)).cell? ⟨w.heap.size + 1, 9, none⟩ = some (.int .i64 0) := by simp
  go_enter Try.func10, Try.ntmps10
  go_wp2_with fail
  refine (branch_clone (lo := lo) (hi := hi) (h1.below hb0 hhi) l1 (h2.below hb0 hhi) l2 (h4.below hb0 hhi) l4 (h5.below hb0 hhi) l5 (h6.below hb0 hhi) l6 (h8.below hb0 hhi) l8 (h9.below hb0 hhi) l9 (Nat.le_trans hhi hb0.size)).mono ?_
  rintro e wc ⟨b1, d1, b2, d2, b4, d4, b5, d5, b6, d6, b8, d8, b9, d9, m1, m2, m3, m4, m5, m6, rfl, bl1, q1, q2, q3, q4, q5, q6, q7, o1, o2, o4, o5, o6, o8, o9⟩
  have hRc := hR.step bl1
  have g0 := hRc.2.1 0 (by omega); have g1 := hRc.2.1 1 (by omega); have g2 := hRc.2.1 2 (by omega); have g3 := hRc.2.1 3 (by omega); have g4 := hRc.2.1 4 (by omega); have g5 := hRc.2.1 5 (by omega); have g6 := hRc.2.1 6 (by omega); have g7 := hRc.2.1 7 (by omega); have g8 := hRc.2.1 8 (by omega)
  have f0 := hRc.2.2 0; have f1 := hRc.2.2 1; have f2 := hRc.2.2 2; have f3 := hRc.2.2 3; have f4 := hRc.2.2 4; have f5 := hRc.2.2 5; have f6 := hRc.2.2 6; have f7 := hRc.2.2 7; have f8 := hRc.2.2 8; have f9 := hRc.2.2 9
  have g9 : wc.cell? ⟨w.heap.size + 1, 9, none⟩ = some (.int .i64 0) := ((bcell bl1).1 _ _ (by simp)).trans hR9
  have hk := ten_kept wc (w.heap.size + 1) (.slice b1 x1.length d1) (.slice b2 x2.length d2) (.slice a3 k3 c3) (.slice b4 x4.length d4) (.slice b5 x5.length d5) (.slice b6 x6.length d6) (.slice a7 k7 c7) (.slice b8 x8.length d8) (.slice b9 x9.length d9) (.int .i64 left)
  have e0 : ((w.alloc (Obj.cells #[.slice a1 k1 c1, .slice a2 k2 c2, .slice a3 k3 c3, .slice a4 k4 c4, .slice a5 k5 c5, .slice a6 k6 c6, .slice a7 k7 c7, .slice a8 k8 c8, .slice a9 k9 c9, .int .i64 left] 28)).alloc (Obj.cells #[.slice none 0 0, .slice none 0 0, .slice none 0 0, .slice none 0 0, .slice none 0 0, .slice none 0 0, .slice none 0 0, .slice none 0 0, .slice none 0 0, .int .i64 0] 28)).heap.size = w.heap.size + 2 := by simp
  rw [e0] at q1 o1 bl1
  have z1 := bl1.size
  rw [e0] at z1
  have z4 := hk.size
  go_wp2
  have K1 : ∀ {lo hi : Nat} {v : Value} {nl : Bool} {xs : List Value}, Own lo hi wc v nl xs → w.heap.size + 2 ≤ lo → Own lo hi _ v nl xs := fun o h1 => o.kept hk (by omega)
  refine bodyPost_ret (v := .agg #[.slice b1 x1.length d1, .slice b2 x2.length d2, .slice a3 k3 c3, .slice b4 x4.length d4, .slice b5 x5.length d5, .slice b6 x6.length d6, .slice a7 k7 c7, .slice b8 x8.length d8, .slice b9 x9.length d9, .int .i64 left]) (by simp [results, Try.results10, go_sem, g0, g1, g2, g3, g4, g5, g6, g7, g8, g9]) rfl ⟨b1, d1, b2, d2, b4, d4, b5, d5, b6, d6, b8, d8, b9, d9, m1, m2, m3, m4, m5, m6, rfl, ?_, ?_, q2, q3, q4, q5, q6, ?_, (K1 o1 ?_).widen ?_ (Nat.le_refl _), K1 o2 ?_, K1 o4 ?_, K1 o5 ?_, K1 o6 ?_, K1 o8 ?_, ?_⟩
  all_goals try omega
  · exact (hb0.trans (bl1.mono (by omega))).trans (hk.below (by omega))
  rw [z4]
  exact K1 o9 (by omega)
#print axioms zz_clone
end Go.Proofs.Qxb6616076a
