/-
  SEAT b6616076a. ZZnewLoneWork (19), ZZloneWorkFinish (20), ZZloneWorkFields (21), zzBytes (17, 23).
-/
import Derived.Test.Qxb6616076aFinish
namespace Go.Proofs.Qxb6616076a
open Go Go.RowKit

set_option maxHeartbeats 1000000 in
theorem new_lone {w : World} {base next least : Int} {a1 a2 : Option Addr} {k1 c1 k2 c2 : Nat} {halt : Bool} :
    Calls Try.prog 19 #[.int .i64 base, .int .i64 next, .slice a1 k1 c1, .slice a2 k2 c2, .int .i64 least, .bool halt] w fun e w' => e = .returned (.pointer (some ⟨w.heap.size, 0, none⟩)) ∧
      w.alloc (.cells #[.int .i32 0, .int .u32 0, .pointer none, .int .i64 base, .int .i64 next, .slice a1 k1 c1, .slice a2 k2 c2, .int .i64 least, .bool halt] 56) = w' := by
  go_enter Try.func19, Try.ntmps19
  go_wp2
  go_ret
  exact ⟨rfl, rfl⟩

theorem LW.new {w : World} {base : Int} {next least n cw cd bw bd : Nat} {halt : Bool} {W : List Int} {D : List Bool} (h1 : bw < w.heap.size) (h2 : bd < w.heap.size) (h3 : bw ≠ bd) (lw : W.length = n) (ld : D.length = n)
    (cW : ∀ j, j < n → w.cell? ⟨bw, j, none⟩ = some (.int .i64 (W.getD j 0))) (cD : ∀ j, j < n → w.cell? ⟨bd, j, none⟩ = some (.bool (D.getD j false))) (fW : ∀ j, w.frozen? ⟨bw, j, none⟩ = false) (fD : ∀ j, w.frozen? ⟨bd, j, none⟩ = false) :
    LW w.heap.size bw bd n cw cd 0 base next W D least halt (w.alloc (.cells #[.int .i32 0, .int .u32 0, .pointer none, .int .i64 base, .int .i64 next, .slice (some ⟨bw, 0, none⟩) n cw, .slice (some ⟨bd, 0, none⟩) n cd, .int .i64 least, .bool halt] 56)) := by
  have e : ∀ (o : Obj) (k j : Nat), k < w.heap.size → (w.alloc o).cell? ⟨k, j, none⟩ = w.cell? ⟨k, j, none⟩ := fun o k j hk => World.cell?_of_block (w := w) (Below.heap_alloc _ _ _ hk)
  have f : ∀ (o : Obj) (k j : Nat), k < w.heap.size → (w.alloc o).frozen? ⟨k, j, none⟩ = w.frozen? ⟨k, j, none⟩ := fun o k j hk => World.frozen?_of_block (w := w) (Below.heap_alloc _ _ _ hk)
  refine ⟨by omega, by omega, h3, by simp, by simp; omega, by simp; omega, lw, ld, by simp, by simp, by simp, by simp, by simp, by simp, by simp, fun j => by simp, fun j => by rw [f _ _ _ h1]; exact fW j, fun j => by rw [f _ _ _ h2]; exact fD j, fun j hj => by rw [e _ _ _ h1]; exact cW j hj, fun j hj => by rw [e _ _ _ h2]; exact cD j hj⟩

set_option maxHeartbeats 1000000 in
theorem zz_finish {b bw bd n cw cd : Nat} {base : Int} {next : Nat} {W : List Int} {D : List Bool} {least : Nat} {halt : Bool} {w : World}
    (h : LW b bw bd n cw cd 0 base next W D least halt w) (i : Nat) (hi : i < n) (v : Int) (found : Bool) (hn : n ≤ 65536) (hnx : next ≤ n) (hln : least ≤ n) (L : Nat) (hL : L = if found = true ∧ i < least then i else least) :
    Calls Try.prog 20 #[.pointer (some ⟨b, 0, none⟩), .int .i64 i, .int .i64 v, .bool found] w fun e w' => e = .returned (.tuple #[]) ∧ Only b bw bd w w' ∧
      LW b bw bd n cw cd 0 (adv (W.set i v) (D.set i true) L n base next).1 (adv (W.set i v) (D.set i true) L n base next).2 (W.set i v) (D.set i true) L halt w' := by
  have HL : Hid (L = if found = true ∧ i < least then i else least) := hL
  clear hL
  go_enter Try.func20, Try.ntmps20
  go_wp2_with fail
  refine (finish h i hi v found hn hnx hln L HL.out).mono ?_
  rintro e w' ⟨rfl, ho, hl⟩
  go_wp2
  go_end0
  exact ⟨rfl, ho, hl⟩

set_option maxHeartbeats 1000000 in
theorem lone_fields {b bw bd n cw cd : Nat} {mu base : Int} {next : Nat} {W : List Int} {D : List Bool} {least : Nat} {halt : Bool} {w : World}
    (h : LW b bw bd n cw cd mu base next W D least halt w) :
    Calls Try.prog 21 #[.pointer (some ⟨b, 0, none⟩)] w fun e w' => e = .returned (.tuple #[.int .i64 base, .int .i64 next, .slice (some ⟨bw, 0, none⟩) n cw, .slice (some ⟨bd, 0, none⟩) n cd, .int .i64 least, .bool halt]) ∧ ∃ m, w' = w.drewN m := by
  have r3 := h.c3
  have r4 := h.c4
  have r5 := h.c5
  have r6 := h.c6
  have r7 := h.c7
  have r8 := h.c8
  go_enter Try.func21, Try.ntmps21
  go_wp2
  go_quiet (fail)
  go_wp2
  exact bodyPost_ret (v := .tuple #[.int .i64 base, .int .i64 next, .slice (some ⟨bw, 0, none⟩) n cw, .slice (some ⟨bd, 0, none⟩) n cd, .int .i64 least, .bool halt]) (by simp [results, Try.results21]) rfl ⟨rfl, _, rfl⟩

set_option maxHeartbeats 1000000 in
theorem bytes23 {w : World} {base : Int} {a1 a2 a3 : Option Addr} {k1 c1 k2 c2 k3 c3 : Nat} (e1 : k1 ≤ 9223372036854775807) (e2 : k2 ≤ 9223372036854775807) (e3 : k3 ≤ 9223372036854775807) :
    Calls Try.prog 23 #[.int .i64 base, .slice a1 k1 c1, .slice a2 k2 c2, .slice a3 k3 c3] w fun e w' => (∃ b, e = .returned (.bool b)) ∧ w = w' := by
  go_enter Try.func23, Try.ntmps23
  go_wp2
  all_goals (go_ret; exact ⟨⟨_, rfl⟩, rfl⟩)

set_option maxHeartbeats 1000000 in
theorem bytes17 {w : World} {base next least i v : Int} {halt found : Bool} {a1 a2 : Option Addr} {k1 c1 k2 c2 : Nat} (e1 : k1 ≤ 9223372036854775807) (e2 : k2 ≤ 9223372036854775807) :
    Calls Try.prog 17 #[.int .i64 base, .int .i64 next, .slice a1 k1 c1, .slice a2 k2 c2, .int .i64 least, .bool halt, .int .i64 i, .int .i64 v, .bool found] w fun e w' => (∃ b, e = .returned (.bool b)) ∧ w = w' := by
  go_enter Try.func17, Try.ntmps17
  go_wp2
  all_goals (go_ret; exact ⟨⟨_, rfl⟩, rfl⟩)

#print axioms zz_finish
#print axioms lone_fields
#print axioms bytes17
#print axioms LW.new
end Go.Proofs.Qxb6616076a
