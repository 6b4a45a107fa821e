/-
  SEAT b6616076a. zzBranchReads (12) at branches that read alike.
-/
import Derived.Test.Qxb6616076aSame
namespace Go.Proofs.Qxb6616076a
open Go Go.RowKit

theorem Rd.drewN {lo hi : Nat} {w : World} {v : Value} {nl : Bool} {xs : List Value} (h : Rd lo hi w v nl xs) (n : Nat) : Rd lo hi (w.drewN n) v nl xs :=
  h.keep fun _ _ _ => rfl

/-- Two slices that read the same in the world w. -/
def Both (w : World) (v u : Value) : Prop := ∃ lo hi lo' hi' nl, ∃ bs : List Bool, Rd lo hi w v nl (bs.map Value.bool) ∧ Rd lo' hi' w u nl (bs.map Value.bool) ∧ bs.length ≤ 1048576

theorem Both.same {w : World} {v u : Value} (h : Both w v u) (n : Nat) : Calls Try.prog 15 #[v, u] (w.drewN n) fun e w' => e = .returned (.bool true) ∧ ∃ m, w' = w.drewN m := by
  obtain ⟨lo, hi, lo', hi', nl, bs, h1, h2, hl⟩ := h
  refine (sameBools (h1.drewN n) (h2.drewN n) hl).mono fun e w' ⟨he, m, hm⟩ => ⟨he, n + m, ?_⟩
  rw [hm, World.drewN_drewN]

set_option maxHeartbeats 1000000 in
theorem branch_reads {w : World} {v1 v2 v3 v4 v5 v6 v7 v8 v9 u1 u2 u3 u4 u5 u6 u7 u8 u9 : Value} {left : Int} (h1 : Both w v1 u1) (h2 : Both w v2 u2) (h3 : Both w v3 u3) (h4 : Both w v4 u4) (h5 : Both w v5 u5) (h6 : Both w v6 u6) (h7 : Both w v7 u7) (h8 : Both w v8 u8) (h9 : Both w v9 u9) :
    Calls Try.prog 12 #[v1, v2, v3, v4, v5, v6, v7, v8, v9, .int .i64 left, u1, u2, u3, u4, u5, u6, u7, u8, u9, .int .i64 left] w fun e w' => e = .returned (.bool true) ∧ ∃ m, w' = w.drewN m := by
  have hl : (left == left) = true := by simp
  go_enter Try.func12, Try.ntmps12
  go_wp2_with fail
  refine (h1.same 0).mono ?_
  rintro e w' ⟨rfl, n1, rfl⟩
  go_wp2_with fail
  refine (h2.same n1).mono ?_
  rintro e w' ⟨rfl, n2, rfl⟩
  go_wp2_with fail
  refine (h3.same n2).mono ?_
  rintro e w' ⟨rfl, n3, rfl⟩
  go_wp2_with fail
  refine (h4.same n3).mono ?_
  rintro e w' ⟨rfl, n4, rfl⟩
  go_wp2_with fail
  refine (h5.same n4).mono ?_
  rintro e w' ⟨rfl, n5, rfl⟩
  go_wp2_with fail
  refine (h6.same n5).mono ?_
  rintro e w' ⟨rfl, n6, rfl⟩
  go_wp2_with fail
  refine (h7.same n6).mono ?_
  rintro e w' ⟨rfl, n7, rfl⟩
  go_wp2_with fail
  refine (h8.same n7).mono ?_
  rintro e w' ⟨rfl, n8, rfl⟩
  go_wp2_with fail
  refine (h9.same n8).mono ?_
  rintro e w' ⟨rfl, n9, rfl⟩
  go_wp2
  go_ret
  exact ⟨rfl, n9, rfl⟩
#print axioms branch_reads
end Go.Proofs.Qxb6616076a
