/-
  SEAT b6616076a. FnBranchCloneSharesEligibleOnly (4): the main way.
-/
import Derived.Test.Qxb6616076aWalk3
import Derived.Test.Qxb6616076aFlipped
namespace Go.Proofs.Qxb6616076a
open Go Go.RowKit
set_option linter.unusedSimpArgs false
set_option linter.unusedVariables false

theorem Both.sameF {w : World} {lo hi lo' hi' : Nat} {v u : Value} {nl : Bool} {bs : List Bool} (h : Rd lo hi w v nl ((flipL bs).map Value.bool)) (h' : Rd lo' hi' w u nl (bs.map Value.bool)) (hl : bs.length ≤ 1048576) (n : Nat) :
    Calls Try.prog 16 #[v, u] (w.drewN n) fun e w' => e = .returned (.bool true) ∧ ∃ m, w' = w.drewN m :=
  (sameFlipped (h.drewN n) (h'.drewN n) hl).mono fun e w' ⟨he, hw⟩ => ⟨he, n, hw.symm⟩

set_option maxRecDepth 100000 in
set_option maxHeartbeats 4000000 in
theorem main4 {w : World} {a1 a2 a3 a4 a5 a6 a7 a8 a9 : Option Addr} {n c1 c2 c3 c4 c5 c6 c7 c8 c9 : Nat} {left : Int} {n1 n2 n3 n4 n5 n6 n7 n8 n9 : Bool} {x1 x2 x3 x4 x5 x6 x7 x8 x9 : List Bool}
    (hn : n ≤ 65536) (hl : x1.length ≤ 65536 ∧ x2.length ≤ 65536 ∧ x3.length ≤ 65536 ∧ x4.length ≤ 65536 ∧ x5.length ≤ 65536 ∧ x6.length ≤ 65536 ∧ x7.length ≤ 65536 ∧ x8.length ≤ 65536 ∧ x9.length ≤ 65536)
    (ar0 : Args w.heap.size w [(.slice a1 n c1, n1, x1), (.slice a2 n c2, n2, x2), (.slice a3 n c3, n3, x3), (.slice a4 n c4, n4, x4), (.slice a5 n c5, n5, x5), (.slice a6 n c6, n6, x6), (.slice a7 n c7, n7, x7), (.slice a8 n c8, n8, x8), (.slice a9 n c9, n9, x9)]) :
    Calls Try.prog 4 #[.slice a1 n c1, .slice a2 n c2, .slice a3 n c3, .slice a4 n c4, .slice a5 n c5, .slice a6 n c6, .slice a7 n c7, .slice a8 n c8, .slice a9 n c9, .int .i64 left] w fun e w' => e = .returned (.bool true) ∧ Below w.heap.size w w' := by
  obtain ⟨l1, l2, l3, l4, l5, l6, l7, l8, l9⟩ := hl
  have ch0 : Chain w.heap.size w.heap.size w [] := Nat.le_refl _
  have bw0 : Below w.heap.size w w := Below.refl _ _
  go_enter Try.func4, Try.ntmps4
  go_wp2_with fail
  refine (bytes14 (by omega)).mono ?_
  rintro e w' ⟨⟨b, rfl⟩, hw'⟩
  have hw'' := hw'.symm
  clear hw'
  subst hw''
  cases b with
  | false =>
    go_wp2
    go_ret
    exact ⟨rfl, Below.refl _ _⟩
  | true =>
    go_wp2_with fail
    refine (copyBools (ar0.at 0 rfl) ch0.le (by omega)).mono ?_
    rintro e w1 ⟨p1, q1, rfl, o1, bl1⟩
    rw [List.length_map] at o1
    have ch1 := ch0.snoc o1 bl1
    have ar1 := ar0.below bl1 ch0.le
    have bw1 := bw0.trans (bl1.mono ch0.le)
    simp only [List.nil_append, List.cons_append] at ch1
    clear o1 bl1 ch0 ar0 bw0
    go_wp2_with fail
    refine (copyBools (ar1.at 1 rfl) ch1.le (by omega)).mono ?_
    rintro e w2 ⟨p2, q2, rfl, o2, bl2⟩
    rw [List.length_map] at o2
    have ch2 := ch1.snoc o2 bl2
    have ar2 := ar1.below bl2 ch1.le
    have bw2 := bw1.trans (bl2.mono ch1.le)
    simp only [List.nil_append, List.cons_append] at ch2
    clear o2 bl2 ch1 ar1 bw1
    go_wp2_with fail
    refine (copyBools (ar2.at 2 rfl) ch2.le (by omega)).mono ?_
    rintro e w3 ⟨p3, q3, rfl, o3, bl3⟩
    rw [List.length_map] at o3
    have ch3 := ch2.snoc o3 bl3
    have ar3 := ar2.below bl3 ch2.le
    have bw3 := bw2.trans (bl3.mono ch2.le)
    simp only [List.nil_append, List.cons_append] at ch3
    clear o3 bl3 ch2 ar2 bw2
    go_wp2_with fail
    refine (copyBools (ar3.at 3 rfl) ch3.le (by omega)).mono ?_
    rintro e w4 ⟨p4, q4, rfl, o4, bl4⟩
    rw [List.length_map] at o4
    have ch4 := ch3.snoc o4 bl4
    have ar4 := ar3.below bl4 ch3.le
    have bw4 := bw3.trans (bl4.mono ch3.le)
    simp only [List.nil_append, List.cons_append] at ch4
    clear o4 bl4 ch3 ar3 bw3
    go_wp2_with fail
    refine (copyBools (ar4.at 4 rfl) ch4.le (by omega)).mono ?_
    rintro e w5 ⟨p5, q5, rfl, o5, bl5⟩
    rw [List.length_map] at o5
    have ch5 := ch4.snoc o5 bl5
    have ar5 := ar4.below bl5 ch4.le
    have bw5 := bw4.trans (bl5.mono ch4.le)
    simp only [List.nil_append, List.cons_append] at ch5
    clear o5 bl5 ch4 ar4 bw4
    go_wp2_with fail
    refine (copyBools (ar5.at 5 rfl) ch5.le (by omega)).mono ?_
    rintro e w6 ⟨p6, q6, rfl, o6, bl6⟩
    rw [List.length_map] at o6
    have ch6 := ch5.snoc o6 bl6
    have ar6 := ar5.below bl6 ch5.le
    have bw6 := bw5.trans (bl6.mono ch5.le)
    simp only [List.nil_append, List.cons_append] at ch6
    clear o6 bl6 ch5 ar5 bw5
    go_wp2_with fail
    refine (copyBools (ar6.at 6 rfl) ch6.le (by omega)).mono ?_
    rintro e w7 ⟨p7, q7, rfl, o7, bl7⟩
    rw [List.length_map] at o7
    have ch7 := ch6.snoc o7 bl7
    have ar7 := ar6.below bl7 ch6.le
    have bw7 := bw6.trans (bl7.mono ch6.le)
    simp only [List.nil_append, List.cons_append] at ch7
    clear o7 bl7 ch6 ar6 bw6
    go_wp2_with fail
    refine (copyBools (ar7.at 7 rfl) ch7.le (by omega)).mono ?_
    rintro e w8 ⟨p8, q8, rfl, o8, bl8⟩
    rw [List.length_map] at o8
    have ch8 := ch7.snoc o8 bl8
    have ar8 := ar7.below bl8 ch7.le
    have bw8 := bw7.trans (bl8.mono ch7.le)
    simp only [List.nil_append, List.cons_append] at ch8
    clear o8 bl8 ch7 ar7 bw7
    go_wp2_with fail
    refine (copyBools (ar8.at 8 rfl) ch8.le (by omega)).mono ?_
    rintro e w9 ⟨p9, q9, rfl, o9, bl9⟩
    rw [List.length_map] at o9
    have ch9 := ch8.snoc o9 bl9
    have ar9 := ar8.below bl9 ch8.le
    have bw9 := bw8.trans (bl9.mono ch8.le)
    simp only [List.nil_append, List.cons_append] at ch9
    clear o9 bl9 ch8 ar8 bw8
    go_wp2_with fail
    refine new_branch.mono ?_
    rintro e w10 ⟨rfl, bl10⟩
    have chA := (ch9.below bl10 (Nat.le_refl _)).below (Below.new w10 (Obj.cells #[.slice p1 x1.length q1, .slice p2 x2.length q2, .slice p3 x3.length q3, .slice p4 x4.length q4, .slice p5 x5.length q5, .slice p6 x6.length q6, .slice p7 x7.length q7, .slice p8 x8.length q8, .slice p9 x9.length q9, .int .i64 left] 28)) bl10.size
    have arA := (ar9.below bl10 ch9.le).below (Below.new w10 (Obj.cells #[.slice p1 x1.length q1, .slice p2 x2.length q2, .slice p3 x3.length q3, .slice p4 x4.length q4, .slice p5 x5.length q5, .slice p6 x6.length q6, .slice p7 x7.length q7, .slice p8 x8.length q8, .slice p9 x9.length q9, .int .i64 left] 28)) (Nat.le_trans ch9.le bl10.size)
    have bwA := (bw9.trans (bl10.mono ch9.le)).trans ((Below.new w10 (Obj.cells #[.slice p1 x1.length q1, .slice p2 x2.length q2, .slice p3 x3.length q3, .slice p4 x4.length q4, .slice p5 x5.length q5, .slice p6 x6.length q6, .slice p7 x7.length q7, .slice p8 x8.length q8, .slice p9 x9.length q9, .int .i64 left] 28)).mono (Nat.le_trans ch9.le bl10.size))
    have hA9 : w9.heap.size ≤ w10.heap.size := bl10.size
    have hA0 := ch9.le
    clear ch9 ar9 bw9 bl10
    have ZA : (w10.alloc (Obj.cells #[.slice p1 x1.length q1, .slice p2 x2.length q2, .slice p3 x3.length q3, .slice p4 x4.length q4, .slice p5 x5.length q5, .slice p6 x6.length q6, .slice p7 x7.length q7, .slice p8 x8.length q8, .slice p9 x9.length q9, .int .i64 left] 28)).heap.size = w10.heap.size + 1 := by simp
    have HZA := hide ZA
    clear ZA
    go_wp2_with fail
    refine (zz_clone (lo := w.heap.size) (hi := w9.heap.size) (chA.at 0 rfl) (le_big l1) (chA.at 1 rfl) (le_big l2) (chA.at 3 rfl) (le_big l4) (chA.at 4 rfl) (le_big l5) (chA.at 5 rfl) (le_big l6) (chA.at 7 rfl) (le_big l8) (chA.at 8 rfl) (le_big l9) (by rw [unhide HZA]; omega)).mono ?_
    intro e w12 hcl
    obtain ⟨r1, s1, r2, s2, r4, s4, r5, s5, r6, s6, r8, s8, r9, s9, rfl, bl12, chC0⟩ := hcl.out
    clear hcl
    rw [unhide HZA] at bl12 chC0
    have hC0 := chC0.le
    have chF0 := (chA.below bl12 (by omega)).below (Below.new w12 (Obj.cells #[.slice r1 x1.length s1, .slice r2 x2.length s2, .slice p3 x3.length q3, .slice r4 x4.length s4, .slice r5 x5.length s5, .slice r6 x6.length s6, .slice p7 x7.length q7, .slice r8 x8.length s8, .slice r9 x9.length s9, .int .i64 left] 28)) (by omega)
    have arA1 := (arA.below bl12 (by omega)).below (Below.new w12 (Obj.cells #[.slice r1 x1.length s1, .slice r2 x2.length s2, .slice p3 x3.length q3, .slice r4 x4.length s4, .slice r5 x5.length s5, .slice r6 x6.length s6, .slice p7 x7.length q7, .slice r8 x8.length s8, .slice r9 x9.length s9, .int .i64 left] 28)) (by omega)
    have bwA1 := (bwA.trans (bl12.mono (by omega))).trans ((Below.new w12 (Obj.cells #[.slice r1 x1.length s1, .slice r2 x2.length s2, .slice p3 x3.length q3, .slice r4 x4.length s4, .slice r5 x5.length s5, .slice r6 x6.length s6, .slice p7 x7.length q7, .slice r8 x8.length s8, .slice r9 x9.length s9, .int .i64 left] 28)).mono (by omega))
    have chC1 := chC0.below (Below.new w12 (Obj.cells #[.slice r1 x1.length s1, .slice r2 x2.length s2, .slice p3 x3.length q3, .slice r4 x4.length s4, .slice r5 x5.length s5, .slice r6 x6.length s6, .slice p7 x7.length q7, .slice r8 x8.length s8, .slice r9 x9.length s9, .int .i64 left] 28)) (Nat.le_refl _)
    have HTC := hide (Ten.new w12 (.slice r1 x1.length s1) (.slice r2 x2.length s2) (.slice p3 x3.length q3) (.slice r4 x4.length s4) (.slice r5 x5.length s5) (.slice r6 x6.length s6) (.slice p7 x7.length q7) (.slice r8 x8.length s8) (.slice r9 x9.length s9) (.int .i64 left) 28)
    have ZC : (w12.alloc (Obj.cells #[.slice r1 x1.length s1, .slice r2 x2.length s2, .slice p3 x3.length q3, .slice r4 x4.length s4, .slice r5 x5.length s5, .slice r6 x6.length s6, .slice p7 x7.length q7, .slice r8 x8.length s8, .slice r9 x9.length s9, .int .i64 left] 28)).heap.size = w12.heap.size + 1 := by simp
    have HZC := hide ZC
    clear ZC chA arA bwA chC0 bl12 HZA
    have kp0 := Kept.refl w.heap.size w9.heap.size (w12.alloc (Obj.cells #[.slice r1 x1.length s1, .slice r2 x2.length s2, .slice p3 x3.length q3, .slice r4 x4.length s4, .slice r5 x5.length s5, .slice r6 x6.length s6, .slice p7 x7.length q7, .slice r8 x8.length s8, .slice r9 x9.length s9, .int .i64 left] 28))
    go_wp2_with fail
    refine (Chain.flipAt (n := n1) (x := x1) 0 chF0 rfl).mono ?_
    rintro e wf1 ⟨rfl, kk, chF1⟩
    have kp1 := kp0.trans kk
    simp only [List.set] at chF1
    clear kk chF0 kp0
    go_wp2_with fail
    refine (Chain.flipAt (n := n2) (x := x2) 1 chF1 rfl).mono ?_
    rintro e wf2 ⟨rfl, kk, chF2⟩
    have kp2 := kp1.trans kk
    simp only [List.set] at chF2
    clear kk chF1 kp1
    go_wp2_with fail
    refine (Chain.flipAt (n := n3) (x := x3) 2 chF2 rfl).mono ?_
    rintro e wf3 ⟨rfl, kk, chF3⟩
    have kp3 := kp2.trans kk
    simp only [List.set] at chF3
    clear kk chF2 kp2
    go_wp2_with fail
    refine (Chain.flipAt (n := n4) (x := x4) 3 chF3 rfl).mono ?_
    rintro e wf4 ⟨rfl, kk, chF4⟩
    have kp4 := kp3.trans kk
    simp only [List.set] at chF4
    clear kk chF3 kp3
    go_wp2_with fail
    refine (Chain.flipAt (n := n5) (x := x5) 4 chF4 rfl).mono ?_
    rintro e wf5 ⟨rfl, kk, chF5⟩
    have kp5 := kp4.trans kk
    simp only [List.set] at chF5
    clear kk chF4 kp4
    go_wp2_with fail
    refine (Chain.flipAt (n := n6) (x := x6) 5 chF5 rfl).mono ?_
    rintro e wf6 ⟨rfl, kk, chF6⟩
    have kp6 := kp5.trans kk
    simp only [List.set] at chF6
    clear kk chF5 kp5
    go_wp2_with fail
    refine (Chain.flipAt (n := n7) (x := x7) 6 chF6 rfl).mono ?_
    rintro e wf7 ⟨rfl, kk, chF7⟩
    have kp7 := kp6.trans kk
    simp only [List.set] at chF7
    clear kk chF6 kp6
    go_wp2_with fail
    refine (Chain.flipAt (n := n8) (x := x8) 7 chF7 rfl).mono ?_
    rintro e wf8 ⟨rfl, kk, chF8⟩
    have kp8 := kp7.trans kk
    simp only [List.set] at chF8
    clear kk chF7 kp7
    go_wp2_with fail
    refine (Chain.flipAt (n := n9) (x := x9) 8 chF8 rfl).mono ?_
    rintro e wf9 ⟨rfl, kk, chF9⟩
    have kp9 := kp8.trans kk
    simp only [List.set] at chF9
    clear kk chF8 kp8
    have ZF := kp9.size
    rw [unhide HZC] at ZF
    have arA2 := arA1.kept kp9 (by omega)
    have bwA2 := bwA1.trans (kp9.below (by omega))
    have chC2 := chC1.kept kp9 (by omega)
    have tC := (unhide HTC).keep (kp9.block _ (by omega))
    clear arA1 bwA1 chC1 HTC HZC kp9
    go_wp2_with fail
    refine branch_fields.mono ?_
    rintro e w16 ⟨rfl, bl16⟩
    have Z16 := bl16.size
    have arA3 := arA2.below bl16 (by omega)
    have bwA3 := bwA2.trans (bl16.mono (by omega))
    have chC3 := chC2.below bl16 (by omega)
    have chA3 := chF9.below bl16 (by omega)
    clear arA2 bwA2 chC2 chF9 tC bl16
    have hleft : (left == left) = true := by simp
    go_wp2_with fail
    refine ((Both.mk (chC3.at 0 rfl) (arA3.at 0 rfl) (le_big l1)).same 0).mono ?_
    rintro e w' ⟨rfl, g1, rfl⟩
    go_wp2_with fail
    refine ((Both.mk (chC3.at 1 rfl) (arA3.at 1 rfl) (le_big l2)).same g1).mono ?_
    rintro e w' ⟨rfl, g2, rfl⟩
    go_wp2_with fail
    refine (Both.sameF (bs := x3) (chA3.at 2 rfl) (arA3.at 2 rfl) (le_big l3) g2).mono ?_
    rintro e w' ⟨rfl, g3, rfl⟩
    go_wp2_with fail
    refine ((Both.mk (chC3.at 2 rfl) (arA3.at 3 rfl) (le_big l4)).same g3).mono ?_
    rintro e w' ⟨rfl, g4, rfl⟩
    go_wp2_with fail
    refine ((Both.mk (chC3.at 3 rfl) (arA3.at 4 rfl) (le_big l5)).same g4).mono ?_
    rintro e w' ⟨rfl, g5, rfl⟩
    go_wp2_with fail
    refine ((Both.mk (chC3.at 4 rfl) (arA3.at 5 rfl) (le_big l6)).same g5).mono ?_
    rintro e w' ⟨rfl, g6, rfl⟩
    go_wp2_with fail
    refine (Both.sameF (bs := x7) (chA3.at 6 rfl) (arA3.at 6 rfl) (le_big l7) g6).mono ?_
    rintro e w' ⟨rfl, g7, rfl⟩
    go_wp2_with fail
    refine ((Both.mk (chC3.at 5 rfl) (arA3.at 7 rfl) (le_big l8)).same g7).mono ?_
    rintro e w' ⟨rfl, g8, rfl⟩
    go_wp2_with fail
    refine ((Both.mk (chC3.at 6 rfl) (arA3.at 8 rfl) (le_big l9)).same g8).mono ?_
    rintro e w' ⟨rfl, g9, rfl⟩
    go_wp2
    go_ret
    exact ⟨rfl, below_drewN bwA3 g9⟩

#print axioms main4
end Go.Proofs.Qxb6616076a
