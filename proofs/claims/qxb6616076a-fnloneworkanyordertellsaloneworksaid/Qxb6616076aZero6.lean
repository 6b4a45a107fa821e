/-
  SEAT b6616076a. FnLoneWorkAnyOrderTellsAloneWork (6): no search at all; and the early ways.
-/
import Derived.Test.Qxb6616076aPlain6
import Derived.Deep.DeepCutAuto
namespace Go.Proofs.Qxb6616076a
open Go Go.RowKit
set_option linter.unusedVariables false

set_option maxRecDepth 100000 in
set_option maxHeartbeats 4000000 in
theorem early6 {w : World} {base : Int} {a1 a2 a3 : Option Addr} {k1 c1 k2 c2 k3 c3 : Nat} (hb : k1 ≤ 9223372036854775807 ∧ k2 ≤ 9223372036854775807 ∧ k3 ≤ 9223372036854775807)
    (hno : 32768 < k1 ∨ 32768 < k2 ∨ 32768 < k3 ∨ k2 ≠ k1 ∨ k3 ≠ k1) :
    Calls Try.prog 6 #[.int .i64 base, .slice a1 k1 c1, .slice a2 k2 c2, .slice a3 k3 c3] w fun e w' => e = .returned (.bool true) ∧ w = w' := by
  have HB : Hid _ := hb
  clear hb
  go_enter Try.func6, Try.ntmps6
  go_wp2_with fail
  refine (bytes23 HB.out.1 HB.out.2.1 HB.out.2.2).mono ?_
  rintro e w' ⟨⟨b, rfl⟩, rfl⟩
  cases b with
  | false =>
    go_wp2
    go_ret
    exact ⟨rfl, rfl⟩
  | true =>
    go_wp2_with (at_make; refine wpList_plain rfl fun K hK => ?_; exfalso; simp at *; omega)
    all_goals first | (go_ret; exact ⟨rfl, rfl⟩) | (exfalso; simp at *; omega)

set_option maxRecDepth 100000 in
set_option maxHeartbeats 4000000 in
theorem zero6 {w : World} {base : Int} {a1 a2 a3 : Option Addr} {c1 c2 c3 : Nat} :
    Calls Try.prog 6 #[.int .i64 base, .slice a1 0 c1, .slice a2 0 c2, .slice a3 0 c3] w fun e w' => e = .returned (.bool true) ∧ Below w.heap.size w w' := by
  have hm36 : ∀ w : World, (Instr.makeSlice 36 (.int .i64 0) (.int .i64 0)).run Try.prog w = .ok (.slice (some ⟨w.heap.size, 0, none⟩) 0 0) (w.alloc (.cells (madeCells #[.int .i64 0] 0) 3)) := run_make_row' (P := Try.prog) 36 3 (.int .i64 0) 8 Try.underlying36 info3 rfl .i64 .i64 0 (by omega) (by omega)
  have hm22 : ∀ w : World, (Instr.makeSlice 22 (.int .i64 0) (.int .i64 0)).run Try.prog w = .ok (.slice (some ⟨w.heap.size, 0, none⟩) 0 0) (w.alloc (.cells (madeCells #[.bool false] 0) 4)) := run_make_row' (P := Try.prog) 22 4 (.bool false) 1 Try.underlying22 info4 rfl .i64 .i64 0 (by omega) (by omega)
  go_enter Try.func6, Try.ntmps6
  go_wp2_with fail
  refine (bytes23 (by omega) (by omega) (by omega)).mono ?_
  rintro e w' ⟨⟨b, rfl⟩, rfl⟩
  cases b with
  | false =>
    go_wp2
    go_ret
    exact ⟨rfl, Below.refl _ _⟩
  | true =>
    have hb0 := (Below.refl w.heap.size w).alloc (Nat.le_refl _) (.cells (madeCells #[.bool false] 0) 4)
    go_wp2
    generalize w.alloc (.cells (madeCells #[.bool false] 0) 4) = w1 at *
    go_loop [11] (fun i => i = .int .i64 0) (fun _ => 0)
    case atStart => rfl
    case round =>
      subst hrel
      go_wp2
      go_cut [13] (fun l wc => ∃ b bw bd, l = .pointer (some ⟨b, 0, none⟩) ∧ LW b bw bd 0 0 0 0 base 0 [] [] 0 false wc ∧ Below w.heap.size w wc)
      case first =>
        go_region_held3 (fun _ => True) (trivial) (first | (go_at_call 19; refine new_lone.mono ?_; rintro e w' ⟨rfl, rfl⟩))
        all_goals (go_wp2_with fail)
        all_goals go_meet
        case rel =>
          have := hb0.size
          exact ⟨_, _, _, rfl, (made1 w1 0 base).drew, (((hb0.alloc hb0.size _).alloc (by simp; omega) _).alloc (by simp; omega) _).drew⟩
        case rel =>
          have := hb0.size
          exact ⟨_, _, _, rfl, (made2 w1 0 base).drew, (((hb0.alloc hb0.size _).alloc (by simp; omega) _).alloc (by simp; omega) _).drew⟩
      case rest =>
        clear hm36 hm22
        obtain ⟨b, bw, bd, rfl, hl, hbw⟩ := hcut
        go_wp2
        go_loop [14] (fun i => i = .int .i64 0) (fun _ => 0)
        case atStart => rfl
        case round =>
          subst hrel
          go_wp2
          go_loop [16, 17] (fun f i => f = .int .i64 0 ∧ i = .int .i64 (-1)) (fun _ _ => 0)
          case atStart => exact ⟨rfl, rfl⟩
          case round =>
            obtain ⟨rfl, rfl⟩ := hrel
            go_wp2
            go_loop [18, 19] (fun t i => t = .int .i64 base ∧ i = .int .i64 0) (fun _ _ => 0)
            case atStart => exact ⟨rfl, rfl⟩
            case round =>
              obtain ⟨rfl, rfl⟩ := hrel
              go_wp2_with fail
              refine (lone_fields hl).mono ?_
              rintro e w' ⟨rfl, mm, rfl⟩
              have g3 : (base != base) = false := by simp
              go_wp2
              go_loop [26] (fun i => i = .int .i64 0) (fun _ => 0)
              case atStart => rfl
              case round =>
                subst hrel
                go_wp2
                go_ret
                exact ⟨rfl, below_drewN hbw mm⟩
#print axioms early6
#print axioms zero6
end Go.Proofs.Qxb6616076a
