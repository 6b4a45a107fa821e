/-
  SEAT b6616170a. LEB128: AppendUvarint (35), zzUvarint (18).
-/
import Derived.Test.Qxb6616170aEnum
import Derived.Deep.LoopGhost
import Derived.Lib.VarintBits
namespace Go.Proofs.Qxb6616170a
open Go Go.RowKit
set_option linter.unusedVariables false

/-- Unsigned LEB128. -/
def uvar (x : Nat) : List Int := if x < 128 then [(x : Int)] else ((x % 128 + 128 : Nat) : Int) :: uvar (x / 128)
termination_by x
decreasing_by omega

theorem uvar_small {x : Nat} (h : x < 128) : uvar x = [(x : Int)] := by rw [uvar, if_pos h]
theorem uvar_big {x : Nat} (h : ¬ x < 128) : uvar x = ((x % 128 + 128 : Nat) : Int) :: uvar (x / 128) := by rw [uvar, if_neg h]
theorem uvar_le (x : Nat) : (uvar x).length ≤ x + 1 := by
  induction x using Nat.strongRecOn with
  | ind x ih =>
    rw [uvar]
    split
    · simp
    · have := ih (x / 128) (by omega)
      simp
      omega

theorem or_128 : ∀ a : Fin 256, bits .or .u8 (a.val : Int) 128 = ((a.val % 128 + 128 : Nat) : Int) := by decide +kernel
theorem or_127 {x : Nat} (y : Nat) (hx : x ≤ 4194304) (hy : y ≤ x) : bits BinOp.or IntKind.u8 ((y : Int) % 256) 128 = ((y % 128 + 128 : Nat) : Int) := by
  have := or_128 ⟨y % 256, by omega⟩
  have e : (((y % 256 : Nat)) : Int) = (y : Int) % 256 := by omega
  simp only [e] at this
  rw [this]
  omega
theorem or_and_127 {x : Nat} (y : Nat) (hx : x ≤ 4194304) (hy : y ≤ x) : bits BinOp.or IntKind.u8 (bits BinOp.and IntKind.u64 (y : Int) 127 % 256) 128 = ((y % 128 + 128 : Nat) : Int) := by
  have e : bits BinOp.and IntKind.u64 (y : Int) 127 = (y : Int) % 128 := bits_mask .u64 64 (by decide) wraps_u64 7 (by decide) y (by omega) (by omega)
  rw [e]
  have := or_128 ⟨y % 128, by omega⟩
  have e2 : (((y % 128 : Nat)) : Int) = (y : Int) % 128 % 256 := by omega
  simp only [e2] at this
  rw [this]
  omega

set_option maxRecDepth 100000 in
set_option maxHeartbeats 1000000 in
theorem append_uvarint {base : Nat} {w : World} {v : Value} {xs : List Int} (h : OB base w v xs) (hb : base ≤ w.heap.size) (x : Nat) (hx : x ≤ 4194304) (hl : xs.length + x ≤ 8000000) :
    Calls Try.prog 35 #[v, .int .u64 x] w fun e w' => ∃ v', e = .returned v' ∧ Below base w w' ∧ OB base w' v' (xs ++ uvar x) := by
  obtain ⟨i0, hi, hz0, hz1, hz2⟩ := info_parts info5
  go_enter Try.func35, Try.ntmps35
  go_wp2
  go_loopg [0, 1] x (fun gk v u wr => ∃ y : Nat, gk = y ∧ y ≤ x ∧ u = .int .u64 y ∧ Below base w wr ∧ ∃ ys, Hid (xs ++ uvar x = ys ++ uvar y) ∧ ys.length + y ≤ 8000000 ∧ OB base wr v ys)
  case atStart => exact ⟨x, rfl, by omega, rfl, Below.refl _ _, xs, rfl, hl, h⟩
  case round =>
    obtain ⟨y, hgk, hy, rfl, hbw, ys, HY, hly, ho⟩ := hrel
    have HGK : Hid (gk = y) := hgk
    clear h hgk
    have hsz := hbw.size
    by_cases hlt : y < 128
    · have hm : (y : Int) % 256 = y := by omega
      go_wp2_with (at_builtin; refine wpList_append_own _ rfl _ _ 22 rfl base 5 i0 (.int .u8 0) 1 1 Try.underlying22 hi hz0 hz1 hz2 rfl (by decide) _ ys.length (ys.map byte) rfl (World.ownsRow.alloc ho _) ⟨wr.heap.size, 0, none⟩ 1 1 [byte ((y : Int))] rfl rfl ?c1 ?c2 ?c3 ?c4 ?c5 ?_)
      case c1 =>
        intro j z hj
        match j, hj with
        | 0, hj => simp at hj; subst hj; simp [Addr.add]
      case c2 => intro z hz; simp at hz; subst hz; rfl
      case c3 => unfold maxLen; omega
      case c4 => omega
      case c5 => simp; omega
      · intro v' w1 hown hgrow _
        have G := OB.grew hbw (by omega) ho hown hgrow
        have HG : Hid _ := G
        clear G hown hgrow ho
        go_wp2
        go_ret
        refine ⟨_, rfl, HG.out.1, ?_⟩
        rw [HY.out, uvar_small hlt]
        exact HG.out.2.1
    · have e1 : Hid (bits BinOp.or IntKind.u8 ((y : Int) % 256) 128 = ((y % 128 + 128 : Nat) : Int)) := or_127 y hx hy
      go_wp2_with (at_builtin; refine wpList_append_own _ rfl _ _ 22 rfl base 5 i0 (.int .u8 0) 1 1 Try.underlying22 hi hz0 hz1 hz2 rfl (by decide) _ ys.length (ys.map byte) rfl (World.ownsRow.alloc ho _) ⟨wr.heap.size, 0, none⟩ 1 1 [byte (bits BinOp.or IntKind.u8 ((y : Int) % 256) 128)] rfl rfl ?c1 ?c2 ?c3 ?c4 ?c5 ?_)
      case c1 =>
        intro j z hj
        match j, hj with
        | 0, hj => simp at hj; subst hj; simp [Addr.add]
      case c2 => intro z hz; simp at hz; subst hz; rfl
      case c3 => unfold maxLen; omega
      case c4 => omega
      case c5 => simp; omega
      · intro v' w1 hown hgrow _
        rw [e1.out] at hown
        have G := OB.grew hbw (by omega) ho hown hgrow
        have HG : Hid _ := G
        clear G hown hgrow ho
        go_wp2
        go_roundg (y / 128)
        case measure => rw [HGK.out]; omega
        case rel => exact ⟨y / 128, rfl, by omega, by go_num, HG.out.1, _, by show _ = _; rw [HY.out, uvar_big hlt, List.append_assoc]; rfl, by simp; omega, HG.out.2.1⟩

set_option maxRecDepth 100000 in
set_option maxHeartbeats 1000000 in
theorem zz_uvarint {base : Nat} {w : World} {v : Value} {xs : List Int} (h : OB base w v xs) (hb : base ≤ w.heap.size) (x : Nat) (hx : x ≤ 4194304) (hl : xs.length + x ≤ 8000000) :
    Calls Try.prog 18 #[v, .int .u64 x] w fun e w' => ∃ v', e = .returned v' ∧ Below base w w' ∧ OB base w' v' (xs ++ uvar x) := by
  obtain ⟨i0, hi, hz0, hz1, hz2⟩ := info_parts info5
  go_enter Try.func18, Try.ntmps18
  go_wp2
  go_loopg [0, 1] x (fun gk v u wr => ∃ y : Nat, gk = y ∧ y ≤ x ∧ u = .int .u64 y ∧ Below base w wr ∧ ∃ ys, Hid (xs ++ uvar x = ys ++ uvar y) ∧ ys.length + y ≤ 8000000 ∧ OB base wr v ys)
  case atStart => exact ⟨x, rfl, by omega, rfl, Below.refl _ _, xs, rfl, hl, h⟩
  case round =>
    obtain ⟨y, hgk, hy, rfl, hbw, ys, HY, hly, ho⟩ := hrel
    have HGK : Hid (gk = y) := hgk
    clear h hgk
    have hsz := hbw.size
    by_cases hlt : y < 128
    · have hm : (y : Int) % 256 = y := by omega
      go_wp2_with (at_builtin; refine wpList_append_own _ rfl _ _ 22 rfl base 5 i0 (.int .u8 0) 1 1 Try.underlying22 hi hz0 hz1 hz2 rfl (by decide) _ ys.length (ys.map byte) rfl (World.ownsRow.alloc ho _) ⟨wr.heap.size, 0, none⟩ 1 1 [byte ((y : Int))] rfl rfl ?c1 ?c2 ?c3 ?c4 ?c5 ?_)
      case c1 =>
        intro j z hj
        match j, hj with
        | 0, hj => simp at hj; subst hj; simp [Addr.add]
      case c2 => intro z hz; simp at hz; subst hz; rfl
      case c3 => unfold maxLen; omega
      case c4 => omega
      case c5 => simp; omega
      · intro v' w1 hown hgrow _
        have G := OB.grew hbw (by omega) ho hown hgrow
        have HG : Hid _ := G
        clear G hown hgrow ho
        go_wp2
        go_ret
        refine ⟨_, rfl, HG.out.1, ?_⟩
        rw [HY.out, uvar_small hlt]
        exact HG.out.2.1
    · have e1 : Hid (bits BinOp.or IntKind.u8 (bits BinOp.and IntKind.u64 (y : Int) 127 % 256) 128 = ((y % 128 + 128 : Nat) : Int)) := or_and_127 y hx hy
      go_wp2_with (at_builtin; refine wpList_append_own _ rfl _ _ 22 rfl base 5 i0 (.int .u8 0) 1 1 Try.underlying22 hi hz0 hz1 hz2 rfl (by decide) _ ys.length (ys.map byte) rfl (World.ownsRow.alloc ho _) ⟨wr.heap.size, 0, none⟩ 1 1 [byte (bits BinOp.or IntKind.u8 (bits BinOp.and IntKind.u64 (y : Int) 127 % 256) 128)] rfl rfl ?c1 ?c2 ?c3 ?c4 ?c5 ?_)
      case c1 =>
        intro j z hj
        match j, hj with
        | 0, hj => simp at hj; subst hj; simp [Addr.add]
      case c2 => intro z hz; simp at hz; subst hz; rfl
      case c3 => unfold maxLen; omega
      case c4 => omega
      case c5 => simp; omega
      · intro v' w1 hown hgrow _
        rw [e1.out] at hown
        have G := OB.grew hbw (by omega) ho hown hgrow
        have HG : Hid _ := G
        clear G hown hgrow ho
        go_wp2
        go_roundg (y / 128)
        case measure => rw [HGK.out]; omega
        case rel => exact ⟨y / 128, rfl, by omega, by go_num, HG.out.1, _, by show _ = _; rw [HY.out, uvar_big hlt, List.append_assoc]; rfl, by simp; omega, HG.out.2.1⟩
end Go.Proofs.Qxb6616170a
