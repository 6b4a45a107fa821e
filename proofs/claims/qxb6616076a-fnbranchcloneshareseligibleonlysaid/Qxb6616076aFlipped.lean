/-
  SEAT b6616076a. zzSameFlipped (16) at a slice that reads as the other with its first element negated.
-/
import Derived.Test.Qxb6616076aReads
namespace Go.Proofs.Qxb6616076a
open Go Go.RowKit

set_option maxHeartbeats 400000 in
theorem sameFlipped_empty (a a' : Option Addr) (c c' : Nat) (w : World) (hnl : a.isNone = a'.isNone) :
    Calls Try.prog 16 #[.slice a 0 c, .slice a' 0 c'] w fun e w' => e = .returned (.bool true) ∧ w = w' := by
  have hnil := eql_nil22
  have hne : (a.isNone != a'.isNone) = false := by rw [hnl]; simp
  go_enter Try.func16, Try.ntmps16
  go_wp2
  go_loop [5] (fun i => i = .int .i64 0) (fun _ => 0)
  case atStart => rfl
  case round =>
    subst hrel
    go_wp2
    go_ret
    exact ⟨rfl, rfl⟩

theorem flipL_length (bs : List Bool) : (flipL bs).length = bs.length := by cases bs <;> simp [flipL]
theorem flipL_zero (bs : List Bool) (h : 0 < bs.length) : (flipL bs).getD 0 false = !(bs.getD 0 false) := by
  cases bs with
  | nil => simp at h
  | cons b r => simp [flipL]
theorem flipL_succ (bs : List Bool) (k : Nat) (h : k ≠ 0) : (flipL bs).getD k false = bs.getD k false := by
  cases bs with
  | nil => rfl
  | cons b r => cases k with
    | zero => exact absurd rfl h
    | succ k => simp [flipL]

set_option maxHeartbeats 400000 in
theorem sameFlipped_some (x x' : Addr) (c c' : Nat) (bs : List Bool) (w : World) (hlen : bs.length ≤ 1048576)
   (hc : ∀ j, j < bs.length → w.cell? (x.add j) = some (.bool ((flipL bs).getD j false)) ∧ w.cell? (x'.add j) = some (.bool (bs.getD j false))) :
    Calls Try.prog 16 #[.slice (some x) bs.length c, .slice (some x') bs.length c'] w fun e w' => e = .returned (.bool true) ∧ w = w' := by
  have hnil := eql_nil22
  go_enter Try.func16, Try.ntmps16
  go_wp2
  go_loop [5] (fun i => ∃ k : Nat, k ≤ bs.length ∧ i = .int .i64 k) (fun i => bs.length - (intOf i).toNat)
  case atStart => exact ⟨0, Nat.zero_le _, rfl⟩
  case round =>
    obtain ⟨k, hk, rfl⟩ := hrel
    by_cases hlt : k < bs.length
    · obtain ⟨hc1, hc2⟩ := hc k hlt
      have h1 : (k : Int) < (bs.length : Int) := by omega
      clear hc
      by_cases h0 : k = 0
      · have hb : ((k : Int) == 0) = true := by simp [h0]
        have hc1' : w.cell? (x.add k) = some (.bool (!(bs.getD k false))) := by
          rw [hc1]; subst h0; rw [flipL_zero bs hlt]
        clear hc1 h0
        generalize bs.getD k false = y at *
        cases y
        all_goals
          go_wp2
          go_round
          case rel => exact ⟨k + 1, by omega, by go_num⟩
          case measure => simp [intOf]; omega
      · have hb : ((k : Int) == 0) = false := by simp [h0]
        rw [flipL_succ bs k h0] at hc1
        clear h0
        generalize bs.getD k false = y at *
        cases y
        all_goals
          go_wp2
          go_round
          case rel => exact ⟨k + 1, by omega, by go_num⟩
          case measure => simp [intOf]; omega
    · go_wp2
      go_ret
      exact ⟨rfl, rfl⟩

theorem sameFlipped {lo hi lo' hi' : Nat} {w : World} {v v' : Value} {nl : Bool} {bs : List Bool} (h : Rd lo hi w v nl ((flipL bs).map Value.bool)) (h' : Rd lo' hi' w v' nl (bs.map Value.bool)) (hlen : bs.length ≤ 1048576) :
    Calls Try.prog 16 #[v, v'] w fun e w' => e = .returned (.bool true) ∧ w = w' := by
  have k := h
  have k' := h'
  obtain ⟨a, cap, rfl, hn, h0, _⟩ := h
  obtain ⟨a', cap', rfl, hn', h0', _⟩ := h'
  by_cases he : bs = []
  · subst he
    exact sameFlipped_empty a a' cap cap' w (hn.trans hn'.symm)
  · have he' : ¬ flipL bs = [] := fun h => he (by have := flipL_length bs; rw [h] at this; exact List.eq_nil_of_length_eq_zero this.symm)
    cases a with
    | none => exact absurd (List.map_eq_nil_iff.1 (h0 rfl).1) he'
    | some a =>
      cases a' with
      | none => exact absurd (List.map_eq_nil_iff.1 (h0' rfl).1) he
      | some a' =>
        rw [List.length_map, List.length_map, flipL_length]
        have c1 := (Rd.cells (d := false) k).2.2
        have c2 := (Rd.cells (d := false) k').2.2
        exact sameFlipped_some a a' cap cap' bs w hlen fun j hj => ⟨(c1 j (by rw [flipL_length]; exact hj)).2.2, (c2 j hj).2.2⟩

#print axioms sameFlipped
end Go.Proofs.Qxb6616076a
