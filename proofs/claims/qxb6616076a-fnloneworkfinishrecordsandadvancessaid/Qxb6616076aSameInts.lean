/-
  SEAT b6616076a. zzSameInts (22) at two slices that read the same.
-/
import Derived.Test.Qxb6616076aSame
import Derived.Deep.QuietTactic
import Derived.BigQuiet
namespace Go.Proofs.Qxb6616076a
open Go Go.RowKit

set_option maxHeartbeats 400000 in
theorem sameInts_empty (a a' : Option Addr) (c c' : Nat) (w : World) (hnl : a.isNone = a'.isNone) :
    Calls Try.prog 22 #[.slice a 0 c, .slice a' 0 c'] w fun e w' => e = .returned (.bool true) ∧ ∃ n, w' = w.drewN n := by
  have hnil := eql_nil36
  have hne : (a.isNone != a'.isNone) = false := by rw [hnl]; simp
  go_enter Try.func22, Try.ntmps22
  go_wp2
  go_loop [5] (fun i => i = .int .i64 0) (fun _ => 0)
  case atStart => rfl
  case round =>
    subst hrel
    go_wp2
    go_ret
    exact ⟨rfl, 0, rfl⟩

set_option maxHeartbeats 400000 in
theorem sameInts_some (x x' : Addr) (c c' : Nat) (bs : List Int) (w : World) (hlen : bs.length ≤ 1048576)
   (hc : ∀ j, j < bs.length → w.cell? (x.add j) = some (.int .i64 (bs.getD j 0)) ∧ w.cell? (x'.add j) = some (.int .i64 (bs.getD j 0))) :
    Calls Try.prog 22 #[.slice (some x) bs.length c, .slice (some x') bs.length c'] w fun e w' => e = .returned (.bool true) ∧ ∃ n, w' = w.drewN n := by
  have hnil := eql_nil36
  go_enter Try.func22, Try.ntmps22
  go_wp2
  go_loopw [5] (fun i wr => ∃ k n : Nat, k ≤ bs.length ∧ i = .int .i64 k ∧ wr = w.drewN n) (fun i _ => bs.length - (intOf i).toNat)
  case atStart => exact ⟨0, 0, Nat.zero_le _, rfl, rfl⟩
  case round =>
    obtain ⟨k, n, hk, rfl, rfl⟩ := hrel
    by_cases hlt : k < bs.length
    · have hc1 : w.cell? (x.add k) = some (.int .i64 (bs.getD k 0)) := (hc k hlt).1
      have hc2 : w.cell? (x'.add k) = some (.int .i64 (bs.getD k 0)) := (hc k hlt).2
      have h1 : (k : Int) < (bs.length : Int) := by omega
      clear hc
      go_wp2
      go_quiet (fail)
      go_wp2
      go_roundw
      case rel => exact ⟨k + 1, _, by omega, by go_num, rfl⟩
      case measure => simp [intOf]; omega
    · go_wp2
      go_ret
      exact ⟨rfl, n, rfl⟩

/-- Two slices that read the same (nil or not alike): zzSameInts says yes. -/
theorem sameInts {lo hi lo' hi' : Nat} {w : World} {v v' : Value} {nl : Bool} {bs : List Int} (h : Rd lo hi w v nl (bs.map (Value.int .i64))) (h' : Rd lo' hi' w v' nl (bs.map (Value.int .i64))) (hlen : bs.length ≤ 1048576) :
    Calls Try.prog 22 #[v, v'] w fun e w' => e = .returned (.bool true) ∧ ∃ n, w' = w.drewN n := by
  have k := h
  have k' := h'
  obtain ⟨a, cap, rfl, hn, h0, _⟩ := h
  obtain ⟨a', cap', rfl, hn', h0', _⟩ := h'
  by_cases he : bs = []
  · subst he
    exact sameInts_empty a a' cap cap' w (hn.trans hn'.symm)
  · cases a with
    | none => exact absurd (List.map_eq_nil_iff.1 (h0 rfl).1) he
    | some a =>
      cases a' with
      | none => exact absurd (List.map_eq_nil_iff.1 (h0' rfl).1) he
      | some a' =>
        rw [List.length_map]
        have c1 := (Rd.cells (d := 0) k).2.2
        have c2 := (Rd.cells (d := 0) k').2.2
        exact sameInts_some a a' cap cap' bs w hlen fun j hj => ⟨(c1 j hj).2.2, (c2 j hj).2.2⟩

#print axioms sameInts
end Go.Proofs.Qxb6616076a
