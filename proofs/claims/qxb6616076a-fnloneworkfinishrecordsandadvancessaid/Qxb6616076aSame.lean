/-
  SEAT b6616076a. zzSameBools (15) at two slices that read the same; zzFlipFirst (13).
-/
import Derived.Test.Qxb6616076aPlain
import Derived.Deep.QuietTactic
import Derived.BigQuiet
namespace Go.Proofs.Qxb6616076a
open Go Go.RowKit

set_option maxHeartbeats 400000 in
theorem sameBools_empty (a a' : Option Addr) (c c' : Nat) (w : World) (hnl : a.isNone = a'.isNone) :
    Calls Try.prog 15 #[.slice a 0 c, .slice a' 0 c'] w fun e w' => e = .returned (.bool true) ∧ ∃ n, w' = w.drewN n := by
  have hnil := eql_nil22
  have hne : (a.isNone != a'.isNone) = false := by rw [hnl]; simp
  go_enter Try.func15, Try.ntmps15
  go_wp2
  go_loop [5] (fun i => i = .int .i64 0) (fun _ => 0)
  case atStart => rfl
  case round =>
    subst hrel
    go_wp2
    go_ret
    exact ⟨rfl, 0, rfl⟩

set_option maxHeartbeats 400000 in
theorem sameBools_some (x x' : Addr) (c c' : Nat) (bs : List Bool) (w : World) (hlen : bs.length ≤ 1048576)
   (hc : ∀ j, j < bs.length → w.cell? (x.add j) = some (.bool (bs.getD j false)) ∧ w.cell? (x'.add j) = some (.bool (bs.getD j false))) :
    Calls Try.prog 15 #[.slice (some x) bs.length c, .slice (some x') bs.length c'] w fun e w' => e = .returned (.bool true) ∧ ∃ n, w' = w.drewN n := by
  have hnil := eql_nil22
  go_enter Try.func15, Try.ntmps15
  go_wp2
  go_loopw [5] (fun i wr => ∃ k n : Nat, k ≤ bs.length ∧ i = .int .i64 k ∧ wr = w.drewN n) (fun i _ => bs.length - (intOf i).toNat)
  case atStart => exact ⟨0, 0, Nat.zero_le _, rfl, rfl⟩
  case round =>
    obtain ⟨k, n, hk, rfl, rfl⟩ := hrel
    by_cases hlt : k < bs.length
    · have hc1 : w.cell? (x.add k) = some (.bool (bs.getD k false)) := (hc k hlt).1
      have hc2 : w.cell? (x'.add k) = some (.bool (bs.getD k false)) := (hc k hlt).2
      have h1 : (k : Int) < (bs.length : Int) := by omega
      clear hc
      go_wp2
      go_quiet (fail)
      go_wp2
      go_roundw
      case rel => exact ⟨k + 1, _, by omega, by go_num, rfl⟩
      case measure => simp [intOf]; omega
    · go_wp2
      go_ret
      exact ⟨rfl, n, rfl⟩

theorem Rd.cells {lo hi : Nat} {w : World} {a : Addr} {n cap : Nat} {nl : Bool} {α : Type} {f : α → Value} {d : α} {xs : List α} (h : Rd lo hi w (.slice (some a) n cap) nl (xs.map f)) :
    n = xs.length ∧ nl = false ∧ ∀ j, j < xs.length → lo ≤ (a.add j).block ∧ (a.add j).block < hi ∧ w.cell? (a.add j) = some (f (xs.getD j d)) := by
  obtain ⟨a', cap', hv, hn, h0, hx⟩ := h
  simp only [Value.slice.injEq, List.length_map] at hv
  obtain ⟨rfl, rfl, rfl⟩ := hv
  refine ⟨rfl, by simpa using hn.symm, fun j hj => ?_⟩
  rcases hx with hx | ⟨b', off', hab, hlo, hbh, hc⟩
  · simp at hx; subst hx; simp at hj
  · obtain rfl := Option.some.inj hab
    rw [Addr.add_lit, hc j (by simpa using hj)]
    refine ⟨hlo, hbh, ?_⟩
    simp [List.getD, hj]

/-- Two slices that read the same (nil or not alike): zzSameBools says yes. -/
theorem sameBools {lo hi lo' hi' : Nat} {w : World} {v v' : Value} {nl : Bool} {bs : List Bool} (h : Rd lo hi w v nl (bs.map Value.bool)) (h' : Rd lo' hi' w v' nl (bs.map Value.bool)) (hlen : bs.length ≤ 1048576) :
    Calls Try.prog 15 #[v, v'] w fun e w' => e = .returned (.bool true) ∧ ∃ n, w' = w.drewN n := by
  have k := h
  have k' := h'
  obtain ⟨a, cap, rfl, hn, h0, _⟩ := h
  obtain ⟨a', cap', rfl, hn', h0', _⟩ := h'
  by_cases he : bs = []
  · subst he
    exact sameBools_empty a a' cap cap' w (hn.trans hn'.symm)
  · cases a with
    | none => exact absurd (List.map_eq_nil_iff.1 (h0 rfl).1) he
    | some a =>
      cases a' with
      | none => exact absurd (List.map_eq_nil_iff.1 (h0' rfl).1) he
      | some a' =>
        rw [List.length_map]
        have c1 := (Rd.cells (d := false) k).2.2
        have c2 := (Rd.cells (d := false) k').2.2
        exact sameBools_some a a' cap cap' bs w hlen fun j hj => ⟨(c1 j hj).2.2, (c2 j hj).2.2⟩

def flipL : List Bool → List Bool
  | [] => []
  | b :: r => (!b) :: r

set_option maxHeartbeats 400000 in
theorem flip_empty (a : Option Addr) (c : Nat) (w : World) :
    Calls Try.prog 13 #[.slice a 0 c] w fun e w' => e = .returned (.tuple #[]) ∧ w' = w := by
  go_enter Try.func13, Try.ntmps13
  go_wp2
  go_end0
  exact ⟨rfl, rfl⟩

set_option maxHeartbeats 400000 in
theorem flip_some (b : Nat) (n c : Nat) (x : Bool) (w : World) (hn : 0 < n) (h : w.cell? ⟨b, 0, none⟩ = some (.bool x)) (hf : w.frozen? ⟨b, 0, none⟩ = false) :
    Calls Try.prog 13 #[.slice (some ⟨b, 0, none⟩) n c] w fun e w' => e = .returned (.tuple #[]) ∧ w' = w.setCell ⟨b, 0, none⟩ (.bool (!x)) := by
  have h1 : (0 : Int) < (n : Int) := by omega
  go_enter Try.func13, Try.ntmps13
  go_wp2
  go_end0
  exact ⟨rfl, rfl⟩

theorem flip {lo hi : Nat} {w : World} {v : Value} {nl : Bool} {bs : List Bool} (h : Own lo hi w v nl (bs.map Value.bool)) :
    Calls Try.prog 13 #[v] w fun e w' => e = .returned (.tuple #[]) ∧ Kept lo hi w w' ∧ Own lo hi w' v nl ((flipL bs).map Value.bool) := by
  obtain ⟨a, cap, rfl, hn, h0, hx⟩ := h
  cases bs with
  | nil => exact (flip_empty a cap w).mono fun e w' ⟨he, hw⟩ => ⟨he, by rw [hw]; exact Kept.refl _ _ _, ⟨a, cap, rfl, hn, h0, .inl rfl⟩⟩
  | cons x r =>
    rcases hx with hx | ⟨b, rfl, hl, hh, hc, hf⟩
    · simp at hx
    · have c0 : w.cell? ⟨b, 0, none⟩ = some (.bool x) := by simpa using hc 0 (by simp)
      refine (flip_some b _ cap x w (by simp) c0 (hf 0)).mono fun e w' ⟨he, hw⟩ => ⟨he, ?_, ?_⟩
      · subst hw
        refine ⟨rfl, rfl, rfl, by simp [World.setCell], fun k hk => ?_⟩
        exact Below.heap_setCell _ _ _ _ (by show k ≠ b; omega)
      · subst hw
        refine ⟨_, cap, by simp [flipL], hn, fun h => by simp at h, .inr ⟨b, rfl, hl, hh, fun j hj => ?_, fun j => ?_⟩⟩
        · cases j with
          | zero => exact (World.cell?_setCell_same w ⟨b, 0, none⟩ _ c0).trans (by simp [flipL])
          | succ j =>
            rw [World.cell?_setCell_other w ⟨b, 0, none⟩ ⟨b, j + 1, none⟩ _ (by simp)]
            have := hc (j + 1) (by simpa [flipL] using hj)
            simpa [flipL] using this
        · rw [World.frozen?_setCell]; exact hf j

#print axioms sameBools
#print axioms flip
end Go.Proofs.Qxb6616076a
