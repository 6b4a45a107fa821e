/-
  SEAT b6616170a. zzClone (9); zzEq (12) at two slices that read the same.
-/
import Derived.Test.Qxb6616170aPlain
import Derived.Deep.QuietTactic
import Derived.BigQuiet
namespace Go.Proofs.Qxb6616170a
open Go Go.RowKit

theorem clone_nil (c n : Nat) (w : World) :
    Calls Try.prog 9 #[.slice none n c] w fun e w' => e = .returned (.slice none 0 0) ∧ w' = w := by
  have hnil := eql_nil22
  go_enter Try.func9, Try.ntmps9
  go_wp2
  go_ret
  exact ⟨rfl, rfl⟩

set_option maxHeartbeats 400000 in
theorem clone_some (a : Addr) (c : Nat) (bs : List Int) (w : World) (hlen : bs.length ≤ 4194304)
   (hcell : ∀ j, j < bs.length → (a.add j).block < w.heap.size ∧ w.cell? (a.add j) = some (byte (bs.getD j 0))) :
    Calls Try.prog 9 #[.slice (some a) bs.length c] w fun e w' => e = .returned (.slice (some ⟨w.heap.size, 0, none⟩) bs.length bs.length) ∧ Below w.heap.size w w' ∧ OB w.heap.size w' (.slice (some ⟨w.heap.size, 0, none⟩) bs.length bs.length) bs := by
  have hnil := eql_nil22
  obtain ⟨i0, hi, hz0, hz1, hz2⟩ := info_parts info5
  go_enter Try.func9, Try.ntmps9
  go_wp2_with (at_make; refine wpList_make_full _ rfl _ _ 22 rfl w.heap.size 5 i0 (.int .u8 0) 1 Try.underlying22 hi hz0 hz1 _ _ _ _ bs.length rfl rfl rfl rfl ?c1 ?c2 ?c3 ?_)
  case c1 => rw [hz2]; omega
  case c2 => unfold maxLen; omega
  case c3 => exact Nat.le_refl _
  intro w1 hown hgrow
  go_wp2
  have hb1 : Below w.heap.size w w1 := (Below.refl _ _).grown hgrow (Nat.le_refl _) (by simp)
  go_loopw [4] (fun i wr => ∃ k : Nat, k ≤ bs.length ∧ i = .int .i64 k ∧ Below w.heap.size w wr ∧ wr.ownsRow w.heap.size 5 1 (.slice (some ⟨w.heap.size, 0, none⟩) bs.length bs.length) bs.length ((bs.take k).map byte ++ List.replicate (bs.length - k) (.int .u8 0)))
    (fun i _ => bs.length - (intOf i).toNat)
  case atStart => exact ⟨0, Nat.zero_le _, rfl, hb1, by simpa [toList_madeCells_one, Value.cells] using hown⟩
  case round =>
    obtain ⟨k, hk, rfl, hnx, hown'⟩ := hrel
    clear hown hgrow hb1
    by_cases hlt : k < bs.length
    · have hc1 : wr.cell? (a.add k) = some (byte (bs.getD k 0)) := (hnx.cell (by exact (hcell k hlt).1)).trans (hcell k hlt).2
      have hc2 : ∃ u, wr.cell? ⟨w.heap.size, k, none⟩ = some u := ⟨_, (hown'.cellAt k (by omega)).trans (List.getElem?_eq_getElem (by simp; omega))⟩
      obtain ⟨u, hc2⟩ := hc2
      have hf := hown'.frozenAt k
      obtain ⟨z, hz⟩ : ∃ z, z = bs.getD k 0 := ⟨_, rfl⟩
      have hst : Hid (∃ k' : Nat, k' = k + 1 ∧ Below w.heap.size w (wr.setCell ⟨w.heap.size, k, none⟩ (byte z)) ∧ (wr.setCell ⟨w.heap.size, k, none⟩ (byte z)).ownsRow w.heap.size 5 1 (.slice (some ⟨w.heap.size, 0, none⟩) bs.length bs.length) bs.length ((bs.take k').map byte ++ List.replicate (bs.length - k') (.int .u8 0))) :=
        ⟨k + 1, rfl, hnx.setCell (Nat.le_refl _) _, by rw [← step_row bs (.int .u8 0) k hlt, ← hz]; exact (hown'.stored k _).1⟩
      rw [← hz] at hc1
      clear hown' hz
      go_wp2
      go_roundw
      case rel =>
        obtain ⟨k', rfl, h1, h2⟩ := hst.out
        exact ⟨k + 1, by omega, by go_num, h1, h2⟩
      case measure => simp [intOf]; omega
    · go_wp2
      go_ret
      have : k = bs.length := by omega
      subst this
      exact ⟨rfl, hnx, by unfold OB; simpa using hown'⟩

theorem Rd.cells {lo hi : Nat} {w : World} {a : Addr} {n cap : Nat} {xs : List Int} (h : Rd lo hi w (.slice (some a) n cap) xs) :
    n = xs.length ∧ ∀ j, j < xs.length → lo ≤ (a.add j).block ∧ (a.add j).block < hi ∧ w.cell? (a.add j) = some (byte (xs.getD j 0)) := by
  obtain ⟨a', cap', hv, h0, hx⟩ := h
  simp only [Value.slice.injEq] at hv
  obtain ⟨rfl, rfl, rfl⟩ := hv
  refine ⟨rfl, fun j hj => ?_⟩
  rcases hx with hx | ⟨b', off', hab, hlo, hbh, hc⟩
  · subst hx; simp at hj
  · obtain rfl := Option.some.inj hab
    rw [Addr.add_lit, hc j hj]
    exact ⟨hlo, hbh, rfl⟩

/-- zzClone: a row of its own, that reads the same. -/
theorem clone {lo hi : Nat} {w : World} {v : Value} {bs : List Int} (h : Rd lo hi w v bs) (hhi : hi ≤ w.heap.size) (hlen : bs.length ≤ 4194304) :
    Calls Try.prog 9 #[v] w fun e w' => ∃ a, e = .returned (.slice a bs.length bs.length) ∧ OB w.heap.size w' (.slice a bs.length bs.length) bs ∧ Below w.heap.size w w' := by
  have k := h
  obtain ⟨a, cap, rfl, h0, hx⟩ := h
  cases a with
  | none =>
    obtain ⟨rfl, rfl⟩ := h0 rfl
    refine (clone_nil 0 0 w).mono fun e w' ⟨he, hw⟩ => ⟨none, he, ⟨rfl, .inl ⟨rfl, rfl⟩⟩, by rw [hw]; exact Below.refl _ _⟩
  | some a =>
    have c := (Rd.cells k).2
    exact (clone_some a cap bs w hlen (fun j hj => ⟨Nat.lt_of_lt_of_le (c j hj).2.1 hhi, (c j hj).2.2⟩)).mono fun e w' ⟨he, hb, ho⟩ => ⟨_, he, ho, hb⟩

theorem eq_empty (a a' : Option Addr) (c c' : Nat) (w : World) :
    Calls Try.prog 12 #[.slice a 0 c, .slice a' 0 c'] w fun e w' => e = .returned (.bool true) ∧ ∃ n, w' = w.drewN n := by
  go_enter Try.func12, Try.ntmps12
  go_wp2
  go_loop [5] (fun i => i = .int .i64 0) (fun _ => 0)
  case atStart => rfl
  case round =>
    subst hrel
    go_wp2
    go_ret
    exact ⟨rfl, 0, rfl⟩

set_option maxHeartbeats 400000 in
theorem eq_some (x x' : Addr) (c c' : Nat) (bs : List Int) (w : World) (hlen : bs.length ≤ 4194304)
   (hc : ∀ j, j < bs.length → w.cell? (x.add j) = some (byte (bs.getD j 0)) ∧ w.cell? (x'.add j) = some (byte (bs.getD j 0))) :
    Calls Try.prog 12 #[.slice (some x) bs.length c, .slice (some x') bs.length c'] w fun e w' => e = .returned (.bool true) ∧ ∃ n, w' = w.drewN n := by
  go_enter Try.func12, Try.ntmps12
  go_wp2
  go_loopw [5] (fun i wr => ∃ k n : Nat, k ≤ bs.length ∧ i = .int .i64 k ∧ wr = w.drewN n) (fun i _ => bs.length - (intOf i).toNat)
  case atStart => exact ⟨0, 0, Nat.zero_le _, rfl, rfl⟩
  case round =>
    obtain ⟨k, n, hk, rfl, rfl⟩ := hrel
    by_cases hlt : k < bs.length
    · obtain ⟨hc1, hc2⟩ := hc k hlt
      have h1 : (k : Int) < (bs.length : Int) := by omega
      clear hc
      obtain ⟨z, hz⟩ : ∃ z, z = bs.getD k 0 := ⟨_, rfl⟩
      rw [← hz] at hc1 hc2
      have hzz : (z != z) = false := by simp
      clear hz
      go_wp2
      go_quiet (fail)
      go_wp2
      go_roundw
      case rel => exact ⟨k + 1, _, by omega, by go_num, rfl⟩
      case measure => simp [intOf]; omega
    · go_wp2
      go_ret
      exact ⟨rfl, n, rfl⟩

/-- Two slices that read the same: zzEq says yes. -/
theorem eq {lo hi lo' hi' : Nat} {w : World} {v v' : Value} {bs : List Int} (h : Rd lo hi w v bs) (h' : Rd lo' hi' w v' bs) (hlen : bs.length ≤ 4194304) :
    Calls Try.prog 12 #[v, v'] w fun e w' => e = .returned (.bool true) ∧ ∃ n, w' = w.drewN n := by
  have k := h
  have k' := h'
  obtain ⟨a, cap, rfl, h0, _⟩ := h
  obtain ⟨a', cap', rfl, h0', _⟩ := h'
  by_cases he : bs = []
  · subst he
    exact eq_empty a a' cap cap' w
  · cases a with
    | none => exact absurd (h0 rfl).1 he
    | some a =>
      cases a' with
      | none => exact absurd (h0' rfl).1 he
      | some a' =>
        exact eq_some a a' cap cap' bs w hlen fun j hj => ⟨((Rd.cells k).2 j hj).2.2, ((Rd.cells k').2 j hj).2.2⟩

#print axioms clone
#print axioms eq
end Go.Proofs.Qxb6616170a
