/-
  SEAT b6616076a. zzCopyInts (18).
-/
import Derived.Test.Qxb6616076aPlain
namespace Go.Proofs.Qxb6616076a
open Go Go.RowKit

set_option maxHeartbeats 400000 in
theorem copyInts_nil (c n : Nat) (w : World) :
    Calls Try.prog 18 #[.slice none n c] w fun e w' => e = .returned (.slice none 0 0) ∧ w' = w := by
  have hnil := eql_nil36
  go_enter Try.func18, Try.ntmps18
  go_wp2
  go_ret
  exact ⟨rfl, rfl⟩

set_option maxHeartbeats 400000 in
theorem copyInts_some (a : Addr) (c : Nat) (bs : List Int) (w : World) (hlen : bs.length ≤ 1048576)
   (hcell : ∀ j, j < bs.length → (a.add j).block < w.heap.size ∧ w.cell? (a.add j) = some (.int .i64 (bs.getD j 0))) :
    Calls Try.prog 18 #[.slice (some a) bs.length c] w fun e w' => e = .returned (.slice (some ⟨w.heap.size, 0, none⟩) bs.length bs.length) ∧ Below w.heap.size w w' ∧ w'.ownsRow w.heap.size 3 1 (.slice (some ⟨w.heap.size, 0, none⟩) bs.length bs.length) bs.length (bs.map (Value.int .i64)) := by
  have hnil := eql_nil36
  obtain ⟨i0, hi, hz0, hz1, hz2⟩ := info_parts info3
  go_enter Try.func18, Try.ntmps18
  go_wp2_with (at_make; refine wpList_make_full _ rfl _ _ 36 rfl w.heap.size 3 i0 (.int .i64 0) 1 Try.underlying36 hi hz0 hz1 _ _ _ _ bs.length rfl rfl rfl rfl ?c1 ?c2 ?c3 ?_)
  case c1 => rw [hz2]; omega
  case c2 => unfold maxLen; omega
  case c3 => exact Nat.le_refl _
  intro w1 hown hgrow
  go_wp2
  have hb1 : Below w.heap.size w w1 := (Below.refl _ _).grown hgrow (Nat.le_refl _) (by simp)
  go_loopw [4] (fun i wr => ∃ k : Nat, k ≤ bs.length ∧ i = .int .i64 k ∧ Below w.heap.size w wr ∧ wr.ownsRow w.heap.size 3 1 (.slice (some ⟨w.heap.size, 0, none⟩) bs.length bs.length) bs.length ((bs.take k).map (Value.int .i64) ++ List.replicate (bs.length - k) (.int .i64 0)))
    (fun i _ => bs.length - (intOf i).toNat)
  case atStart => exact ⟨0, Nat.zero_le _, rfl, hb1, by simpa [toList_madeCells_one, Value.cells] using hown⟩
  case round =>
    obtain ⟨k, hk, rfl, hnx, hown'⟩ := hrel
    clear hown hgrow hb1
    by_cases hlt : k < bs.length
    · have hc1 : wr.cell? (a.add k) = some (.int .i64 (bs.getD k 0)) := (hnx.cell (by exact (hcell k hlt).1)).trans (hcell k hlt).2
      have hc2 : ∃ u, wr.cell? ⟨w.heap.size, k, none⟩ = some u := ⟨_, (hown'.cellAt k (by omega)).trans (List.getElem?_eq_getElem (by simp; omega))⟩
      obtain ⟨u, hc2⟩ := hc2
      have hf := hown'.frozenAt k
      have hst : Hid (∃ k' : Nat, k' = k + 1 ∧ Below w.heap.size w (wr.setCell ⟨w.heap.size, k, none⟩ (.int .i64 (bs.getD k 0))) ∧ (wr.setCell ⟨w.heap.size, k, none⟩ (.int .i64 (bs.getD k 0))).ownsRow w.heap.size 3 1 (.slice (some ⟨w.heap.size, 0, none⟩) bs.length bs.length) bs.length ((bs.take k').map (Value.int .i64) ++ List.replicate (bs.length - k') (.int .i64 0))) :=
        ⟨k + 1, rfl, hnx.setCell (Nat.le_refl _) _, by rw [← step_row (Value.int .i64) (.int .i64 0) bs 0 k hlt]; exact (hown'.stored k _).1⟩
      clear hown'
      go_wp2
      go_roundw
      case rel =>
        obtain ⟨k', rfl, h1, h2⟩ := hst.out
        simp only [List.getD_eq_getElem?_getD, List.getElem?_eq_getElem hlt, Option.getD_some] at h1 h2
        exact ⟨k + 1, by omega, by go_num, h1, h2⟩
      case measure => simp [intOf]; omega
    · go_wp2
      go_ret
      have : k = bs.length := by omega
      subst this
      exact ⟨rfl, hnx, by simpa using hown'⟩

theorem copyInts {lo hi : Nat} {w : World} {v : Value} {nl : Bool} {bs : List Int} (h : Rd lo hi w v nl (bs.map (Value.int .i64))) (hhi : hi ≤ w.heap.size) (hlen : bs.length ≤ 1048576) :
    Calls Try.prog 18 #[v] w (Copied w nl (bs.map (Value.int .i64))) := by
  obtain ⟨a, cap, rfl, rfl, h0, hx⟩ := h
  rw [List.length_map]
  cases a with
  | none =>
    obtain ⟨hbs, rfl⟩ := h0 rfl
    refine (copyInts_nil 0 bs.length w).mono fun e w' ⟨he, hw⟩ => by
      subst he
      refine Copied.mk ?_ (by rw [hw]; exact Below.refl _ _)
      rw [hbs]
      exact ⟨none, 0, rfl, rfl, fun _ => ⟨rfl, rfl⟩, .inl rfl⟩
  | some a =>
    have hcell : ∀ j, j < bs.length → (a.add j).block < w.heap.size ∧ w.cell? (a.add j) = some (.int .i64 (bs.getD j 0)) := by
      intro j hj
      rcases hx with hx | ⟨b', off', hab, _, hbh, hc⟩
      · simp at hx; subst hx; simp at hj
      · obtain rfl := Option.some.inj hab
        rw [Addr.add_lit, hc j (by simpa using hj)]
        refine ⟨by show b' < _; omega, ?_⟩
        simp [List.getD, hj]
    refine (copyInts_some a cap bs w hlen hcell).mono fun e w' ⟨he, hb, ho⟩ => by
      subst he
      exact Copied.mk (Own.of_owns ho (by simp) (Nat.le_refl _)) hb

#print axioms copyInts
end Go.Proofs.Qxb6616076a
