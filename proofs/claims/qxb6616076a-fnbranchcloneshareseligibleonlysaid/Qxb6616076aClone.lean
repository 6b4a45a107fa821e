/-
  SEAT b6616076a. slices.Clone at []bool (27).
-/
import Derived.Test.Qxb6616076aCopy
namespace Go.Proofs.Qxb6616076a
open Go Go.RowKit

set_option maxHeartbeats 400000 in
theorem clone_nil (c n : Nat) (w : World) :
    Calls Try.prog 27 #[.slice none n c] w fun e w' => e = .returned (.slice none 0 0) ∧ w' = w := by
  have hnil := eql_nil22
  go_enter Try.func27, Try.ntmps27
  go_wp2
  go_ret
  exact ⟨rfl, rfl⟩

set_option maxHeartbeats 400000 in
theorem clone_some (a : Addr) (c : Nat) (bs : List Bool) (w : World) (hlen : bs.length ≤ 1048576)
   (hcell : ∀ j, j < bs.length → (a.add j).block < w.heap.size ∧ w.cell? (a.add j) = some (.bool (bs.getD j false))) :
    Calls Try.prog 27 #[.slice (some a) bs.length c] w fun e w' => ∃ v, e = .returned v ∧ Below w.heap.size w w' ∧ w'.ownsRow w.heap.size 4 1 v bs.length (bs.map Value.bool) ∧ ¬ v = .slice none 0 0 := by
  have hnil := eql_nil22
  obtain ⟨i0, hi, hz0, hz1, hz2⟩ := info_parts info4
  go_enter Try.func27, Try.ntmps27
  go_wp2_with (at_builtin; refine wpList_append_own _ rfl _ _ 22 rfl w.heap.size 4 i0 (.bool false) 1 1 Try.underlying22 hi hz0 hz1 hz2 rfl (by decide) (.slice (some ⟨w.heap.size, 0, none⟩) 0 0) 0 [] rfl ?c0 a bs.length c (bs.map Value.bool) rfl ?c1 ?c2 ?c3 ?c4 ?c5 ?c6 ?_)
  case c0 => exact World.ownsRow_lit w #[] 0 (Nat.le_refl _) (by unfold maxLen; omega) rfl
  case c1 => simp
  case c2 =>
    intro j u hj
    have hj' : j < bs.length := by
      have := (List.getElem?_eq_some_iff.1 hj).1
      simpa using this
    obtain ⟨h1, h2⟩ := hcell j hj'
    rw [World.cell?_of_block (w := w) (Below.heap_alloc _ _ _ h1), h2]
    rw [← hj]
    simp [List.getD, hj']
  case c3 =>
    intro u hu
    obtain ⟨_, _, rfl⟩ := List.mem_map.1 hu
    rfl
  case c4 => unfold maxLen; omega
  case c5 => omega
  case c6 => simp
  intro v' w' hown hgrow hnv
  go_wp2
  go_ret
  refine ⟨_, rfl, ?_, by simpa using hown, fun h => hnv h⟩
  exact ((Below.refl _ _).alloc (Nat.le_refl _) _).grown hgrow (by simp) (by simp [Value.ownBlock])

theorem clone {lo hi : Nat} {w : World} {v : Value} {nl : Bool} {bs : List Bool} (h : Rd lo hi w v nl (bs.map Value.bool)) (hhi : hi ≤ w.heap.size) (hlen : bs.length ≤ 1048576) :
    Calls Try.prog 27 #[v] w (Copied w nl (bs.map Value.bool)) := by
  obtain ⟨a, cap, rfl, rfl, h0, hx⟩ := h
  rw [List.length_map]
  cases a with
  | none =>
    obtain ⟨hbs, rfl⟩ := h0 rfl
    refine (clone_nil 0 bs.length w).mono fun e w' ⟨he, hw⟩ => by
      subst he
      refine Copied.mk ?_ (by rw [hw]; exact Below.refl _ _)
      rw [hbs]
      exact ⟨none, 0, rfl, rfl, fun _ => ⟨rfl, rfl⟩, .inl rfl⟩
  | some a =>
    have hcell : ∀ j, j < bs.length → (a.add j).block < w.heap.size ∧ w.cell? (a.add j) = some (.bool (bs.getD j false)) := by
      intro j hj
      rcases hx with hx | ⟨b', off', hab, _, hbh, hc⟩
      · simp at hx; subst hx; simp at hj
      · obtain rfl := Option.some.inj hab
        rw [Addr.add_lit, hc j (by simpa using hj)]
        refine ⟨by show b' < _; omega, ?_⟩
        simp [List.getD, hj]
    refine (clone_some a cap bs w hlen hcell).mono fun e w' ⟨v', he, hb, ho, hne⟩ => by
      subst he
      exact Copied.mk (Own.of_owns ho (by simp [hne]) (Nat.le_refl _)) hb

#print axioms clone
end Go.Proofs.Qxb6616076a
