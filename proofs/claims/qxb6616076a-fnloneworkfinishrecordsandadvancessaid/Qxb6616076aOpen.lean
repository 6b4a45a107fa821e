/-
  SEAT b6616076a. FROM THE ROW's READING OF AN ARGUMENT TO WHAT THE WALKS ARE TOLD.
-/
import Derived.Test.Qxb6616076aRows
import Derived.Test.Qxb6616076aPlain
import Derived.WalkKit
import Derived.ProofKit
import Derived.OpenShut
import Derived.ShutString
import Derived.ChangeOld
import Derived.Below
import Derived.Deep.Grids
namespace Go.Proofs.Qxb6616076a
open Go Go.RowKit
open Go.ChangeShapes Go.WideShapes Go.ChangeAt Go.RowKit
open Go.ChangeMaps (open_string shut_string)

theorem own : ownKnob Try.prog.godebug = none := by kernel_rfl
theorem laidOut : laidOutB Try.prog = true := by kernel_rfl

theorem lt_of_cell {W : World} {a : Addr} {v : Value} (h : W.cell? a = some v) : a.block < W.heap.size := by
  rcases Nat.lt_or_ge a.block W.heap.size with h' | h'
  · exact h'
  · simp [World.cell?, Array.getElem?_eq_none h'] at h

/-- A []bool that came in. -/
theorem rd_bools {H : Type} {enc : TypeId × Value → H} {W : World} {a : Option Addr} {len cap : Nat} {d : DataW H} {p : List MemPlace}
    (h : DataW.Trod enc Try.prog W 0 (fun _ => true) true 22 (.slice a len cap) d p) :
    ∃ nl, ∃ bs : List Bool, bs.length = len ∧ len ≤ maxLen ∧ Rd 0 W.heap.size W (.slice a len cap) nl (bs.map Value.bool) := by
  obtain ⟨fuel, hf⟩ := h
  rcases Deep.open_bools Try.underlying22 Try.underlying4 (by kernel_rfl) hf with ⟨hcs, _⟩ | ⟨x, l, c, B, hcs, _, hl, hm, _, hcell⟩
  · simp [Value.cells] at hcs
    obtain ⟨rfl, rfl, rfl⟩ := hcs
    exact ⟨true, [], rfl, Nat.zero_le _, none, 0, rfl, rfl, fun _ => ⟨rfl, rfl⟩, .inl rfl⟩
  · simp [Value.cells] at hcs
    obtain ⟨rfl, rfl, rfl⟩ := hcs
    refine ⟨false, (List.range len).map B, by simp, by omega, some x, cap, by simp, rfl, fun h => by simp at h, ?_⟩
    by_cases h0 : len = 0
    · left; subst h0; rfl
    · right
      have h00 := hcell 0 (by omega)
      obtain ⟨b, off, spot⟩ := x
      have hspot : spot = none := by simpa [Addr.add] using World.cell?_spot h00
      subst hspot
      have hb := lt_of_cell h00
      rw [Addr.add_lit] at hb
      refine ⟨b, off, rfl, Nat.zero_le _, hb, fun j hj => ?_⟩
      have hj' : j < len := by simpa using hj
      have := hcell j (by omega)
      rw [Addr.add_lit] at this
      rw [this]
      simp [hj']

#print axioms rd_bools
end Go.Proofs.Qxb6616076a
