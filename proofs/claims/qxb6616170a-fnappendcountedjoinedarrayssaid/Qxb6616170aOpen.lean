/-
  SEAT b6616170a. FROM THE ROW's READING OF AN ARGUMENT TO WHAT THE WALKS ARE TOLD.
-/
import Derived.Test.Qxb6616170aRows
import Derived.Test.Qxb6616170aPlain
import Derived.WalkKit
import Derived.ProofKit
import Derived.OpenShut
import Derived.ShutString
import Derived.ChangeOld
import Derived.Below
namespace Go.Proofs.Qxb6616170a
open Go Go.RowKit
open Go.ChangeShapes Go.WideShapes Go.ChangeAt Go.RowKit

theorem own : ownKnob Try.prog.godebug = none := by kernel_rfl
theorem laidOut : laidOutB Try.prog = true := by kernel_rfl

theorem lt_of_cell {W : World} {a : Addr} {v : Value} (h : W.cell? a = some v) : a.block < W.heap.size := by
  rcases Nat.lt_or_ge a.block W.heap.size with h' | h'
  · exact h'
  · simp [World.cell?, Array.getElem?_eq_none h'] at h

/-- A []byte that came in. -/
theorem rd_bytes {H : Type} {enc : TypeId × Value → H} {W : World} {a : Option Addr} {len cap : Nat} {d : DataW H} {p : List MemPlace}
    (h : DataW.Trod enc Try.prog W 0 (fun _ => true) true 22 (.slice a len cap) d p) :
    ∃ xs : List Int, xs.length = len ∧ len ≤ cap ∧ cap ≤ maxLen ∧ (∀ x ∈ xs, 0 ≤ x ∧ x ≤ 255) ∧ Rd 0 W.heap.size W (.slice a len cap) xs := by
  obtain ⟨fuel, hf⟩ := h
  rcases open_ints Try.underlying22 Try.underlying5 (by kernel_rfl) hf with ⟨hcs, _⟩ | ⟨x, l, c, zs, hcs, _, hl, hm, hz, _, hcell, hwz⟩
  · simp [Value.cells] at hcs
    obtain ⟨rfl, rfl, rfl⟩ := hcs
    exact ⟨[], rfl, Nat.le_refl _, Nat.zero_le _, fun x hx => by simp at hx, none, 0, rfl, fun _ => ⟨rfl, rfl⟩, .inl rfl⟩
  · simp [Value.cells] at hcs
    obtain ⟨rfl, rfl, rfl⟩ := hcs
    have hz' : zs.length = cap := by simpa using hz
    refine ⟨zs.take len, by simp; omega, hl, hm, fun y hy => bounds_u8 (hwz y (List.mem_of_mem_take hy)), some x, cap, by simp; omega, fun h => by simp at h, ?_⟩
    by_cases h0 : len = 0
    · left; subst h0; rfl
    · right
      have h00 := hcell 0 (by omega)
      obtain ⟨b, off, spot⟩ := x
      have hspot : spot = none := by simpa [Addr.add] using World.cell?_spot h00
      subst hspot
      have hb := lt_of_cell h00
      rw [Addr.add_lit] at hb
      refine ⟨b, off, rfl, Nat.zero_le _, hb, fun j hj => ?_⟩
      have hj' : j < len := by simp at hj; omega
      have := hcell j (by omega)
      rw [Addr.add_lit] at this
      rw [this]
      simp [List.getD, hj']

#print axioms rd_bytes
end Go.Proofs.Qxb6616170a
