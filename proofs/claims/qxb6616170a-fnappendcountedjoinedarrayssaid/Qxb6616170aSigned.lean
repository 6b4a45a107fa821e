/-
  SEAT b6616170a. zzSignedLE (14).
-/
import Derived.Test.Qxb6616170aEnum
namespace Go.Proofs.Qxb6616170a
open Go Go.RowKit
set_option linter.unusedVariables false

theorem ret_int {k : IntKind} {a b : Int} (h : a = b) : Ending.returned (.int k a) = .returned (.int k b) := by rw [h]

theorem i8_eq (z : Int) : IntKind.i8.wrap z = if 128 ≤ z % 256 then z % 256 - 256 else z % 256 := by
  simp [IntKind.wrap, IntKind.bits, IntKind.signed]
theorem i16_eq (z : Int) : IntKind.i16.wrap z = if 32768 ≤ z % 65536 then z % 65536 - 65536 else z % 65536 := by
  simp [IntKind.wrap, IntKind.bits, IntKind.signed]
theorem i8_small (z : Int) : -128 ≤ IntKind.i8.wrap z ∧ IntKind.i8.wrap z ≤ 127 := by
  rw [i8_eq]; constructor <;> split <;> omega
theorem i16_small (z : Int) : -32768 ≤ IntKind.i16.wrap z ∧ IntKind.i16.wrap z ≤ 32767 := by
  rw [i16_eq]; constructor <;> split <;> omega

theorem or_bytes (y z : Int) (hy : 0 ≤ y ∧ y ≤ 255) (hz : 0 ≤ z ∧ z ≤ 255) : bits .or .u16 y (z * 256) = y + 256 * z := by
  obtain ⟨a, rfl⟩ : ∃ a : Nat, y = a := ⟨y.toNat, by omega⟩
  obtain ⟨b, rfl⟩ : ∃ b : Nat, z = b := ⟨z.toNat, by omega⟩
  have h := u16_or_nat a (b * 256) (by omega) (by omega)
  rw [show ((b : Int) * 256) = ((b * 256 : Nat) : Int) by simp, h]
  have e : a ||| b * 256 = 256 * b + a := by
    have := Nat.two_pow_add_eq_or_of_lt (i := 8) (b := a) (by omega) b
    rw [Nat.or_comm, Nat.mul_comm b 256]
    exact this.symm
  rw [e]
  omega

theorem signed_one {w : World} {b off c : Nat} {z : Int} (hz : 0 ≤ z ∧ z ≤ 255) (h : w.cell? ⟨b, off, none⟩ = some (byte z)) :
    Calls Try.prog 14 #[.slice (some ⟨b, off, none⟩) 1 c] w fun e w' => e = .returned (.int .i64 (IntKind.i8.wrap z)) ∧ ∃ n, w' = w.drewN n := by
  have hs := i8_small z
  go_enter Try.func14, Try.ntmps14
  go_wp2
  go_ret
  exact ⟨rfl, 0, rfl⟩
theorem signed_two {w : World} {b off c : Nat} {y z : Int} (hy : 0 ≤ y ∧ y ≤ 255) (hz : 0 ≤ z ∧ z ≤ 255) (h : w.cell? ⟨b, off, none⟩ = some (byte y)) (h' : w.cell? ⟨b, off + 1, none⟩ = some (byte z)) :
    Calls Try.prog 14 #[.slice (some ⟨b, off, none⟩) 2 c] w fun e w' => e = .returned (.int .i64 (IntKind.i16.wrap (y + 256 * z))) ∧ ∃ n, w' = w.drewN n := by
  have hs := i16_small (y + 256 * z)
  have ho := or_bytes y z hy hz
  go_enter Try.func14, Try.ntmps14
  go_wp2
  go_quiet (fail)
  go_wp2
  go_ret
  exact ⟨rfl, _, rfl⟩

/-- What is read back of the bytes that the enum's null appends. -/
theorem le_two (least : Int) (h1 : -32768 ≤ least) (h2 : least ≤ 32767) : ∃ y z, leB (IntKind.u64.wrap least) 2 = [y, z] ∧ IntKind.i16.wrap (y + 256 * z) = least ∧ (0 ≤ y ∧ y ≤ 255) ∧ (0 ≤ z ∧ z ≤ 255) := by
  refine ⟨least % 256, least / 256 % 256, ?_, ?_, by omega, by omega⟩
  · simp only [leB, List.nil_append, List.cons_append, IntKind.wrap_u64]
    congr 1
    · show least % 18446744073709551616 / 2 ^ (8 * 0) % 256 = _
      omega
    · congr 1
      show least % 18446744073709551616 / 2 ^ (8 * 1) % 256 = _
      omega
  · rw [i16_eq]
    split <;> omega
theorem le_one' (least : Int) (h1 : -128 ≤ least) (h2 : least ≤ 127) : ∃ z, leB (IntKind.u64.wrap least) 1 = [z] ∧ IntKind.i8.wrap z = least ∧ 0 ≤ z ∧ z ≤ 255 := by
  refine ⟨least % 256, ?_, ?_, by omega, by omega⟩
  · simp only [leB, List.nil_append, IntKind.wrap_u64]
    congr 1
    show least % 18446744073709551616 / 2 ^ (8 * 0) % 256 = _
    omega
  · rw [i8_eq]
    split <;> omega

/-- The size low bytes of least, read back. -/
theorem signed {lo hi : Nat} {w : World} {b off c size : Nat} {least : Int} (hs : (size = 1 ∧ -128 ≤ least ∧ least ≤ 127) ∨ (size = 2 ∧ -32768 ≤ least ∧ least ≤ 32767)) (r : Rd lo hi w (.slice (some ⟨b, off, none⟩) size c) (leB (IntKind.u64.wrap least) size)) :
    Calls Try.prog 14 #[.slice (some ⟨b, off, none⟩) size c] w fun e w' => e = .returned (.int .i64 least) ∧ ∃ n, w' = w.drewN n := by
  have hc := (Rd.cells r).2
  rcases hs with ⟨rfl, h1, h2⟩ | ⟨rfl, h1, h2⟩
  · obtain ⟨z, e, hz, hr⟩ := le_one' least h1 h2
    rw [e] at hc
    have c0 := (hc 0 (by simp)).2.2
    rw [Addr.add_lit] at c0
    have := signed_one (c := c) hr (by simpa using c0)
    rw [hz] at this
    exact this
  · obtain ⟨y, z, e, hz, hy, hr⟩ := le_two least h1 h2
    rw [e] at hc
    have c0 := (hc 0 (by simp)).2.2
    have c1 := (hc 1 (by simp)).2.2
    rw [Addr.add_lit] at c0 c1
    have := signed_two (c := c) hy hr (by simpa using c0) (by simpa using c1)
    rw [hz] at this
    exact this
#print axioms signed
end Go.Proofs.Qxb6616170a
