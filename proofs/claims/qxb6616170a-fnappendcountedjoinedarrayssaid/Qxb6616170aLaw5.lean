/-
  SEAT b6616170a. FnEnumNullEnum16ExtendsEnum8 (5).
-/
import Derived.Test.Qxb6616170aEnum
namespace Go.Proofs.Qxb6616170a
open Go Go.RowKit
set_option linter.unusedVariables false

theorem OB.cell {base g m cap : Nat} {w : World} {ys : List Int} (h : OB base w (.slice (some ⟨g, 0, none⟩) m cap) ys) (j : Nat) (hj : j < ys.length) : w.cell? ⟨g, j, none⟩ = some (byte (ys.getD j 0)) := by
  have := ((Rd.cells h.rd).2 j hj).2.2
  rw [Addr.add_lit, Nat.zero_add] at this
  exact this

/-- The first k bytes. -/
theorem Rd.front {lo hi : Nat} {w : World} {g n cap cap' k : Nat} {xs : List Int} (h : Rd lo hi w (.slice (some ⟨g, 0, none⟩) n cap) xs) (hk : k ≤ xs.length) : Rd lo hi w (.slice (some ⟨g, 0, none⟩) k cap') (xs.take k) := by
  have := Rd.part (k := 0) (m := k) (cap' := cap') h (by omega)
  simpa using this

theorem bytes15 {w : World} {least : Int} {a : Option Addr} {k c : Nat} (e1 : k ≤ 9223372036854775807) :
    Calls Try.prog 15 #[.int .i64 least, .slice a k c] w fun e w' => (∃ b, e = .returned (.bool b)) ∧ w = w' := by
  go_enter Try.func15, Try.ntmps15
  go_wp2
  all_goals (go_ret; exact ⟨⟨_, rfl⟩, rfl⟩)

set_option maxHeartbeats 1000000 in
theorem early5 {w : World} {least : Int} {a : Option Addr} {k c : Nat} (hb : k ≤ 9223372036854775807) (hno : 1048576 < k ∨ least < -128 ∨ 127 < least) :
    Calls Try.prog 5 #[.int .i64 least, .slice a k c] w fun e w' => e = .returned (.bool true) ∧ w = w' := by
  have HB : Hid _ := hb
  clear hb
  go_enter Try.func5, Try.ntmps5
  go_wp2_with fail
  refine (bytes15 HB.out).mono ?_
  rintro e w' ⟨⟨b, rfl⟩, rfl⟩
  cases b with
  | false =>
    go_wp2
    go_ret
    exact ⟨rfl, rfl⟩
  | true =>
    go_wp2_with fail
    all_goals first | (go_ret; exact ⟨rfl, rfl⟩) | (exfalso; simp at *; omega)

/-- The bytes that are written, at a least value that one byte holds. -/
theorem le_one (least : Int) (h1 : -128 ≤ least) (h2 : least ≤ 127) : ∃ z, leB (IntKind.u64.wrap least) 1 = [z] ∧ leB (IntKind.u64.wrap least) 2 = [z, if least < 0 then 255 else 0] ∧ IntKind.i8.wrap z = least ∧ 0 ≤ z ∧ z ≤ 255 := by
  refine ⟨least % 256, ?_, ?_, ?_, by omega, by omega⟩
  · simp only [leB, List.nil_append, IntKind.wrap_u64]
    congr 1
    show least % 18446744073709551616 / 2 ^ (8 * 0) % 256 = _
    omega
  · simp only [leB, List.nil_append, List.cons_append, IntKind.wrap_u64]
    congr 1
    · show least % 18446744073709551616 / 2 ^ (8 * 0) % 256 = _
      omega
    · congr 1
      show least % 18446744073709551616 / 2 ^ (8 * 1) % 256 = _
      split <;> omega
  · simp [IntKind.wrap, IntKind.bits, IntKind.signed]
    split <;> omega

theorem take_front (xs ys : List Int) (n : Nat) (h : xs.length = n) : (xs ++ ys).take n = xs := by rw [← h, List.take_left]

set_option maxRecDepth 100000 in
set_option maxHeartbeats 2000000 in
theorem main5 {w : World} {least : Int} {a : Option Addr} {n c : Nat} {xs : List Int} (hn : n ≤ 1048576) (h1 : -128 ≤ least) (h2 : least ≤ 127) (lx : xs.length = n) (r : Rd 0 w.heap.size w (.slice a n c) xs) :
    Calls Try.prog 5 #[.int .i64 least, .slice a n c] w fun e w' => e = .returned (.bool true) ∧ Below w.heap.size w w' := by
  obtain ⟨z, b1, b2, hz, z0, z1⟩ := le_one least h1 h2
  have HLX : Hid _ := lx
  have HB1 : Hid _ := b1
  have HB2 : Hid _ := b2
  clear lx b1 b2
  go_enter Try.func5, Try.ntmps5
  go_wp2_with fail
  refine (bytes15 (by omega)).mono ?_
  rintro e w' ⟨⟨b, rfl⟩, rfl⟩
  cases b with
  | false =>
    go_wp2
    go_ret
    exact ⟨rfl, Below.refl _ _⟩
  | true =>
    go_wp2_with fail
    refine (clone r (Nat.le_refl _) (by rw [HLX.out]; omega)).mono ?_
    rintro e w1 ⟨p1, rfl, o1, c1⟩
    rw [HLX.out] at o1 ⊢
    have s1 := c1.size
    go_wp2_with fail
    refine (clone o1.rd (Nat.le_refl _) (by rw [HLX.out]; omega)).mono ?_
    rintro e w2 ⟨p2, rfl, o2, c2⟩
    have s2 := c2.size
    go_wp2_with fail
    refine (enum_null (size := 1) o2 s2 (by rw [HLX.out]; omega) least (by omega)).mono ?_
    rintro e w3 ⟨v3, rfl, c3, o3⟩
    rw [HB1.out] at o3
    obtain ⟨g3, q3, hv3, -, -, hq3, -⟩ := o3.form (by simp)
    rw [List.length_append, HLX.out] at hv3 hq3
    have hv3' : v3 = .slice (some ⟨g3, 0, none⟩) (n + 1) q3 := hv3
    rw [hv3'] at o3 ⊢
    clear hv3 hv3'
    have s3 := c3.size
    have C3 : Below w1.heap.size w1 w3 := c2.trans c3
    have o1' := o1.keep C3 (Nat.le_refl _)
    go_wp2_with fail
    refine (clone o1'.rd (Nat.le_refl _) (by rw [HLX.out]; omega)).mono ?_
    rintro e w4 ⟨p4, rfl, o4, c4⟩
    have s4 := c4.size
    go_wp2_with fail
    refine (enum_null (size := 2) o4 s4 (by rw [HLX.out]; omega) least (by omega)).mono ?_
    rintro e w5 ⟨v5, rfl, c5, o5⟩
    rw [HB2.out] at o5
    obtain ⟨g5, q5, hv5, -, -, hq5, -⟩ := o5.form (by simp)
    rw [List.length_append, HLX.out] at hv5 hq5
    have hv5' : v5 = .slice (some ⟨g5, 0, none⟩) (n + 2) q5 := hv5
    rw [hv5'] at o5 ⊢
    clear hv5 hv5'
    have C5 : Below w3.heap.size w3 w5 := c4.trans c5
    have o3' := o3.keep C5 (Nat.le_refl _)
    have o1'' := o1'.keep C5 (Nat.le_refl _)
    have CW : Below w.heap.size w w5 := (c1.trans (C3.mono s1)).trans (C5.mono (by omega))
    have k3 := o3'.cell n (by simp [HLX.out])
    have k5 := o5.cell (n + 1) (by simp [HLX.out])
    have e3 : (xs ++ [z]).getD n 0 = z := by simp [List.getD, HLX.out]
    have e5 : (xs ++ [z, if least < 0 then 255 else 0]).getD (n + 1) 0 = if least < 0 then 255 else 0 := by simp [List.getD, HLX.out]
    rw [e3] at k3
    rw [e5] at k5
    have R1 : Rd w1.heap.size w5.heap.size w5 (.slice (some ⟨g3, 0, none⟩) n q3) xs := by
      have := o3'.rd.front (k := n) (cap' := q3) (by simp [HLX.out])
      rw [take_front _ _ _ HLX.out] at this
      exact this
    have R2 : Rd w3.heap.size w5.heap.size w5 (.slice (some ⟨g5, 0, none⟩) (n + 1) q5) (xs ++ [z]) := by
      have := o5.rd.front (k := n + 1) (cap' := q5) (by simp [HLX.out])
      rw [show xs ++ [z, if least < 0 then 255 else 0] = (xs ++ [z]) ++ [if least < 0 then 255 else 0] by simp, take_front _ _ _ (by simp [HLX.out])] at this
      exact this
    have RD := o1''.rd
    have R3 := o3'.rd
    have HLEN : Hid ((xs ++ [z]).length ≤ 4194304) := by show _ ≤ _; simp [HLX.out]; omega
    clear o1 o1' o1'' o2 o3 o3' o4 o5 c1 c2 c3 c4 c5 C3 C5 e3 e5
    have hs1 : (n : Int) ≤ (q3 : Int) := by simp at hq3; omega
    have hs2 : ((n : Int) + 1) ≤ (q5 : Int) := by simp at hq5; omega
    have hq3' : n + 1 ≤ q3 := by simpa using hq3
    have hq5' : n + 2 ≤ q5 := by simpa using hq5
    clear hq3 hq5
    by_cases hneg : least < 0
    all_goals
      simp only [hneg, if_true, if_false] at k5
      have hll : (least == least) = true := by simp
      go_wp2_with fail
      refine (eq R1 RD (by rw [HLX.out]; omega)).mono ?_
      rintro e w' ⟨rfl, m1, rfl⟩
      go_wp2_with fail
      refine (eq (R2.drewN m1) (R3.drewN m1) HLEN.out).mono ?_
      rintro e w' ⟨rfl, m2, rfl⟩
      go_wp2
      go_ret
      exact ⟨rfl, by have := below_drewN CW (m1 + m2); exact this⟩
#print axioms main5
end Go.Proofs.Qxb6616170a
