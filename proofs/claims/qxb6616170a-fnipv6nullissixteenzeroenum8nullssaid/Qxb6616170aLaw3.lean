/-
  SEAT b6616170a. FnIpv6NullIsSixteenZeroEnum8Nulls (3).
-/
import Derived.Test.Qxb6616170aLaw5
import Derived.Test.Qxb6616170aZeros
namespace Go.Proofs.Qxb6616170a
open Go Go.RowKit
set_option linter.unusedVariables false

theorem bytes8 {w : World} {a : Option Addr} {n c : Nat} (e1 : n ≤ 9223372036854775807) :
    Calls Try.prog 8 #[.slice a n c] w fun e w' => (∃ b, e = .returned (.bool b)) ∧ w = w' := by
  go_enter Try.func8, Try.ntmps8
  go_wp2
  all_goals (go_ret; exact ⟨⟨_, rfl⟩, rfl⟩)

theorem early3 {w : World} {a : Option Addr} {n c : Nat} (hb : n ≤ 9223372036854775807) (hno : 1048576 < n) :
    Calls Try.prog 3 #[.slice a n c] w fun e w' => e = .returned (.bool true) ∧ w = w' := by
  have HB : Hid _ := hb
  clear hb
  have hno' : (1048576 : Int) < (n : Int) := by omega
  go_enter Try.func3, Try.ntmps3
  go_wp2_with fail
  refine (bytes8 HB.out).mono ?_
  rintro e w' ⟨⟨b, rfl⟩, rfl⟩
  cases b with
  | false =>
    go_wp2
    go_ret
    exact ⟨rfl, rfl⟩
  | true =>
    go_wp2
    go_ret
    exact ⟨rfl, rfl⟩

theorem zero_one : leB (IntKind.u64.wrap 0) 1 = [0] := by
  simp only [leB, List.nil_append, IntKind.wrap_u64]
  rfl

theorem rep_step (xs : List Int) (k : Nat) : (xs ++ List.replicate k 0) ++ [0] = xs ++ List.replicate (k + 1) 0 := by
  rw [List.append_assoc, ← List.replicate_succ']

set_option maxRecDepth 100000 in
set_option maxHeartbeats 2000000 in
theorem main3 {w : World} {a : Option Addr} {n c : Nat} {xs : List Int} (hn : n ≤ 1048576) (lx : xs.length = n) (r : Rd 0 w.heap.size w (.slice a n c) xs) :
    Calls Try.prog 3 #[.slice a n c] w fun e w' => e = .returned (.bool true) ∧ Below w.heap.size w w' := by
  have HLX : Hid _ := lx
  clear lx
  go_enter Try.func3, Try.ntmps3
  go_wp2_with fail
  refine (bytes8 (by omega)).mono ?_
  rintro e w' ⟨⟨b, rfl⟩, rfl⟩
  cases b with
  | false =>
    go_wp2
    go_ret
    exact ⟨rfl, Below.refl _ _⟩
  | true =>
    go_wp2_with fail
    refine (clone r (Nat.le_refl _) (by rw [HLX.out]; omega)).mono ?_
    rintro e w1 ⟨p1, rfl, o1, c1⟩
    rw [HLX.out] at o1 ⊢
    have s1 := c1.size
    go_wp2_with fail
    refine (clone o1.rd (Nat.le_refl _) (by rw [HLX.out]; omega)).mono ?_
    rintro e w2 ⟨p2, rfl, o2, c2⟩
    rw [HLX.out] at o2 ⊢
    have s2 := c2.size
    go_wp2_with fail
    refine (zz_ipv6_null o2 HLX.out s2 hn).mono ?_
    rintro e w3 ⟨g3, q3, rfl, c3, o3⟩
    have s3 := c3.size
    have C3 : Below w1.heap.size w1 w3 := c2.trans c3
    have o1' := o1.keep C3 (Nat.le_refl _)
    go_wp2_with fail
    refine (clone o1'.rd (Nat.le_refl _) (by rw [HLX.out]; omega)).mono ?_
    rintro e w4 ⟨p4, rfl, o4, c4⟩
    rw [HLX.out] at o4 ⊢
    have s4 := c4.size
    go_wp2
    go_loopg [4, 5] 16 (fun gk v i wr => ∃ k : Nat, gk = 16 - k ∧ k ≤ 16 ∧ i = .int .i64 k ∧ Below w3.heap.size w3 wr ∧ OB w3.heap.size wr v (xs ++ List.replicate k 0))
    case atStart => exact ⟨0, by omega, by omega, rfl, c4, by simpa using o4⟩
    case round =>
      obtain ⟨k, hgk, hk, rfl, hbw, ho⟩ := hrel
      have HGK : Hid _ := hgk
      clear hgk o4 c4 s4
      by_cases hlt : k < 16
      · go_wp2_with fail
        refine (enum_null (size := 1) ho hbw.size (by simp [HLX.out]; omega) 0 (by omega)).mono ?_
        rintro e w5 ⟨v5, rfl, c5, o5⟩
        rw [zero_one, rep_step] at o5
        go_wp2
        go_roundg (16 - (k + 1))
        case measure => rw [HGK.out]; omega
        case rel => exact ⟨k + 1, rfl, by omega, by go_num, hbw.trans c5, o5⟩
      · have ek : k = 16 := by omega
        rw [ek] at ho
        clear ek HGK
        have o3' := o3.keep hbw (Nat.le_refl _)
        have o1'' := o1'.keep hbw (Nat.le_refl _)
        have CW : Below w.heap.size w wr := (c1.trans (C3.mono s1)).trans (hbw.mono (by omega))
        have hq3 : n + 16 ≤ q3 := by
          obtain ⟨_, q, hv, _, _, hq, _⟩ := o3.form (by simp)
          simp only [Value.slice.injEq] at hv
          rw [hv.2.2]
          simp only [List.length_append, List.length_replicate, HLX.out] at hq
          exact hq
        have R1 : Rd w1.heap.size wr.heap.size wr (.slice (some ⟨g3, 0, none⟩) n q3) xs := by
          have := o3'.rd.front (k := n) (cap' := q3) (by rw [List.length_append, HLX.out]; omega)
          rw [take_front _ _ _ HLX.out] at this
          exact this
        have RD := o1''.rd
        have R3 := o3'.rd
        have R4 := ho.rd
        have HLEN : Hid ((xs ++ List.replicate 16 (0 : Int)).length ≤ 4194304) := by show _ ≤ _; rw [List.length_append, List.length_replicate, HLX.out]; omega
        generalize List.replicate 16 (0 : Int) = zs at *
        clear o1 o1' o1'' o2 o3 o3' c1 c2 c3 C3 ho
        have hs1 : (n : Int) ≤ (q3 : Int) := by omega
        go_wp2_with fail
        refine (eq R1 RD (by rw [HLX.out]; omega)).mono ?_
        rintro e w' ⟨rfl, m1, rfl⟩
        go_wp2_with fail
        refine (eq (R3.drewN m1) (R4.drewN m1) HLEN.out).mono ?_
        rintro e w' ⟨rfl, m2, rfl⟩
        go_wp2
        go_ret
        exact ⟨rfl, below_drewN CW (m1 + m2)⟩
#print axioms main3
end Go.Proofs.Qxb6616170a
