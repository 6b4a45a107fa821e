/-
  SEAT b6616170a. FnEnumNullCut (4).
-/
import Derived.Test.Qxb6616170aLaw5
import Derived.Test.Qxb6616170aSigned
namespace Go.Proofs.Qxb6616170a
open Go Go.RowKit
set_option linter.unusedVariables false
set_option linter.unusedSimpArgs false

theorem bytes13 {w : World} {size least k : Int} {a : Option Addr} {n c : Nat} (e1 : n ≤ 9223372036854775807) :
    Calls Try.prog 13 #[.int .i64 size, .int .i64 least, .slice a n c, .int .i64 k] w fun e w' => (∃ b, e = .returned (.bool b)) ∧ w = w' := by
  go_enter Try.func13, Try.ntmps13
  go_wp2
  all_goals (go_ret; exact ⟨⟨_, rfl⟩, rfl⟩)

set_option maxHeartbeats 1000000 in
theorem early4 {w : World} {size least k : Int} {a : Option Addr} {n c : Nat} (hb : n ≤ 9223372036854775807)
    (hno : 1048576 < n ∨ ¬ (size = 1 ∨ size = 2) ∨ (size = 1 ∧ (least < -128 ∨ 127 < least)) ∨ (size = 2 ∧ (least < -32768 ∨ 32767 < least)) ∨ k < 0 ∨ (n : Int) < k) :
    Calls Try.prog 4 #[.int .i64 size, .int .i64 least, .slice a n c, .int .i64 k] w fun e w' => e = .returned (.bool true) ∧ w = w' := by
  have HB : Hid _ := hb
  have HNO : Hid _ := hno
  clear hb hno
  by_cases s1 : size = 1
  · subst s1
    go_enter Try.func4, Try.ntmps4
    go_wp2_with fail
    refine (bytes13 HB.out).mono ?_
    rintro e w' ⟨⟨b, rfl⟩, rfl⟩
    cases b with
    | false =>
      go_wp2
      go_ret
      exact ⟨rfl, rfl⟩
    | true =>
      go_wp2_with fail
      all_goals first | (go_ret; exact ⟨rfl, rfl⟩) | (exfalso; have := HNO.out; simp at *; omega)
  · by_cases s2 : size = 2
    · subst s2
      go_enter Try.func4, Try.ntmps4
      go_wp2_with fail
      refine (bytes13 HB.out).mono ?_
      rintro e w' ⟨⟨b, rfl⟩, rfl⟩
      cases b with
      | false =>
        go_wp2
        go_ret
        exact ⟨rfl, rfl⟩
      | true =>
        go_wp2_with fail
        all_goals first | (go_ret; exact ⟨rfl, rfl⟩) | (exfalso; have := HNO.out; simp at *; omega)
    · have b1 : (size != 1) = true := by simp [s1]
      have b2 : (size != 2) = true := by simp [s2]
      clear s1 s2 HNO
      go_enter Try.func4, Try.ntmps4
      go_wp2_with fail
      refine (bytes13 HB.out).mono ?_
      rintro e w' ⟨⟨b, rfl⟩, rfl⟩
      cases b with
      | false =>
        go_wp2
        go_ret
        exact ⟨rfl, rfl⟩
      | true =>
        go_wp2_with fail
        all_goals (go_ret; exact ⟨rfl, rfl⟩)
#print axioms early4

theorem drop_front (xs ys : List Int) (n m : Nat) (h : xs.length = n) (h' : ys.length = m) : ((xs ++ ys).drop n).take m = ys := by rw [← h, List.drop_left, ← h', List.take_length]
theorem drop_mid (xs ys : List Int) (k m : Nat) (hk : k ≤ xs.length) (h' : xs.length - k + ys.length = m) : ((xs ++ ys).drop k).take m = xs.drop k ++ ys := by
  rw [List.drop_append_of_le_length hk]
  apply List.take_of_length_le
  simp; omega

/-- v[k:]. -/
theorem cut_run (a : Option Addr) (n c k : Nat) (hk : k ≤ n) (w : World) : (Instr.slice 22 (.slice a n c) (some (.int .i64 (k : Int))) none none).run Try.prog w = .ok (.slice (if c = k then a else a.map (fun x => x.add k)) (n - k) (c - k)) w := by
  rw [run_slice_l w 22 a n c Try.underlying22 .i64 (k : Int) (by omega) (by omega)]
  have e : (sizeOf (Try.prog.elem 22)).run Try.prog w = .ok 1 w := Try.sizeOf5 w
  rw [e]
  simp [sliced, Result.andThen]

theorem Rd.cut {lo hi : Nat} {w : World} {a : Option Addr} {n c k : Nat} {xs : List Int} (h : Rd lo hi w (.slice a n c) xs) (hk : k ≤ n) (hnc : n ≤ c) :
    Rd lo hi w (.slice (if c = k then a else a.map (fun x => x.add k)) (n - k) (c - k)) (xs.drop k) := by
  obtain ⟨a', c', hv, h0, hx⟩ := h
  simp only [Value.slice.injEq] at hv
  obtain ⟨rfl, rfl, rfl⟩ := hv
  refine ⟨_, c - k, by rw [List.length_drop], fun ha => ?_, ?_⟩
  · have : a = none := by
      by_cases e : c = k
      · rw [if_pos e] at ha; exact ha
      · rw [if_neg e] at ha; simpa using ha
    obtain ⟨rfl, rfl⟩ := h0 this
    simp
  · by_cases e : xs.drop k = []
    · exact .inl e
    · right
      have hl : k < xs.length := by
        rcases Nat.lt_or_ge k xs.length with q | q
        · exact q
        · exact absurd (List.drop_eq_nil_of_le q) e
      rcases hx with hx | ⟨b, off, rfl, h1, h2, hc⟩
      · subst hx; simp at hl
      · rw [if_neg (by omega)]
        refine ⟨b, off + k, by simp [Addr.add_lit], h1, h2, fun j hj => ?_⟩
        rw [List.length_drop] at hj
        rw [Nat.add_assoc, hc (k + j) (by omega)]
        simp [List.getD]

set_option maxRecDepth 100000 in
set_option maxHeartbeats 2000000 in
theorem main4_1 {w : World} {least : Int} {k : Nat} {a : Option Addr} {n c : Nat} {xs : List Int} (hn : n ≤ 1048576) (h1 : -128 ≤ least) (h2 : least ≤ 127) (hk : k ≤ n) (lx : xs.length = n) (r : Rd 0 w.heap.size w (.slice a n c) xs) :
    Calls Try.prog 4 #[.int .i64 1, .int .i64 least, .slice a n c, .int .i64 k] w fun e w' => e = .returned (.bool true) ∧ Below w.heap.size w w' := by
  obtain ⟨bs, hbs⟩ : ∃ bs, bs = leB (IntKind.u64.wrap least) 1 := ⟨_, rfl⟩
  have lb : bs.length = 1 := by rw [hbs, leB_length]
  have HLX : Hid _ := lx
  have HLB : Hid _ := lb
  have HBS : Hid _ := hbs
  have hk' : (k : Int) ≤ (n : Int) := by omega
  clear lx lb hbs
  go_enter Try.func4, Try.ntmps4
  go_wp2_with fail
  refine (bytes13 (by omega)).mono ?_
  rintro e w' ⟨⟨b, rfl⟩, rfl⟩
  cases b with
  | false =>
    go_wp2
    go_ret
    exact ⟨rfl, Below.refl _ _⟩
  | true =>
    go_wp2_with fail
    refine (clone r (Nat.le_refl _) (by rw [HLX.out]; omega)).mono ?_
    rintro e w1 ⟨p1, rfl, o1, c1⟩
    rw [HLX.out] at o1 ⊢
    have s1 := c1.size
    go_wp2_with fail
    refine (clone o1.rd (Nat.le_refl _) (by rw [HLX.out]; omega)).mono ?_
    rintro e w2 ⟨p2, rfl, o2, c2⟩
    have s2 := c2.size
    go_wp2_with fail
    refine (enum_null (size := 1) o2 s2 (by rw [HLX.out]; omega) least (by omega)).mono ?_
    rintro e w3 ⟨v3, rfl, c3, o3⟩
    rw [← HBS.out] at o3
    obtain ⟨g3, q3, hv3, -, -, hq3, -⟩ := o3.form (by rw [List.length_append, HLB.out]; omega)
    rw [List.length_append, HLX.out, HLB.out] at hv3 hq3
    rw [hv3] at o3 ⊢
    clear hv3
    have s3 := c3.size
    have C3 : Below w1.heap.size w1 w3 := c2.trans c3
    have o1' := o1.keep C3 (Nat.le_refl _)
    obtain ⟨p5, hp5⟩ : ∃ p5, p5 = if n = k then p1 else p1.map (fun x => x.add k) := ⟨_, rfl⟩
    have hcut := cut_run p1 n n k hk
    have r5 := o1'.rd.cut hk (Nat.le_refl _)
    rw [← hp5] at hcut r5
    clear hp5
    go_wp2_with fail
    refine (clone r5 (Nat.le_refl _) (by rw [List.length_drop, HLX.out]; omega)).mono ?_
    rintro e w4 ⟨p4, rfl, o4, c4⟩
    rw [List.length_drop, HLX.out] at o4 ⊢
    have s4 := c4.size
    clear hcut
    go_wp2_with fail
    refine (enum_null (size := 1) o4 s4 (by rw [List.length_drop, HLX.out]; omega) least (by omega)).mono ?_
    rintro e w5 ⟨v5, rfl, c5, o5⟩
    rw [← HBS.out] at o5
    obtain ⟨g5, q5, hv5, -, -, hq5, -⟩ := o5.form (by rw [List.length_append, HLB.out]; omega)
    rw [List.length_append, List.length_drop, HLX.out, HLB.out] at hv5 hq5
    rw [hv5] at o5 ⊢
    clear hv5
    have C5 : Below w3.heap.size w3 w5 := c4.trans c5
    have o3' := o3.keep C5 (Nat.le_refl _)
    have o1'' := o1'.keep C5 (Nat.le_refl _)
    have CW : Below w.heap.size w w5 := (c1.trans (C3.mono s1)).trans (C5.mono (by omega))
    have R1 : Rd w1.heap.size w5.heap.size w5 (.slice (some ⟨g3, 0, none⟩) n q3) xs := by
      have := o3'.rd.front (k := n) (cap' := q3) (by rw [List.length_append, HLX.out]; omega)
      rw [take_front _ _ _ HLX.out] at this
      exact this
    have R2 : Rd w1.heap.size w5.heap.size w5 (.slice (some ⟨g3, n, none⟩) 1 (q3 - n)) bs := by
      have := o3'.rd.part (k := n) (m := 1) (cap' := q3 - n) (by rw [List.length_append, HLX.out, HLB.out]; omega)
      rw [drop_front _ _ _ _ HLX.out HLB.out, Nat.zero_add] at this
      exact this
    have R3 : Rd w1.heap.size w5.heap.size w5 (.slice (some ⟨g3, k, none⟩) (n + 1 - k) (q3 - k)) (xs.drop k ++ bs) := by
      have := o3'.rd.part (k := k) (m := n + 1 - k) (cap' := q3 - k) (by rw [List.length_append, HLX.out, HLB.out]; omega)
      rw [drop_mid _ _ _ _ (by rw [HLX.out]; exact hk) (by rw [HLX.out, HLB.out]; omega), Nat.zero_add] at this
      exact this
    have R4 := o5.rd
    have RD := o1''.rd
    rw [HBS.out] at R2
    have HLEN : Hid ((xs.drop k ++ bs).length ≤ 4194304) := by show _ ≤ _; rw [List.length_append, List.length_drop, HLX.out, HLB.out]; omega
    clear o1 o1' o1'' o2 o3 o3' o4 o5 c1 c2 c3 c4 c5 C3 C5 r5
    have hs1 : (n : Int) ≤ (q3 : Int) := by omega
    have hs2 : ¬ q3 = n := by omega
    have hs3 : ¬ q3 = k := by omega
    have hll : (least == least) = true := by simp
    have hsub : ((n - k : Nat) : Int) = (n : Int) - (k : Int) := by omega
    go_wp2_with fail
    refine (eq R1 RD (by rw [HLX.out]; omega)).mono ?_
    rintro e w' ⟨rfl, m1, rfl⟩
    go_wp2_with fail
    refine (signed (size := 1) (by omega) (R2.drewN m1)).mono ?_
    rintro e w' ⟨rfl, m2, rfl⟩
    go_wp2_with fail
    refine (eq (R3.drewN (m1 + m2)) (R4.drewN (m1 + m2)) HLEN.out).mono ?_
    rintro e w' ⟨rfl, m3, rfl⟩
    go_wp2
    go_ret
    exact ⟨rfl, below_drewN CW (m1 + m2 + m3)⟩
set_option maxRecDepth 100000 in
set_option maxHeartbeats 2000000 in
theorem main4_2 {w : World} {least : Int} {k : Nat} {a : Option Addr} {n c : Nat} {xs : List Int} (hn : n ≤ 1048576) (h1 : -32768 ≤ least) (h2 : least ≤ 32767) (hk : k ≤ n) (lx : xs.length = n) (r : Rd 0 w.heap.size w (.slice a n c) xs) :
    Calls Try.prog 4 #[.int .i64 2, .int .i64 least, .slice a n c, .int .i64 k] w fun e w' => e = .returned (.bool true) ∧ Below w.heap.size w w' := by
  obtain ⟨bs, hbs⟩ : ∃ bs, bs = leB (IntKind.u64.wrap least) 2 := ⟨_, rfl⟩
  have lb : bs.length = 2 := by rw [hbs, leB_length]
  have HLX : Hid _ := lx
  have HLB : Hid _ := lb
  have HBS : Hid _ := hbs
  have hk' : (k : Int) ≤ (n : Int) := by omega
  clear lx lb hbs
  go_enter Try.func4, Try.ntmps4
  go_wp2_with fail
  refine (bytes13 (by omega)).mono ?_
  rintro e w' ⟨⟨b, rfl⟩, rfl⟩
  cases b with
  | false =>
    go_wp2
    go_ret
    exact ⟨rfl, Below.refl _ _⟩
  | true =>
    go_wp2_with fail
    refine (clone r (Nat.le_refl _) (by rw [HLX.out]; omega)).mono ?_
    rintro e w1 ⟨p1, rfl, o1, c1⟩
    rw [HLX.out] at o1 ⊢
    have s1 := c1.size
    go_wp2_with fail
    refine (clone o1.rd (Nat.le_refl _) (by rw [HLX.out]; omega)).mono ?_
    rintro e w2 ⟨p2, rfl, o2, c2⟩
    have s2 := c2.size
    go_wp2_with fail
    refine (enum_null (size := 2) o2 s2 (by rw [HLX.out]; omega) least (by omega)).mono ?_
    rintro e w3 ⟨v3, rfl, c3, o3⟩
    rw [← HBS.out] at o3
    obtain ⟨g3, q3, hv3, -, -, hq3, -⟩ := o3.form (by rw [List.length_append, HLB.out]; omega)
    rw [List.length_append, HLX.out, HLB.out] at hv3 hq3
    rw [hv3] at o3 ⊢
    clear hv3
    have s3 := c3.size
    have C3 : Below w1.heap.size w1 w3 := c2.trans c3
    have o1' := o1.keep C3 (Nat.le_refl _)
    obtain ⟨p5, hp5⟩ : ∃ p5, p5 = if n = k then p1 else p1.map (fun x => x.add k) := ⟨_, rfl⟩
    have hcut := cut_run p1 n n k hk
    have r5 := o1'.rd.cut hk (Nat.le_refl _)
    rw [← hp5] at hcut r5
    clear hp5
    go_wp2_with fail
    refine (clone r5 (Nat.le_refl _) (by rw [List.length_drop, HLX.out]; omega)).mono ?_
    rintro e w4 ⟨p4, rfl, o4, c4⟩
    rw [List.length_drop, HLX.out] at o4 ⊢
    have s4 := c4.size
    clear hcut
    go_wp2_with fail
    refine (enum_null (size := 2) o4 s4 (by rw [List.length_drop, HLX.out]; omega) least (by omega)).mono ?_
    rintro e w5 ⟨v5, rfl, c5, o5⟩
    rw [← HBS.out] at o5
    obtain ⟨g5, q5, hv5, -, -, hq5, -⟩ := o5.form (by rw [List.length_append, HLB.out]; omega)
    rw [List.length_append, List.length_drop, HLX.out, HLB.out] at hv5 hq5
    rw [hv5] at o5 ⊢
    clear hv5
    have C5 : Below w3.heap.size w3 w5 := c4.trans c5
    have o3' := o3.keep C5 (Nat.le_refl _)
    have o1'' := o1'.keep C5 (Nat.le_refl _)
    have CW : Below w.heap.size w w5 := (c1.trans (C3.mono s1)).trans (C5.mono (by omega))
    have R1 : Rd w1.heap.size w5.heap.size w5 (.slice (some ⟨g3, 0, none⟩) n q3) xs := by
      have := o3'.rd.front (k := n) (cap' := q3) (by rw [List.length_append, HLX.out]; omega)
      rw [take_front _ _ _ HLX.out] at this
      exact this
    have R2 : Rd w1.heap.size w5.heap.size w5 (.slice (some ⟨g3, n, none⟩) 2 (q3 - n)) bs := by
      have := o3'.rd.part (k := n) (m := 2) (cap' := q3 - n) (by rw [List.length_append, HLX.out, HLB.out]; omega)
      rw [drop_front _ _ _ _ HLX.out HLB.out, Nat.zero_add] at this
      exact this
    have R3 : Rd w1.heap.size w5.heap.size w5 (.slice (some ⟨g3, k, none⟩) (n + 2 - k) (q3 - k)) (xs.drop k ++ bs) := by
      have := o3'.rd.part (k := k) (m := n + 2 - k) (cap' := q3 - k) (by rw [List.length_append, HLX.out, HLB.out]; omega)
      rw [drop_mid _ _ _ _ (by rw [HLX.out]; exact hk) (by rw [HLX.out, HLB.out]; omega), Nat.zero_add] at this
      exact this
    have R4 := o5.rd
    have RD := o1''.rd
    rw [HBS.out] at R2
    have HLEN : Hid ((xs.drop k ++ bs).length ≤ 4194304) := by show _ ≤ _; rw [List.length_append, List.length_drop, HLX.out, HLB.out]; omega
    clear o1 o1' o1'' o2 o3 o3' o4 o5 c1 c2 c3 c4 c5 C3 C5 r5
    have hs1 : (n : Int) ≤ (q3 : Int) := by omega
    have hs2 : ¬ q3 = n := by omega
    have hs3 : ¬ q3 = k := by omega
    have hll : (least == least) = true := by simp
    have hsub : ((n - k : Nat) : Int) = (n : Int) - (k : Int) := by omega
    go_wp2_with fail
    refine (eq R1 RD (by rw [HLX.out]; omega)).mono ?_
    rintro e w' ⟨rfl, m1, rfl⟩
    go_wp2_with fail
    refine (signed (size := 2) (by omega) (R2.drewN m1)).mono ?_
    rintro e w' ⟨rfl, m2, rfl⟩
    go_wp2_with fail
    refine (eq (R3.drewN (m1 + m2)) (R4.drewN (m1 + m2)) HLEN.out).mono ?_
    rintro e w' ⟨rfl, m3, rfl⟩
    go_wp2
    go_ret
    exact ⟨rfl, below_drewN CW (m1 + m2 + m3)⟩
#print axioms main4_1
#print axioms main4_2
end Go.Proofs.Qxb6616170a
