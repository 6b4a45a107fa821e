/-
  SEAT b6616170a. Law 7: its early returns.
-/
import Derived.Test.Qxb6616170aCounted
import Derived.Test.Qxb6616170aArray
import Derived.Test.Qxb6616170aLaw5
namespace Go.Proofs.Qxb6616170a
open Go Go.RowKit
set_option linter.unusedVariables false

theorem bytes20 {w : World} {a b : Option Addr} {n c m d : Nat} (e1 : n ≤ 9223372036854775807) (e2 : m ≤ 9223372036854775807) :
    Calls Try.prog 20 #[.slice a n c, .slice b m d] w fun e w' => (∃ b, e = .returned (.bool b)) ∧ w = w' := by
  go_enter Try.func20, Try.ntmps20
  go_wp2
  all_goals (go_ret; exact ⟨⟨_, rfl⟩, rfl⟩)

/-- A slice that reads xs, not empty: its text. -/
theorem Rd.txt {lo hi : Nat} {w : World} {a : Option Addr} {n c : Nat} {xs : List Int} (h : Rd lo hi w (.slice a n c) xs) (hn : 0 < n) : ∃ x, a = some x ∧ Txt w x xs ∧ xs.length = n ∧ x.block < hi := by
  obtain ⟨a', c', hv, h0, hx⟩ := h
  simp only [Value.slice.injEq] at hv
  obtain ⟨rfl, rfl, rfl⟩ := hv
  rcases hx with rfl | ⟨b, off, rfl, h1, h2, h3⟩
  · simp at hn
  · refine ⟨_, rfl, fun j hj => ?_, rfl, h2⟩
    rw [← h3 j hj]
    unfold Addr.add
    split
    · rename_i e; subst e; rfl
    · rfl

theorem box_all {t : List Int} {z m : Int} {n : Nat} (lt : t.length = n) (h : z = -1 ∨ ∃ (j : Nat) (s : List Int), z = j ∧ Seg t 0 j s ∧ Box s ∧ (t.getD 0 0 = 91 → ∃ segs : List (List Int), m = (segs.length : Int) ∧ ArrText segs s)) (h91 : t.getD 0 0 = 91) (hz : z = (n : Int)) : ∃ segs : List (List Int), m = (segs.length : Int) ∧ ArrText segs t := by
  rcases h with h | ⟨j, s, h1, h2, h3, h4⟩
  · omega
  · obtain ⟨segs, k1, k2⟩ := h4 h91
    have : j = n := by omega
    subst this
    have e : s = t := by rw [h2.eq]; simp [← lt]
    rw [e] at k2
    exact ⟨segs, k1, k2⟩

set_option maxRecDepth 100000 in
set_option maxHeartbeats 2000000 in
/-- The law's walk, where an argument is too long, or is no array's text by its first byte. -/
theorem early7 {w : World} {a b : Option Addr} {n c m d : Nat} {xs ys : List Int} (hn : n ≤ 9223372036854775807) (hm : m ≤ 9223372036854775807) (rx : Rd 0 w.heap.size w (.slice a n c) xs) (ry : Rd 0 w.heap.size w (.slice b m d) ys)
    (hno : 1048576 < n ∨ 1048576 < m ∨ n = 0 ∨ m = 0 ∨ xs.getD 0 0 ≠ 91 ∨ ys.getD 0 0 ≠ 91) :
    Calls Try.prog 7 #[.slice a n c, .slice b m d] w fun e w' => e = .returned (.bool true) ∧ w = w' := by
  have HX : Hid (0 < n → ∃ x, a = some x ∧ Txt w x xs ∧ xs.length = n ∧ x.block < w.heap.size) := fun h => rx.txt h
  have HY : Hid (0 < m → ∃ x, b = some x ∧ Txt w x ys ∧ ys.length = m ∧ x.block < w.heap.size) := fun h => ry.txt h
  have HNO : Hid (1048576 < n ∨ 1048576 < m ∨ n = 0 ∨ m = 0 ∨ xs.getD 0 0 ≠ 91 ∨ ys.getD 0 0 ≠ 91) := hno
  clear rx ry hno
  go_enter Try.func7, Try.ntmps7
  go_wp2_with fail
  refine (bytes20 hn hm).mono ?_
  rintro e w' ⟨⟨b0, rfl⟩, rfl⟩
  cases b0 with
  | false =>
    clear HX HY HNO
    go_wp2
    go_ret
    exact ⟨rfl, rfl⟩
  | true =>
    by_cases h1 : 1048576 < n
    · have g : (1048576 : Int) < (n : Int) := by omega
      clear HX HY HNO
      go_wp2
      go_ret
      exact ⟨rfl, rfl⟩
    by_cases h2 : 1048576 < m
    · have g : (1048576 : Int) < (m : Int) := by omega
      clear HX HY HNO
      go_wp2
      go_ret
      exact ⟨rfl, rfl⟩
    by_cases h3 : n = 0
    · subst h3
      clear HX HY HNO
      go_wp2
      go_ret
      exact ⟨rfl, rfl⟩
    obtain ⟨x, rfl, tx, lx, bx⟩ := HX.out (by omega)
    have q0 := tx 0 (by omega)
    obtain ⟨z, hz⟩ : ∃ z, z = xs.getD 0 0 := ⟨_, rfl⟩
    rw [← hz] at q0
    have q0' : w.cell? x = some (byte z) := by cases x; exact q0
    have HZ : Hid (z = xs.getD 0 0) := hz
    have gn : (0 : Int) < (n : Int) := by omega
    have gb : ((n : Int) == 0) = false := by simp; omega
    clear q0 hz tx lx HX
    by_cases h4 : z = 91
    · subst h4
      by_cases h5 : m = 0
      · subst h5
        clear HY HNO HZ
        go_wp2
        go_ret
        exact ⟨rfl, rfl⟩
      obtain ⟨y, rfl, ty, ly, by_⟩ := HY.out (by omega)
      have p0 := ty 0 (by omega)
      obtain ⟨z, hz⟩ : ∃ z, z = ys.getD 0 0 := ⟨_, rfl⟩
      rw [← hz] at p0
      have p0' : w.cell? y = some (byte z) := by cases y; exact p0
      have HNE : Hid ((z != 91) = true) := by
        have h6 : z ≠ 91 := by
          rcases HNO.out with h | h | h | h | h | h
          · omega
          · omega
          · omega
          · omega
          · exact absurd HZ.out.symm h
          · rw [hz]; exact h
        show (z != 91) = true
        simp [h6]
      have gm : (0 : Int) < (m : Int) := by omega
      have gb2 : ((m : Int) == 0) = false := by simp; omega
      have hne := HNE.out
      clear p0 hz ty ly HY HNO HZ HNE
      go_wp2
      go_ret
      exact ⟨rfl, rfl⟩
    · have hne : (z != 91) = true := by simp [h4]
      clear HY HNO HZ h4
      go_wp2
      go_ret
      exact ⟨rfl, rfl⟩
end Go.Proofs.Qxb6616170a
