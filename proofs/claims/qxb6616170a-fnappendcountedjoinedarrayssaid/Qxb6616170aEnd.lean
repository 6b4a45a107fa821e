/-
  SEAT b6616170a. The lenient reader's values: valueEnd (41).
-/
import Derived.Test.Qxb6616170aScan
namespace Go.Proofs.Qxb6616170a
open Go Go.RowKit
set_option linter.unusedVariables false

theorem run_split : ∀ (r : List Int) (d : Nat), run r 1 d = true → ∃ s1 r2, r = s1 ++ r2 ∧ lstr s1 = true ∧ run r2 0 d = true
  | [], _, h => by simp [run] at h
  | [c], d, h => by
    by_cases h1 : c = 34
    · subst h1; simp [run] at h
    · by_cases h2 : c = 92
      · subst h2; simp [run] at h
      · simp [run, h1, h2] at h
  | c :: e :: r, d, h => by
    by_cases h1 : c = 34
    · subst h1
      exact ⟨[34], e :: r, rfl, by simp [lstr], by rw [run] at h; simpa using h⟩
    · by_cases h2 : c = 92
      · subst h2
        have h3 : run (e :: r) 2 d = true := by rw [run] at h; simpa using h
        have h' : run r 1 d = true := by rw [run] at h3; simpa using h3
        obtain ⟨s1, r2, rfl, k1, k2⟩ := run_split r d h'
        exact ⟨92 :: e :: s1, r2, rfl, by simpa [lstr] using k1, k2⟩
      · have h' : run (e :: r) 1 d = true := by rw [run] at h; simpa [h1, h2] using h
        obtain ⟨s1, r2, k0, k1, k2⟩ := run_split (e :: r) d h'
        refine ⟨c :: s1, r2, by rw [k0]; rfl, ?_, k2⟩
        cases s1 with
        | nil => simp [lstr] at k1
        | cons a s1 => simpa [lstr, h1, h2] using k1

def Rest (t : List Int) (m j d : Nat) : Prop := ∃ r, Seg t m j r ∧ run r 0 d = true
theorem Rest.lt {t : List Int} {m j d : Nat} (h : Rest t m j d) : m < j := by
  obtain ⟨r, h1, h2⟩ := h
  have := h1.length
  cases r with
  | nil => simp [run] at h2
  | cons a r => simp at this; have := h1.1; omega
theorem Rest.cons {t : List Int} {m j d : Nat} (h : Rest t m j d) : ∃ r, Seg t (m + 1) j r ∧ run (t.getD m 0 :: r) 0 d = true := by
  obtain ⟨r, h1, h2⟩ := h
  cases r with
  | nil => simp [run] at h2
  | cons a r =>
    obtain ⟨_, e, k⟩ := h1.head
    rw [e]
    exact ⟨r, k, h2⟩
theorem Rest.str {t : List Int} {m j d : Nat} (h : Rest t m j d) (hz : t.getD m 0 = 34) : ∃ k s, Seg t m k (34 :: s) ∧ lstr s = true ∧ Rest t k j d := by
  obtain ⟨r, h1, h2⟩ := h.cons
  have hlt := h.lt
  rw [hz, run] at h2
  simp at h2
  obtain ⟨s1, r2, rfl, k1, k2⟩ := run_split _ _ h2
  have hs := h1.split
  have hj := h1.2.1
  have := Seg.one (t := t) (i := m) (by omega)
  rw [hz] at this
  exact ⟨m + 1 + s1.length, s1, this.trans hs.1, k1, r2, hs.2, k2⟩
theorem Rest.opening {t : List Int} {m j d : Nat} (h : Rest t m j d) (hz : t.getD m 0 = 91 ∨ t.getD m 0 = 123) : Rest t (m + 1) j (d + 1) := by
  obtain ⟨r, h1, h2⟩ := h.cons
  have a : t.getD m 0 ≠ 34 := by omega
  rw [run] at h2
  simp only [a, hz] at h2
  exact ⟨r, h1, by simpa using h2⟩
theorem Rest.last {t : List Int} {m j : Nat} (h : Rest t m j 1) (hz : t.getD m 0 = 93 ∨ t.getD m 0 = 125) : j = m + 1 := by
  obtain ⟨r, h1, h2⟩ := h.cons
  have a : t.getD m 0 ≠ 34 := by omega
  have b : ¬ (t.getD m 0 = 91 ∨ t.getD m 0 = 123) := by omega
  rw [run] at h2
  simp only [a, hz, b] at h2
  have : r = [] := by simpa using h2
  subst this
  have := h1.length
  have := h1.1
  simp at *
  omega
theorem Rest.closing {t : List Int} {m j d : Nat} (h : Rest t m j (d + 2)) (hz : t.getD m 0 = 93 ∨ t.getD m 0 = 125) : Rest t (m + 1) j (d + 1) := by
  obtain ⟨r, h1, h2⟩ := h.cons
  have a : t.getD m 0 ≠ 34 := by omega
  have b : ¬ (t.getD m 0 = 91 ∨ t.getD m 0 = 123) := by omega
  rw [run] at h2
  simp only [a, hz, b] at h2
  exact ⟨r, h1, by simpa using h2⟩
theorem Rest.other {t : List Int} {m j d : Nat} (h : Rest t m j d) (h1 : t.getD m 0 ≠ 34) (h2 : t.getD m 0 ≠ 91) (h3 : t.getD m 0 ≠ 123) (h4 : t.getD m 0 ≠ 93) (h5 : t.getD m 0 ≠ 125) : Rest t (m + 1) j d := by
  obtain ⟨r, k1, k2⟩ := h.cons
  rw [run] at k2
  simp only [h1, h2, h3, h4, h5] at k2
  exact ⟨r, k1, by simpa using k2⟩

set_option maxRecDepth 100000 in
set_option maxHeartbeats 1000000 in
theorem value_end_box {w : World} {x : Addr} {t : List Int} {n c : Nat} (ht : Txt w x t) (hn : n ≤ 4194304) (lt : t.length = n) {i j : Nat} (hij : i < j) (hj : j ≤ n) (hz : t.getD i 0 = 91 ∨ t.getD i 0 = 123) (hr : Rest t i j 0) :
    Calls Try.prog 41 #[.slice (some x) n c, .int .i64 i] w fun e w' => e = .returned (.int .i64 (j : Int)) ∧ w = w' := by
  have HL : Hid (t.length = n) := lt
  have HI : Hid (t.getD i 0 = 91 ∨ t.getD i 0 = 123) := hz
  have R0 : Hid (Rest t i j 0) := hr
  have q := ht i (by rw [HL.out]; omega)
  have g1 : (i : Int) < (n : Int) := by omega
  obtain ⟨z, hzz⟩ : ∃ z, z = t.getD i 0 := ⟨_, rfl⟩
  rw [← hzz] at q hz
  clear lt hr hzz
  go_enter Try.func41, Try.ntmps41
  have main : Hid (z = 91 ∨ z = 123) := hz
  rcases main.out with rfl | rfl
  all_goals
    clear hz main
    go_wp2
    go_loop [1, 5] (fun v dd => ∃ m d : Nat, v = .int .i64 m ∧ dd = .int .i64 d ∧ m < j ∧ d ≤ m ∧ (1 ≤ d ∨ m = i) ∧ Hid (Rest t m j d)) (fun v _ => n - (intOf v).toNat)
    case atStart => exact ⟨i, 0, rfl, rfl, hij, by omega, .inr rfl, R0⟩
    case round =>
      clear R0
      obtain ⟨m, d, rfl, rfl, hm, hd, hmi, R⟩ := hrel
      have q1 := ht m (by rw [HL.out]; omega)
      have g2 : (m : Int) < (n : Int) := by omega
      obtain ⟨z, hz⟩ : ∃ z, z = t.getD m 0 := ⟨_, rfl⟩
      rw [← hz] at q1
      have HZ : Hid (z = t.getD m 0) := hz
      clear hz
      have HD : Hid (1 ≤ d ∨ (z = 91 ∨ z = 123)) := by
        rcases hmi with h | h
        · exact .inl h
        · subst h; rw [HZ.out]; exact .inr HI.out
      clear hmi
      by_cases a1 : z = 34
      · subst a1
        have X : Hid (∃ k s, Seg t m k (34 :: s) ∧ lstr s = true ∧ Rest t k j d) := R.out.str HZ.out.symm
        have hd1 : 1 ≤ d := by rcases HD.out with h | h <;> omega
        clear R HZ HD
        obtain ⟨k, s, x1, x2, x3⟩ := X.out
        have X3 : Hid (Rest t k j d) := x3
        have hkj := x3.lt
        have hmk : m < k := by have := x1.length; have := x1.1; simp at *; omega
        clear X x3
        go_wp2_with fail
        refine (string_end ht hn HL.out x1 x2).mono ?_
        rintro e w' ⟨rfl, rfl⟩
        clear x1 x2 ht
        have hk1 : (1 : Int) ≤ (k : Int) := by omega
        go_wp2
        go_round
        case rel => exact ⟨k, d, by go_num, rfl, hkj, by omega, .inl hd1, X3⟩
        case measure => simp [intOf]; omega
      have b1 : (z == 34) = false := by simp [a1]
      by_cases a2 : z = 91
      · subst a2
        have X : Hid (Rest t (m + 1) j (d + 1)) := R.out.opening (.inl HZ.out.symm)
        have hlt := X.out.lt
        clear R HZ HD ht
        go_wp2
        go_round
        case rel => exact ⟨m + 1, d + 1, by go_num, by go_num, hlt, by omega, .inl (by omega), X⟩
        case measure => simp [intOf]; omega
      have b2 : (z == 91) = false := by simp [a2]
      by_cases a3 : z = 123
      · subst a3
        have X : Hid (Rest t (m + 1) j (d + 1)) := R.out.opening (.inr HZ.out.symm)
        have hlt := X.out.lt
        clear R HZ HD ht
        go_wp2
        go_round
        case rel => exact ⟨m + 1, d + 1, by go_num, by go_num, hlt, by omega, .inl (by omega), X⟩
        case measure => simp [intOf]; omega
      have b3 : (z == 123) = false := by simp [a3]
      have hd1 : 1 ≤ d := by rcases HD.out with h | h <;> omega
      by_cases a4 : z = 93
      · by_cases a6 : d = 1
        · subst a6
          have X : Hid (j = m + 1) := R.out.last (.inl (by rw [← HZ.out]; exact a4))
          subst a4
          clear R HZ HD ht
          go_wp2
          go_ret
          exact ⟨by rw [X.out]; rfl, rfl⟩
        · obtain ⟨d, rfl⟩ : ∃ d', d = d' + 2 := ⟨d - 2, by omega⟩
          have X : Hid (Rest t (m + 1) j (d + 1)) := R.out.closing (.inl (by rw [← HZ.out]; exact a4))
          have hlt := X.out.lt
          subst a4
          have hb : ((d : Int) + 2 - 1 == 0) = false := by simp; omega
          have hb2 : ((d : Int) + 1 == 0) = false := by simp; omega
          clear R HZ HD ht
          go_wp2
          go_round
          case rel => exact ⟨m + 1, d + 1, by go_num, by go_num, hlt, by omega, .inl (by omega), X⟩
          case measure => simp [intOf]; omega
      have b4 : (z == 93) = false := by simp [a4]
      by_cases a5 : z = 125
      · by_cases a6 : d = 1
        · subst a6
          have X : Hid (j = m + 1) := R.out.last (.inr (by rw [← HZ.out]; exact a5))
          subst a5
          clear R HZ HD ht
          go_wp2
          go_ret
          exact ⟨by rw [X.out]; rfl, rfl⟩
        · obtain ⟨d, rfl⟩ : ∃ d', d = d' + 2 := ⟨d - 2, by omega⟩
          have X : Hid (Rest t (m + 1) j (d + 1)) := R.out.closing (.inr (by rw [← HZ.out]; exact a5))
          have hlt := X.out.lt
          subst a5
          have hb : ((d : Int) + 2 - 1 == 0) = false := by simp; omega
          have hb2 : ((d : Int) + 1 == 0) = false := by simp; omega
          clear R HZ HD ht
          go_wp2
          go_round
          case rel => exact ⟨m + 1, d + 1, by go_num, by go_num, hlt, by omega, .inl (by omega), X⟩
          case measure => simp [intOf]; omega
      have b5 : (z == 125) = false := by simp [a5]
      have X : Hid (Rest t (m + 1) j d) := R.out.other (by rw [← HZ.out]; exact a1) (by rw [← HZ.out]; exact a2) (by rw [← HZ.out]; exact a3) (by rw [← HZ.out]; exact a4) (by rw [← HZ.out]; exact a5)
      have hlt := X.out.lt
      clear R HZ HD ht a1 a2 a3 a4 a5
      go_wp2
      go_round
      case rel => exact ⟨m + 1, d, by go_num, rfl, hlt, by omega, .inl hd1, X⟩
      case measure => simp [intOf]; omega

set_option maxRecDepth 100000 in
set_option maxHeartbeats 1000000 in
theorem value_end_str {w : World} {x : Addr} {t : List Int} {n c : Nat} (ht : Txt w x t) (hn : n ≤ 4194304) (lt : t.length = n) {i j : Nat} {s : List Int} (h1 : Seg t i j (34 :: s)) (h2 : lstr s = true) :
    Calls Try.prog 41 #[.slice (some x) n c, .int .i64 i] w fun e w' => e = .returned (.int .i64 (j : Int)) ∧ w = w' := by
  have HL : Hid (t.length = n) := lt
  have hh := h1.head
  have hin : i < n := by have := hh.1; omega
  have q := ht i (by rw [HL.out]; omega)
  rw [hh.2.1] at q
  have g1 : (i : Int) < (n : Int) := by omega
  clear lt hh
  go_enter Try.func41, Try.ntmps41
  go_wp2_with fail
  refine (string_end ht hn HL.out h1 h2).mono ?_
  rintro e w' ⟨rfl, rfl⟩
  clear h1 h2 ht
  go_wp2
  go_ret
  exact ⟨rfl, rfl⟩

set_option maxRecDepth 100000 in
set_option maxHeartbeats 1000000 in
theorem value_end_scal {w : World} {x : Addr} {t : List Int} {n c : Nat} (ht : Txt w x t) (hn : n ≤ 4194304) (lt : t.length = n) {i j : Nat} (hij : i < j) (hj : j < n) (hs : ∀ l, i ≤ l → l < j → isDelim (t.getD l 0) = false ∧ t.getD l 0 ≠ 34 ∧ t.getD l 0 ≠ 91 ∧ t.getD l 0 ≠ 123) (hd : isDelim (t.getD j 0) = true) :
    Calls Try.prog 41 #[.slice (some x) n c, .int .i64 i] w fun e w' => e = .returned (.int .i64 (j : Int)) ∧ w = w' := by
  have HL : Hid (t.length = n) := lt
  have HS : Hid (∀ l, i ≤ l → l < j → isDelim (t.getD l 0) = false ∧ t.getD l 0 ≠ 34 ∧ t.getD l 0 ≠ 91 ∧ t.getD l 0 ≠ 123) := hs
  have HD : Hid (isDelim (t.getD j 0) = true) := hd
  have q := ht i (by rw [HL.out]; omega)
  have g1 : (i : Int) < (n : Int) := by omega
  obtain ⟨z, hz⟩ : ∃ z, z = t.getD i 0 := ⟨_, rfl⟩
  obtain ⟨_, z1, z2, z3⟩ := hs i (by omega) hij
  rw [← hz] at q z1 z2 z3
  have b1 : (z == 34) = false := by simp [z1]
  have b2 : (z == 91) = false := by simp [z2]
  have b3 : (z == 123) = false := by simp [z3]
  clear lt hs hd hz z1 z2 z3
  go_enter Try.func41, Try.ntmps41
  go_wp2
  clear q b1 b2 b3
  go_loop [1] (fun v => ∃ m : Nat, v = .int .i64 m ∧ i ≤ m ∧ m ≤ j) (fun v => n - (intOf v).toNat)
  case atStart => exact ⟨i, rfl, by omega, by omega⟩
  case round =>
    obtain ⟨m, rfl, hm1, hm2⟩ := hrel
    have q := ht m (by rw [HL.out]; omega)
    have g2 : (m : Int) < (n : Int) := by omega
    obtain ⟨y, hy⟩ : ∃ y, y = t.getD m 0 := ⟨_, rfl⟩
    rw [← hy] at q
    have HY : Hid (y = t.getD m 0) := hy
    clear hy
    by_cases e : m = j
    · have D : Hid (isDelim y = true) := by rw [HY.out, e]; exact HD.out
      clear HY HD HS ht
      subst e
      have D2 : y = 44 ∨ y = 93 ∨ y = 125 ∨ y = 32 ∨ y = 9 ∨ y = 10 ∨ y = 13 := by
        have := D.out
        simp [isDelim, isWs] at this
        omega
      clear D
      rcases D2 with rfl | rfl | rfl | rfl | rfl | rfl | rfl
      all_goals
        go_wp2
        go_ret
        exact ⟨rfl, rfl⟩
    · have D : Hid (isDelim y = false) := by rw [HY.out]; exact (HS.out m hm1 (by omega)).1
      have D2 : (y == 44) = false ∧ (y == 93) = false ∧ (y == 125) = false ∧ (y == 32) = false ∧ (y == 9) = false ∧ (y == 10) = false ∧ (y == 13) = false := by
        have := D.out
        simp [isDelim, isWs] at this
        simp [this]
      clear D HY HD HS ht
      obtain ⟨d1, d2, d3, d4, d5, d6, d7⟩ := D2
      go_wp2
      go_round
      case rel => exact ⟨m + 1, by go_num, by omega, by omega⟩
      case measure => simp [intOf]; omega

/-- valueEnd at a value that a delimiter follows. -/
theorem value_end {w : World} {x : Addr} {t : List Int} {n c : Nat} (ht : Txt w x t) (hn : n ≤ 4194304) (lt : t.length = n) {i j : Nat} {s : List Int} (h1 : Seg t i j s) (h2 : Val s) (hj : j < n) (hd : isDelim (t.getD j 0) = true) :
    Calls Try.prog 41 #[.slice (some x) n c, .int .i64 i] w fun e w' => e = .returned (.int .i64 (j : Int)) ∧ w = w' := by
  have hl := h1.length
  have hle := h1.1
  rcases h2 with ⟨r, rfl, h⟩ | h | h
  · exact value_end_str ht hn lt h1 h
  · have hr : Rest t i j 0 := ⟨s, h1, h.run⟩
    obtain ⟨o, inner, cl, rfl, ho, _⟩ := h
    exact value_end_box ht hn lt hr.lt (by omega) (by rw [h1.head.2.1]; exact ho) hr
  · have : 0 < s.length := List.length_pos_iff.2 h.1
    refine value_end_scal ht hn lt (by omega) hj (fun l a b => ?_) hd
    have e := h1.get (l - i) (by omega)
    rw [show i + (l - i) = l by omega] at e
    rw [e]
    refine h.2 _ ?_
    have hlt : l - i < s.length := by omega
    have : s.getD (l - i) 0 = s[l - i] := by simp [List.getD, hlt]
    rw [this]
    exact List.getElem_mem _
#print axioms value_end
end Go.Proofs.Qxb6616170a
