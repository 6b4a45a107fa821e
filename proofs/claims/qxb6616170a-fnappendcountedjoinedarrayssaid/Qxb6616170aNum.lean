/-
  SEAT b6616170a. The strict reader's numbers: zzJSDigits (38), zzJSNumber (32).
-/
import Derived.Test.Qxb6616170aStr
import Derived.Deep.DeepCutAuto
namespace Go.Proofs.Qxb6616170a
open Go Go.RowKit
set_option linter.unusedVariables false

/-- The bytes of a number. -/
def NumCh (c : Int) : Prop := c = 45 ∨ c = 43 ∨ c = 46 ∨ c = 101 ∨ c = 69 ∨ (48 ≤ c ∧ c ≤ 57)
def NSeg (t : List Int) (i j : Nat) (s : List Int) : Prop := Seg t i j s ∧ ∀ c ∈ s, NumCh c
theorem NSeg.snoc {t : List Int} {i j : Nat} {s : List Int} (h : NSeg t i j s) (hj : j < t.length) (hc : NumCh (t.getD j 0)) : NSeg t i (j + 1) (s ++ [t.getD j 0]) :=
  ⟨h.1.snoc hj, fun c hm => by
    rcases List.mem_append.1 hm with h' | h'
    · exact h.2 c h'
    · simp at h'; rw [h']; exact hc⟩
theorem NSeg.trans {t : List Int} {i j k : Nat} {s s' : List Int} (h : NSeg t i j s) (h' : NSeg t j k s') : NSeg t i k (s ++ s') :=
  ⟨h.1.trans h'.1, fun c hm => by
    rcases List.mem_append.1 hm with q | q
    · exact h.2 c q
    · exact h'.2 c q⟩
theorem NSeg.scal {t : List Int} {i j : Nat} {s : List Int} (h : NSeg t i j s) (hj : i < j) : Scal s := by
  refine ⟨fun e => ?_, fun c hc => ?_⟩
  · have := h.1.length
    rw [e] at this
    simp at this
    omega
  · have hn := h.2 c hc
    unfold NumCh at hn
    refine ⟨?_, by omega, by omega, by omega⟩
    simp [isDelim, isWs]
    omega

def DigPost (t : List Int) (i : Nat) (w : World) (e : Ending) (w' : World) : Prop := ∃ (j : Nat) (s : List Int), e = .returned (.int .i64 (j : Int)) ∧ w = w' ∧ NSeg t i j s ∧ (j = t.length ∨ ¬ (48 ≤ t.getD j 0 ∧ t.getD j 0 ≤ 57))

set_option maxHeartbeats 1000000 in
theorem js_digits {w : World} {x : Addr} {t : List Int} {n c : Nat} (ht : Txt w x t) (hn : n ≤ 4194304) (lt : t.length = n) (i : Nat) (hi : i ≤ n) :
    Calls Try.prog 38 #[.slice (some x) n c, .int .i64 i] w fun e w' => DigPost t i w e w' := by
  have HL : Hid _ := lt
  clear lt
  go_enter Try.func38, Try.ntmps38
  go_wp2
  go_loop [1] (fun k => ∃ (j : Nat) (s : List Int), k = .int .i64 j ∧ Hid (NSeg t i j s) ∧ j ≤ n) (fun k => n - (intOf k).toNat)
  case atStart => exact ⟨i, [], rfl, ⟨Seg.refl (by rw [HL.out]; exact hi), fun c hc => by simp at hc⟩, hi⟩
  case round =>
    obtain ⟨j, s, rfl, hs, hj⟩ := hrel
    by_cases hlt : j < n
    · have q := ht j (by rw [HL.out]; exact hlt)
      have g1 : (j : Int) < (n : Int) := by omega
      obtain ⟨z, hz⟩ : ∃ z, z = t.getD j 0 := ⟨_, rfl⟩
      rw [← hz] at q
      have yes : 48 ≤ z ∧ z ≤ 57 → Hid (NSeg t i (j + 1) (s ++ [z])) := fun h => by
        have := hs.out.snoc (by rw [HL.out]; exact hlt) (by rw [← hz]; exact .inr (.inr (.inr (.inr (.inr h)))))
        rw [← hz] at this
        exact this
      have no : ¬ (48 ≤ z ∧ z ≤ 57) → Hid (j = t.length ∨ ¬ (48 ≤ t.getD j 0 ∧ t.getD j 0 ≤ 57)) := fun h => .inr (by rw [← hz]; exact h)
      clear ht hz
      by_cases a1 : 48 ≤ z
      · by_cases a2 : z ≤ 57
        · have Y := yes ⟨a1, a2⟩
          clear yes no hs
          go_wp2
          go_round
          case rel => exact ⟨j + 1, _, by go_num, Y, by omega⟩
          case measure => simp [intOf]; omega
        · have N := no (by omega)
          clear yes no
          go_wp2
          go_ret
          exact ⟨j, s, rfl, rfl, hs.out, N.out⟩
      · have N := no (by omega)
        clear yes no
        go_wp2
        go_ret
        exact ⟨j, s, rfl, rfl, hs.out, N.out⟩
    · have N : Hid (j = t.length) := by rw [HL.out]; exact (by omega : j = n)
      clear ht
      go_wp2
      go_ret
      exact ⟨j, s, rfl, rfl, hs.out, .inl N.out⟩

def NumPost (t : List Int) (i : Nat) (w : World) (e : Ending) (w' : World) : Prop := ∃ z : Int, e = .returned (.int .i64 z) ∧ w = w' ∧ (z = -1 ∨ ∃ (j : Nat) (s : List Int), z = j ∧ Seg t i j s ∧ Scal s)

set_option maxRecDepth 100000 in
set_option maxHeartbeats 1000000 in
theorem js_number {w : World} {x : Addr} {t : List Int} {n c : Nat} (ht : Txt w x t) (hn : n ≤ 4194304) (lt : t.length = n) (i : Nat) (hi : i < n) :
    Calls Try.prog 32 #[.slice (some x) n c, .int .i64 i] w fun e w' => NumPost t i w e w' := by
  have HL : Hid (t.length = n) := lt
  clear lt
  go_enter Try.func32, Try.ntmps32
  go_upto_region 1 with fail
  go_cut [17] (fun v wc => ∃ b, v = .bool b ∧ (b = true → Hid (NumCh (t.getD i 0))) ∧ w = wc)
  case first =>
    have q := ht i (by rw [HL.out]; exact hi)
    have g1 : (i : Int) < (n : Int) := by omega
    obtain ⟨z, hz⟩ : ∃ z, z = t.getD i 0 := ⟨_, rfl⟩
    rw [← hz] at q
    have HZ : Hid (z = t.getD i 0) := hz
    clear hz
    go_wp2
    go_meet
    case rel =>
      refine ⟨_, rfl, fun h => ?_, rfl⟩
      rw [← HZ.out]
      exact .inl (by simpa using h)
  case rest =>
    obtain ⟨b, rfl, hb, rfl⟩ := hcut
    go_upto_if 17 with fail
    go_cut [1] (fun v wc => ∃ (m : Nat) (s : List Int), v = .int .i64 m ∧ Hid (NSeg t i m s) ∧ m ≤ n ∧ w = wc)
    case first =>
      cases b with
      | true =>
        have hb' := hb rfl
        clear hb
        go_wp2
        go_meet
        case rel => exact ⟨i + 1, _, by go_num, NSeg.snoc (s := []) ⟨Seg.refl (by rw [HL.out]; omega), by simp⟩ (by rw [HL.out]; exact hi) hb'.out, hi, rfl⟩
      | false =>
        go_wp2
        go_meet
        case rel => exact ⟨i, [], rfl, ⟨Seg.refl (by rw [HL.out]; omega), by simp⟩, by omega, rfl⟩
    case rest =>
      obtain ⟨m, s, rfl, hs, hm, rfl⟩ := hcut
      clear hb
      by_cases hlt : m < n
      · have q := ht m (by rw [HL.out]; exact hlt)
        have g1 : (m : Int) < (n : Int) := by omega
        obtain ⟨z, hz⟩ : ∃ z, z = t.getD m 0 := ⟨_, rfl⟩
        rw [← hz] at q
        have HZ : Hid (z = t.getD m 0) := hz
        clear hz
        go_upto_if 28 with fail
        go_cut [1] (fun v wc => ∃ (k : Nat) (r : List Int), v = .int .i64 k ∧ Hid (NSeg t i k r) ∧ i < k ∧ k ≤ n ∧ w = wc)
        case first =>
          by_cases a1 : z = 48
          · subst a1
            have nx : Hid (NSeg t i (m + 1) (s ++ [t.getD m 0])) := hs.out.snoc (by rw [HL.out]; exact hlt) (by rw [← HZ.out]; unfold NumCh; omega)
            have := hs.out.1.1
            clear HZ ht hs
            go_wp2
            go_meet
            case rel => exact ⟨m + 1, _, by go_num, nx, by omega, by omega, rfl⟩
          · have b1 : (z == 48) = false := by simp [a1]
            by_cases a2 : 49 ≤ z
            · by_cases a3 : z ≤ 57
              · go_wp2_with fail
                refine (js_digits ht hn HL.out m (by omega)).mono ?_
                rintro e w' ⟨k, r, rfl, rfl, hk, hx⟩
                have h1 := hs.out.1.1
                have h2 := hk.1.1
                have h3 := hk.1.2.1
                have nx : Hid (NSeg t i k (s ++ r) ∧ i < k ∧ k ≤ n) := by
                  refine ⟨hs.out.trans hk, ?_, by rw [← HL.out]; exact h3⟩
                  rcases Nat.lt_or_ge m k with a | a
                  · omega
                  · have e : k = m := by omega
                    rw [e, HL.out, ← HZ.out] at hx
                    omega
                clear hk hx h1 h2 h3 ht hs HZ
                go_wp2
                go_meet
                case rel => exact ⟨k, _, rfl, nx.out.1, nx.out.2.1, nx.out.2.2, rfl⟩
              · clear ht
                go_wp2
                go_ret
                exact ⟨_, rfl, rfl, .inl rfl⟩
            · clear ht
              go_wp2
              go_ret
              exact ⟨_, rfl, rfl, .inl rfl⟩
        case rest =>
          clear hs q g1 HZ
          obtain ⟨k, r, rfl, hr, hik, hkn, rfl⟩ := hcut
          go_upto_region 10 with fail
          go_cut [56] (fun v wc => ∃ b, v = .bool b ∧ (b = true → Hid (NumCh (t.getD k 0) ∧ k < n)) ∧ w = wc)
          case first =>
            by_cases hl2 : k < n
            · have q := ht k (by rw [HL.out]; exact hl2)
              have g1 : (k : Int) < (n : Int) := by omega
              obtain ⟨z, hz⟩ : ∃ z, z = t.getD k 0 := ⟨_, rfl⟩
              rw [← hz] at q
              have HZ : Hid (z = t.getD k 0) := hz
              clear hz
              go_wp2
              go_meet
              case rel =>
                refine ⟨_, rfl, fun h => ⟨?_, hl2⟩, rfl⟩
                rw [← HZ.out]
                exact .inr (.inr (.inl (by simpa using h)))
            · go_wp2
              go_meet
              case rel => exact ⟨false, rfl, (fun h => by cases h), rfl⟩
          case rest =>
            obtain ⟨b, rfl, hb, rfl⟩ := hcut
            go_upto_if 56 with fail
            go_cut [1] (fun v wc => ∃ (k : Nat) (r : List Int), v = .int .i64 k ∧ Hid (NSeg t i k r) ∧ i < k ∧ k ≤ n ∧ w = wc)
            case first =>
              cases b with
              | true =>
                have hb' := hb rfl
                clear hb
                have hk1 : k + 1 ≤ n := hb'.out.2
                go_wp2_with fail
                refine (js_digits ht hn HL.out (k + 1) hk1).mono ?_
                rintro e w' ⟨j, s', rfl, rfl, hj, hx⟩
                have nx : Hid (NSeg t i j (r ++ [t.getD k 0] ++ s')) := (hr.out.snoc (by rw [HL.out]; exact hk1) hb'.out.1).trans hj
                have h2 := hj.1.1
                have h3 : j ≤ n := by rw [← HL.out]; exact hj.1.2.1
                clear hj hx hb' hr ht
                by_cases ej : j = k + 1
                · subst ej
                  go_wp2
                  go_ret
                  exact ⟨_, rfl, rfl, .inl rfl⟩
                · have ej' : ((j : Int) == (k : Int) + 1) = false := by simp; omega
                  clear ej
                  go_wp2
                  go_meet
                  case rel => exact ⟨j, _, rfl, nx, by omega, h3, rfl⟩
              | false =>
                clear hb ht
                go_wp2
                go_meet
                case rel => exact ⟨k, r, rfl, hr, hik, hkn, rfl⟩
            case rest =>
              clear hr hb hik hkn
              obtain ⟨k2, r2, rfl, hr, hik, hkn, rfl⟩ := hcut
              clear k r
              go_upto_region 15 with fail
              go_cut [83] (fun v wc => ∃ b, v = .bool b ∧ (b = true → Hid (NumCh (t.getD k2 0) ∧ k2 < n)) ∧ w = wc)
              case first =>
                by_cases hl2 : k2 < n
                · have q := ht k2 (by rw [HL.out]; exact hl2)
                  have g1 : (k2 : Int) < (n : Int) := by omega
                  obtain ⟨z, hz⟩ : ∃ z, z = t.getD k2 0 := ⟨_, rfl⟩
                  rw [← hz] at q
                  have HZ : Hid (z = t.getD k2 0) := hz
                  clear hz ht hr
                  by_cases a1 : z = 101
                  · subst a1
                    go_wp2
                    go_meet
                    case rel => exact ⟨true, rfl, (fun _ => ⟨by rw [← HZ.out]; unfold NumCh; omega, hl2⟩), rfl⟩
                  · have b1 : (z == 101) = false := by simp [a1]
                    by_cases a2 : z = 69
                    · subst a2
                      go_wp2
                      go_meet
                      case rel => exact ⟨true, rfl, (fun _ => ⟨by rw [← HZ.out]; unfold NumCh; omega, hl2⟩), rfl⟩
                    · have b2 : (z == 69) = false := by simp [a2]
                      clear a1 a2
                      go_wp2
                      go_meet
                      case rel => exact ⟨false, rfl, (fun h => by cases h), rfl⟩
                · clear ht hr
                  go_wp2
                  go_meet
                  case rel => exact ⟨false, rfl, (fun h => by cases h), rfl⟩
              case rest =>
                obtain ⟨b, rfl, hb, rfl⟩ := hcut
                go_upto_if 83 with fail
                go_cut [1] (fun v wc => ∃ (k : Nat) (r : List Int), v = .int .i64 k ∧ Hid (NSeg t i k r) ∧ i < k ∧ k ≤ n ∧ w = wc)
                case first =>
                  cases b with
                  | false =>
                    clear hb ht
                    go_wp2
                    go_meet
                    case rel => exact ⟨k2, r2, rfl, hr, hik, hkn, rfl⟩
                  | true =>
                    have hb' := hb rfl
                    clear hb
                    have hk1 : k2 + 1 ≤ n := hb'.out.2
                    have nb : Hid (NSeg t i (k2 + 1) (r2 ++ [t.getD k2 0])) := hr.out.snoc (by rw [HL.out]; exact hk1) hb'.out.1
                    clear hb' hr
                    by_cases hl3 : k2 + 1 < n
                    · have q := ht (k2 + 1) (by rw [HL.out]; exact hl3)
                      have g1 : (k2 : Int) + 1 < (n : Int) := by omega
                      obtain ⟨z, hz⟩ : ∃ z, z = t.getD (k2 + 1) 0 := ⟨_, rfl⟩
                      rw [← hz] at q
                      have q' : w.cell? { block := x.block, off := x.off + (k2 + 1) } = some (byte z) := q
                      clear q
                      have HS : z = 43 ∨ z = 45 → Hid (NSeg t i (k2 + 2) (r2 ++ [t.getD k2 0] ++ [z])) := fun h => by
                        have := nb.out.snoc (by rw [HL.out]; exact hl3) (by rw [← hz]; unfold NumCh; omega)
                        rw [← hz] at this
                        exact this
                      clear hz
                      by_cases a1 : z = 43
                      · subst a1
                        have HS' := HS (.inl rfl)
                        clear HS nb
                        go_wp2_with fail
                        refine (js_digits ht hn HL.out (k2 + 2) (by omega)).mono ?_
                        rintro e w' ⟨j, s', rfl, rfl, hj, hx⟩
                        have nx : Hid (NSeg t i j (r2 ++ [t.getD k2 0] ++ [43] ++ s')) := HS'.out.trans hj
                        have h2 := hj.1.1
                        have h3 : j ≤ n := by rw [← HL.out]; exact hj.1.2.1
                        clear hj hx HS' ht
                        by_cases ej : j = k2 + 2
                        · subst ej
                          go_wp2
                          go_ret
                          exact ⟨_, rfl, rfl, .inl rfl⟩
                        · have ej' : ((j : Int) == (k2 : Int) + 2) = false := by simp; omega
                          clear ej
                          go_wp2
                          go_meet
                          case rel => exact ⟨j, _, rfl, nx, by omega, h3, rfl⟩
                      · have b1 : (z == 43) = false := by simp [a1]
                        by_cases a2 : z = 45
                        · subst a2
                          have HS' := HS (.inr rfl)
                          clear HS nb
                          go_wp2_with fail
                          refine (js_digits ht hn HL.out (k2 + 2) (by omega)).mono ?_
                          rintro e w' ⟨j, s', rfl, rfl, hj, hx⟩
                          have nx : Hid (NSeg t i j (r2 ++ [t.getD k2 0] ++ [45] ++ s')) := HS'.out.trans hj
                          have h2 := hj.1.1
                          have h3 : j ≤ n := by rw [← HL.out]; exact hj.1.2.1
                          clear hj hx HS' ht
                          by_cases ej : j = k2 + 2
                          · subst ej
                            go_wp2
                            go_ret
                            exact ⟨_, rfl, rfl, .inl rfl⟩
                          · have ej' : ((j : Int) == (k2 : Int) + 2) = false := by simp; omega
                            clear ej
                            go_wp2
                            go_meet
                            case rel => exact ⟨j, _, rfl, nx, by omega, h3, rfl⟩
                        · have b2 : (z == 45) = false := by simp [a2]
                          clear a1 a2 HS
                          go_wp2_with fail
                          refine (js_digits ht hn HL.out (k2 + 1) (by omega)).mono ?_
                          rintro e w' ⟨j, s', rfl, rfl, hj, hx⟩
                          have nx : Hid (NSeg t i j (r2 ++ [t.getD k2 0] ++ s')) := nb.out.trans hj
                          have h2 := hj.1.1
                          have h3 : j ≤ n := by rw [← HL.out]; exact hj.1.2.1
                          clear hj hx nb ht
                          by_cases ej : j = k2 + 1
                          · subst ej
                            go_wp2
                            go_ret
                            exact ⟨_, rfl, rfl, .inl rfl⟩
                          · have ej' : ((j : Int) == (k2 : Int) + 1) = false := by simp; omega
                            clear ej
                            go_wp2
                            go_meet
                            case rel => exact ⟨j, _, rfl, nx, by omega, h3, rfl⟩
                    · go_wp2_with fail
                      refine (js_digits ht hn HL.out (k2 + 1) (by omega)).mono ?_
                      rintro e w' ⟨j, s', rfl, rfl, hj, hx⟩
                      have h2 := hj.1.1
                      have h3 : j ≤ n := by rw [← HL.out]; exact hj.1.2.1
                      have ej : j = k2 + 1 := by omega
                      clear hj hx nb ht
                      subst ej
                      go_wp2
                      go_ret
                      exact ⟨_, rfl, rfl, .inl rfl⟩
                case rest =>
                  clear hb hr
                  obtain ⟨k3, r3, rfl, hr, hik, hkn, rfl⟩ := hcut
                  go_wp2
                  go_ret
                  exact ⟨_, rfl, rfl, .inr ⟨k3, r3, rfl, hr.out.1, hr.out.scal hik⟩⟩
      · clear ht
        go_wp2
        go_ret
        exact ⟨_, rfl, rfl, .inl rfl⟩
end Go.Proofs.Qxb6616170a
