/-
  SEAT b6616170a. The readers' small functions: zzJSWS (23), skipSpace (39), zzJSHex (30), zzJSDigits (38), stringEnd (40).
-/
import Derived.Test.Qxb6616170aText
import Derived.Test.Qxb6616170aClone
import Derived.Deep.LoopGhost
namespace Go.Proofs.Qxb6616170a
open Go Go.RowKit
set_option linter.unusedVariables false

/-- The text t lies from the address x on. -/
def Txt (w : World) (x : Addr) (t : List Int) : Prop := ∀ j, j < t.length → w.cell? (x.add j) = some (byte (t.getD j 0))
theorem Txt.drewN {w : World} {x : Addr} {t : List Int} (h : Txt w x t) (n : Nat) : Txt (w.drewN n) x t := h

/-- What a skipping of blanks leaves. -/
def WsPost (t : List Int) (i : Nat) (w : World) (e : Ending) (w' : World) : Prop := ∃ (j : Nat) (s : List Int), e = .returned (.int .i64 (j : Int)) ∧ w = w' ∧ Seg t i j s ∧ AllWs s

set_option maxHeartbeats 1000000 in
theorem js_ws {w : World} {x : Addr} {t : List Int} {n c : Nat} (ht : Txt w x t) (hn : n ≤ 4194304) (lt : t.length = n) (i : Nat) (hi : i ≤ n) :
    Calls Try.prog 23 #[.slice (some x) n c, .int .i64 i] w fun e w' => WsPost t i w e w' := by
  have HL : Hid _ := lt
  clear lt
  go_enter Try.func23, Try.ntmps23
  go_wp2
  go_loop [1] (fun k => ∃ (j : Nat) (s : List Int), k = .int .i64 j ∧ Seg t i j s ∧ AllWs s ∧ j ≤ n) (fun k => n - (intOf k).toNat)
  case atStart => exact ⟨i, [], rfl, Seg.refl (by rw [HL.out]; exact hi), fun c hc => by simp at hc, hi⟩
  case round =>
    obtain ⟨j, s, rfl, hs, hw, hj⟩ := hrel
    have HS : Hid (Seg t i j s) := hs
    clear hs
    by_cases hlt : j < n
    · have q := ht j (by rw [HL.out]; exact hlt)
      have g1 : (j : Int) < (n : Int) := by omega
      obtain ⟨z, hz⟩ : ∃ z, z = t.getD j 0 := ⟨_, rfl⟩
      rw [← hz] at q
      have HZ : Hid _ := hz
      clear hz
      have yes : isWs z = true → Hid (Seg t i (j + 1) (s ++ [z]) ∧ AllWs (s ++ [z])) := fun h => by
        refine ⟨?_, hw.append (fun c hc => by simp at hc; rw [hc]; exact h)⟩
        have := Seg.snoc HS.out (by rw [HL.out]; exact hlt)
        rw [← HZ.out] at this
        exact this
      have no : Hid (Seg t i j s ∧ AllWs s) := ⟨HS.out, hw⟩
      clear hw HS HZ ht
      by_cases a1 : z = 32
      · subst a1
        have Y := yes rfl
        clear yes no
        go_wp2
        go_round
        case rel => exact ⟨j + 1, _, by go_num, Y.out.1, Y.out.2, by omega⟩
        case measure => simp [intOf]; omega
      · by_cases a2 : z = 9
        · subst a2
          have Y := yes rfl
          clear yes no
          go_wp2
          go_round
          case rel => exact ⟨j + 1, _, by go_num, Y.out.1, Y.out.2, by omega⟩
          case measure => simp [intOf]; omega
        · by_cases a3 : z = 10
          · subst a3
            have Y := yes rfl
            clear yes no
            go_wp2
            go_round
            case rel => exact ⟨j + 1, _, by go_num, Y.out.1, Y.out.2, by omega⟩
            case measure => simp [intOf]; omega
          · by_cases a4 : z = 13
            · subst a4
              have Y := yes rfl
              clear yes no
              go_wp2
              go_round
              case rel => exact ⟨j + 1, _, by go_num, Y.out.1, Y.out.2, by omega⟩
              case measure => simp [intOf]; omega
            · have b1 : (z == 32) = false := by simp [a1]
              have b2 : (z == 9) = false := by simp [a2]
              have b3 : (z == 10) = false := by simp [a3]
              have b4 : (z == 13) = false := by simp [a4]
              clear yes a1 a2 a3 a4
              go_wp2
              go_ret
              exact ⟨j, s, rfl, rfl, no.out.1, no.out.2⟩
    · have no : Hid (Seg t i j s ∧ AllWs s) := ⟨HS.out, hw⟩
      clear hw HS ht
      go_wp2
      go_ret
      exact ⟨j, s, rfl, rfl, no.out.1, no.out.2⟩
/-- .. and it stops at the first byte that is no blank. -/
def SkPost (t : List Int) (i : Nat) (w : World) (e : Ending) (w' : World) : Prop := ∃ (j : Nat) (s : List Int), e = .returned (.int .i64 (j : Int)) ∧ w = w' ∧ Seg t i j s ∧ AllWs s ∧ (j = t.length ∨ isWs (t.getD j 0) = false)

set_option maxHeartbeats 1000000 in
theorem skip_any {w : World} {x : Addr} {t : List Int} {n c : Nat} (ht : Txt w x t) (hn : n ≤ 4194304) (lt : t.length = n) (i : Nat) (hi : i ≤ n) :
    Calls Try.prog 39 #[.slice (some x) n c, .int .i64 i] w fun e w' => SkPost t i w e w' := by
  have HL : Hid _ := lt
  clear lt
  go_enter Try.func39, Try.ntmps39
  go_wp2
  go_loop [1] (fun k => ∃ (j : Nat) (s : List Int), k = .int .i64 j ∧ Seg t i j s ∧ AllWs s ∧ j ≤ n) (fun k => n - (intOf k).toNat)
  case atStart => exact ⟨i, [], rfl, Seg.refl (by rw [HL.out]; exact hi), fun c hc => by simp at hc, hi⟩
  case round =>
    obtain ⟨j, s, rfl, hs, hw, hj⟩ := hrel
    have HS : Hid (Seg t i j s) := hs
    clear hs
    by_cases hlt : j < n
    · have q := ht j (by rw [HL.out]; exact hlt)
      have g1 : (j : Int) < (n : Int) := by omega
      obtain ⟨z, hz⟩ : ∃ z, z = t.getD j 0 := ⟨_, rfl⟩
      rw [← hz] at q
      have HZ : Hid _ := hz
      clear hz
      have yes : isWs z = true → Hid (Seg t i (j + 1) (s ++ [z]) ∧ AllWs (s ++ [z])) := fun h => by
        refine ⟨?_, hw.append (fun c hc => by simp at hc; rw [hc]; exact h)⟩
        have := Seg.snoc HS.out (by rw [HL.out]; exact hlt)
        rw [← HZ.out] at this
        exact this
      have no : isWs z = false → Hid (Seg t i j s ∧ AllWs s ∧ (j = t.length ∨ isWs (t.getD j 0) = false)) := fun h => ⟨HS.out, hw, .inr (by rw [← HZ.out]; exact h)⟩
      clear hw HS HZ ht
      by_cases a1 : z = 32
      · subst a1
        have Y := yes rfl
        clear yes no
        go_wp2
        go_round
        case rel => exact ⟨j + 1, _, by go_num, Y.out.1, Y.out.2, by omega⟩
        case measure => simp [intOf]; omega
      · by_cases a2 : z = 9
        · subst a2
          have Y := yes rfl
          clear yes no
          go_wp2
          go_round
          case rel => exact ⟨j + 1, _, by go_num, Y.out.1, Y.out.2, by omega⟩
          case measure => simp [intOf]; omega
        · by_cases a3 : z = 10
          · subst a3
            have Y := yes rfl
            clear yes no
            go_wp2
            go_round
            case rel => exact ⟨j + 1, _, by go_num, Y.out.1, Y.out.2, by omega⟩
            case measure => simp [intOf]; omega
          · by_cases a4 : z = 13
            · subst a4
              have Y := yes rfl
              clear yes no
              go_wp2
              go_round
              case rel => exact ⟨j + 1, _, by go_num, Y.out.1, Y.out.2, by omega⟩
              case measure => simp [intOf]; omega
            · have b1 : (z == 32) = false := by simp [a1]
              have b2 : (z == 9) = false := by simp [a2]
              have b3 : (z == 10) = false := by simp [a3]
              have b4 : (z == 13) = false := by simp [a4]
              have N := no (by simp [isWs, b1, b2, b3, b4])
              clear yes no a1 a2 a3 a4
              go_wp2
              go_ret
              exact ⟨j, s, rfl, rfl, N.out.1, N.out.2.1, N.out.2.2⟩
    · have no : Hid (Seg t i j s ∧ AllWs s ∧ (j = t.length ∨ isWs (t.getD j 0) = false)) := ⟨HS.out, hw, .inl (by rw [HL.out]; omega)⟩
      clear hw HS ht
      go_wp2
      go_ret
      exact ⟨j, s, rfl, rfl, no.out.1, no.out.2.1, no.out.2.2⟩

theorem ws_unique {t : List Int} {i j k : Nat} {s r : List Int} (h1 : Seg t i j s) (h2 : AllWs s) (h3 : j = t.length ∨ isWs (t.getD j 0) = false) (g1 : Seg t i k r) (g2 : AllWs r) (g3 : k = t.length ∨ isWs (t.getD k 0) = false) : j = k := by
  have one : ∀ {a b : Nat} {s r : List Int}, Seg t i a s → (a = t.length ∨ isWs (t.getD a 0) = false) → Seg t i b r → AllWs r → ¬ a < b := by
    intro a b s r p1 p2 q1 q2 hab
    have hl := q1.length
    have h0 := p1.1
    have hb := q1.2.1
    have := q1.get (a - i) (by omega)
    rw [show i + (a - i) = a by omega] at this
    have hw := q2 (r.getD (a - i) 0) (by
      simp only [List.getD_eq_getElem?_getD, List.getElem?_eq_getElem (show a - i < r.length by omega), Option.getD_some]
      exact List.getElem_mem _)
    rcases p2 with p2 | p2
    · omega
    · rw [this, hw] at p2; cases p2
  have a := one h1 h3 g1 g2
  have b := one g1 g3 h1 h2
  omega

/-- skipSpace over blanks that end at place j. -/
theorem skip {w : World} {x : Addr} {t : List Int} {n c : Nat} (ht : Txt w x t) (hn : n ≤ 4194304) (lt : t.length = n) {i j : Nat} {s : List Int} (h1 : Seg t i j s) (h2 : AllWs s) (h3 : j = t.length ∨ isWs (t.getD j 0) = false) :
    Calls Try.prog 39 #[.slice (some x) n c, .int .i64 i] w fun e w' => e = .returned (.int .i64 (j : Int)) ∧ w = w' :=
  (skip_any ht hn lt i (by have := h1.1; have := h1.2.1; omega)).mono fun e w' ⟨k, r, he, hw, g1, g2, g3⟩ => ⟨by rw [ws_unique h1 h2 h3 g1 g2 g3]; exact he, hw⟩

set_option maxHeartbeats 1000000 in
/-- stringEnd at a string's opening quote. -/
theorem string_end {w : World} {x : Addr} {t : List Int} {n c : Nat} (ht : Txt w x t) (hn : n ≤ 4194304) (lt : t.length = n) {i j : Nat} {s : List Int} (h1 : Seg t i j (34 :: s)) (h2 : lstr s = true) :
    Calls Try.prog 40 #[.slice (some x) n c, .int .i64 i] w fun e w' => e = .returned (.int .i64 (j : Int)) ∧ w = w' := by
  have HL : Hid (t.length = n) := lt
  have hs := h1.head.2.2
  have hin : i < n := by have := h1.head.1; omega
  clear lt h1
  go_enter Try.func40, Try.ntmps40
  go_wp2
  go_loop [1] (fun k => ∃ (m : Nat) (r : List Int), k = .int .i64 m ∧ Hid (Seg t m j r ∧ lstr r = true) ∧ m < n) (fun k => n - (intOf k).toNat)
  case atStart =>
    refine ⟨i + 1, s, by go_num, ⟨hs, h2⟩, ?_⟩
    have := hs.length
    have := hs.1
    have := hs.2.1
    have := HL.out
    have : s ≠ [] := fun e => by subst e; simp [lstr] at h2
    have := List.length_pos_iff.2 this
    omega
  case round =>
    obtain ⟨m, r, rfl, hr, hm⟩ := hrel
    have q := ht m (by rw [HL.out]; exact hm)
    have g1 : (m : Int) < (n : Int) := by omega
    obtain ⟨z, hz⟩ : ∃ z, z = t.getD m 0 := ⟨_, rfl⟩
    rw [← hz] at q
    have HZ : Hid (z = t.getD m 0) := hz
    clear hz ht hs h2
    have A : Hid ((z = 34 ∧ m + 1 = j) ∨ (z = 92 ∧ ∃ r', Seg t (m + 2) j r' ∧ lstr r' = true ∧ m + 2 < n) ∨ (z ≠ 34 ∧ z ≠ 92 ∧ ∃ r', Seg t (m + 1) j r' ∧ lstr r' = true ∧ m + 1 < n)) := by
      obtain ⟨hs, hl⟩ := hr.out
      have hj := hs.2.1
      have hL := HL.out
      have hlen := hs.length
      have hmj := hs.1
      cases r with
      | nil => simp [lstr] at hl
      | cons c r' =>
        obtain ⟨_, e1, e2⟩ := hs.head
        rw [← HZ.out] at e1
        subst e1
        simp only [List.length_cons] at hlen
        cases r' with
        | nil =>
          have : z = 34 := by simpa [lstr] using hl
          simp only [List.length_nil] at hlen
          exact .inl ⟨this, by omega⟩
        | cons d r' =>
          simp only [List.length_cons] at hlen
          by_cases a : z = 34
          · subst a; simp [lstr] at hl
          · by_cases b : z = 92
            · subst b
              have hl' : lstr r' = true := by simpa [lstr] using hl
              have : r' ≠ [] := fun e => by subst e; simp [lstr] at hl'
              have := List.length_pos_iff.2 this
              exact .inr (.inl ⟨rfl, r', e2.head.2.2, hl', by omega⟩)
            · have hl' : lstr (d :: r') = true := by simpa [lstr, a, b] using hl
              exact .inr (.inr ⟨a, b, d :: r', e2, hl', by omega⟩)
    clear hr HZ
    rcases A.out with ⟨a, b⟩ | ⟨a, r', b1, b2, b3⟩ | ⟨a1, a2, r', b1, b2, b3⟩
    · clear A
      subst a
      have HB : Hid (m + 1 = j) := b
      clear b
      go_wp2
      go_ret
      refine ⟨?_, rfl⟩
      rw [← HB.out]
      rfl
    · clear A
      subst a
      have HB : Hid (Seg t (m + 2) j r' ∧ lstr r' = true) := ⟨b1, b2⟩
      clear b1 b2
      go_wp2
      go_round
      case rel => exact ⟨m + 2, r', by go_num, HB, b3⟩
      case measure => simp [intOf]; omega
    · clear A
      have HB : Hid (Seg t (m + 1) j r' ∧ lstr r' = true) := ⟨b1, b2⟩
      have c1 : (z != 34) = true := by simp [a1]
      have c2 : (z == 92) = false := by simp [a2]
      clear b1 b2 a1 a2
      go_wp2
      go_round
      case rel => exact ⟨m + 1, r', by go_num, HB, b3⟩
      case measure => simp [intOf]; omega

#print axioms skip
#print axioms string_end
end Go.Proofs.Qxb6616170a
