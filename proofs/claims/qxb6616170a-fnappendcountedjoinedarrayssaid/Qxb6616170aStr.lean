/-
  SEAT b6616170a. The strict reader's strings: zzJSHex (30), zzJSString (24).
-/
import Derived.Test.Qxb6616170aScan
namespace Go.Proofs.Qxb6616170a
open Go Go.RowKit
set_option linter.unusedVariables false

def HexPost (z : Int) (w : World) (e : Ending) (w' : World) : Prop := ∃ b, e = .returned (.bool b) ∧ w = w' ∧ (b = true → z ≠ 34 ∧ z ≠ 92)

set_option maxHeartbeats 1000000 in
theorem js_hex (w : World) (z : Int) :
    Calls Try.prog 30 #[byte z] w fun e w' => HexPost z w e w' := by
  unfold byte
  go_enter Try.func30, Try.ntmps30
  by_cases a1 : 48 ≤ z
  · by_cases a2 : z ≤ 57
    · go_wp2
      go_ret
      exact ⟨_, rfl, rfl, fun _ => by omega⟩
    · by_cases a3 : 97 ≤ z
      · by_cases a4 : z ≤ 102
        · go_wp2
          go_ret
          exact ⟨_, rfl, rfl, fun _ => by omega⟩
        · go_wp2
          by_cases a5 : 65 ≤ z
          · by_cases a6 : z ≤ 70
            · go_wp2
              go_ret
              exact ⟨_, rfl, rfl, fun _ => by omega⟩
            · go_wp2
              go_ret
              exact ⟨_, rfl, rfl, fun _ => by omega⟩
          · exact absurd a3 (by omega)
      · by_cases a5 : 65 ≤ z
        · by_cases a6 : z ≤ 70
          · go_wp2
            go_ret
            exact ⟨_, rfl, rfl, fun _ => by omega⟩
          · go_wp2
            go_ret
            exact ⟨_, rfl, rfl, fun h => by cases h⟩
        · go_wp2
          go_ret
          exact ⟨_, rfl, rfl, fun h => by cases h⟩
  · have b1 : ¬ (97 ≤ z) := by omega
    have b2 : ¬ (65 ≤ z) := by omega
    go_wp2
    go_ret
    exact ⟨_, rfl, rfl, fun h => by cases h⟩

/-- A string's inside, its closing quote still to come. -/
def PreS (p : List Int) : Prop := ∀ r, lstr r = true → lstr (p ++ r) = true
theorem PreS.nil : PreS [] := fun r h => h
theorem PreS.append {p q : List Int} (hp : PreS p) (hq : PreS q) : PreS (p ++ q) := fun r h => by
  rw [List.append_assoc]; exact hp _ (hq r h)
theorem PreS.one {c : Int} (h1 : c ≠ 34) (h2 : c ≠ 92) : PreS [c] := fun r h => by
  cases r with
  | nil => simp [lstr] at h
  | cons d r => simpa [lstr, h1, h2] using h
theorem PreS.esc (c : Int) : PreS [92, c] := fun r h => by simpa [lstr] using h
theorem PreS.all : ∀ {p : List Int}, (∀ c ∈ p, c ≠ 34 ∧ c ≠ 92) → PreS p
  | [], _ => PreS.nil
  | c :: p, h => (PreS.one (h c (by simp)).1 (h c (by simp)).2).append (p := [c]) (PreS.all fun x hx => h x (by simp [hx]))
theorem PreS.close {p : List Int} (h : PreS p) : lstr (p ++ [34]) = true := h [34] (by simp [lstr])

/-- A segment between two places, given by its bytes. -/
theorem seg_mk {t : List Int} {i j : Nat} (h1 : i ≤ j) (h2 : j ≤ t.length) : Seg t i j ((t.drop i).take (j - i)) := by
  refine ⟨h1, h2, ?_⟩
  have : t.drop j = (t.drop i).drop (j - i) := by rw [List.drop_drop]; congr 1; omega
  rw [this, List.take_append_drop]
theorem seg_mem {t : List Int} {i j : Nat} {s : List Int} (h : Seg t i j s) {P : Int → Prop} (hp : ∀ k, i ≤ k → k < j → P (t.getD k 0)) : ∀ c ∈ s, P c := by
  intro c hc
  obtain ⟨k, hk, rfl⟩ := List.getElem_of_mem hc
  have hl := h.length
  have e := h.get k hk
  have : s.getD k 0 = s[k] := by simp [List.getD, hk]
  rw [← this, ← e]
  exact hp _ (by omega) (by omega)

def StrPost (t : List Int) (i : Nat) (w : World) (e : Ending) (w' : World) : Prop := ∃ z : Int, e = .returned (.int .i64 z) ∧ w = w' ∧ (z = -1 ∨ ∃ (j : Nat) (s : List Int), z = j ∧ Seg t i j (34 :: s) ∧ lstr s = true)

set_option maxHeartbeats 1000000 in
theorem js_string {w : World} {x : Addr} {t : List Int} {n c : Nat} (ht : Txt w x t) (hn : n ≤ 4194304) (lt : t.length = n) (i : Nat) (hi : i < n) (hq : t.getD i 0 = 34) :
    Calls Try.prog 24 #[.slice (some x) n c, .int .i64 i] w fun e w' => StrPost t i w e w' := by
  have HQ : Hid (Seg t i (i + 1) [34]) := by
    have := Seg.one (t := t) (i := i) (by omega)
    rw [hq] at this
    exact this
  have HL : Hid (t.length = n) := lt
  clear lt hq
  go_enter Try.func24, Try.ntmps24
  go_wp2
  go_loop [1] (fun k => ∃ (m : Nat) (p : List Int), k = .int .i64 m ∧ Hid (Seg t (i + 1) m p ∧ PreS p) ∧ m ≤ n) (fun k => n - (intOf k).toNat)
  case atStart => exact ⟨i + 1, [], by go_num, ⟨Seg.refl (by rw [HL.out]; exact hi), PreS.nil⟩, hi⟩
  case round =>
    obtain ⟨m, p, rfl, hs, hm⟩ := hrel
    by_cases hlt : m < n
    · have q := ht m (by rw [HL.out]; exact hlt)
      have g1 : (m : Int) < (n : Int) := by omega
      obtain ⟨z, hz⟩ : ∃ z, z = t.getD m 0 := ⟨_, rfl⟩
      rw [← hz] at q
      have one : Hid (Seg t (i + 1) (m + 1) (p ++ [z])) := by
        have := Seg.snoc hs.out.1 (by rw [HL.out]; exact hlt)
        rw [← hz] at this
        exact this
      clear hz
      by_cases a1 : z = 34
      · subst a1
        go_wp2
        go_ret
        refine ⟨_, rfl, rfl, .inr ⟨m + 1, p ++ [34], by go_num, HQ.out.trans one.out, hs.out.2.close⟩⟩
      · have b1 : (z == 34) = false := by simp [a1]
        by_cases a2 : z < 32
        · go_wp2
          go_ret
          exact ⟨_, rfl, rfl, .inl rfl⟩
        · by_cases a3 : z = 92
          · subst a3
            by_cases hl2 : m + 1 < n
            · have q2 := ht (m + 1) (by rw [HL.out]; exact hl2)
              have g2 : ((m : Int) + 1) < (n : Int) := by omega
              obtain ⟨d, hd⟩ : ∃ d, d = t.getD (m + 1) 0 := ⟨_, rfl⟩
              rw [← hd] at q2
              have q2' : w.cell? { block := x.block, off := x.off + (m + 1) } = some (byte d) := q2
              clear q2
              have two : Hid (Seg t (i + 1) (m + 2) (p ++ [92, d]) ∧ PreS (p ++ [92, d])) := by
                have := Seg.snoc one.out (by rw [HL.out]; exact hl2)
                rw [← hd, List.append_assoc] at this
                exact ⟨this, hs.out.2.append (PreS.esc d)⟩
              clear hd hs one
              by_cases c34 : d = 34
              · subst c34
                go_wp2
                go_round
                case rel => exact ⟨m + 2, _, by go_num, two, by omega⟩
                case measure => simp [intOf]; omega
              have e34 : (d == 34) = false := by simp [c34]
              by_cases c92 : d = 92
              · subst c92
                go_wp2
                go_round
                case rel => exact ⟨m + 2, _, by go_num, two, by omega⟩
                case measure => simp [intOf]; omega
              have e92 : (d == 92) = false := by simp [c92]
              by_cases c47 : d = 47
              · subst c47
                go_wp2
                go_round
                case rel => exact ⟨m + 2, _, by go_num, two, by omega⟩
                case measure => simp [intOf]; omega
              have e47 : (d == 47) = false := by simp [c47]
              by_cases c98 : d = 98
              · subst c98
                go_wp2
                go_round
                case rel => exact ⟨m + 2, _, by go_num, two, by omega⟩
                case measure => simp [intOf]; omega
              have e98 : (d == 98) = false := by simp [c98]
              by_cases c102 : d = 102
              · subst c102
                go_wp2
                go_round
                case rel => exact ⟨m + 2, _, by go_num, two, by omega⟩
                case measure => simp [intOf]; omega
              have e102 : (d == 102) = false := by simp [c102]
              by_cases c110 : d = 110
              · subst c110
                go_wp2
                go_round
                case rel => exact ⟨m + 2, _, by go_num, two, by omega⟩
                case measure => simp [intOf]; omega
              have e110 : (d == 110) = false := by simp [c110]
              by_cases c114 : d = 114
              · subst c114
                go_wp2
                go_round
                case rel => exact ⟨m + 2, _, by go_num, two, by omega⟩
                case measure => simp [intOf]; omega
              have e114 : (d == 114) = false := by simp [c114]
              by_cases c116 : d = 116
              · subst c116
                go_wp2
                go_round
                case rel => exact ⟨m + 2, _, by go_num, two, by omega⟩
                case measure => simp [intOf]; omega
              have e116 : (d == 116) = false := by simp [c116]
              clear c34 c92 c47 c98 c102 c110 c114 c116
              by_cases c117 : d = 117
              · subst c117
                by_cases h6 : n < m + 6
                · clear ht
                  go_wp2
                  go_ret
                  exact ⟨_, rfl, rfl, .inl rfl⟩
                · go_wp2
                  go_loop [6] (fun k => ∃ m' : Nat, k = .int .i64 m' ∧ m + 2 ≤ m' ∧ m' ≤ m + 6 ∧ Hid (∀ l, m + 2 ≤ l → l < m' → t.getD l 0 ≠ 34 ∧ t.getD l 0 ≠ 92)) (fun k => m + 6 - (intOf k).toNat)
                  case atStart => exact ⟨m + 2, by go_num, by omega, by omega, fun l h1 h2 => by omega⟩
                  case round =>
                    obtain ⟨m', rfl, j1, j2, hh⟩ := hrel
                    by_cases hl3 : m' < m + 6
                    · have q3 := ht m' (by rw [HL.out]; omega)
                      have g3 : (m' : Int) < (m : Int) + 6 := by omega
                      obtain ⟨d, hd⟩ : ∃ d, d = t.getD m' 0 := ⟨_, rfl⟩
                      rw [← hd] at q3
                      have HD : Hid (d = t.getD m' 0) := hd
                      clear hd
                      go_wp2_with fail
                      refine (js_hex w d).mono ?_
                      rintro e w' ⟨b, rfl, rfl, hb⟩
                      have nx : b = true → Hid (∀ l, m + 2 ≤ l → l < m' + 1 → t.getD l 0 ≠ 34 ∧ t.getD l 0 ≠ 92) := fun h l h1 h2 => by
                        by_cases e : l = m'
                        · rw [e, ← HD.out]; exact hb h
                        · exact hh.out l h1 (by omega)
                      clear hb hh HD
                      cases b with
                      | false =>
                        clear nx
                        go_wp2
                        go_ret
                        exact ⟨_, rfl, rfl, .inl rfl⟩
                      | true =>
                        have nx' := nx rfl
                        clear nx
                        go_wp2
                        go_round
                        case rel => exact ⟨m' + 1, by go_num, by omega, by omega, nx'⟩
                        case measure => simp [intOf]; omega
                    · have ej : m' = m + 6 := by omega
                      subst ej
                      have nx : Hid (Seg t (i + 1) (m + 6) (p ++ [92, 117] ++ (t.drop (m + 2)).take (m + 6 - (m + 2))) ∧ PreS (p ++ [92, 117] ++ (t.drop (m + 2)).take (m + 6 - (m + 2)))) := by
                        have sg : Seg t (m + 2) (m + 6) ((t.drop (m + 2)).take (m + 6 - (m + 2))) := seg_mk (by omega) (by rw [HL.out]; omega)
                        exact ⟨two.out.1.trans sg, two.out.2.append (PreS.all (seg_mem sg hh.out))⟩
                      clear two hh ht
                      go_wp2
                      go_round
                      case rel => exact ⟨m + 6, _, by go_num, nx, by omega⟩
                      case measure => simp [intOf]; omega
              have e117 : (d == 117) = false := by simp [c117]
              go_wp2
              go_ret
              exact ⟨_, rfl, rfl, .inl rfl⟩
            · clear ht
              go_wp2
              go_ret
              exact ⟨_, rfl, rfl, .inl rfl⟩
          · have b3 : (z != 92) = true := by simp [a3]
            have nx : Hid (Seg t (i + 1) (m + 1) (p ++ [z]) ∧ PreS (p ++ [z])) := ⟨one.out, hs.out.2.append (PreS.one a1 a3)⟩
            clear one hs a1 a3 ht
            go_wp2
            go_round
            case rel => exact ⟨m + 1, _, by go_num, nx, by omega⟩
            case measure => simp [intOf]; omega
    · clear ht
      go_wp2
      go_ret
      exact ⟨_, rfl, rfl, .inl rfl⟩
end Go.Proofs.Qxb6616170a
