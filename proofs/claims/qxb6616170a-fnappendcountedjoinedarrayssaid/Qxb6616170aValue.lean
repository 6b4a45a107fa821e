/-
  SEAT b6616170a. The strict reader's values: zzJSValue (25), its containers given.
-/
import Derived.Test.Qxb6616170aWord
namespace Go.Proofs.Qxb6616170a
open Go Go.RowKit
set_option linter.unusedVariables false

def ValPost (t : List Int) (i : Nat) (w : World) (e : Ending) (w' : World) : Prop := ∃ (z : Int) (d : Nat), e = .returned (.int .i64 z) ∧ w' = w.drewN d ∧ (z = -1 ∨ ∃ (j : Nat) (s : List Int), z = j ∧ Seg t i j s ∧ Val s)
def BoxPost (t : List Int) (i : Nat) (w : World) (e : Ending) (w' : World) : Prop := ∃ (z m : Int) (d : Nat), e = .returned (.tuple #[.int .i64 z, .int .i64 m, .slice none 0 0]) ∧ w' = w.drewN d ∧ (z = -1 ∨ ∃ (j : Nat) (s : List Int), z = j ∧ Seg t i j s ∧ Box s ∧ (t.getD i 0 = 91 → ∃ segs : List (List Int), m = (segs.length : Int) ∧ ArrText segs s))

set_option maxRecDepth 100000 in
set_option maxHeartbeats 1000000 in
theorem js_value_of {w : World} {x : Addr} {t : List Int} {n c : Nat} (ht : Txt w x t) (hn : n ≤ 4194304) (lt : t.length = n) (i : Nat) (hi : i ≤ n)
    (hc : i < n → (t.getD i 0 = 91 ∨ t.getD i 0 = 123) → Calls Try.prog 17 #[.slice (some x) n c, .int .i64 i, .bool false] w fun e w' => BoxPost t i w e w') :
    Calls Try.prog 25 #[.slice (some x) n c, .int .i64 i] w fun e w' => ValPost t i w e w' := by
  have HL : Hid (t.length = n) := lt
  clear lt
  go_enter Try.func25, Try.ntmps25
  by_cases hlt : i < n
  · have q := ht i (by rw [HL.out]; exact hlt)
    have g1 : (i : Int) < (n : Int) := by omega
    obtain ⟨z, hz⟩ : ∃ z, z = t.getD i 0 := ⟨_, rfl⟩
    rw [← hz] at q hc
    have HZ : Hid (z = t.getD i 0) := hz
    have HC : Hid ((z = 91 ∨ z = 123) → Calls Try.prog 17 #[.slice (some x) n c, .int .i64 i, .bool false] w fun e w' => BoxPost t i w e w') := hc hlt
    clear hz hc
    by_cases a34 : z = 34
    · subst a34
      clear HC
      go_wp2_with fail
      refine (js_string ht hn HL.out i hlt HZ.out.symm).mono ?_
      rintro e w' ⟨r, rfl, rfl, hr⟩
      have HR : Hid (r = -1 ∨ ∃ (j : Nat) (s : List Int), r = j ∧ Seg t i j (34 :: s) ∧ lstr s = true) := hr
      clear hr ht HZ
      go_wp2
      go_ret
      refine ⟨_, 0, rfl, rfl, ?_⟩
      rcases HR.out with h | ⟨j, s, h1, h2, h3⟩
      · exact .inl h
      · exact .inr ⟨j, _, h1, h2, .inl ⟨s, rfl, h3⟩⟩
    have b34 : (z == 34) = false := by simp [a34]
    have box : (z = 91 ∨ z = 123) → Calls Try.prog 17 #[.slice (some x) n c, .int .i64 i, .bool false] w fun e w' => BoxPost t i w e w' := HC.out
    by_cases a91 : z = 91
    · subst a91
      have o := box (.inl rfl)
      clear HC box
      go_wp2_with fail
      refine o.mono ?_
      rintro e w' ⟨r, m, d, rfl, rfl, hr⟩
      have HR : Hid _ := hr
      clear hr ht HZ o
      go_wp2
      go_ret
      refine ⟨_, d, rfl, rfl, ?_⟩
      rcases HR.out with h | ⟨j, s, h1, h2, h3, _⟩
      · exact .inl h
      · exact .inr ⟨j, _, h1, h2, .inr (.inl h3)⟩
    have b91 : (z == 91) = false := by simp [a91]
    by_cases a123 : z = 123
    · subst a123
      have o := box (.inr rfl)
      clear HC box
      go_wp2_with fail
      refine o.mono ?_
      rintro e w' ⟨r, m, d, rfl, rfl, hr⟩
      have HR : Hid _ := hr
      clear hr ht HZ o
      go_wp2
      go_ret
      refine ⟨_, d, rfl, rfl, ?_⟩
      rcases HR.out with h | ⟨j, s, h1, h2, h3, _⟩
      · exact .inl h
      · exact .inr ⟨j, _, h1, h2, .inr (.inl h3)⟩
    have b123 : (z == 123) = false := by simp [a123]
    clear HC box a34 a91 a123
    by_cases a116 : z = 116
    · subst a116
      go_wp2_with fail
      refine (js_word ht hn HL.out i hlt ⟨#[116, 114, 117, 101]⟩ (by decide) (by decide) (by decide)).mono ?_
      rintro e w' ⟨r, d, rfl, rfl, hr⟩
      have HR : Hid _ := hr
      clear hr ht HZ
      go_wp2
      go_ret
      refine ⟨_, d, rfl, rfl, ?_⟩
      rcases HR.out with h | ⟨j, s, h1, h2, h3⟩
      · exact .inl h
      · exact .inr ⟨j, _, h1, h2, .inr (.inr h3)⟩
    have b116 : (z == 116) = false := by simp [a116]
    by_cases a102 : z = 102
    · subst a102
      go_wp2_with fail
      refine (js_word ht hn HL.out i hlt ⟨#[102, 97, 108, 115, 101]⟩ (by decide) (by decide) (by decide)).mono ?_
      rintro e w' ⟨r, d, rfl, rfl, hr⟩
      have HR : Hid _ := hr
      clear hr ht HZ
      go_wp2
      go_ret
      refine ⟨_, d, rfl, rfl, ?_⟩
      rcases HR.out with h | ⟨j, s, h1, h2, h3⟩
      · exact .inl h
      · exact .inr ⟨j, _, h1, h2, .inr (.inr h3)⟩
    have b102 : (z == 102) = false := by simp [a102]
    by_cases a110 : z = 110
    · subst a110
      go_wp2_with fail
      refine (js_word ht hn HL.out i hlt ⟨#[110, 117, 108, 108]⟩ (by decide) (by decide) (by decide)).mono ?_
      rintro e w' ⟨r, d, rfl, rfl, hr⟩
      have HR : Hid _ := hr
      clear hr ht HZ
      go_wp2
      go_ret
      refine ⟨_, d, rfl, rfl, ?_⟩
      rcases HR.out with h | ⟨j, s, h1, h2, h3⟩
      · exact .inl h
      · exact .inr ⟨j, _, h1, h2, .inr (.inr h3)⟩
    have b110 : (z == 110) = false := by simp [a110]
    clear a116 a102 a110
    go_wp2_with fail
    refine (js_number ht hn HL.out i hlt).mono ?_
    rintro e w' ⟨r, rfl, rfl, hr⟩
    have HR : Hid (r = -1 ∨ ∃ (j : Nat) (s : List Int), r = j ∧ Seg t i j s ∧ Scal s) := hr
    clear hr ht HZ
    go_wp2
    go_ret
    refine ⟨_, 0, rfl, rfl, ?_⟩
    rcases HR.out with h | ⟨j, s, h1, h2, h3⟩
    · exact .inl h
    · exact .inr ⟨j, _, h1, h2, .inr (.inr h3)⟩
  · clear ht hc
    go_wp2
    go_ret
    exact ⟨_, 0, rfl, rfl, .inl rfl⟩
end Go.Proofs.Qxb6616170a
