/-
  SEAT b6616170a. The strict reader's words: zzJSWord (31).
-/
import Derived.Test.Qxb6616170aNum
import Derived.Deep.QuietTactic
namespace Go.Proofs.Qxb6616170a
open Go Go.RowKit
set_option linter.unusedVariables false

def ScPost (t : List Int) (i : Nat) (w : World) (e : Ending) (w' : World) : Prop := ∃ (z : Int) (d : Nat), e = .returned (.int .i64 z) ∧ w' = w.drewN d ∧ (z = -1 ∨ ∃ (j : Nat) (s : List Int), z = j ∧ Seg t i j s ∧ Scal s)

def Low (t : List Int) (i k : Nat) : Prop := ∀ l, i ≤ l → l < i + k → 97 ≤ t.getD l 0 ∧ t.getD l 0 ≤ 122
theorem Low.snoc {t : List Int} {i k : Nat} (h : Low t i k) (h1 : 97 ≤ t.getD (i + k) 0 ∧ t.getD (i + k) 0 ≤ 122) : Low t i (k + 1) := fun l a b => by
  by_cases e : l = i + k
  · rw [e]; exact h1
  · exact h l a (by omega)
theorem Low.scal {t : List Int} {i k : Nat} (h : Low t i k) (h1 : 0 < k) (h2 : i + k ≤ t.length) : ∃ s, Seg t i (i + k) s ∧ Scal s := by
  have sg : Seg t i (i + k) _ := seg_mk (by omega) h2
  refine ⟨_, sg, fun e => ?_, fun c hc => ?_⟩
  · have := sg.length
    rw [e] at this
    simp at this
    omega
  · have := seg_mem sg (P := fun c => 97 ≤ c ∧ c ≤ 122) h c hc
    refine ⟨?_, by omega, ?_, ?_⟩
    · simp [isDelim, isWs]; omega
    · omega
    · omega

theorem index_at (ba : ByteArray) (k : Nat) (hk : k < ba.size) (w : World) :
    (Instr.index 9 (.string ba) (.int .i64 (k : Int))).run Try.prog w = .ok (.int .u8 ((ba[k].toNat : Nat) : Int)) w := by
  rw [run_index_string w 9 ba .i64 _ Try.underlying9, dif_pos ⟨by omega, by omega⟩]
  simp

set_option maxRecDepth 100000 in
set_option maxHeartbeats 1000000 in
theorem js_word {w : World} {x : Addr} {t : List Int} {n c : Nat} (ht : Txt w x t) (hn : n ≤ 4194304) (lt : t.length = n) (i : Nat) (hi : i < n) (ba : ByteArray) (b1 : 0 < ba.size) (b2 : ba.size ≤ 5) (bl : ∀ k (hk : k < ba.size), 97 ≤ ba[k].toNat ∧ ba[k].toNat ≤ 122) :
    Calls Try.prog 31 #[.slice (some x) n c, .int .i64 i, .string ba] w fun e w' => ScPost t i w e w' := by
  have HL : Hid (t.length = n) := lt
  have HB : Hid (∀ k (hk : k < ba.size), 97 ≤ ba[k].toNat ∧ ba[k].toNat ≤ 122) := bl
  have HX : Hid (∀ k (hk : k < ba.size) (w : World), (Instr.index 9 (.string ba) (.int .i64 (k : Int))).run Try.prog w = .ok (.int .u8 ((ba[k].toNat : Nat) : Int)) w) := fun k hk w => index_at ba k hk w
  obtain ⟨L, hL⟩ : ∃ L, L = ba.size := ⟨_, rfl⟩
  clear lt bl
  go_enter Try.func31, Try.ntmps31
  by_cases h4 : i + ba.size ≤ n
  · have h4' : ¬ ((n : Int) - (i : Int) < (ba.size : Int)) := by omega
    go_wp2
    go_loopw [7] (fun v wr => ∃ k d : Nat, v = .int .i64 k ∧ wr = w.drewN d ∧ k ≤ ba.size ∧ Hid (Low t i k)) (fun v _ => ba.size - (intOf v).toNat)
    case atStart => exact ⟨0, 0, rfl, rfl, by omega, fun l a b => by omega⟩
    case round =>
      obtain ⟨k, d, rfl, rfl, hk, hlow⟩ := hrel
      by_cases hlt : k < ba.size
      · have hx := HX.out k hlt
        have hb := HB.out k hlt
        obtain ⟨B, hB⟩ : ∃ B : Int, B = ((ba[k].toNat : Nat) : Int) := ⟨_, rfl⟩
        rw [← hB] at hx
        have hb' : Hid (97 ≤ B ∧ B ≤ 122) := by rw [hB]; exact (by omega : (97 : Int) ≤ (ba[k].toNat : Int) ∧ (ba[k].toNat : Int) ≤ 122)
        clear hB hb HX HB
        have q := ht (i + k) (by rw [HL.out]; omega)
        obtain ⟨z, hz⟩ : ∃ z, z = t.getD (i + k) 0 := ⟨_, rfl⟩
        rw [← hz] at q
        have HZ : Hid (z = t.getD (i + k) 0) := hz
        clear hz
        have g1 : (i : Int) + (k : Int) < (n : Int) := by omega
        have g2 : (k : Int) < (ba.size : Int) := by omega
        by_cases e : z = B
        · subst e
          have nx : Hid (Low t i (k + 1)) := hlow.out.snoc (by rw [← HZ.out]; exact hb'.out)
          have hzz : (z != z) = false := by simp
          clear hlow HZ ht hb'
          go_wp2
          go_quiet (fail)
          go_wp2
          go_roundw
          case rel => exact ⟨k + 1, _, by go_num, rfl, by omega, nx⟩
          case measure => simp [intOf]; omega
        · have hzz : (z != B) = true := by simp [e]
          clear e hlow HZ ht hb'
          go_wp2
          go_quiet (fail)
          go_wp2
          go_ret
          exact ⟨_, d + nq, rfl, by simp, .inl rfl⟩
      · have ek : k = ba.size := by omega
        have fin : Hid (∃ s, Seg t i (i + k) s ∧ Scal s) := hlow.out.scal (by omega) (by rw [HL.out]; omega)
        clear hlow HX HB ht
        subst ek
        go_wp2
        go_ret
        obtain ⟨s, f1, f2⟩ := fin.out
        exact ⟨_, d, rfl, rfl, .inr ⟨i + ba.size, s, by go_num, f1, f2⟩⟩
  · have h4' : (n : Int) - (i : Int) < (ba.size : Int) := by omega
    clear HX HB ht
    go_wp2
    go_ret
    exact ⟨_, 0, rfl, rfl, .inl rfl⟩
end Go.Proofs.Qxb6616170a
