/-
  SEAT b6616170a. appendUint (37), enumType.appendNull (29), ZZenumAppendNull (22), zzEnumNull (11).
-/
import Derived.Test.Qxb6616170aClone
import Derived.Deep.LoopGhost
import Derived.WideMake
namespace Go.Proofs.Qxb6616170a
open Go Go.RowKit
set_option linter.unusedVariables false

/-- The size low bytes of u, little-endian. -/
def leB (u : Int) : Nat → List Int
  | 0 => []
  | k + 1 => leB u k ++ [u / 2 ^ (8 * k) % 256]
theorem leB_length (u : Int) : ∀ k, (leB u k).length = k
  | 0 => rfl
  | k + 1 => by rw [leB, List.length_append, leB_length u k]; rfl

/-- Behind an append of one byte. -/
theorem OB.grew {base : Nat} {w wr w1 : World} {v v' : Value} {ys : List Int} {z : Int} {o : Obj} (hb : Below base w wr) (hbs : base ≤ wr.heap.size) (ho : OB base wr v ys)
    (hown : w1.ownsRow base 5 1 v' (ys.length + 1) (ys.map byte ++ [byte z])) (hgrow : (wr.alloc o).grownBy w1 v.ownBlock) : Below base w w1 ∧ OB base w1 v' (ys ++ [z]) ∧ base ≤ w1.heap.size := by
  have hb2 : Below base w (wr.alloc o) := hb.alloc hbs o
  refine ⟨hb2.grown hgrow (by simp; omega) ?_, ?_, ?_⟩
  · intro k hk
    obtain ⟨_, h2⟩ := ho
    rcases h2 with ⟨rfl, _⟩ | ⟨g, cap, cur, rfl, hg, _⟩
    · simp [Value.ownBlock] at hk
    · simp [Value.ownBlock] at hk; omega
  · unfold OB
    simpa using hown
  · have := hgrow.size
    simp at this
    omega

set_option maxHeartbeats 1000000 in
theorem append_uint {base : Nat} {w : World} {v : Value} {xs : List Int} (h : OB base w v xs) (hb : base ≤ w.heap.size) (hl : xs.length ≤ 1048600) (u : Int) (hu : 0 ≤ u ∧ u < 18446744073709551616) (size : Nat) (hs : size ≤ 2) :
    Calls Try.prog 37 #[v, .int .u64 u, .int .i64 size] w fun e w' => ∃ v', e = .returned v' ∧ Below base w w' ∧ OB base w' v' (xs ++ leB u size) := by
  obtain ⟨i0, hi, hz0, hz1, hz2⟩ := info_parts info5
  go_enter Try.func37, Try.ntmps37
  go_wp2
  go_loopg [0, 9] size (fun gk v i wr => ∃ k : Nat, gk = size - k ∧ k ≤ size ∧ i = .int .i64 k ∧ Below base w wr ∧ ∃ ys, Hid (ys = xs ++ leB u k) ∧ OB base wr v ys)
  case atStart => exact ⟨0, by omega, by omega, rfl, Below.refl _ _, xs, by show xs = _; simp [leB], h⟩
  case round =>
    obtain ⟨k, hgk, hk, rfl, hbw, ys, HY, ho⟩ := hrel
    have HGK : Hid _ := hgk
    clear hgk h
    by_cases hlt : k < size
    · have hl2 : ys.length = xs.length + k := by rw [HY.out, List.length_append, leB_length]
      have HL2 : Hid _ := hl2
      clear hl2
      have hsz := hbw.size
      go_wp2_with (at_builtin; refine wpList_append_own _ rfl _ _ 22 rfl base 5 i0 (.int .u8 0) 1 1 Try.underlying22 hi hz0 hz1 hz2 rfl (by decide) _ ys.length (ys.map byte) rfl (World.ownsRow.alloc ho _) ⟨wr.heap.size, 0, none⟩ 1 1 [byte (u / 2 ^ (8 * k) % 256)] rfl rfl ?c1 ?c2 ?c3 ?c4 ?c5 ?_)
      case c1 =>
        intro j z hj
        match j, hj with
        | 0, hj => simp at hj; subst hj; simp [Addr.add]
      case c2 => intro z hz; simp at hz; subst hz; rfl
      case c3 => rw [HL2.out]; unfold maxLen; omega
      case c4 => rw [HL2.out]; omega
      case c5 => simp; omega
      · intro v' w1 hown hgrow _
        have G := OB.grew hbw (by omega) ho hown hgrow
        have HG : Hid _ := G
        clear G hown hgrow ho
        go_wp2
        go_roundg (size - (k + 1))
        case measure => rw [HGK.out]; omega
        case rel => exact ⟨k + 1, rfl, by omega, by go_num, HG.out.1, _, by show _ = _; rw [leB, ← List.append_assoc, ← HY.out], HG.out.2.1⟩
    · obtain rfl : k = size := by omega
      go_wp2
      go_ret
      exact ⟨_, rfl, hbw, by rw [← HY.out]; exact ho⟩
#print axioms append_uint

theorem wrap_range (n : Int) : 0 ≤ IntKind.u64.wrap n ∧ IntKind.u64.wrap n < 18446744073709551616 := by
  rw [IntKind.wrap_u64]; omega

set_option maxHeartbeats 1000000 in
theorem append_null {base : Nat} {w : World} {v : Value} {xs : List Int} (h : OB base w v xs) (hb : base ≤ w.heap.size) (hl : xs.length ≤ 1048600) (m1 m2 : Option Nat) (least : Int) (size : Nat) (hs : size ≤ 2) :
    Calls Try.prog 29 #[.agg #[.int .i64 size, .map m1, .map m2, .int .i64 least], v] w fun e w' => ∃ v', e = .returned v' ∧ Below base w w' ∧ OB base w' v' (xs ++ leB (IntKind.u64.wrap least) size) := by
  have hb1 := (Below.refl base w).alloc hb (.cells #[.int .i64 size, .map m1, .map m2, .int .i64 least] 52)
  have ho1 := OB.keep h ((Below.refl w.heap.size w).alloc (Nat.le_refl _) (.cells #[.int .i64 size, .map m1, .map m2, .int .i64 least] 52)) (Nat.le_refl _)
  go_enter Try.func29, Try.ntmps29
  go_wp2_with fail
  refine (append_uint ho1 (by simp; omega) hl _ (wrap_range least) size hs).mono ?_
  rintro e w1 ⟨v', rfl, hb2, ho2⟩
  go_wp2
  go_ret
  exact ⟨_, rfl, hb1.trans hb2, ho2⟩

set_option maxHeartbeats 1000000 in
theorem zz_append_null {base : Nat} {w : World} {v : Value} {xs : List Int} (h : OB base w v xs) (hb : base ≤ w.heap.size) (hl : xs.length ≤ 1048600) (m1 m2 : Option Nat) (least : Int) (size : Nat) (hs : size ≤ 2) :
    Calls Try.prog 22 #[.int .i64 size, .map m1, .map m2, .int .i64 least, v] w fun e w' => ∃ v', e = .returned v' ∧ Below base w w' ∧ OB base w' v' (xs ++ leB (IntKind.u64.wrap least) size) := by
  go_enter Try.func22, Try.ntmps22
  go_wp2_with fail
  refine (append_null h hb hl m1 m2 least size hs).mono ?_
  rintro e w1 ⟨v', rfl, hb2, ho2⟩
  go_wp2
  go_ret
  exact ⟨_, rfl, hb2, ho2⟩
#print axioms zz_append_null

/-- 'm[k] = v' into an empty map, k an integer. -/
theorem run_mapUpdate_first_int {P : Program} (w : World) (mty kt et : TypeId) (r clock : Nat) (kind : IntKind) (n : Int) (val : Value) (hm : P.underlying mty = some (.map kt et)) (hk : P.underlying kt = some (.int kind)) (hb : w.heap[r]? = some (.map #[] clock)) :
    (Instr.mapUpdate mty (.map (some r)) (.int kind n) val).run P w = .ok () { w with heap := w.heap.setIfInBounds r (.map #[{ key := .int kind n, val := val, born := clock }] (clock + 1)) } := by
  have hf : Instr.findNow (.int kind) (.int kind n) ([] : List MapEntry) 0 = some none := rfl
  have hc : (Instr.checkKey false 10000 kt (.int kind n)).run P w = .ok () w := MapKept.run_checkKey (k := .int kind n) hk (by simp [MapKept.IsKey]) false 9999
  simp [Instr.mapUpdate, run_underlying hm, MapKept.run_getObj_map hb, hc, MapKept.run_findKey hk hf, MapKept.run_setObj_map _ hb, Result.andThen]

theorem set_new (w : World) (o o' : Obj) : ({ (w.alloc o) with heap := (w.alloc o).heap.setIfInBounds w.heap.size o' } : World) = w.alloc o' := by
  have h : (w.heap.push o).setIfInBounds w.heap.size o' = w.heap.push o' := by
    apply Array.ext_getElem?
    intro i
    rw [Array.getElem?_setIfInBounds, Array.getElem?_push, Array.getElem?_push]
    by_cases e : w.heap.size = i
    · subst e; simp
    · rw [if_neg e]
      have e' : ¬ i = w.heap.size := fun c => e c.symm
      rw [if_neg e', if_neg e']
  show World.mk ((w.heap.push o).setIfInBounds w.heap.size o') _ _ _ _ = World.mk (w.heap.push o') _ _ _ _
  rw [h]
  rfl

theorem ins41 (w : World) (least : Int) : (Instr.mapUpdate 41 (.map (some w.heap.size)) (.string { data := #[97] }) (.int .i64 least)).run Try.prog (w.alloc (.map #[] 0)) = .ok () (w.alloc (.map #[{ key := .string { data := #[97] }, val := .int .i64 least, born := 0 }] 1)) := by
  rw [run_mapUpdate_first (w.alloc (.map #[] 0)) 41 9 2 w.heap.size 0 _ _ Try.underlying41 Try.underlying9 (heap_alloc_new w _), set_new]
theorem ins42 (w : World) (least : Int) : (Instr.mapUpdate 42 (.map (some w.heap.size)) (.int .i64 least) (.bool true)).run Try.prog (w.alloc (.map #[] 0)) = .ok () (w.alloc (.map #[{ key := .int .i64 least, val := .bool true, born := 0 }] 1)) := by
  rw [run_mapUpdate_first_int (w.alloc (.map #[] 0)) 42 2 4 w.heap.size 0 .i64 _ _ Try.underlying42 Try.underlying2 (heap_alloc_new w _), set_new]

set_option maxHeartbeats 1000000 in
theorem enum_null {base : Nat} {w : World} {v : Value} {xs : List Int} (h : OB base w v xs) (hb : base ≤ w.heap.size) (hl : xs.length ≤ 1048600) (least : Int) (size : Nat) (hs : size ≤ 2) :
    Calls Try.prog 11 #[.int .i64 size, .int .i64 least, v] w fun e w' => ∃ v', e = .returned v' ∧ Below base w w' ∧ OB base w' v' (xs ++ leB (IntKind.u64.wrap least) size) := by
  have hmm := @run_makeMap Try.prog
  have h41 := ins41 w least
  have h42 := ins42 (w.alloc (.map #[{ key := .string { data := #[97] }, val := .int .i64 least, born := 0 }] 1)) least
  have ez : (w.alloc (.map #[{ key := .string { data := #[97] }, val := .int .i64 least, born := 0 }] 1)).heap.size = w.heap.size + 1 := by simp
  rw [ez] at h42
  have b1 := (Below.refl w.heap.size w).alloc (Nat.le_refl _) (.map #[{ key := .string { data := #[97] }, val := .int .i64 least, born := 0 }] 1)
  have b2 := b1.alloc (by simp) (.map #[{ key := .int .i64 least, val := .bool true, born := 0 }] 1)
  have ho := OB.keep h b2 (Nat.le_refl _)
  have HB : Hid _ := b2
  clear b1 b2 ez
  go_enter Try.func11, Try.ntmps11
  go_wp2_with fail
  refine (zz_append_null ho (by simp; omega) hl _ _ least size hs).mono ?_
  rintro e w1 ⟨v', rfl, hb2, ho2⟩
  go_wp2
  go_ret
  exact ⟨_, rfl, (HB.out.mono hb).trans hb2, ho2⟩
#print axioms enum_null
end Go.Proofs.Qxb6616170a
