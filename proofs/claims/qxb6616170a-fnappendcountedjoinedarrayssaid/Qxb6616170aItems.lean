/-
  SEAT b6616170a. The closures: appendCounted$1 (34), appendCounted$2 (36), ZZappendCounted$1 (27).
-/
import Derived.Test.Qxb6616170aUvar
import Derived.Test.Qxb6616170aEach
import Derived.Laws.AppendOwnNone
import Derived.OwnWalk
namespace Go.Proofs.Qxb6616170a
open Go Go.RowKit
set_option linter.unusedVariables false

/-- Behind an append of a slice's bytes. -/
theorem OB.grew_all {base : Nat} {w w1 : World} {v v' : Value} {ys s : List Int} {m : Nat} (hbs : base ≤ w.heap.size) (hm : s.length = m) (ho : OB base w v ys)
    (hown : w1.ownsRow base 5 1 v' (ys.length + m) (ys.map byte ++ s.map byte)) (hgrow : w.grownBy w1 v.ownBlock) : Below base w w1 ∧ OB base w1 v' (ys ++ s) := by
  refine ⟨(Below.refl base w).grown hgrow hbs ?_, ?_⟩
  · intro k hk
    obtain ⟨_, h2⟩ := ho
    rcases h2 with ⟨rfl, _⟩ | ⟨g, cap, cur, rfl, hg, _⟩
    · simp [Value.ownBlock] at hk
    · simp [Value.ownBlock] at hk; omega
  · subst hm
    unfold OB
    simpa using hown

set_option maxRecDepth 100000 in
set_option maxHeartbeats 1000000 in
theorem item_append {base : Nat} {w : World} {v : Value} {ys : List Int} (h : OB base w v ys) (hb : base ≤ w.heap.size) (ad : Addr) (m c : Nat) (s : List Int) (hm : s.length = m) (hl : ys.length + m ≤ 16000000) (hc : ∀ j, j < s.length → w.cell? (ad.add j) = some (byte (s.getD j 0))) :
    Calls Try.prog 27 #[v, .slice none 0 0, .slice (some ad) m c] w fun e w' => ∃ v', e = .returned (.tuple #[v', .nilIface]) ∧ Below base w w' ∧ OB base w' v' (ys ++ s) := by
  obtain ⟨i0, hi, hz0, hz1, hz2⟩ := info_parts info5
  have HM : Hid (s.length = m) := hm
  have HC : Hid (∀ j, j < s.length → w.cell? (ad.add j) = some (byte (s.getD j 0))) := hc
  clear hm hc
  go_enter Try.func27, Try.ntmps27
  go_wp2_with (at_builtin; first | refine wpList_append_own_none rfl _ _ 22 rfl base 5 i0 1 Try.underlying22 hi _ ys.length (ys.map byte) rfl h rfl ?_ | refine wpList_append_own _ rfl _ _ 22 rfl base 5 i0 (.int .u8 0) 1 1 Try.underlying22 hi hz0 hz1 hz2 rfl (by decide) _ ys.length (ys.map byte) rfl h ad m c (s.map byte) rfl ?c0 ?c1 ?c2 ?c3 ?c4 ?c5 ?_)
  case c0 => rw [List.length_map, HM.out]; omega
  case c1 =>
    intro j z hj
    rw [List.getElem?_map] at hj
    cases e : s[j]? with
    | none => rw [e] at hj; simp at hj
    | some y =>
      rw [e] at hj
      simp at hj
      have hlt : j < s.length := (List.getElem?_eq_some_iff.1 e).1
      have := HC.out j hlt
      rw [this, ← hj]
      simp [List.getD, e]
  case c2 => intro z hz; obtain ⟨y, _, rfl⟩ := List.mem_map.1 hz; rfl
  case c3 => unfold maxLen; omega
  case c4 => omega
  case c5 => exact hb
  · intro v' w1 hown hgrow _
    have G := OB.grew_all hb HM.out h hown hgrow
    have HG : Hid _ := G
    clear G hown hgrow h HC
    go_wp2
    go_ret2
    exact ⟨_, rfl, HG.out.1, HG.out.2⟩

/-- The three variables of appendCounted at blocks h, h + 1, h + 2. -/
structure CI (h : Nat) (w w' : World) (dst : Value) (cnt : Nat) : Prop where
  below : Below h w w'
  size : h + 3 ≤ w'.heap.size
  dstC : w'.cell? ⟨h, 0, none⟩ = some dst
  fnC : w'.cell? ⟨h + 1, 0, none⟩ = some (.func (.func 27) #[] #[])
  nC : w'.cell? ⟨h + 2, 0, none⟩ = some (.int .i64 (cnt : Int))
  dstF : w'.frozen? ⟨h, 0, none⟩ = false
  nF : w'.frozen? ⟨h + 2, 0, none⟩ = false

set_option maxRecDepth 100000 in
set_option maxHeartbeats 1000000 in
theorem count_item {h cnt : Nat} {w w0 : World} {dst k v : Value} (ci : CI h w0 w dst cnt) (hc : cnt ≤ 4194304) :
    Calls Try.prog 34 #[k, v, .pointer (some ⟨h + 2, 0, none⟩)] w fun e w' => e = .returned .nilIface ∧ CI h w0 w' dst (cnt + 1) := by
  have HCI : Hid (CI h w0 w dst cnt) := ci
  have q := ci.nC
  have qf := ci.nF
  clear ci
  go_enter Try.func34, Try.ntmps34
  go_wp2
  go_ret
  refine ⟨rfl, ?_⟩
  have C := HCI.out
  refine ⟨C.below.setCell (by simp) _, by have := C.size; simpa [World.setCell] using this, ?_, ?_, ?_, ?_, ?_⟩
  · rw [World.cell?_setCell_other _ _ _ _ (by simp)]; exact C.dstC
  · rw [World.cell?_setCell_other _ _ _ _ (by simp)]; exact C.fnC
  · exact World.cell?_setCell_same _ _ _ C.nC
  · simpa using C.dstF
  · simpa using C.nF

/-- .. and the row that is written to. -/
structure AI (h : Nat) (w w' : World) (cnt : Nat) (ys : List Int) : Prop where
  ex : ∃ dst, CI h w w' dst cnt ∧ OB (h + 3) w' dst ys

theorem CI.up {h cnt : Nat} {w w1 w2 : World} {dst : Value} (c : CI h w w1 dst cnt) (b : Below (h + 3) w1 w2) : CI h w w2 dst cnt := by
  refine ⟨c.below.trans (b.mono (by omega)), by have := c.size; have := b.size; omega, ?_, ?_, ?_, ?_, ?_⟩
  · rw [b.cell (by simp)]; exact c.dstC
  · rw [b.cell (by simp)]; exact c.fnC
  · rw [b.cell (by simp)]; exact c.nC
  · rw [World.frozen?_of_block (w := w1) (b.block h (by omega))]; exact c.dstF
  · rw [World.frozen?_of_block (w := w1) (b.block (h + 2) (by omega))]; exact c.nF
theorem CI.put {h cnt : Nat} {w w1 : World} {dst dst' : Value} (c : CI h w w1 dst cnt) : CI h w (w1.setCell ⟨h, 0, none⟩ dst') dst' cnt := by
  refine ⟨c.below.setCell (by simp) _, by have := c.size; simpa [World.setCell] using this, ?_, ?_, ?_, ?_, ?_⟩
  · exact World.cell?_setCell_same _ _ _ c.dstC
  · rw [World.cell?_setCell_other _ _ _ _ (by simp)]; exact c.fnC
  · rw [World.cell?_setCell_other _ _ _ _ (by simp)]; exact c.nC
  · simpa using c.dstF
  · simpa using c.nF
theorem OB.put {h : Nat} {w1 : World} {v dst' : Value} {ys : List Int} (o : OB (h + 3) w1 v ys) : OB (h + 3) (w1.setCell ⟨h, 0, none⟩ dst') v ys := by
  obtain ⟨h1, h2⟩ := o
  refine ⟨h1, ?_⟩
  rcases h2 with h2 | ⟨g, cap, cur, hv, hg, hh, r⟩
  · exact .inl h2
  · refine .inr ⟨g, cap, cur, hv, hg, ?_, r⟩
    rw [Below.heap_setCell _ _ _ _ (by simp; omega)]
    exact hh

set_option maxRecDepth 100000 in
set_option maxHeartbeats 1000000 in
theorem write_item {h cnt : Nat} {w w0 : World} {ys : List Int} (ai : AI h w0 w cnt ys) (ad : Addr) (m c : Nat) (s : List Int) (hm : s.length = m) (hl : ys.length + m ≤ 16000000) (hc : ∀ j, j < s.length → w.cell? (ad.add j) = some (byte (s.getD j 0))) :
    Calls Try.prog 36 #[.slice none 0 0, .slice (some ad) m c, .pointer (some ⟨h + 1, 0, none⟩), .pointer (some ⟨h, 0, none⟩)] w fun e w' => e = .returned .nilIface ∧ AI h w0 w' cnt (ys ++ s) := by
  obtain ⟨dst, ci, ob⟩ := ai.ex
  have HCI : Hid (CI h w0 w dst cnt) := ci
  have q1 := ci.dstC
  have q2 := ci.fnC
  have o1 := item_append ob (by have := ci.size; omega) ad m c s hm hl hc
  clear ci ai hc
  go_enter Try.func36, Try.ntmps36
  go_wp2_with fail
  refine o1.mono ?_
  rintro e w2 ⟨v', rfl, b2, ob2⟩
  obtain ⟨pa, pl, pc, rfl⟩ : ∃ a l c, v' = .slice a l c := by
    obtain ⟨a, c, e, _⟩ := ob2.rd
    exact ⟨a, _, c, e⟩
  have C2 : Hid (CI h w0 w2 dst cnt) := HCI.out.up b2
  have OB2 : Hid (OB (h + 3) w2 (.slice pa pl pc) (ys ++ s)) := ob2
  have q3 := C2.out.dstC
  have q4 := C2.out.dstF
  clear b2 ob2 ob o1 HCI q1 q2
  go_wp2
  go_ret
  exact ⟨rfl, ⟨_, C2.out.put, OB2.out.put⟩⟩
end Go.Proofs.Qxb6616170a
