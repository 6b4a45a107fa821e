/-
  SEAT b6616170a. appendCounted (26), ZZappendCounted (19).
-/
import Derived.Test.Qxb6616170aItems
namespace Go.Proofs.Qxb6616170a
open Go Go.RowKit
set_option linter.unusedVariables false

theorem Body.bounds : ∀ {segs : List (List Int)} {B : List Int}, Body segs B → segs.length ≤ B.length ∧ segs.flatten.length ≤ B.length
  | [], _, h => h.elim
  | [s], _, ⟨w2, h1, h2, h3⟩ => by
    obtain ⟨c, r, rfl, _⟩ := h3.head
    subst h1
    simp
  | s :: s' :: rest, _, ⟨wA, wB, B', h1, h2, h3, h4, h5⟩ => by
    have := Body.bounds h5
    obtain ⟨c, r, rfl, _⟩ := h4.head
    subst h1
    simp at this ⊢
    omega
theorem ArrText.bounds {segs : List (List Int)} {t : List Int} (h : ArrText segs t) : segs.length ≤ t.length ∧ segs.flatten.length ≤ t.length := by
  obtain ⟨ws0, B, rfl, _, h2⟩ := h
  rcases h2 with ⟨rfl, rfl⟩ | h2
  · simp
  · have := h2.bounds
    simp at this ⊢
    omega

theorem enter34 (args : Array Value) (w : World) : (callFunc 34 args).run Try.prog w = .ok (Next.enter 34 args) w := by
  have hf : Try.prog.funcs[34]? = some Try.f34 := Try.func34
  simp [callFunc, hf, Try.f34]
theorem enter36 (args : Array Value) (w : World) : (callFunc 36 args).run Try.prog w = .ok (Next.enter 36 args) w := by
  have hf : Try.prog.funcs[36]? = some Try.f36 := Try.func36
  simp [callFunc, hf, Try.f36]

theorem Txt.below {w w' : World} {x : Addr} {t : List Int} {B : Nat} (h : Txt w x t) (b : Below B w w') (hx : x.block < B) : Txt w' x t := fun j hj => by
  rw [b.cell (by unfold Addr.add; split <;> exact hx)]
  exact h j hj
theorem add_add (x : Addr) (i k : Nat) : x.add (i + k) = (x.add i).add k := by
  by_cases hi : i = 0
  · subst hi; simp [Addr.add]
  · by_cases hk : k = 0
    · subst hk; simp [Addr.add]
    · simp [Addr.add, hi, hk, Nat.add_assoc]

theorem ci_start (w : World) : CI w.heap.size w (((w.alloc (Obj.cells #[Value.slice none 0 0] 22)).alloc (Obj.cells #[Value.func (Fn.func 27) #[] #[]] 49)).alloc (Obj.cells #[Value.int IntKind.i64 0] 3)) (.slice none 0 0) 0 := by
  refine ⟨(((Below.refl _ w).alloc (Nat.le_refl _) _).alloc (by simp) _).alloc (by simp; omega) _, by simp, ?_, ?_, ?_, ?_, ?_⟩
  · rw [World.cell?_alloc_past _ _ _ (by simp; omega), World.cell?_alloc_past _ _ _ (by simp), World.cell?_alloc_at _ _ _ _ rfl]; rfl
  · rw [World.cell?_alloc_past _ _ _ (by simp), World.cell?_alloc_at _ _ _ _ (by simp)]; rfl
  · rw [World.cell?_alloc_at _ _ _ _ (by simp)]; rfl
  · rw [World.frozen?_alloc_past _ _ _ (by simp; omega), World.frozen?_alloc_past _ _ _ (by simp), World.frozen?_alloc_at _ _ _ _ rfl]
  · rw [World.frozen?_alloc_at _ _ _ _ (by simp)]

theorem counted {w W : World} {x : Addr} {t : List Int} {n c : Nat} (ht : Txt w x t) (hx : x.block < w.heap.size) (hn : n ≤ 4194304) (lt : t.length = n) (hcap : n ≤ c) {segs : List (List Int)} (ha : ArrText segs t) (h0 : CI w.heap.size w W (.slice none 0 0) 0) :
    Calls Try.prog 33 #[.slice (some x) n c, .func (.func 34) #[] #[.pointer (some ⟨w.heap.size + 1 + 1, 0, none⟩)]] W fun e w' => e = .returned .nilIface ∧ CI w.heap.size w w' (.slice none 0 0) segs.length := by
  refine each_item hn lt hcap ha 34 _ enter34 (fun done w' => CI w.heap.size w w' (.slice none 0 0) done.length) (fun done w' ci => ht.below ci.below hx) ?_ h0
  intro done s i j w' hr ci hs hij
  have hb := ha.bounds.1
  obtain ⟨rest, hr⟩ := hr
  rw [hr] at hb
  simp at hb
  have e : (#[Value.slice none 0 0, Value.slice (some (x.add i)) (j - i) (c - i)] ++ #[Value.pointer (some ⟨w.heap.size + 1 + 1, 0, none⟩)]) = #[Value.slice none 0 0, Value.slice (some (x.add i)) (j - i) (c - i), Value.pointer (some ⟨w.heap.size + 2, 0, none⟩)] := rfl
  rw [e]
  have := count_item (k := .slice none 0 0) (v := .slice (some (x.add i)) (j - i) (c - i)) ci (by omega)
  refine this.mono fun e w2 ⟨h1, h2⟩ => ⟨h1, ?_⟩
  simpa using h2

theorem written {w W : World} {x : Addr} {t : List Int} {n c : Nat} (ht : Txt w x t) (hx : x.block < w.heap.size) (hn : n ≤ 4194304) (lt : t.length = n) (hcap : n ≤ c) {segs : List (List Int)} (ha : ArrText segs t) {cnt : Nat} {ys : List Int} (hy : ys.length ≤ 4194400) (h0 : AI w.heap.size w W cnt ys) :
    Calls Try.prog 33 #[.slice (some x) n c, .func (.func 36) #[] #[.pointer (some ⟨w.heap.size + 1, 0, none⟩), .pointer (some ⟨w.heap.size, 0, none⟩)]] W fun e w' => e = .returned .nilIface ∧ AI w.heap.size w w' cnt (ys ++ segs.flatten) := by
  refine each_item hn lt hcap ha 36 _ enter36 (fun done w' => AI w.heap.size w w' cnt (ys ++ done.flatten)) (fun done w' ai => ?_) ?_ (by simpa using h0)
  · obtain ⟨dst, ci, _⟩ := ai.ex
    exact ht.below ci.below hx
  · intro done s i j w' hr ai hs hij
    have hb := ha.bounds.2
    obtain ⟨rest, hr⟩ := hr
    rw [hr] at hb
    simp at hb
    have e : (#[Value.slice none 0 0, Value.slice (some (x.add i)) (j - i) (c - i)] ++ #[Value.pointer (some ⟨w.heap.size + 1, 0, none⟩), Value.pointer (some ⟨w.heap.size, 0, none⟩)]) = #[Value.slice none 0 0, Value.slice (some (x.add i)) (j - i) (c - i), Value.pointer (some ⟨w.heap.size + 1, 0, none⟩), Value.pointer (some ⟨w.heap.size, 0, none⟩)] := rfl
    rw [e]
    have hl := hs.length
    obtain ⟨dst, ci, _⟩ := ai.ex
    have htw := ht.below ci.below hx
    refine (write_item ai (x.add i) (j - i) (c - i) s hl (by simp; omega) ?_).mono fun e w2 ⟨h1, h2⟩ => ⟨h1, ?_⟩
    · intro k hk
      have := htw (i + k) (by have := hs.2.1; omega)
      rw [hs.get k hk] at this
      rw [add_add] at this
      exact this
    · simpa using h2

set_option maxRecDepth 100000 in
set_option maxHeartbeats 1000000 in
theorem append_counted {w : World} {x : Addr} {t : List Int} {n c : Nat} (ht : Txt w x t) (hx : x.block < w.heap.size) (hn : n ≤ 4194304) (lt : t.length = n) (hcap : n ≤ c) {segs : List (List Int)} (ha : ArrText segs t) :
    Calls Try.prog 26 #[.slice none 0 0, .slice (some x) n c, .func (.func 27) #[] #[]] w fun e w' => ∃ v', e = .returned (.tuple #[v', .nilIface]) ∧ Below w.heap.size w w' ∧ OB w.heap.size w' v' (uvar segs.length ++ segs.flatten) := by
  have HA : Hid (ArrText segs t) := ha
  have HT : Hid (Txt w x t) := ht
  have HL : Hid (t.length = n) := lt
  have hsl : segs.length ≤ n := by have := ha.bounds.1; omega
  have o1 := counted ht hx hn lt hcap ha (ci_start w)
  clear ha ht lt
  go_enter Try.func26, Try.ntmps26
  go_wp2_with fail
  refine o1.mono ?_
  rintro e w1 ⟨rfl, c1⟩
  clear o1
  have C1 : Hid (CI w.heap.size w w1 (.slice none 0 0) segs.length) := c1
  have q1 := c1.dstC
  have q2 : w1.cell? ⟨w.heap.size + 1 + 1, 0, none⟩ = _ := c1.nC
  have s1 := c1.size
  have ob0 : OB (w.heap.size + 3) w1 (.slice none 0 0) [] := ⟨rfl, .inl ⟨rfl, rfl⟩⟩
  have o2 := append_uvarint ob0 s1 segs.length (by omega) (by simp; omega)
  clear ob0 c1
  go_wp2_with fail
  refine o2.mono ?_
  rintro e w2 ⟨v2, rfl, b2, ob2⟩
  obtain ⟨pa, pl, pc, rfl⟩ : ∃ a l c, v2 = .slice a l c := by
    obtain ⟨a, c, e, _⟩ := ob2.rd
    exact ⟨a, _, c, e⟩
  have c2 := C1.out.up b2
  have A2 : AI w.heap.size w (w2.setCell ⟨w.heap.size, 0, none⟩ (.slice pa pl pc)) segs.length (uvar segs.length) := ⟨_, c2.put, by have := ob2.put (dst' := .slice pa pl pc); simpa using this⟩
  have hul := uvar_le segs.length
  have o3 := written HT.out hx hn HL.out hcap HA.out (by omega) A2
  have q3 := c2.dstC
  have q4 := c2.dstF
  clear o2 C1 q1 q2 b2 ob2 c2 A2 hul
  go_wp2_with fail
  refine o3.mono ?_
  rintro e w3 ⟨rfl, a3⟩
  obtain ⟨dst, c3, ob3⟩ := a3.ex
  have HC3 : Hid (Below w.heap.size w w3) := c3.below
  have HO3 : Hid (OB w.heap.size w3 dst (uvar segs.length ++ segs.flatten)) := ob3.lower (by omega)
  have q5 := c3.dstC
  clear o3 q3 q4 a3 c3 ob3
  go_wp2
  go_ret2
  exact ⟨_, rfl, HC3.out, HO3.out⟩

set_option maxRecDepth 100000 in
set_option maxHeartbeats 1000000 in
theorem zz_append_counted {w : World} {x : Addr} {t : List Int} {n c : Nat} (ht : Txt w x t) (hx : x.block < w.heap.size) (hn : n ≤ 4194304) (lt : t.length = n) (hcap : n ≤ c) {segs : List (List Int)} (ha : ArrText segs t) :
    Calls Try.prog 19 #[.slice none 0 0, .slice (some x) n c] w fun e w' => ∃ v', e = .returned (.tuple #[v', .nilIface]) ∧ Below w.heap.size w w' ∧ OB w.heap.size w' v' (uvar segs.length ++ segs.flatten) := by
  have o := append_counted ht hx hn lt hcap ha
  clear ht lt ha
  go_enter Try.func19, Try.ntmps19
  go_wp2_with fail
  refine o.mono ?_
  rintro e w1 ⟨v1, rfl, b1, ob1⟩
  have HB : Hid (Below w.heap.size w w1) := b1
  have HO : Hid (OB w.heap.size w1 v1 (uvar segs.length ++ segs.flatten)) := ob1
  clear o b1 ob1
  go_wp2
  go_ret2
  exact ⟨_, rfl, HB.out, HO.out⟩
#print axioms zz_append_counted
end Go.Proofs.Qxb6616170a
