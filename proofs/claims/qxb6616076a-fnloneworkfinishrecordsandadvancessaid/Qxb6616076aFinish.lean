/-
  SEAT b6616076a. loneWork.finish (25).
-/
import Derived.Test.Qxb6616076aLone
import Derived.Test.Qxb6616076aLocks
import Derived.Conc.MuLone
import Derived.Deep.QuietTactic
import Derived.BigQuiet
import Derived.Deep.RegionHeld3
import Derived.Deep.DrawnRows
import Derived.Deep.LoopGhost
import Derived.StillTailTactics
namespace Go.Proofs.Qxb6616076a
open Go Go.RowKit Go.MuLone
set_option linter.unusedVariables false

/-- What holds at the head of the loop's round: at most k rounds are to come. -/
def Inv (b bw bd n cw cd : Nat) (base : Int) (next : Nat) (W : List Int) (D : List Bool) (least : Nat) (halt : Bool) (w : World) (k : Nat) (wr : World) : Prop :=
  ∃ base' next', Only b bw bd w wr ∧ LW b bw bd n cw cd 1 base' next' W D least halt wr ∧ next' ≤ n ∧ least ≤ next' + k ∧ adv W D least n base next = adv W D least k base' next'

theorem Inv.go {b bw bd n cw cd : Nat} {base : Int} {next : Nat} {W : List Int} {D : List Bool} {least : Nat} {halt : Bool} {w wr : World} {k : Nat} {base' : Int} {next' : Nat}
    (o : Only b bw bd w wr) (h : LW b bw bd n cw cd 1 base' next' W D least halt wr) (hl : least ≤ next' + k) (hln : least ≤ n) (he : adv W D least n base next = adv W D least k base' next') (h1 : next' < least) (h2 : D.getD next' false = true) :
    k - 1 < k ∧ Inv b bw bd n cw cd base next W D least halt w (k - 1) ((wr.setCell ⟨b, 3, none⟩ (.int .i64 (wrap64 (base' + W[next']?.getD 0)))).setCell ⟨b, 4, none⟩ (.int .i64 ((next' : Int) + 1))) := by
  rw [← List.getD_eq_getElem?_getD, show ((next' : Int) + 1) = ((next' + 1 : Nat) : Int) from rfl]
  obtain ⟨f, rfl⟩ : ∃ f, k = f + 1 := ⟨k - 1, by omega⟩
  refine ⟨by omega, _, next' + 1, ((o.setCell _ _ _ (.inl rfl)).setCell _ _ _ (.inl rfl)), (h.setBase _).setNext _, by omega, by simp; omega, ?_⟩
  rw [he, adv, if_pos ⟨h1, h2⟩]
  rfl

theorem Inv.out {W : List Int} {D : List Bool} {least n : Nat} {base : Int} {next k : Nat} {base' : Int} {next' : Nat}
    (he : adv W D least n base next = adv W D least k base' next') (h1 : ¬ (next' < least ∧ D.getD next' false = true)) : adv W D least n base next = (base', next') := by
  rw [he]
  cases k with
  | zero => rfl
  | succ k => rw [adv, if_neg h1]

set_option maxRecDepth 100000 in
set_option maxHeartbeats 2000000 in
theorem finish_no {b bw bd n cw cd : Nat} {base : Int} {next : Nat} {W W' : List Int} {D D' : List Bool} {least : Nat} {halt : Bool} {w : World}
    (h : LW b bw bd n cw cd 0 base next W D least halt w) (i : Nat) (hi : i < n) (v : Int) (hn : n ≤ 65536) (hnx : next ≤ n) (hln : least ≤ n) (eW : Hid (W.set i v = W')) (eD : Hid (D.set i true = D')) :
    Calls Try.prog 25 #[.pointer (some ⟨b, 0, none⟩), .int .i64 i, .int .i64 v, .bool false] w fun e w' => e = .returned (.tuple #[]) ∧ Only b bw bd w w' ∧
      LW b bw bd n cw cd 0 (adv W' D' least n base next).1 (adv W' D' least n base next).2 W' D' least halt w' := by
  have h1 := h.setMu 1
  have q0 := h.c0
  have q1 := h.fb 0
  go_enter_defers Try.func25, Try.ntmps25
  go_wp2_with (go_at_call 28; refine (lock_free muLib ⟨b, 0, none⟩ _ q0 q1).mono ?_; rintro e w' ⟨rfl, rfl⟩)
  have o1 : Only b bw bd w (w.setCell ⟨b, 0, none⟩ (.int .i32 1)) := (Only.refl _ _ _ _).setCell _ _ _ (.inl rfl)
  generalize w.setCell ⟨b, 0, none⟩ (.int .i32 1) = w1 at *
  have r5 := h1.c5
  have r6 := h1.c6
  have rW := h1.cW i hi
  have rD := h1.cD i hi
  have gW := h1.fw i
  have gD := h1.fd i
  have m1 := h1.n1
  have m2 := h1.n2
  have m3 := h1.n3
  have m3' := h1.n3.symm
  have m1' := h1.n1.symm
  have m2' := h1.n2.symm
  have z1 : (i : Int) < (n : Int) := by omega
  go_region_held3 (fun w' => w'.cell? ⟨b, 5, none⟩ = some (.slice (some ⟨bw, 0, none⟩) n cw) ∧ w'.cell? ⟨b, 6, none⟩ = some (.slice (some ⟨bd, 0, none⟩) n cd)) (go_keep) (fail)
  clear r5 r6 rW rD gW gD m1 m2 m3 m1' m2' m3'
  have h3 := ((h1.setW i hi v).setD i hi true).drew
  have o3 := ((o1.setCell bw i (.int .i64 v) (.inr (.inl rfl))).setCell bd i (.bool true) (.inr (.inr rfl))).drew
  rw [eW.out, eD.out] at h3
  clear h1 o1
  go_wp2
  generalize ((w1.setCell ⟨bw, i, none⟩ (Value.int .i64 v)).setCell ⟨bd, i, none⟩ (Value.bool true)).drew = w2 at *
  go_loopg [] n (fun k wr => Inv b bw bd n cw cd base next W' D' least halt w k wr)
  case atStart => exact ⟨base, next, o3, h3, hnx, by omega, rfl⟩
  case round =>
    obtain ⟨base', next', o4, h4, y1, y2, y3⟩ := hrel
    have Y3 : Hid _ := y3
    clear y3 h3 o3 q0 q1
    have r3 := h4.c3
    have r4 := h4.c4
    have r5 := h4.c5
    have r6 := h4.c6
    have r7 := h4.c7
    have f3 := h4.fb 3
    have f4 := h4.fb 4
    by_cases t1 : next' < least
    · have rD := h4.cD next' (by omega)
      have rW := h4.cW next' (by omega)
      have u1 : (next' : Int) < (least : Int) := by omega
      have u2 : (next' : Int) < (n : Int) := by omega
      cases t2 : D'.getD next' false with
      | true =>
        rw [t2] at rD
        go_wp2
        go_quiet (fail)
        go_wp2
        have h5 := h4.drewN nq
        have o5 := o4.drewN nq
        clear r7 rD r6 r3 r4 r5 rW f3 f4 o4 h4
        generalize wr.drewN nq = w5 at *
        have r3 : w5.drew.cell? ⟨b, 3, none⟩ = _ := h5.c3
        have r4 : w5.drew.cell? ⟨b, 4, none⟩ = _ := h5.c4
        have r5 : w5.drew.cell? ⟨b, 5, none⟩ = _ := h5.c5
        have rW : w5.drew.cell? ⟨bw, next', none⟩ = _ := h5.cW next' (by omega)
        go_still_tail 17, (by kernel_rfl)
        clear r3 r4 r5 rW
        have e6 : ({ heap := w5.heap, tape := w5.tape, drawn := w5.drawn + 1, os := w5.os, output := w5.output } : World) = w5.drew := rfl
        rw [e6]
        clear e6
        have h6 := h5.drew
        have o6 := o5.drew
        clear h5 o5
        generalize w5.drew = w6 at *
        have G := Inv.go o6 h6 y2 hln Y3.out t1 t2
        have HG : Hid _ := G
        have r3 := h6.c3
        have r4 := h6.c4
        have f3 := h6.fb 3
        have f4 := h6.fb 4
        clear h6 o6 G t2
        go_wp2
        go_roundg (gk - 1)
        case measure => exact HG.out.1
        case rel => exact HG.out.2
      | false =>
        rw [t2] at rD
        go_wp2
        go_quiet (fail)
        go_wp2
        refine leaves_cons (f := 29) (args := #[.pointer (some ⟨b, 0, none⟩)]) (by simp) (by simp [go_sem]) ?_
        refine (unlock_deferred muLib ⟨b, 0, none⟩ .returning _ ((h4.drewN nq).c0) ((h4.drewN nq).fb 0)).mono ?_
        rintro e u' w'' ⟨rfl, rfl, rfl⟩
        have Z := Inv.out Y3.out (fun h => by rw [t2] at h; exact absurd h.2 (by decide))
        refine ⟨_, results_none rfl _ _ _, rfl, (o4.drewN nq).setCell _ _ _ (.inl rfl), ?_⟩
        rw [Z]
        exact (h4.drewN nq).setMu 0
    · have u1 : decide ((next' : Int) < (least : Int)) = false := decide_eq_false (by omega)
      go_wp2
      go_quiet (fail)
      go_wp2
      refine leaves_cons (f := 29) (args := #[.pointer (some ⟨b, 0, none⟩)]) (by simp) (by simp [go_sem]) ?_
      refine (unlock_deferred muLib ⟨b, 0, none⟩ .returning _ ((h4.drewN nq).c0) ((h4.drewN nq).fb 0)).mono ?_
      rintro e u' w'' ⟨rfl, rfl, rfl⟩
      have Z := Inv.out Y3.out (by simp [t1])
      refine ⟨_, results_none rfl _ _ _, rfl, (o4.drewN nq).setCell _ _ _ (.inl rfl), ?_⟩
      rw [Z]
      exact (h4.drewN nq).setMu 0
set_option maxRecDepth 100000 in
set_option maxHeartbeats 2000000 in
theorem finish_lt {b bw bd n cw cd : Nat} {base : Int} {next : Nat} {W W' : List Int} {D D' : List Bool} {least L : Nat} {halt : Bool} {w : World}
    (h : LW b bw bd n cw cd 0 base next W D least halt w) (i : Nat) (hi : i < n) (v : Int) (hn : n ≤ 65536) (hnx : next ≤ n) (hln : least ≤ n) (eW : Hid (W.set i v = W')) (eD : Hid (D.set i true = D')) (hm : i < least) (eL : Hid (i = L)) :
    Calls Try.prog 25 #[.pointer (some ⟨b, 0, none⟩), .int .i64 i, .int .i64 v, .bool true] w fun e w' => e = .returned (.tuple #[]) ∧ Only b bw bd w w' ∧
      LW b bw bd n cw cd 0 (adv W' D' L n base next).1 (adv W' D' L n base next).2 W' D' L halt w' := by
  have h1 := h.setMu 1
  have q0 := h.c0
  have q1 := h.fb 0
  go_enter_defers Try.func25, Try.ntmps25
  go_wp2_with (go_at_call 28; refine (lock_free muLib ⟨b, 0, none⟩ _ q0 q1).mono ?_; rintro e w' ⟨rfl, rfl⟩)
  have o1 : Only b bw bd w (w.setCell ⟨b, 0, none⟩ (.int .i32 1)) := (Only.refl _ _ _ _).setCell _ _ _ (.inl rfl)
  generalize w.setCell ⟨b, 0, none⟩ (.int .i32 1) = w1 at *
  have r5 := h1.c5
  have r6 := h1.c6
  have rW := h1.cW i hi
  have rD := h1.cD i hi
  have gW := h1.fw i
  have gD := h1.fd i
  have m1 := h1.n1
  have m2 := h1.n2
  have m3 := h1.n3
  have m3' := h1.n3.symm
  have m1' := h1.n1.symm
  have m2' := h1.n2.symm
  have z1 : (i : Int) < (n : Int) := by omega
  go_region_held3 (fun w' => w'.cell? ⟨b, 5, none⟩ = some (.slice (some ⟨bw, 0, none⟩) n cw) ∧ w'.cell? ⟨b, 6, none⟩ = some (.slice (some ⟨bd, 0, none⟩) n cd)) (go_keep) (fail)
  clear r5 r6 rW rD gW gD m1 m2 m3 m1' m2' m3'
  have h3 := ((h1.setW i hi v).setD i hi true).drew
  have o3 := ((o1.setCell bw i (.int .i64 v) (.inr (.inl rfl))).setCell bd i (.bool true) (.inr (.inr rfl))).drew
  rw [eW.out, eD.out] at h3
  clear h1 o1
  have hL : L ≤ n := by have := eL.out; omega
  generalize hw2 : ((w1.setCell ⟨bw, i, none⟩ (Value.int .i64 v)).setCell ⟨bd, i, none⟩ (Value.bool true)).drew = w2 at *
  clear hw2
  have k7 := h3.c7
  have g7 := h3.fb 7
  have hm' : (i : Int) < (least : Int) := by omega
  have h3' := h3.setLeast i
  have o3' := o3.setCell b 7 (.int .i64 (i : Int)) (.inl rfl)
  go_wp2
  clear k7 g7 h3 o3 hm hm'
  generalize w2.setCell ⟨b, 7, none⟩ (Value.int .i64 (i : Int)) = w3 at *
  rw [eL.out] at h3'
  go_loopg [] n (fun k wr => Inv b bw bd n cw cd base next W' D' L halt w k wr)
  case atStart => exact ⟨base, next, o3', h3', hnx, by omega, rfl⟩
  case round =>
    obtain ⟨base', next', o4, h4, y1, y2, y3⟩ := hrel
    have Y3 : Hid _ := y3
    clear y3 h3' o3' q0 q1
    have r3 := h4.c3
    have r4 := h4.c4
    have r5 := h4.c5
    have r6 := h4.c6
    have r7 := h4.c7
    have f3 := h4.fb 3
    have f4 := h4.fb 4
    by_cases t1 : next' < L
    · have rD := h4.cD next' (by omega)
      have rW := h4.cW next' (by omega)
      have u1 : (next' : Int) < (L : Int) := by omega
      have u2 : (next' : Int) < (n : Int) := by omega
      cases t2 : D'.getD next' false with
      | true =>
        rw [t2] at rD
        go_wp2
        go_quiet (fail)
        go_wp2
        have h5 := h4.drewN nq
        have o5 := o4.drewN nq
        clear r7 rD r6 r3 r4 r5 rW f3 f4 o4 h4
        generalize wr.drewN nq = w5 at *
        have r3 : w5.drew.cell? ⟨b, 3, none⟩ = _ := h5.c3
        have r4 : w5.drew.cell? ⟨b, 4, none⟩ = _ := h5.c4
        have r5 : w5.drew.cell? ⟨b, 5, none⟩ = _ := h5.c5
        have rW : w5.drew.cell? ⟨bw, next', none⟩ = _ := h5.cW next' (by omega)
        go_still_tail 17, (by kernel_rfl)
        clear r3 r4 r5 rW
        have e6 : ({ heap := w5.heap, tape := w5.tape, drawn := w5.drawn + 1, os := w5.os, output := w5.output } : World) = w5.drew := rfl
        rw [e6]
        clear e6
        have h6 := h5.drew
        have o6 := o5.drew
        clear h5 o5
        generalize w5.drew = w6 at *
        have G := Inv.go o6 h6 y2 hL Y3.out t1 t2
        have HG : Hid _ := G
        have r3 := h6.c3
        have r4 := h6.c4
        have f3 := h6.fb 3
        have f4 := h6.fb 4
        clear h6 o6 G t2
        go_wp2
        go_roundg (gk - 1)
        case measure => exact HG.out.1
        case rel => exact HG.out.2
      | false =>
        rw [t2] at rD
        go_wp2
        go_quiet (fail)
        go_wp2
        refine leaves_cons (f := 29) (args := #[.pointer (some ⟨b, 0, none⟩)]) (by simp) (by simp [go_sem]) ?_
        refine (unlock_deferred muLib ⟨b, 0, none⟩ .returning _ ((h4.drewN nq).c0) ((h4.drewN nq).fb 0)).mono ?_
        rintro e u' w'' ⟨rfl, rfl, rfl⟩
        have Z := Inv.out Y3.out (fun h => by rw [t2] at h; exact absurd h.2 (by decide))
        refine ⟨_, results_none rfl _ _ _, rfl, (o4.drewN nq).setCell _ _ _ (.inl rfl), ?_⟩
        rw [Z]
        exact (h4.drewN nq).setMu 0
    · have u1 : decide ((next' : Int) < (L : Int)) = false := decide_eq_false (by omega)
      go_wp2
      go_quiet (fail)
      go_wp2
      refine leaves_cons (f := 29) (args := #[.pointer (some ⟨b, 0, none⟩)]) (by simp) (by simp [go_sem]) ?_
      refine (unlock_deferred muLib ⟨b, 0, none⟩ .returning _ ((h4.drewN nq).c0) ((h4.drewN nq).fb 0)).mono ?_
      rintro e u' w'' ⟨rfl, rfl, rfl⟩
      have Z := Inv.out Y3.out (by simp [t1])
      refine ⟨_, results_none rfl _ _ _, rfl, (o4.drewN nq).setCell _ _ _ (.inl rfl), ?_⟩
      rw [Z]
      exact (h4.drewN nq).setMu 0

set_option maxRecDepth 100000 in
set_option maxHeartbeats 2000000 in
theorem finish_ge {b bw bd n cw cd : Nat} {base : Int} {next : Nat} {W W' : List Int} {D D' : List Bool} {least L : Nat} {halt : Bool} {w : World}
    (h : LW b bw bd n cw cd 0 base next W D least halt w) (i : Nat) (hi : i < n) (v : Int) (hn : n ≤ 65536) (hnx : next ≤ n) (hln : least ≤ n) (eW : Hid (W.set i v = W')) (eD : Hid (D.set i true = D')) (hm : least ≤ i) (eL : Hid (least = L)) :
    Calls Try.prog 25 #[.pointer (some ⟨b, 0, none⟩), .int .i64 i, .int .i64 v, .bool true] w fun e w' => e = .returned (.tuple #[]) ∧ Only b bw bd w w' ∧
      LW b bw bd n cw cd 0 (adv W' D' L n base next).1 (adv W' D' L n base next).2 W' D' L halt w' := by
  have h1 := h.setMu 1
  have q0 := h.c0
  have q1 := h.fb 0
  go_enter_defers Try.func25, Try.ntmps25
  go_wp2_with (go_at_call 28; refine (lock_free muLib ⟨b, 0, none⟩ _ q0 q1).mono ?_; rintro e w' ⟨rfl, rfl⟩)
  have o1 : Only b bw bd w (w.setCell ⟨b, 0, none⟩ (.int .i32 1)) := (Only.refl _ _ _ _).setCell _ _ _ (.inl rfl)
  generalize w.setCell ⟨b, 0, none⟩ (.int .i32 1) = w1 at *
  have r5 := h1.c5
  have r6 := h1.c6
  have rW := h1.cW i hi
  have rD := h1.cD i hi
  have gW := h1.fw i
  have gD := h1.fd i
  have m1 := h1.n1
  have m2 := h1.n2
  have m3 := h1.n3
  have m3' := h1.n3.symm
  have m1' := h1.n1.symm
  have m2' := h1.n2.symm
  have z1 : (i : Int) < (n : Int) := by omega
  go_region_held3 (fun w' => w'.cell? ⟨b, 5, none⟩ = some (.slice (some ⟨bw, 0, none⟩) n cw) ∧ w'.cell? ⟨b, 6, none⟩ = some (.slice (some ⟨bd, 0, none⟩) n cd)) (go_keep) (fail)
  clear r5 r6 rW rD gW gD m1 m2 m3 m1' m2' m3'
  have h3 := ((h1.setW i hi v).setD i hi true).drew
  have o3 := ((o1.setCell bw i (.int .i64 v) (.inr (.inl rfl))).setCell bd i (.bool true) (.inr (.inr rfl))).drew
  rw [eW.out, eD.out] at h3
  clear h1 o1
  have hL : L ≤ n := by have := eL.out; omega
  generalize hw2 : ((w1.setCell ⟨bw, i, none⟩ (Value.int .i64 v)).setCell ⟨bd, i, none⟩ (Value.bool true)).drew = w2 at *
  clear hw2
  have k7 := h3.c7
  have g7 := h3.fb 7
  have hm' : (least : Int) ≤ (i : Int) := by omega
  have h3' := h3.setLeast least
  have o3' := o3.setCell b 7 (.int .i64 (least : Int)) (.inl rfl)
  go_wp2
  clear k7 g7 h3 o3 hm hm'
  generalize w2.setCell ⟨b, 7, none⟩ (Value.int .i64 (least : Int)) = w3 at *
  rw [eL.out] at h3'
  go_loopg [] n (fun k wr => Inv b bw bd n cw cd base next W' D' L halt w k wr)
  case atStart => exact ⟨base, next, o3', h3', hnx, by omega, rfl⟩
  case round =>
    obtain ⟨base', next', o4, h4, y1, y2, y3⟩ := hrel
    have Y3 : Hid _ := y3
    clear y3 h3' o3' q0 q1
    have r3 := h4.c3
    have r4 := h4.c4
    have r5 := h4.c5
    have r6 := h4.c6
    have r7 := h4.c7
    have f3 := h4.fb 3
    have f4 := h4.fb 4
    by_cases t1 : next' < L
    · have rD := h4.cD next' (by omega)
      have rW := h4.cW next' (by omega)
      have u1 : (next' : Int) < (L : Int) := by omega
      have u2 : (next' : Int) < (n : Int) := by omega
      cases t2 : D'.getD next' false with
      | true =>
        rw [t2] at rD
        go_wp2
        go_quiet (fail)
        go_wp2
        have h5 := h4.drewN nq
        have o5 := o4.drewN nq
        clear r7 rD r6 r3 r4 r5 rW f3 f4 o4 h4
        generalize wr.drewN nq = w5 at *
        have r3 : w5.drew.cell? ⟨b, 3, none⟩ = _ := h5.c3
        have r4 : w5.drew.cell? ⟨b, 4, none⟩ = _ := h5.c4
        have r5 : w5.drew.cell? ⟨b, 5, none⟩ = _ := h5.c5
        have rW : w5.drew.cell? ⟨bw, next', none⟩ = _ := h5.cW next' (by omega)
        go_still_tail 17, (by kernel_rfl)
        clear r3 r4 r5 rW
        have e6 : ({ heap := w5.heap, tape := w5.tape, drawn := w5.drawn + 1, os := w5.os, output := w5.output } : World) = w5.drew := rfl
        rw [e6]
        clear e6
        have h6 := h5.drew
        have o6 := o5.drew
        clear h5 o5
        generalize w5.drew = w6 at *
        have G := Inv.go o6 h6 y2 hL Y3.out t1 t2
        have HG : Hid _ := G
        have r3 := h6.c3
        have r4 := h6.c4
        have f3 := h6.fb 3
        have f4 := h6.fb 4
        clear h6 o6 G t2
        go_wp2
        go_roundg (gk - 1)
        case measure => exact HG.out.1
        case rel => exact HG.out.2
      | false =>
        rw [t2] at rD
        go_wp2
        go_quiet (fail)
        go_wp2
        refine leaves_cons (f := 29) (args := #[.pointer (some ⟨b, 0, none⟩)]) (by simp) (by simp [go_sem]) ?_
        refine (unlock_deferred muLib ⟨b, 0, none⟩ .returning _ ((h4.drewN nq).c0) ((h4.drewN nq).fb 0)).mono ?_
        rintro e u' w'' ⟨rfl, rfl, rfl⟩
        have Z := Inv.out Y3.out (fun h => by rw [t2] at h; exact absurd h.2 (by decide))
        refine ⟨_, results_none rfl _ _ _, rfl, (o4.drewN nq).setCell _ _ _ (.inl rfl), ?_⟩
        rw [Z]
        exact (h4.drewN nq).setMu 0
    · have u1 : decide ((next' : Int) < (L : Int)) = false := decide_eq_false (by omega)
      go_wp2
      go_quiet (fail)
      go_wp2
      refine leaves_cons (f := 29) (args := #[.pointer (some ⟨b, 0, none⟩)]) (by simp) (by simp [go_sem]) ?_
      refine (unlock_deferred muLib ⟨b, 0, none⟩ .returning _ ((h4.drewN nq).c0) ((h4.drewN nq).fb 0)).mono ?_
      rintro e u' w'' ⟨rfl, rfl, rfl⟩
      have Z := Inv.out Y3.out (by simp [t1])
      refine ⟨_, results_none rfl _ _ _, rfl, (o4.drewN nq).setCell _ _ _ (.inl rfl), ?_⟩
      rw [Z]
      exact (h4.drewN nq).setMu 0


/-- 'finish', whatever it found. -/
theorem finish {b bw bd n cw cd : Nat} {base : Int} {next : Nat} {W : List Int} {D : List Bool} {least : Nat} {halt : Bool} {w : World}
    (h : LW b bw bd n cw cd 0 base next W D least halt w) (i : Nat) (hi : i < n) (v : Int) (found : Bool) (hn : n ≤ 65536) (hnx : next ≤ n) (hln : least ≤ n) (L : Nat) (hL : L = if found = true ∧ i < least then i else least) :
    Calls Try.prog 25 #[.pointer (some ⟨b, 0, none⟩), .int .i64 i, .int .i64 v, .bool found] w fun e w' => e = .returned (.tuple #[]) ∧ Only b bw bd w w' ∧
      LW b bw bd n cw cd 0 (adv (W.set i v) (D.set i true) L n base next).1 (adv (W.set i v) (D.set i true) L n base next).2 (W.set i v) (D.set i true) L halt w' := by
  cases found with
  | false =>
    rw [if_neg (by simp)] at hL
    rw [hL]
    exact finish_no h i hi v hn hnx hln rfl rfl
  | true =>
    by_cases hm : i < least
    · rw [if_pos ⟨rfl, hm⟩] at hL
      exact finish_lt h i hi v hn hnx hln rfl rfl hm hL.symm
    · rw [if_neg (fun c => hm c.2)] at hL
      exact finish_ge h i hi v hn hnx hln rfl rfl (by omega) hL.symm

#print axioms finish
end Go.Proofs.Qxb6616076a
