/-
  SEAT b6616170a. eachItem (33) on the text of an array, whatever function it is handed.
-/
import Derived.Test.Qxb6616170aEnd
namespace Go.Proofs.Qxb6616170a
open Go Go.RowKit
set_option linter.unusedVariables false

theorem delim_head {t : List Int} {j n : Nat} {wA r : List Int} {z : Int} (h : Seg t j n (wA ++ z :: r)) (hw : AllWs wA) (hz : z = 44 ∨ z = 93) :
    j < t.length ∧ isDelim (t.getD j 0) = true := by
  cases wA with
  | nil =>
    obtain ⟨a, b, _⟩ := h.head
    refine ⟨a, ?_⟩
    rw [b]
    rcases hz with rfl | rfl <;> rfl
  | cons c wA =>
    obtain ⟨a, b, _⟩ := h.head
    refine ⟨a, ?_⟩
    rw [b]
    have := hw c (by simp)
    simp [isDelim, this]

/-- One round of eachItem: the value at m, the blanks behind it, what follows. -/
def Round (t : List Int) (m n : Nat) (rest : List (List Int)) : Prop :=
  ∃ s ve wA m2, Seg t m ve s ∧ Val s ∧ ve < n ∧ isDelim (t.getD ve 0) = true ∧ Seg t ve m2 wA ∧ AllWs wA ∧ m2 < n ∧ isWs (t.getD m2 0) = false ∧
    ((rest = [s] ∧ t.getD m2 0 = 93) ∨ (t.getD m2 0 = 44 ∧ ∃ rest' B' wB m3, rest = s :: rest' ∧ Body rest' B' ∧ Seg t (m2 + 1) m3 wB ∧ AllWs wB ∧ m3 < n ∧ isWs (t.getD m3 0) = false ∧ Seg t m3 n (B' ++ [93])))

theorem Body.head : ∀ {segs : List (List Int)} {B : List Int}, Body segs B → ∃ c r, B = c :: r ∧ isWs c = false ∧ c ≠ 93 ∧ c ≠ 125
  | [], _, h => h.elim
  | [s], _, ⟨w2, h1, h2, h3⟩ => by
    obtain ⟨c, r, rfl, a, b, d, _⟩ := h3.head
    exact ⟨c, r ++ w2, h1, a, b, d⟩
  | s :: s' :: rest, _, ⟨wA, wB, B', h1, h2, h3, h4, h5⟩ => by
    obtain ⟨c, r, rfl, a, b, d, _⟩ := h4.head
    exact ⟨c, r ++ (wA ++ 44 :: (wB ++ B')), h1, a, b, d⟩

theorem body_round {t : List Int} {m n : Nat} {rest : List (List Int)} {B : List Int} (hn : t.length = n) (h : Body rest B) (hs : Seg t m n (B ++ [93])) : Round t m n rest := by
  match rest, h with
  | [], h => exact h.elim
  | [s], ⟨w2, h1, h2, h3⟩ =>
    subst h1
    rw [List.append_assoc] at hs
    obtain ⟨k1, k2⟩ := hs.split
    obtain ⟨d1, d2⟩ := delim_head k2 h2 (.inr rfl)
    obtain ⟨k3, k4⟩ := k2.split
    obtain ⟨e1, e2, _⟩ := k4.head
    exact ⟨s, _, w2, _, k1, h3, by omega, d2, k3, h2, by omega, by rw [e2]; rfl, .inl ⟨rfl, e2⟩⟩
  | s :: s' :: rest, ⟨wA, wB, B', h1, h2, h3, h4, h5⟩ =>
    subst h1
    have e : s ++ (wA ++ 44 :: (wB ++ B')) ++ [93] = s ++ (wA ++ 44 :: (wB ++ (B' ++ [93]))) := by simp
    rw [e] at hs
    obtain ⟨k1, k2⟩ := hs.split
    obtain ⟨d1, d2⟩ := delim_head k2 h2 (.inl rfl)
    obtain ⟨k3, k4⟩ := k2.split
    obtain ⟨e1, e2, k5⟩ := k4.head
    obtain ⟨k6, k7⟩ := k5.split
    obtain ⟨c, r, rfl, a, b, d⟩ := h5.head
    obtain ⟨f1, f2, _⟩ := Seg.head (c := c) (s := r ++ [93]) k7
    exact ⟨s, _, wA, _, k1, h4, by omega, d2, k3, h2, by omega, by rw [e2]; rfl, .inr ⟨e2, s' :: rest, c :: r, wB, _, rfl, h5, k6, h3, by omega, by rw [f2]; exact a, k7⟩⟩

theorem part_run (x : Addr) (n c i j : Nat) (hij : i < j) (hj : j ≤ n) (hc : n ≤ c) (w : World) : (Instr.slice 22 (.slice (some x) n c) (some (.int .i64 (i : Int))) (some (.int .i64 (j : Int))) none).run Try.prog w = .ok (.slice (some (x.add i)) (j - i) (c - i)) w := by
  rw [run_slice_lh w 22 (some x) n c Try.underlying22 .i64 .i64 (i : Int) (j : Int) (by omega) (by omega) (by omega)]
  have e : (sizeOf (Try.prog.elem 22)).run Try.prog w = .ok 1 w := Try.sizeOf5 w
  rw [e]
  have : ¬ c = i := by omega
  simp [sliced, Result.andThen, this]

set_option maxRecDepth 100000 in
set_option maxHeartbeats 1000000 in
/-- eachItem on the text of an array, whatever function it is handed: I: what holds behind the items done. -/
theorem each_item {w : World} {x : Addr} {t : List Int} {n c : Nat} (hn : n ≤ 4194304) (lt : t.length = n) (hcap : n ≤ c) {segs : List (List Int)} (ha : ArrText segs t)
    (f : Nat) (caps : Array Value) (hcf : ∀ (args : Array Value) (w : World), (callFunc f args).run Try.prog w = .ok (Next.enter f args) w) (I : List (List Int) → World → Prop) (hI : ∀ done w, I done w → Txt w x t)
    (hstep : ∀ done s i j w, (∃ rest, segs = done ++ s :: rest) → I done w → Seg t i j s → i < j → Calls Try.prog f (#[.slice none 0 0, .slice (some (x.add i)) (j - i) (c - i)] ++ caps) w fun e w' => e = .returned .nilIface ∧ I (done ++ [s]) w')
    (h0 : I [] w) :
    Calls Try.prog 33 #[.slice (some x) n c, .func (.func f) #[] caps] w fun e w' => e = .returned .nilIface ∧ I segs w' := by
  have HL : Hid (t.length = n) := lt
  have ht := hI _ _ h0
  have HT : Hid (∀ done w, I done w → Txt w x t) := hI
  have HS : Hid (∀ done s i j w, (∃ rest, segs = done ++ s :: rest) → I done w → Seg t i j s → i < j → Calls Try.prog f (#[.slice none 0 0, .slice (some (x.add i)) (j - i) (c - i)] ++ caps) w fun e w' => e = .returned .nilIface ∧ I (done ++ [s]) w') := hstep
  have H0 : Hid (I [] w) := h0
  obtain ⟨ws0, B, e, a1, a2⟩ := ha
  have sg : Seg t 0 n (91 :: (ws0 ++ (B ++ [93]))) := ⟨by omega, by omega, by rw [← e, ← lt]; simp⟩
  obtain ⟨p1, p2, p3⟩ := sg.head
  obtain ⟨p4, p5⟩ := p3.split
  obtain ⟨m, hm⟩ : ∃ m, m = 0 + 1 + ws0.length := ⟨_, rfl⟩
  rw [← hm] at p4 p5
  have q0 := ht 0 (by omega)
  rw [p2] at q0
  have q0' : w.cell? x = some (byte 91) := by cases x; exact q0
  clear q0
  have hn0 : 0 < n := by omega
  have g0 : (0 : Int) < (n : Int) := by omega
  have hmn : m < n ∧ isWs (t.getD m 0) = false ∧ ((segs = [] ∧ t.getD m 0 = 93) ∨ (Body segs B ∧ t.getD m 0 ≠ 93 ∧ t.getD m 0 ≠ 125)) := by
    rcases a2 with ⟨rfl, rfl⟩ | hb
    · obtain ⟨f1, f2, _⟩ := p5.head
      exact ⟨by omega, by rw [f2]; rfl, .inl ⟨rfl, f2⟩⟩
    · obtain ⟨c', r, rfl, b1, b2, b3⟩ := hb.head
      obtain ⟨f1, f2, _⟩ := Seg.head (c := c') (s := r ++ [93]) p5
      exact ⟨by omega, by rw [f2]; exact b1, .inr ⟨hb, by rw [f2]; exact b2, by rw [f2]; exact b3⟩⟩
  obtain ⟨m1, m2, m3⟩ := hmn
  have SK : Hid (Seg t 1 m ws0 ∧ AllWs ws0 ∧ (m = t.length ∨ isWs (t.getD m 0) = false)) := ⟨p4, a1, .inr m2⟩
  have SB : Hid (Seg t m n (B ++ [93])) := p5
  have M3 : Hid ((segs = [] ∧ t.getD m 0 = 93) ∨ (Body segs B ∧ t.getD m 0 ≠ 93 ∧ t.getD m 0 ≠ 125)) := m3
  have qm := ht m (by omega)
  have gm : (m : Int) < (n : Int) := by omega
  clear e sg p1 p2 p3 p4 p5 hm m2 m3 a1 a2 lt hI hstep h0
  go_enter Try.func33, Try.ntmps33
  go_wp2_with fail
  have o : Calls Try.prog 39 #[.slice (some x) n c, .int .i64 1] w fun e w' => e = .returned (.int .i64 (m : Int)) ∧ w = w' := skip (i := 1) ht hn HL.out SK.out.1 SK.out.2.1 SK.out.2.2
  refine o.mono ?_
  rintro e w' ⟨rfl, rfl⟩
  clear SK o
  rcases M3.out with ⟨hs, h93⟩ | ⟨hb, hx1, hx2⟩
  · rw [h93] at qm
    subst hs
    clear M3 SB HT HS ht h93
    go_wp2
    go_ret
    exact ⟨rfl, H0.out⟩
  · obtain ⟨z, hz⟩ : ∃ z, z = t.getD m 0 := ⟨_, rfl⟩
    rw [← hz] at qm hx1 hx2
    have b1 : (z == 93) = false := by simp [hx1]
    have b2 : (z == 125) = false := by simp [hx2]
    have HB : Hid (Body segs B) := hb
    clear M3 hb hx1 hx2 hz ht
    go_wp2
    go_loopg [6] segs.length (fun gk v wr => ∃ (m : Nat) (done rest : List (List Int)) (B : List Int), gk = rest.length ∧ v = .int .i64 m ∧ Hid (I done wr) ∧ Hid (segs = done ++ rest ∧ Body rest B ∧ Seg t m n (B ++ [93]) ∧ m < n))
    case atStart => exact ⟨m, [], segs, B, rfl, rfl, H0, ⟨rfl, HB.out, SB.out, m1⟩⟩
    case round =>
      clear HB SB H0 qm gm m1
      obtain ⟨m, done, rest, B, hgk, rfl, hi, hr⟩ := hrel
      have HGK : Hid (gk = rest.length) := hgk
      clear hgk
      have R : Hid (Round t m n rest) := body_round HL.out hr.out.2.1 hr.out.2.2.1
      have HE : Hid (segs = done ++ rest) := hr.out.1
      clear hr
      obtain ⟨s, ve, wA, m2, r1, r2, r3, r4, r5, r6, r7, r8, r9⟩ := R.out
      have ht := HT.out _ _ hi.out
      have HR2 : Hid (Val s) := r2
      have HR4 : Hid (isDelim (t.getD ve 0) = true) := r4
      have HR5 : Hid (Seg t ve m2 wA ∧ AllWs wA ∧ (m2 = t.length ∨ isWs (t.getD m2 0) = false)) := ⟨r5, r6, .inr r8⟩
      have HR9 : Hid _ := r9
      have hmv : m < ve := by
        have := r1.length
        have := (Val.head r2)
        obtain ⟨_, _, rfl, _⟩ := this
        have := r1.1
        simp at *
        omega
      have HR1 : Hid (Seg t m ve s) := r1
      clear R r1 r2 r4 r5 r6 r8 r9
      have o1 := value_end (c := c) ht hn HL.out HR1.out HR2.out r3 HR4.out
      go_wp2_with fail
      refine o1.mono ?_
      rintro e w' ⟨rfl, rfl⟩
      clear o1 ht
      have hcut := part_run x n c m ve hmv (by omega) hcap
      have hrs : ∃ rest, segs = done ++ s :: rest := by
        rcases HR9.out with ⟨k1, _⟩ | ⟨_, rest', _, _, _, k1, _⟩
        · exact ⟨[], by rw [HE.out, k1]⟩
        · exact ⟨rest', by rw [HE.out, k1]⟩
      have o2 := HS.out done s m ve wr hrs hi.out HR1.out hmv
      clear hrs
      go_wp2_with fail
      refine o2.mono ?_
      rintro e w2 ⟨rfl, hi2⟩
      have HI2 : Hid (I (done ++ [s]) w2) := hi2
      have ht2 := HT.out _ _ hi2
      clear hi2 o2 hcut hi HR1 HR2 HR4
      go_wp2_with fail
      refine (skip ht2 hn HL.out HR5.out.1 HR5.out.2.1 HR5.out.2.2).mono ?_
      rintro e w' ⟨rfl, rfl⟩
      clear HR5
      have q2 := ht2 m2 (by rw [HL.out]; exact r7)
      have g2 : (m2 : Int) < (n : Int) := by omega
      rcases HR9.out with ⟨k1, k2⟩ | ⟨k2, rest', B', wB, m3, k1, k3, k4, k5, k6, k7, k8⟩
      · rw [k2] at q2
        have fin : Hid (I segs w2) := by rw [HE.out, k1]; exact HI2.out
        clear HR9 k1 k2 HI2 HE ht2 HT HS HGK
        go_wp2
        go_ret
        exact ⟨rfl, fin.out⟩
      · rw [k2] at q2
        have SK : Hid (Seg t (m2 + 1) m3 wB ∧ AllWs wB ∧ (m3 = t.length ∨ isWs (t.getD m3 0) = false)) := ⟨k4, k5, .inr k7⟩
        have NX : Hid (segs = (done ++ [s]) ++ rest' ∧ Body rest' B' ∧ Seg t m3 n (B' ++ [93]) ∧ m3 < n) := ⟨by rw [HE.out, k1]; simp, k3, k8, k6⟩
        have HK : Hid (rest'.length < gk) := by rw [HGK.out, k1]; exact Nat.lt_succ_self _
        clear HR9 k1 k2 k3 k4 k5 k6 k7 k8 HE HGK
        have o3 : Calls Try.prog 39 #[.slice (some x) n c, .int .i64 ((m2 : Int) + 1)] w2 fun e w' => e = .returned (.int .i64 (m3 : Int)) ∧ w2 = w' := skip (i := m2 + 1) ht2 hn HL.out SK.out.1 SK.out.2.1 SK.out.2.2
        go_wp2_with fail
        refine o3.mono ?_
        rintro e w' ⟨rfl, rfl⟩
        clear SK o3 ht2 HT HS
        go_wp2
        go_roundg rest'.length
        case measure => exact HK.out
        case rel => exact ⟨m3, done ++ [s], rest', B', rfl, rfl, HI2, NX⟩
end Go.Proofs.Qxb6616170a
