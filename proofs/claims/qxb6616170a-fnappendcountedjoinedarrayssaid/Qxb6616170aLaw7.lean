/-
  SEAT b6616170a. Law 7: the walk itself, both arguments arrays' texts by their first byte.
-/
import Derived.Test.Qxb6616170aCuts
import Derived.Test.Qxb6616170aLaw4
namespace Go.Proofs.Qxb6616170a
open Go Go.RowKit
set_option linter.unusedVariables false

theorem map_cells {w : World} {ad : Addr} {s : List Int} (h : ∀ j, j < s.length → w.cell? (ad.add j) = some (byte (s.getD j 0))) : ∀ j u, (s.map byte)[j]? = some u → w.cell? (ad.add j) = some u := by
  intro j z hj
  rw [List.getElem?_map] at hj
  cases e : s[j]? with
  | none => rw [e] at hj; simp at hj
  | some y =>
    rw [e] at hj
    simp at hj
    have hlt : j < s.length := (List.getElem?_eq_some_iff.1 e).1
    rw [h j hlt, ← hj]
    simp [List.getD, e]
theorem OB.of_row {base : Nat} {w w1 : World} {v v' : Value} {ys zs : List Int} {L : Nat} {cs : List Value} (hbs : base ≤ w.heap.size) (ho : OB base w v ys)
    (hown : w1.ownsRow base 5 1 v' L cs) (hgrow : w.grownBy w1 v.ownBlock) (hL : L = zs.length) (hc : cs = zs.map byte) : Below base w w1 ∧ OB base w1 v' zs := by
  refine ⟨(Below.refl base w).grown hgrow hbs ?_, by subst hL; subst hc; exact hown⟩
  intro k hk
  obtain ⟨_, h2⟩ := ho
  rcases h2 with ⟨rfl, _⟩ | ⟨g, cap, cur, rfl, hg, _⟩
  · simp [Value.ownBlock] at hk
  · simp [Value.ownBlock] at hk; omega
theorem map_one (s : List Int) : ∀ u ∈ s.map byte, u.oneCell' = true := by
  intro u hu; obtain ⟨y, _, rfl⟩ := List.mem_map.1 hu; rfl
theorem Txt.take {w : World} {x : Addr} {t : List Int} (h : Txt w x t) (k : Nat) : ∀ j, j < (t.take k).length → w.cell? (x.add j) = some (byte ((t.take k).getD j 0)) := by
  intro j hj
  simp at hj
  rw [h j (by omega)]
  have hk : j < k := by omega
  simp [List.getD, hk]
theorem Txt.drop {w : World} {x : Addr} {t : List Int} (h : Txt w x t) (k : Nat) : ∀ j, j < (t.drop k).length → w.cell? ((x.add k).add j) = some (byte ((t.drop k).getD j 0)) := by
  intro j hj
  simp at hj
  rw [← add_add, h (k + j) (by omega)]
  simp [List.getD, List.getElem?_drop]

/-- v[k:], v a row of the call's own, not empty: an address, and the bytes there. -/
theorem cut_ex {w : World} {g n c k : Nat} {xs : List Int} (ht : Txt w ⟨g, 0, none⟩ xs) (hl : xs.length = n) (hk : k ≤ n) (hnc : n ≤ c) :
    ∃ x : Addr, (∀ w' : World, (Instr.slice 22 (.slice (some ⟨g, 0, none⟩) n c) (some (.int .i64 (k : Int))) none none).run Try.prog w' = .ok (.slice (some x) (n - k) (c - k)) w') ∧ ∀ j u, ((xs.drop k).map byte)[j]? = some u → w.cell? (x.add j) = some u := by
  by_cases e : c = k
  · refine ⟨⟨g, 0, none⟩, fun w' => ?_, ?_⟩
    · rw [cut_run _ _ _ _ hk, if_pos e]
    · have : xs.drop k = [] := List.drop_eq_nil_of_le (by omega)
      rw [this]
      intro j u h
      simp at h
  · refine ⟨(⟨g, 0, none⟩ : Addr).add k, fun w' => ?_, map_cells (ht.drop k)⟩
    rw [cut_run _ _ _ _ hk, if_neg e]
    rfl

/-- Rows that lie in blocks of their own, each with its bytes. -/
def Kp (w : World) (ps : List (Nat × List Int)) : Prop := ∀ p ∈ ps, p.1 < w.heap.size ∧ Txt w ⟨p.1, 0, none⟩ p.2
theorem Kp.below {w w' : World} {ps : List (Nat × List Int)} (h : Kp w ps) (b : Below w.heap.size w w') : Kp w' ps := fun p hp =>
  ⟨Nat.lt_of_lt_of_le (h p hp).1 b.size, (h p hp).2.below b (h p hp).1⟩
theorem Kp.cons {w : World} {ps : List (Nat × List Int)} {g : Nat} {xs : List Int} (h : Kp w ps) (hg : g < w.heap.size) (ht : Txt w ⟨g, 0, none⟩ xs) : Kp w ((g, xs) :: ps) := fun p hp => by
  rcases List.mem_cons.1 hp with rfl | hp
  · exact ⟨hg, ht⟩
  · exact h p hp
theorem Kp.drewN {w : World} {ps : List (Nat × List Int)} (h : Kp w ps) (n : Nat) : Kp (w.drewN n) ps := h
theorem OB.box {base : Nat} {w : World} {v : Value} {xs : List Int} (h : OB base w v xs) (h0 : 0 < xs.length) : ∃ g l cap, v = .slice (some ⟨g, 0, none⟩) l cap ∧ Hid (xs.length = l) ∧ 0 < l ∧ l ≤ cap ∧ Hid (base ≤ g) ∧ Hid (g < w.heap.size ∧ Txt w ⟨g, 0, none⟩ xs) := by
  obtain ⟨g, cap, rfl, h1, h2, h3, h4⟩ := h.form h0
  obtain ⟨_, e, ht, _⟩ := h.rd.txt h0
  cases e
  exact ⟨g, _, cap, rfl, rfl, h0, h3, h1, h2, ht⟩
theorem uvar_pos (x : Nat) : 0 < (uvar x).length := by
  rw [uvar]; split <;> simp
theorem uvar_le' (x : Nat) : (uvar x).length ≤ x / 128 + 1 := by
  induction x using Nat.strongRecOn with
  | ind x ih =>
    rw [uvar]
    split
    · simp
    · have := ih (x / 128) (by omega)
      simp
      omega
theorem Txt.rd {w : World} {g l cap : Nat} {xs : List Int} (h : Txt w ⟨g, 0, none⟩ xs) (hl : xs.length = l) : Rd 0 (g + 1) w (.slice (some ⟨g, 0, none⟩) l cap) xs := by
  subst hl
  refine ⟨_, _, rfl, fun e => ?_, .inr ⟨g, 0, rfl, by omega, by omega, fun j hj => ?_⟩⟩
  · simp at e
  · rw [← h j hj]
    cases j <;> simp [Addr.add]

set_option maxRecDepth 100000 in
set_option maxHeartbeats 2000000 in
theorem main7 {w : World} {x y : Addr} {n c m d : Nat} {xs ys : List Int} (hn : n ≤ 1048576) (hm : m ≤ 1048576) (hn0 : 0 < n) (hm0 : 0 < m) (lx : xs.length = n) (ly : ys.length = m) (tx : Txt w x xs) (ty : Txt w y ys) (rx : Rd 0 w.heap.size w (.slice (some x) n c) xs) (ry : Rd 0 w.heap.size w (.slice (some y) m d) ys)
    (hx : xs.getD 0 0 = 91) (hy : ys.getD 0 0 = 91) :
    Calls Try.prog 7 #[.slice (some x) n c, .slice (some y) m d] w fun e w' => e = .returned (.bool true) ∧ Below w.heap.size w w' := by
  have HLX : Hid (xs.length = n) := lx
  have HLY : Hid (ys.length = m) := ly
  have HX : Hid (xs.getD 0 0 = 91) := hx
  have HY : Hid (ys.getD 0 0 = 91) := hy
  have HTX : Hid (Txt w x xs) := tx
  have HTY : Hid (Txt w y ys) := ty
  have q0 : w.cell? x = some (byte 91) := by
    have := tx 0 (by omega)
    rw [hx] at this
    cases x; exact this
  have p0 : w.cell? y = some (byte 91) := by
    have := ty 0 (by omega)
    rw [hy] at this
    cases y; exact this
  have gn : (0 : Int) < (n : Int) := by omega
  have gm : (0 : Int) < (m : Int) := by omega
  have gn1 : ¬ ((1048576 : Int) < (n : Int)) := by omega
  have gm1 : ¬ ((1048576 : Int) < (m : Int)) := by omega
  have gb : ((n : Int) == 0) = false := by simp; omega
  have gb2 : ((m : Int) == 0) = false := by simp; omega
  clear lx ly hx hy tx ty
  go_enter Try.func7, Try.ntmps7
  go_wp2_with fail
  refine (bytes20 (by omega) (by omega)).mono ?_
  rintro e w' ⟨⟨b0, rfl⟩, rfl⟩
  cases b0 with
  | false =>
    go_wp2
    go_ret
    exact ⟨rfl, Below.refl _ _⟩
  | true =>
    have o1 : Calls Try.prog 17 #[.slice (some x) n c, .int .i64 0, .bool false] w fun e w' => BoxPost xs 0 w e w' := js_array HTX.out (by omega) HLX.out hn0 HX.out
    go_wp2_with fail
    refine o1.mono ?_
    rintro e w1 ⟨z1, k1, d1, rfl, rfl, h1⟩
    have H1 : Hid _ := h1
    clear h1 o1 q0 gb gb2 p0
    by_cases e1 : z1 = (n : Int)
    · have A1 : Hid (∃ segs : List (List Int), k1 = (segs.length : Int) ∧ ArrText segs xs) := box_all HLX.out H1.out HX.out e1
      subst e1
      clear H1
      have o2 : Calls Try.prog 17 #[.slice (some y) m d, .int .i64 0, .bool false] (w.drewN d1) fun e w' => BoxPost ys 0 (w.drewN d1) e w' := js_array (HTY.out.drewN d1) (by omega) HLY.out hm0 HY.out
      go_wp2_with fail
      refine o2.mono ?_
      rintro e w1 ⟨z2, k2, d2, rfl, rfl, h2⟩
      have H2 : Hid _ := h2
      clear h2 o2
      by_cases e2 : z2 = (m : Int)
      · have A2 : Hid (∃ segs : List (List Int), k2 = (segs.length : Int) ∧ ArrText segs ys) := box_all HLY.out H2.out HY.out e2
        subst e2
        clear H2
        obtain ⟨sv, rfl, av⟩ := A1.out
        obtain ⟨sw, rfl, aw⟩ := A2.out
        clear A1 A2
        have HSV : Hid (ArrText sv xs) := av
        have HSW : Hid (ArrText sw ys) := aw
        have lsv : sv.length ≤ n := by have := av.bounds.1; rw [HLX.out] at this; exact this
        have lsw : sw.length ≤ m := by have := aw.bounds.1; rw [HLY.out] at this; exact this
        clear av aw HTX HTY HX HY
        obtain ⟨D, hD⟩ : ∃ D, D = d1 + d2 := ⟨_, rfl⟩
        have rx2 : Rd 0 w.heap.size (w.drewN (d1 + d2)) (.slice (some x) n c) xs := rx.drewN _
        have ry2 : Rd 0 w.heap.size (w.drewN (d1 + d2)) (.slice (some y) m d) ys := ry.drewN _
        go_wp2_with fail
        refine (clone rx2 (Nat.le_refl _) (by rw [HLX.out]; omega)).mono ?_
        rintro e w1 ⟨p1, rfl, o1, c1⟩
        rw [HLX.out] at o1 ⊢
        have ez : (w.drewN (d1 + d2)).heap.size = w.heap.size := rfl
        rw [ez] at o1 c1
        have B1 : Hid (Below w.heap.size w w1) := (below_drewN (Below.refl _ _) (d1 + d2)).trans c1
        have s1 := c1.size
        rw [ez] at s1
        have ry3 := ry2.below c1 (Nat.le_refl _)
        clear rx2 ry2 rx ry ez c1 hD
        clear D
        go_wp2_with fail
        refine (clone ry3 (by omega) (by rw [HLY.out]; omega)).mono ?_
        rintro e w2 ⟨p2, rfl, o2, c2⟩
        rw [HLY.out] at o2 ⊢
        have s2 := c2.size
        have o1' := o1.keep c2 (Nat.le_refl _)
        have B2 : Hid (Below w.heap.size w w2) := B1.out.trans (c2.mono s1)
        clear ry3 o1 B1 c2
        obtain ⟨g1, _, e1, g1a, g1b, _⟩ := o1'.form (by rw [HLX.out]; exact hn0)
        simp only [Value.slice.injEq] at e1
        obtain ⟨rfl, -, -⟩ := e1
        obtain ⟨g2, _, e2, g2a, g2b, _⟩ := o2.form (by rw [HLY.out]; exact hm0)
        simp only [Value.slice.injEq] at e2
        obtain ⟨rfl, -, -⟩ := e2
        obtain ⟨i0, hi, hz0, hz1, hz2⟩ := info_parts info5
        go_wp2_with (at_make; refine wpList_make_own _ rfl _ _ 22 rfl w2.heap.size 5 i0 (.int .u8 0) 1 Try.underlying22 hi hz0 hz1 _ _ _ (n + m) rfl rfl ?c0 ?c1 ?c2 ?c3 ?_)
        case c0 => go_num
        case c1 => rw [hz2]; omega
        case c2 => unfold maxLen; omega
        case c3 => omega
        intro w3 hown3 hg3
        have ob3 : OB w2.heap.size w3 (.slice (some ⟨w2.heap.size, 0, none⟩) 0 (n + m)) [] := hown3
        have b23 : Below w2.heap.size w2 w3 := (Below.refl _ _).grown hg3 (Nat.le_refl _) (fun k hk => by cases hk)
        have s3 := b23.size
        have o1'' := o1'.keep b23 (Nat.le_refl _)
        have o2' := o2.keep b23 (Nat.le_refl _)
        have B3 : Hid (Below w.heap.size w w3) := B2.out.trans (b23.mono (by omega))
        clear hown3 hg3 o1' o2 B2 b23
        have hpre := pre_run (some ⟨g1, 0, none⟩) n n ((n : Int) - 1) (n - 1) (by omega) (by omega)
        have HO1 : Hid (OB w.heap.size w3 (.slice (some ⟨g1, 0, none⟩) n n) xs) := o1''
        have HO2 : Hid (OB w1.heap.size w3 (.slice (some ⟨g2, 0, none⟩) m m) ys) := o2'
        have HT1 : Hid (Txt w3 ⟨g1, 0, none⟩ xs) := by
          obtain ⟨_, e, ht, _⟩ := o1''.rd.txt hn0
          cases e; exact ht
        have HT2 : Hid (Txt w3 ⟨g2, 0, none⟩ ys) := by
          obtain ⟨_, e, ht, _⟩ := o2'.rd.txt hm0
          cases e; exact ht
        clear o1'' o2'
        go_wp2_with (at_builtin; refine wpList_append_own _ rfl _ _ 22 rfl w2.heap.size 5 i0 (.int .u8 0) 1 1 Try.underlying22 hi hz0 hz1 hz2 rfl (by decide) _ 0 [] rfl ob3 ⟨g1, 0, none⟩ (n - 1) n ((xs.take (n - 1)).map byte) rfl ?c0 ?c1 ?c2 ?c3 ?c4 ?c5 ?_)
        case c0 => simp [HLX.out]
        case c1 => exact map_cells (HT1.out.take (n - 1))
        case c2 => exact map_one _
        case c3 => unfold maxLen; omega
        case c4 => omega
        case c5 => exact s3
        intro u4 w4 hown4 hg4 _
        have G4 := OB.of_row (zs := xs.take (n - 1)) s3 ob3 hown4 hg4 (by rw [List.length_take, HLX.out]; omega) (by simp)
        obtain ⟨b34, ob4⟩ := G4
        have s4 := b34.size
        have B4 : Hid (Below w.heap.size w w4) := B3.out.trans (b34.mono (by omega))
        have K4 : Hid (Txt w4 ⟨g1, 0, none⟩ xs ∧ Txt w4 ⟨g2, 0, none⟩ ys) := by
          refine ⟨HT1.out.below b34 ?_, HT2.out.below b34 ?_⟩
          · exact g1b
          · exact g2b
        clear hown4 hg4 ob3
        obtain ⟨cm, hcm⟩ : ∃ cm : List Int, cm = if 0 < sv.length ∧ 0 < sw.length then [44] else [] := ⟨_, rfl⟩
        have HCM : Hid (cm = if 0 < sv.length ∧ 0 < sw.length then [44] else []) := hcm
        have lcm : cm.length ≤ 1 := by rw [hcm]; split <;> simp
        clear hcm
        go_upto_region 19 with fail
        go_cut [94] (fun v wc => v = .bool (decide (0 < sv.length ∧ 0 < sw.length)) ∧ w4 = wc)
        case first =>
          clear HCM lcm K4 B4 HSV HSW HO1 HO2 HT1 HT2 B3 ob4 hpre
          by_cases z1 : 0 < sv.length
          · by_cases z2 : 0 < sw.length
            · have y1 : (0 : Int) < (sv.length : Int) := by omega
              have y2 : (0 : Int) < (sw.length : Int) := by omega
              go_wp2
              go_meet
              case rel => exact ⟨by simp [z1, z2], rfl⟩
            · have y1 : (0 : Int) < (sv.length : Int) := by omega
              have y2 : ¬ (0 : Int) < (sw.length : Int) := by omega
              go_wp2
              go_meet
              case rel => exact ⟨by simp [z2], rfl⟩
          · have y1 : ¬ (0 : Int) < (sv.length : Int) := by omega
            go_wp2
            go_meet
            case rel => exact ⟨by simp [z1], rfl⟩
        case rest =>
          obtain ⟨rfl, rfl⟩ := hcut
          go_upto_if 94 with fail
          go_cut [11] (fun v wc => OB w2.heap.size wc v (xs.take (n - 1) ++ cm) ∧ Below w2.heap.size w4 wc)
          case first =>
            by_cases z : 0 < sv.length ∧ 0 < sw.length
            · have hcm : cm = [44] := by rw [HCM.out, if_pos z]
              subst hcm
              rw [decide_eq_true z]
              go_wp2_with (at_builtin; refine wpList_append_own _ rfl _ _ 22 rfl w2.heap.size 5 i0 (.int .u8 0) 1 1 Try.underlying22 hi hz0 hz1 hz2 rfl (by decide) _ (xs.take (n - 1)).length ((xs.take (n - 1)).map byte) rfl (World.ownsRow.alloc ob4 _) ⟨w4.heap.size, 0, none⟩ 1 1 [byte 44] rfl rfl ?c1 ?c2 ?c3 ?c4 ?c5 ?_)
              case c1 =>
                intro j z hj
                match j, hj with
                | 0, hj => simp at hj; subst hj; simp [Addr.add]
              case c2 => intro z hz; simp at hz; subst hz; rfl
              case c3 => rw [List.length_take, HLX.out]; unfold maxLen; omega
              case c4 => rw [List.length_take, HLX.out]; omega
              case c5 => simp; omega
              · intro v' w5 hown hgrow _
                have G := OB.grew (Below.refl w2.heap.size w4) (by omega) ob4 (z := 44) (by simpa using hown) hgrow
                have HG : Hid _ := G
                clear G hown hgrow
                go_wp2
                go_meet
                case rel => exact ⟨HG.out.2.1, HG.out.1⟩
            · have hcm : cm = [] := by rw [HCM.out, if_neg z]
              subst hcm
              rw [decide_eq_false z]
              go_wp2
              go_meet
              case rel => exact ⟨by rw [List.append_nil]; exact ob4, Below.refl _ _⟩
          case rest =>
            obtain ⟨ob5, b45⟩ := hcut
            have m2 : 2 ≤ m := by have := HSW.out.two; rw [HLY.out] at this; exact this
            have s5 := b45.size
            have B5 : Hid (Below w.heap.size w wc) := B4.out.trans (b45.mono (by omega))
            have K5 : Hid (Txt wc ⟨g1, 0, none⟩ xs ∧ Txt wc ⟨g2, 0, none⟩ ys) := ⟨K4.out.1.below b45 g1b, K4.out.2.below b45 g2b⟩
            have HL5 : Hid ((xs.take (n - 1) ++ cm).length = n - 1 + cm.length) := by show _ = _; rw [List.length_append, List.length_take, HLX.out]; omega
            have hsuf := suf_run g2 m m 1 (by omega) (.inr (by omega)) (Nat.le_refl _) 1 rfl
            clear B3 B4 K4 HO1 HO2 HT1 HT2 ob4 b34 b45 hpre
            go_wp2_with (at_builtin; refine wpList_append_own _ rfl _ _ 22 rfl w2.heap.size 5 i0 (.int .u8 0) 1 1 Try.underlying22 hi hz0 hz1 hz2 rfl (by decide) _ (xs.take (n - 1) ++ cm).length ((xs.take (n - 1) ++ cm).map byte) rfl ob5 ⟨g2, 1, none⟩ (m - 1) (m - 1) ((ys.drop 1).map byte) rfl ?c0 ?c1 ?c2 ?c3 ?c4 ?c5 ?_)
            case c0 => simp [HLY.out]
            case c1 => exact map_cells (K5.out.2.drop 1)
            case c2 => exact map_one _
            case c3 => rw [HL5.out]; unfold maxLen; omega
            case c4 => rw [HL5.out]; omega
            case c5 => omega
            intro u6 w6 hown6 hg6 _
            have G6 := OB.of_row (zs := xs.take (n - 1) ++ cm ++ ys.drop 1) (by omega) ob5 hown6 hg6 (by have h1 : xs.length = n := HLX.out; have h2 : ys.length = m := HLY.out; simp only [List.length_append, List.length_drop, List.length_take]; omega) (by simp)
            obtain ⟨b56, ob6⟩ := G6
            have s6 := b56.size
            have HL6 : Hid ((xs.take (n - 1) ++ cm ++ ys.drop 1).length = n + m + cm.length - 2) := by show _ = _; rw [List.length_append, HL5.out, List.length_drop, HLY.out]; omega
            have B6 : Hid (Below w.heap.size w w6) := B5.out.trans (b56.mono (by omega))
            have K6 : Hid (Txt w6 ⟨g1, 0, none⟩ xs ∧ Txt w6 ⟨g2, 0, none⟩ ys) := ⟨K5.out.1.below b56 g1b, K5.out.2.below b56 g2b⟩
            have HU : Hid (ArrText (sv ++ sw) (xs.take (n - 1) ++ cm ++ ys.drop 1)) := by
              have := HSV.out.join HSW.out
              rw [← HCM.out, List.dropLast_eq_take, HLX.out, ← List.drop_one] at this
              exact this
            obtain ⟨uu, huu⟩ : ∃ uu, uu = xs.take (n - 1) ++ cm ++ ys.drop 1 := ⟨_, rfl⟩
            obtain ⟨L, hL⟩ : ∃ L, L = n + m + cm.length - 2 := ⟨_, rfl⟩
            rw [← huu] at ob6 HL6 HU
            rw [← hL] at HL6
            have hLb : L ≤ 2097153 := by omega
            have hL0 : 0 < L := by omega
            clear hown6 hg6 ob5 huu hL HL5 HCM K5 B5 b56 hsuf lcm m2
            obtain ⟨g3, c3, rfl, g3a, g3b, hc3, hc3m⟩ := ob6.form (by rw [HL6.out]; exact hL0)
            rw [HL6.out] at ob6 hc3 ⊢
            have K7 : Hid (Txt w6 ⟨g3, 0, none⟩ uu) := by
              obtain ⟨_, e, ht, _⟩ := ob6.rd.txt hL0
              cases e; exact ht
            clear ob6
            have nilrow : ∀ b (W : World), OB b W (.slice none 0 0) [] := fun b W => ⟨rfl, .inl ⟨rfl, rfl⟩⟩
            have P6 : Hid (Kp w6 [(g3, uu), (g1, xs), (g2, ys)]) := by
              refine Kp.cons (Kp.cons (Kp.cons (fun p hp => by cases hp) ?_ K6.out.2) ?_ K6.out.1) g3b K7.out
              · omega
              · omega
            have z6 : w.heap.size ≤ w6.heap.size := B6.out.size
            clear K6 K7 g1a g1b g2a g2b g3a g3b s3 s4 s5 s6 s1 s2
            go_wp2_with fail
            refine (zz_uvarint (nilrow w6.heap.size w6) (Nat.le_refl _) sv.length (by omega) (by simp; omega)).mono ?_
            rintro e w7 ⟨pv, rfl, b67, opv⟩
            rw [List.nil_append] at opv
            obtain ⟨h1, l1, k1, rfl, hl1, i1, j1, -, t1⟩ := opv.box (uvar_pos _)
            have P7 : Hid (Kp w7 ((h1, uvar sv.length) :: [(g3, uu), (g1, xs), (g2, ys)])) := (P6.out.below b67).cons t1.out.1 t1.out.2
            have B7 : Hid (Below w.heap.size w w7) := B6.out.trans (b67.mono z6)
            clear P6 B6 b67 opv t1
            go_wp2_with fail
            refine (zz_uvarint (nilrow w7.heap.size w7) (Nat.le_refl _) sw.length (by omega) (by simp; omega)).mono ?_
            rintro e w8 ⟨pw, rfl, b78, opw⟩
            rw [List.nil_append] at opw
            obtain ⟨h2, l2, k2, rfl, hl2, i2, j2, -, t2⟩ := opw.box (uvar_pos _)
            have P8 : Hid (Kp w8 ((h2, uvar sw.length) :: (h1, uvar sv.length) :: [(g3, uu), (g1, xs), (g2, ys)])) := (P7.out.below b78).cons t2.out.1 t2.out.2
            have B8 : Hid (Below w.heap.size w w8) := B7.out.trans (b78.mono B7.out.size)
            clear P7 B7 b78 opw t2
            obtain ⟨N, hN⟩ : ∃ N, N = sv.length + sw.length := ⟨_, rfl⟩
            have hadd : (sv.length : Int) + (sw.length : Int) = (N : Int) := by omega
            have hNb : N ≤ 2097152 := by omega
            have HN : Hid (N = sv.length + sw.length) := hN
            clear hN
            go_wp2_with fail
            refine (zz_uvarint (nilrow w8.heap.size w8) (Nat.le_refl _) N (by omega) (by simp; omega)).mono ?_
            rintro e w9 ⟨pu, rfl, b89, opu⟩
            rw [List.nil_append] at opu
            obtain ⟨h3, l3, k3, rfl, hl3, i3, j3, -, t3⟩ := opu.box (uvar_pos _)
            have P9 : Hid (Kp w9 ((h3, uvar N) :: (h2, uvar sw.length) :: (h1, uvar sv.length) :: [(g3, uu), (g1, xs), (g2, ys)])) := (P8.out.below b89).cons t3.out.1 t3.out.2
            have B9 : Hid (Below w.heap.size w w9) := B8.out.trans (b89.mono B8.out.size)
            clear P8 B8 b89 opu t3
            have A1 : Hid (uvar sv.length ++ sv.flatten = uvar sv.length ++ sv.flatten ∧ 0 < (uvar sv.length ++ sv.flatten).length ∧ (uvar sv.length ++ sv.flatten).length ≤ l1 + n ∧ l1 ≤ (uvar sv.length ++ sv.flatten).length) := by
              have := HSV.out.bounds.2
              rw [HLX.out] at this
              refine ⟨rfl, ?_, ?_, ?_⟩ <;> rw [List.length_append, hl1.out] <;> omega
            have A2 : Hid (0 < (uvar sw.length ++ sw.flatten).length ∧ (uvar sw.length ++ sw.flatten).length ≤ l2 + m ∧ l2 ≤ (uvar sw.length ++ sw.flatten).length) := by
              have := HSW.out.bounds.2
              rw [HLY.out] at this
              refine ⟨?_, ?_, ?_⟩ <;> rw [List.length_append, hl2.out] <;> omega
            have A3 : Hid (0 < (uvar (sv ++ sw).length ++ (sv ++ sw).flatten).length ∧ (uvar (sv ++ sw).length ++ (sv ++ sw).flatten).length ≤ l3 + L) := by
              have := HU.out.bounds.2
              rw [HL6.out] at this
              have e : (sv ++ sw).length = N := by rw [List.length_append, HN.out]
              rw [e]
              refine ⟨?_, ?_⟩ <;> rw [List.length_append, hl3.out] <;> omega
            have q1 : l1 ≤ n + 1 := by have := uvar_le sv.length; rw [hl1.out] at this; omega
            have q2 : l2 ≤ m + 1 := by have := uvar_le sw.length; rw [hl2.out] at this; omega
            have q3 : l3 ≤ 16385 := by have := uvar_le' N; rw [hl3.out] at this; omega
            go_wp2_with fail
            refine (zz_append_counted (P9.out (g1, xs) (by simp)).2 (P9.out (g1, xs) (by simp)).1 (by omega) HLX.out (Nat.le_refl _) HSV.out).mono ?_
            rintro e w10 ⟨rv, rfl, b9, orv⟩
            obtain ⟨h4, l4, k4, rfl, hl4, i4, j4, -, t4⟩ := orv.box A1.out.2.1
            have P10 : Hid (Kp w10 ((h4, uvar sv.length ++ sv.flatten) :: (h3, uvar N) :: (h2, uvar sw.length) :: (h1, uvar sv.length) :: [(g3, uu), (g1, xs), (g2, ys)])) := (P9.out.below b9).cons t4.out.1 t4.out.2
            have B10 : Hid (Below w.heap.size w w10) := B9.out.trans (b9.mono B9.out.size)
            have q4 : l4 ≤ l1 + n := by rw [← hl4.out]; exact A1.out.2.2.1
            have p4 : l1 ≤ l4 := by rw [← hl4.out]; exact A1.out.2.2.2
            clear P9 B9 b9 orv t4 A1
            go_wp2_with fail
            refine (zz_append_counted (P10.out (g2, ys) (by simp)).2 (P10.out (g2, ys) (by simp)).1 (by omega) HLY.out (Nat.le_refl _) HSW.out).mono ?_
            rintro e w11 ⟨rw', rfl, b10, orw⟩
            obtain ⟨h5, l5, k5, rfl, hl5, i5, j5, -, t5⟩ := orw.box A2.out.1
            have P11 : Hid (Kp w11 ((h5, uvar sw.length ++ sw.flatten) :: (h4, uvar sv.length ++ sv.flatten) :: (h3, uvar N) :: (h2, uvar sw.length) :: (h1, uvar sv.length) :: [(g3, uu), (g1, xs), (g2, ys)])) := (P10.out.below b10).cons t5.out.1 t5.out.2
            have B11 : Hid (Below w.heap.size w w11) := B10.out.trans (b10.mono B10.out.size)
            have q5 : l5 ≤ l2 + m := by rw [← hl5.out]; exact A2.out.2.1
            have p5 : l2 ≤ l5 := by rw [← hl5.out]; exact A2.out.2.2
            clear P10 B10 b10 orw t5 A2
            go_wp2_with fail
            refine (zz_append_counted (P11.out (g3, uu) (by simp)).2 (P11.out (g3, uu) (by simp)).1 (by omega) HL6.out hc3 HU.out).mono ?_
            rintro e w12 ⟨ru, rfl, b11, oru⟩
            obtain ⟨h6, l6, k6, rfl, hl6, i6, j6, -, t6⟩ := oru.box A3.out.1
            have P12 : Hid (Kp w12 ((h6, uvar (sv ++ sw).length ++ (sv ++ sw).flatten) :: (h5, uvar sw.length ++ sw.flatten) :: (h4, uvar sv.length ++ sv.flatten) :: (h3, uvar N) :: (h2, uvar sw.length) :: (h1, uvar sv.length) :: [(g3, uu), (g1, xs), (g2, ys)])) := (P11.out.below b11).cons t6.out.1 t6.out.2
            have B12 : Hid (Below w.heap.size w w12) := B11.out.trans (b11.mono B11.out.size)
            have q6 : l6 ≤ l3 + L := by rw [← hl6.out]; exact A3.out.2
            clear P11 B11 b11 oru t6 A3
            have f1 : ¬ ((l4 : Int) < (l1 : Int)) := by omega
            have f2 : ¬ ((l5 : Int) < (l2 : Int)) := by omega
            have hp1 := pre_run (some ⟨h4, 0, none⟩) l4 k4 (l1 : Int) l1 rfl (by omega)
            go_wp2_with fail
            have E1 : Rd 0 (h4 + 1) w12 (.slice (some ⟨h4, 0, none⟩) l1 k4) (uvar sv.length) := by
              have := ((P12.out (h4, uvar sv.length ++ sv.flatten) (by simp)).2.rd (l := l4) (cap := k4) hl4.out).front (k := l1) (cap' := k4) (by rw [hl4.out]; exact p4)
              rw [take_front _ _ _ hl1.out] at this
              exact this
            have E2 : Rd 0 (h1 + 1) w12 (.slice (some ⟨h1, 0, none⟩) l1 k1) (uvar sv.length) := (P12.out (h1, uvar sv.length) (by simp)).2.rd hl1.out
            refine (eq E1 E2 (by rw [hl1.out]; omega)).mono ?_
            rintro e w13 ⟨rfl, d3, hd3⟩
            have P13 : Hid (Kp w13 ((h6, uvar (sv ++ sw).length ++ (sv ++ sw).flatten) :: (h5, uvar sw.length ++ sw.flatten) :: (h4, uvar sv.length ++ sv.flatten) :: (h3, uvar N) :: (h2, uvar sw.length) :: (h1, uvar sv.length) :: [(g3, uu), (g1, xs), (g2, ys)])) := by rw [hd3]; exact P12.out.drewN d3
            have B13 : Hid (Below w.heap.size w w13) := by rw [hd3]; exact below_drewN B12.out d3
            clear E1 E2 P12 B12 hd3 hp1
            have hp2 := pre_run (some ⟨h5, 0, none⟩) l5 k5 (l2 : Int) l2 rfl (by omega)
            go_wp2_with fail
            have E1 : Rd 0 (h5 + 1) w13 (.slice (some ⟨h5, 0, none⟩) l2 k5) (uvar sw.length) := by
              have := ((P13.out (h5, uvar sw.length ++ sw.flatten) (by simp)).2.rd (l := l5) (cap := k5) hl5.out).front (k := l2) (cap' := k5) (by rw [hl5.out]; exact p5)
              rw [take_front _ _ _ hl2.out] at this
              exact this
            have E2 : Rd 0 (h2 + 1) w13 (.slice (some ⟨h2, 0, none⟩) l2 k2) (uvar sw.length) := (P13.out (h2, uvar sw.length) (by simp)).2.rd hl2.out
            refine (eq E1 E2 (by rw [hl2.out]; omega)).mono ?_
            rintro e w14 ⟨rfl, d4, hd4⟩
            have P14 : Hid (Kp w14 ((h6, uvar (sv ++ sw).length ++ (sv ++ sw).flatten) :: (h5, uvar sw.length ++ sw.flatten) :: (h4, uvar sv.length ++ sv.flatten) :: (h3, uvar N) :: (h2, uvar sw.length) :: (h1, uvar sv.length) :: [(g3, uu), (g1, xs), (g2, ys)])) := by rw [hd4]; exact P13.out.drewN d4
            have B14 : Hid (Below w.heap.size w w14) := by rw [hd4]; exact below_drewN B13.out d4
            clear E1 E2 P13 B13 hd4 hp2 HSV HSW HU HL6 q1 q2
            go_wp2_with (at_make; refine wpList_make_own _ rfl _ _ 22 rfl w14.heap.size 5 i0 (.int .u8 0) 1 Try.underlying22 hi hz0 hz1 _ _ _ (l6 + 1) rfl rfl ?c0 ?c1 ?c2 ?c3 ?_)
            case c0 => go_num
            case c1 => rw [hz2]; omega
            case c2 => unfold maxLen; omega
            case c3 => omega
            intro w15 hown15 hg15
            have ob15 : OB w14.heap.size w15 (.slice (some ⟨w14.heap.size, 0, none⟩) 0 (l6 + 1)) [] := hown15
            have b15 : Below w14.heap.size w14 w15 := (Below.refl _ _).grown hg15 (Nat.le_refl _) (fun k hk => by cases hk)
            have s15 := b15.size
            have P15 : Hid (Kp w15 ((h6, uvar (sv ++ sw).length ++ (sv ++ sw).flatten) :: (h5, uvar sw.length ++ sw.flatten) :: (h4, uvar sv.length ++ sv.flatten) :: (h3, uvar N) :: (h2, uvar sw.length) :: (h1, uvar sv.length) :: [(g3, uu), (g1, xs), (g2, ys)])) := P14.out.below b15
            have B15 : Hid (Below w.heap.size w w15) := B14.out.trans (b15.mono B14.out.size)
            have SZ : Hid (∀ p ∈ ((h6, uvar (sv ++ sw).length ++ (sv ++ sw).flatten) :: (h5, uvar sw.length ++ sw.flatten) :: (h4, uvar sv.length ++ sv.flatten) :: (h3, uvar N) :: (h2, uvar sw.length) :: (h1, uvar sv.length) :: [(g3, uu), (g1, xs), (g2, ys)]), p.1 < w14.heap.size) := fun p hp => (P14.out p hp).1
            have SW : Hid (w.heap.size ≤ w14.heap.size) := B14.out.size
            clear hown15 hg15 P14 B14 b15
            have hKp : Hid (∀ W : World, Below w14.heap.size w15 W → Kp W ((h6, uvar (sv ++ sw).length ++ (sv ++ sw).flatten) :: (h5, uvar sw.length ++ sw.flatten) :: (h4, uvar sv.length ++ sv.flatten) :: (h3, uvar N) :: (h2, uvar sw.length) :: (h1, uvar sv.length) :: [(g3, uu), (g1, xs), (g2, ys)])) := fun W b p hp => ⟨Nat.lt_of_lt_of_le (P15.out p hp).1 b.size, (P15.out p hp).2.below b (SZ.out p hp)⟩
            go_wp2_with (at_builtin; refine wpList_append_own _ rfl _ _ 22 rfl w14.heap.size 5 i0 (.int .u8 0) 1 1 Try.underlying22 hi hz0 hz1 hz2 rfl (by decide) _ 0 [] rfl ob15 ⟨h3, 0, none⟩ l3 k3 ((uvar N).map byte) rfl ?c0 ?c1 ?c2 ?c3 ?c4 ?c5 ?_)
            case c0 => simp [hl3.out]
            case c1 => exact map_cells (P15.out (h3, uvar N) (by simp)).2
            case c2 => exact map_one _
            case c3 => unfold maxLen; omega
            case c4 => omega
            case c5 => exact s15
            intro u16 w16 hown16 hg16 _
            have G16 := OB.of_row (zs := uvar N) s15 ob15 hown16 hg16 (by rw [hl3.out]) (by simp)
            obtain ⟨b16, ob16⟩ := G16
            have s16 := b16.size
            have P16 : Hid (Kp w16 ((h6, uvar (sv ++ sw).length ++ (sv ++ sw).flatten) :: (h5, uvar sw.length ++ sw.flatten) :: (h4, uvar sv.length ++ sv.flatten) :: (h3, uvar N) :: (h2, uvar sw.length) :: (h1, uvar sv.length) :: [(g3, uu), (g1, xs), (g2, ys)])) := hKp.out _ b16
            clear hown16 hg16 ob15 P15
            have T4 : Txt w16 ⟨h4, 0, none⟩ (uvar sv.length ++ sv.flatten) := (P16.out (h4, uvar sv.length ++ sv.flatten) (by simp)).2
            obtain ⟨x1, hx1, hy1⟩ := cut_ex (c := k4) (k := l1) T4 hl4.out p4 j4
            rw [← hl1.out, List.drop_left] at hy1
            have lf1 : Hid (sv.flatten.length = l4 - l1) := by show _ = _; rw [← hl4.out, List.length_append, hl1.out]; omega
            have HY1 : Hid _ := hy1
            clear hy1 T4
            go_wp2_with (at_builtin; refine wpList_append_own _ rfl _ _ 22 rfl w14.heap.size 5 i0 (.int .u8 0) 1 1 Try.underlying22 hi hz0 hz1 hz2 rfl (by decide) _ (uvar N).length ((uvar N).map byte) rfl ob16 x1 (l4 - l1) (k4 - l1) (sv.flatten.map byte) rfl ?c0 ?c1 ?c2 ?c3 ?c4 ?c5 ?_)
            case c0 => rw [List.length_map, lf1.out, Nat.mul_one]
            case c1 => exact HY1.out
            case c2 => exact map_one _
            case c3 => rw [hl3.out]; unfold maxLen; omega
            case c4 => rw [hl3.out]; omega
            case c5 => omega
            intro u17 w17 hown17 hg17 _
            have HF1 : Hid (sv.flatten.length = l4 - l1 ∧ (uvar N).length = l3) := ⟨lf1.out, hl3.out⟩
            have G17 := OB.of_row (zs := uvar N ++ sv.flatten) (by omega) ob16 hown17 hg17 (by rw [List.length_append, HF1.out.1]) (by simp)
            obtain ⟨b17, ob17⟩ := G17
            have s17 := b17.size
            have P17 : Hid (Kp w17 ((h6, uvar (sv ++ sw).length ++ (sv ++ sw).flatten) :: (h5, uvar sw.length ++ sw.flatten) :: (h4, uvar sv.length ++ sv.flatten) :: (h3, uvar N) :: (h2, uvar sw.length) :: (h1, uvar sv.length) :: [(g3, uu), (g1, xs), (g2, ys)])) := hKp.out _ (b16.trans b17)
            have l17 : Hid ((uvar N ++ sv.flatten).length = l3 + (l4 - l1)) := by show _ = _; rw [List.length_append, HF1.out.1, HF1.out.2]
            clear hown17 hg17 ob16 P16 hx1 HY1
            have T5 : Txt w17 ⟨h5, 0, none⟩ (uvar sw.length ++ sw.flatten) := (P17.out (h5, uvar sw.length ++ sw.flatten) (by simp)).2
            obtain ⟨x2, hx2, hy2⟩ := cut_ex (c := k5) (k := l2) T5 hl5.out p5 j5
            rw [← hl2.out, List.drop_left] at hy2
            have lf2 : Hid (sw.flatten.length = l5 - l2) := by show _ = _; rw [← hl5.out, List.length_append, hl2.out]; omega
            have HY2 : Hid _ := hy2
            clear hy2 T5
            go_wp2_with (at_builtin; refine wpList_append_own _ rfl _ _ 22 rfl w14.heap.size 5 i0 (.int .u8 0) 1 1 Try.underlying22 hi hz0 hz1 hz2 rfl (by decide) _ (uvar N ++ sv.flatten).length ((uvar N ++ sv.flatten).map byte) rfl ob17 x2 (l5 - l2) (k5 - l2) (sw.flatten.map byte) rfl ?c0 ?c1 ?c2 ?c3 ?c4 ?c5 ?_)
            case c0 => rw [List.length_map, lf2.out, Nat.mul_one]
            case c1 => exact HY2.out
            case c2 => exact map_one _
            case c3 => rw [l17.out]; unfold maxLen; omega
            case c4 => rw [l17.out]; omega
            case c5 => omega
            intro u18 w18 hown18 hg18 _
            have G18 := OB.of_row (zs := uvar N ++ sv.flatten ++ sw.flatten) (by omega) ob17 hown18 hg18 (by rw [List.length_append, lf2.out, List.length_append, List.length_flatten]) (by simp)
            obtain ⟨b18, ob18⟩ := G18
            have P18 : Hid (Kp w18 ((h6, uvar (sv ++ sw).length ++ (sv ++ sw).flatten) :: (h5, uvar sw.length ++ sw.flatten) :: (h4, uvar sv.length ++ sv.flatten) :: (h3, uvar N) :: (h2, uvar sw.length) :: (h1, uvar sv.length) :: [(g3, uu), (g1, xs), (g2, ys)])) := hKp.out _ ((b16.trans b17).trans b18)
            have B18 : Hid (Below w.heap.size w w18) := B15.out.trans (((b16.trans b17).trans b18).mono SW.out)
            have ee : uvar (sv ++ sw).length ++ (sv ++ sw).flatten = uvar N ++ sv.flatten ++ sw.flatten := by
              rw [List.length_append, ← HN.out, List.flatten_append, List.append_assoc]
            have R1 : Rd 0 (h6 + 1) w18 (.slice (some ⟨h6, 0, none⟩) l6 k6) (uvar N ++ sv.flatten ++ sw.flatten) := by
              rw [← ee]
              exact (P18.out (h6, uvar (sv ++ sw).length ++ (sv ++ sw).flatten) (by simp)).2.rd hl6.out
            have R2 := ob18.rd
            have HLL : Hid ((uvar N ++ sv.flatten ++ sw.flatten).length ≤ 4194304) := by
              show _ ≤ _
              rw [← ee, hl6.out]
              omega
            clear hown18 hg18 ob17 P17 hx2 HY2 P18 ee ob18 hKp SZ B15
            go_wp2_with fail
            refine (eq R1 R2 HLL.out).mono ?_
            rintro e w19 ⟨rfl, d5, rfl⟩
            go_wp2
            go_ret
            exact ⟨rfl, below_drewN B18.out d5⟩
      · have e2' : (z2 != (m : Int)) = true := by simp [e2]
        clear e2 A1 H2
        go_wp2
        go_ret
        exact ⟨rfl, below_drewN (Below.refl _ _) _⟩
    · have e1' : (z1 != (n : Int)) = true := by simp [e1]
      clear e1 H1
      go_wp2
      go_ret
      exact ⟨rfl, below_drewN (Below.refl _ _) _⟩
end Go.Proofs.Qxb6616170a
