/-
  SEAT b6616076a. FnLoneWorkFinishRecordsAndAdvances (5).
-/
import Derived.Test.Qxb6616076aPlain5
import Derived.Deep.DeepCutAuto
namespace Go.Proofs.Qxb6616076a
open Go Go.RowKit
set_option linter.unusedVariables false
set_option linter.unusedSimpArgs false

set_option maxRecDepth 100000 in
set_option maxHeartbeats 4000000 in
theorem main5 {w : World} {base v : Int} {next least i : Nat} {halt found : Bool} {x1 x2 : Addr} {n c1 c2 : Nat} {W : List Int} {D : List Bool} (hn : n ≤ 65536) (hi : i < n) (h1 : next ≤ least) (h2 : least ≤ n)
    (lw : W.length = n) (ld : D.length = n) (r1 : Rd 0 w.heap.size w (.slice (some x1) n c1) false (W.map (Value.int .i64))) (r2 : Rd 0 w.heap.size w (.slice (some x2) n c2) false (D.map Value.bool)) :
    Calls Try.prog 5 #[.int .i64 base, .int .i64 next, .slice (some x1) n c1, .slice (some x2) n c2, .int .i64 least, .bool halt, .int .i64 i, .int .i64 v, .bool found] w fun e w' => e = .returned (.bool true) ∧ Below w.heap.size w w' := by
  have cD := (Rd.cells (d := false) r2).2.2
  have HC : Hid _ := cD
  have HLW : Hid _ := lw
  have HLD : Hid _ := ld
  clear cD lw ld
  go_enter Try.func5, Try.ntmps5
  go_wp2_with fail
  refine (bytes17 (by omega) (by omega)).mono ?_
  rintro e w' ⟨⟨b, rfl⟩, rfl⟩
  cases b with
  | false =>
    go_wp2
    go_ret
    exact ⟨rfl, Below.refl _ _⟩
  | true =>
    go_wp2
    go_loop [20] (fun t => ∃ k : Nat, k ≤ next ∧ t = .int .i64 k ∧ Hid (∀ j, j < k → D.getD j false = true)) (fun t => next - (intOf t).toNat)
    case atStart => exact ⟨0, Nat.zero_le _, rfl, fun j hj => by omega⟩
    case round =>
      obtain ⟨k, hk, rfl, hd⟩ := hrel
      by_cases hlt : k < next
      · have q := (HC.out k (by rw [HLD.out]; omega)).2.2
        have g1 : (k : Int) < (next : Int) := by omega
        have g2 : (k : Int) < (n : Int) := by omega
        cases hf : D.getD k false with
        | false =>
          rw [hf] at q
          clear hf
          go_wp2
          go_ret
          exact ⟨rfl, Below.refl _ _⟩
        | true =>
          rw [hf] at q
          have hd2 : Hid (∀ j, j < k + 1 → D.getD j false = true) := fun j hj => by
            by_cases e : j = k
            · rw [e]; exact hf
            · exact hd.out j (by omega)
          clear hf
          go_wp2
          go_round
          case rel => exact ⟨k + 1, by omega, by go_num, hd2⟩
          case measure => simp [intOf]; omega
      · have q := (HC.out i (by rw [HLD.out]; omega)).2.2
        have g2 : (i : Int) < (n : Int) := by omega
        have hd' : Hid (∀ j, j < next → D.getD j false = true) := fun j hj => hd.out j (by omega)
        clear hd
        cases hf : D.getD i false with
        | true =>
          rw [hf] at q
          clear hf
          go_wp2
          go_ret
          exact ⟨rfl, Below.refl _ _⟩
        | false =>
          rw [hf] at q
          have hni : next ≤ i := by
            rcases Nat.lt_or_ge i next with c | c
            · have := hd'.out i c; rw [hf] at this; cases this
            · exact c
          clear hf
          go_upto_region 21 with fail
          obtain ⟨dl, hdl⟩ : ∃ dl, dl = D.getD least false := ⟨_, rfl⟩
          have Hdl : Hid _ := hdl
          clear hdl
          go_cut [100] (fun t wc => t = .bool (decide (least < n) && !dl) ∧ w = wc)
          case first =>
            by_cases t1 : least < n
            · have q' := (HC.out least (by rw [HLD.out]; omega)).2.2
              rw [← Hdl.out] at q'
              clear Hdl HC HLD HLW r1 r2 hd'
              have g3 : (least : Int) < (n : Int) := by omega
              have g4 : (least : Int) < (n : Int) := by omega
              cases dl
              all_goals
                go_wp2
                go_meet
                case rel => simp [t1]
            · have g3 : ¬ (least : Int) < (n : Int) := by omega
              clear Hdl HC HLD HLW r1 r2 hd'
              go_wp2
              go_meet
              case rel => simp [t1]
          case rest =>
          obtain ⟨rfl, rfl⟩ := hcut
          cases hB : (decide (least < n) && !dl) with
          | true =>
            clear hB
            go_wp2
            go_ret
            exact ⟨rfl, Below.refl _ _⟩
          | false =>
          clear hB
          go_upto_region 23 with fail
          obtain ⟨dn, hdn⟩ : ∃ dn, dn = D.getD next false := ⟨_, rfl⟩
          have Hdn : Hid _ := hdn
          clear hdn
          go_cut [109] (fun t wc => t = .bool (decide (next < least) && dn) ∧ w = wc)
          case first =>
            by_cases t1 : next < least
            · have q' := (HC.out next (by rw [HLD.out]; omega)).2.2
              rw [← Hdn.out] at q'
              clear Hdn HC HLD HLW r1 r2 hd'
              have g3 : (next : Int) < (least : Int) := by omega
              have g4 : (next : Int) < (n : Int) := by omega
              cases dn
              all_goals
                go_wp2
                go_meet
                case rel => simp [t1]
            · have g3 : ¬ (next : Int) < (least : Int) := by omega
              clear Hdn HC HLD HLW r1 r2 hd'
              go_wp2
              go_meet
              case rel => simp [t1]
          case rest =>
          obtain ⟨rfl, rfl⟩ := hcut
          cases hB : (decide (next < least) && dn) with
          | true =>
            clear hB
            go_wp2
            go_ret
            exact ⟨rfl, Below.refl _ _⟩
          | false =>
          clear hB
          clear q HC Hdl Hdn
          have hW0 : 0 < W.length := by rw [HLW.out]; omega
          have hD0 : 0 < D.length := by rw [HLD.out]; omega
          have HW0 : Hid _ := hW0
          have HD0 : Hid _ := hD0
          clear hW0 hD0
          go_wp2_with fail
          refine (copyInts r1 (Nat.le_refl _) (by rw [HLW.out]; omega)).mono ?_
          rintro e w1 ⟨p1, cw, rfl, o1, bl1⟩
          rw [List.length_map, HLW.out] at o1 ⊢
          obtain ⟨bw, rfl, -, -, hw1, hw2, -, -⟩ := o1.block (by rw [List.length_map]; exact HW0.out)
          go_wp2_with fail
          have z1 := bl1.size
          refine (copyBools (r2.below bl1 (Nat.le_refl _)) z1 (by rw [HLD.out]; omega)).mono ?_
          rintro e w2 ⟨p2, cd, rfl, o2, bl2⟩
          rw [List.length_map, HLD.out] at o2 ⊢
          obtain ⟨bd, rfl, -, -, hd1, hd2, -, -⟩ := o2.block (by rw [List.length_map]; exact HD0.out)
          have z2 := bl2.size
          have hbw : Below w.heap.size w w2 := bl1.trans (bl2.mono z1)
          have L0 := LW.copies (base := base) (next := next) (least := least) (halt := halt) (by omega) HLW.out HLD.out (o1.below bl2 (Nat.le_refl _)) o2 z2 (Nat.le_refl _)
          obtain ⟨L0, y1, y2⟩ := L0
          clear o1 o2 bl1 bl2
          go_wp2_with fail
          refine new_lone.mono ?_
          rintro e w3 ⟨rfl, rfl⟩
          have hb3 : Below w.heap.size w _ := hbw.alloc (by omega) (.cells #[.int .i32 0, .int .u32 0, .pointer none, .int .i64 base, .int .i64 next, .slice (some ⟨bw, 0, none⟩) n cw, .slice (some ⟨bd, 0, none⟩) n cd, .int .i64 least, .bool halt] 56)
          obtain ⟨L, hL⟩ : ∃ L, L = if found = true ∧ i < least then i else least := ⟨_, rfl⟩
          have hLn : L ≤ least := by rw [hL]; split <;> omega
          have hNL : next ≤ L := by rw [hL]; split <;> omega
          have HL : Hid _ := hL
          clear hL
          go_wp2_with fail
          refine (zz_finish L0 i hi v found hn (by omega) h2 L HL.out).mono ?_
          rintro e w4 ⟨rfl, ho, L1⟩
          have hb4 : Below w.heap.size w w4 := hb3.trans (ho.below (by omega) (by omega) (by omega))
          have zo := ho.size
          have zo' : w4.heap.size = w2.heap.size + 1 := by rw [zo]; simp
          clear L0 ho hb3 zo hbw
          obtain ⟨m, he, a1, a2, a3⟩ := adv_spec (W.set i v) (D.set i true) L n base next (by omega)
          rw [he] at L1
          have hGL : next + m ≤ L := a2 hNL
          have A1 : Hid _ := a1
          have A3 : Hid _ := a3
          clear he a1 a2 a3
          obtain ⟨T, hT⟩ : ∃ T, T = sumTo (W.set i v) base next m := ⟨_, rfl⟩
          obtain ⟨G, hG⟩ : ∃ G, G = next + m := ⟨_, rfl⟩
          have L2 : LW w2.heap.size bw bd n cw cd 0 T G (W.set i v) (D.set i true) L halt w4 := by rw [hT, hG]; exact L1
          have HG : Hid _ := hG
          have hGn : next ≤ G ∧ G ≤ L := by omega
          clear hG hGL
          have HT : Hid _ := hT
          have HZ : Hid _ := zo'
          have y3 : w2.heap.size < w4.heap.size := by omega
          clear hT L1 zo'
          go_wp2_with fail
          refine (lone_fields L2).mono ?_
          rintro e w' ⟨rfl, mm, rfl⟩
          go_wp2_with fail
          have D0 : Below w4.heap.size w4 (w4.drewN mm) := below_drewN (Below.refl _ _) mm
          refine (copyInts (r1.below (hb4.trans (D0.mono hb4.size)) (Nat.le_refl _)) hb4.size (by rw [HLW.out]; omega)).mono ?_
          rintro e w6 ⟨p6, c6, rfl, o6, bl6⟩
          rw [List.length_map, HLW.out] at o6 ⊢
          obtain ⟨b6, rfl, -, -, h61, h62, -, f6⟩ := o6.block (by rw [List.length_map]; exact HW0.out)
          have q6 := o6.ints i (by rw [HLW.out]; exact hi)
          have F6 := f6 i
          have S6 := o6.set i (by rw [List.length_map, HLW.out]; exact hi) (.int .i64 v)
          rw [← List.map_set] at S6
          have bl6' : Below w4.heap.size w4 w6 := D0.trans bl6
          have z6 := bl6'.size
          have hb6 : Below w.heap.size w (w6.setCell ⟨b6, i, none⟩ (.int .i64 v)) := (hb4.trans (bl6'.mono hb4.size)).setCell (by show w.heap.size ≤ b6; have := hb4.size; have : w4.heap.size ≤ b6 := h61; omega) _
          have L3 := (L2.keep bl6' y3 (by omega) (by omega)).keep (S6.2.below (Nat.le_refl _)) y3 (by show bw < w4.heap.size; omega) (by show bd < w4.heap.size; omega)
          obtain ⟨O6, K6⟩ := S6
          have Z6 := K6.size
          clear o6 bl6 bl6' f6 L2 D0
          have h61' : w4.heap.size ≤ b6 := h61
          clear h61
          go_wp2_with fail
          generalize w6.setCell ⟨b6, i, none⟩ (Value.int .i64 v) = w7 at *
          refine (copyBools (r2.below hb6 (Nat.le_refl _)) hb6.size (by rw [HLD.out]; omega)).mono ?_
          rintro e w8 ⟨p8, c8, rfl, o8, bl8⟩
          rw [List.length_map, HLD.out] at o8 ⊢
          obtain ⟨b8, rfl, -, -, h81, h82, -, f8⟩ := o8.block (by rw [List.length_map]; exact HD0.out)
          have q8 := o8.bools i (by rw [HLD.out]; exact hi)
          have F8 := f8 i
          have S8 := o8.set i (by rw [List.length_map, HLD.out]; exact hi) (.bool true)
          rw [← List.map_set] at S8
          obtain ⟨O8, K8⟩ := S8
          have K8b := K8.below (Nat.le_refl _)
          have z8 := bl8.size
          have hb8 := (hb6.trans (bl8.mono hb6.size)).trans (K8b.mono hb6.size)
          have L4 := (L3.keep bl8 (by omega) (by omega) (by omega)).keep K8b (by omega) (by omega) (by omega)
          have O7 := (O6.below bl8 (by omega)).kept K8 (.inl (by omega))
          clear o8 bl8 f8 L3 O6 K6 K8 hb6 q6 F6 K8b hb4
          go_upto_region 35 with fail
          generalize w8.setCell ⟨b8, i, none⟩ (Value.bool true) = w9 at *
          clear q8 F8
          go_cut [152] (fun t wc => t = .bool (found && decide (i < least)) ∧ w9 = wc)
          case first =>
            cases found
            · go_wp2
              go_meet
              case rel => simp
            · by_cases t1 : i < least
              · have g3 : (i : Int) < (least : Int) := by omega
                go_wp2
                go_meet
                case rel => simp [t1]
              · have g3 : ¬ (i : Int) < (least : Int) := by omega
                go_wp2
                go_meet
                case rel => simp [t1]
          case rest =>
          obtain ⟨rfl, rfl⟩ := hcut
          go_upto_if 152 with fail
          go_cut [32] (fun t wc => t = .int .i64 L ∧ w9 = wc)
          case first =>
            cases hB : (found && decide (i < least)) with
            | true =>
              have e : L = i := by rw [HL.out, if_pos (by simpa using hB)]
              clear hB
              go_wp2
              go_meet
              case rel => rw [e]; exact ⟨rfl, rfl⟩
            | false =>
              have e : L = least := by rw [HL.out, if_neg (by simpa using hB)]
              clear hB
              go_wp2
              go_meet
              case rel => rw [e]; exact ⟨rfl, rfl⟩
          case rest =>
          obtain ⟨rfl, rfl⟩ := hcut
          have g5 : (halt != halt) = false := by simp
          go_wp2_with fail
          refine (sameInts L4.rdW O7.rd (by rw [List.length_set, HLW.out]; omega)).mono ?_
          rintro e w' ⟨rfl, g6, rfl⟩
          go_wp2_with fail
          have L5 := L4.drewN g6
          have O9 : Own w7.heap.size w8.heap.size (w9.drewN g6) (.slice (some ⟨b8, 0, none⟩) n c8) false ((D.set i true).map Value.bool) := O8.keep fun _ _ _ => rfl
          refine (sameBools L5.rdD O9.rd (by rw [List.length_set, HLD.out]; omega)).mono ?_
          rintro e w' ⟨rfl, g7, rfl⟩
          clear L4 L5 O9
          have hG1 : (next : Int) ≤ (G : Int) := by omega
          have hG2 : (G : Int) ≤ (L : Int) := by omega
          go_wp2
          go_loop [33, 34] (fun t j => ∃ (p : Nat) (y : Int), next + p ≤ G ∧ j = .int .i64 ((next + p : Nat) : Int) ∧ t = .int .i64 y ∧ Hid (y = sumTo (W.set i v) base next p)) (fun _ j => G - (intOf j).toNat)
          case atStart => exact ⟨0, _, by omega, rfl, rfl, rfl⟩
          case round =>
            obtain ⟨p, y, hp, rfl, rfl, hy⟩ := hrel
            obtain ⟨Y, hY⟩ : ∃ Y, Y = next + p := ⟨_, rfl⟩
            rw [← hY] at hp ⊢
            have HY : Hid _ := hY
            clear hY
            by_cases hpG : Y < G
            · have k1 := O7.ints Y (by rw [List.length_set, HLW.out]; omega)
              have k2 := O8.bools Y (by rw [List.length_set, HLD.out]; omega)
              rw [A1.out Y (by have := HY.out; omega) (by have := HG.out; omega)] at k2
              obtain ⟨z, hz⟩ : ∃ z, z = (W.set i v).getD Y 0 := ⟨_, rfl⟩
              rw [← hz] at k1
              have hy2 : Hid (wrap64 (y + z) = sumTo (W.set i v) base next (p + 1)) := by
                show wrap64 (y + z) = _
                rw [sumTo, ← hy.out, ← HY.out, ← hz]
              clear hz
              have j1 : (Y : Int) < (G : Int) := by omega
              have j2 : (Y : Int) < (n : Int) := by omega
              go_wp2
              go_round
              case rel => exact ⟨p + 1, _, by have := HY.out; omega, by rw [show next + (p + 1) = Y + 1 by have := HY.out; omega]; go_num, rfl, hy2⟩
              case measure => simp [intOf]; omega
            · have e1 : Y = G := by omega
              have e2 : y = T := by
                have h1 := HY.out
                have h2 := HG.out
                rw [HT.out, hy.out, show p = m by omega]
              rw [e2]
              clear hy e2 e1
              have g8 : (T == T) = true := by simp
              by_cases hGL' : G < L
              · have k2 := O8.bools G (by rw [List.length_set, HLD.out]; omega)
                have h2 := HG.out
                rw [show (D.set i true).getD G false = false by rw [h2]; exact A3.out (by omega)] at k2
                clear h2
                have j1 : (G : Int) < (L : Int) := by omega
                have j2 : (G : Int) < (n : Int) := by omega
                go_wp2
                go_ret
                exact ⟨rfl, below_drewN hb8 _⟩
              · have j1 : ¬ (G : Int) < (L : Int) := by omega
                go_wp2
                go_ret
                exact ⟨rfl, below_drewN hb8 _⟩
#print axioms main5
end Go.Proofs.Qxb6616076a
