/-
  SEAT b6616076a. FnLoneWorkAnyOrderTellsAloneWork (6): the main way.
-/
import Derived.Test.Qxb6616076aPlain6
import Derived.Deep.DeepCutAuto
namespace Go.Proofs.Qxb6616076a
open Go Go.RowKit
set_option linter.unusedVariables false

theorem first_yes {found : List Bool} {m n : Nat} (hm : m < n) (hf : found.getD m false = true) : m = firstOf found ((m : Int) - 1 + 1).toNat (n - ((m : Int) - 1 + 1).toNat) := by
  rw [show ((m : Int) - 1 + 1).toNat = m by omega, show n - m = (n - (m + 1)) + 1 by omega, firstOf, if_pos hf]
theorem first_no {found : List Bool} {m n g : Nat} (hm : m < n) (hf : found.getD m false = false) (hg : g = firstOf found ((m : Int) + 1).toNat (n - ((m : Int) + 1).toNat)) : g = firstOf found ((m : Int) - 1 + 1).toNat (n - ((m : Int) - 1 + 1).toNat) := by
  rw [hg, show ((m : Int) - 1 + 1).toNat = m by omega, show ((m : Int) + 1).toNat = m + 1 by omega, show n - m = (n - (m + 1)) + 1 by omega, firstOf, if_neg (by rw [hf]; simp)]

set_option maxRecDepth 100000 in
set_option maxHeartbeats 4000000 in
theorem main6 {w : World} {base : Int} {x1 x2 x3 : Addr} {n c1 c2 c3 : Nat} {work : List Int} {found : List Bool} {zs : List Int} (hn : n ≤ 32768)
    (lw : work.length = n) (lf : found.length = n) (lz : zs.length = n)
    (r1 : Row w.heap.size w x1 n fun j => .int .i64 (work.getD j 0)) (r2 : Row w.heap.size w x2 n fun j => .bool (found.getD j false)) (r3 : Row w.heap.size w x3 n fun j => .int .i64 (zs.getD j 0)) :
    Calls Try.prog 6 #[.int .i64 base, .slice (some x1) n c1, .slice (some x2) n c2, .slice (some x3) n c3] w fun e w' => e = .returned (.bool true) ∧ Below w.heap.size w w' := by
  have LWL : Hid _ := lw
  have LFL : Hid _ := lf
  have LZL : Hid _ := lz
  clear lw lf lz
  obtain ⟨i0, hi, hz0, hz1, hz2⟩ := info_parts info4
  go_enter Try.func6, Try.ntmps6
  go_wp2_with fail
  refine (bytes23 (by omega) (by omega) (by omega)).mono ?_
  rintro e w' ⟨⟨b, rfl⟩, rfl⟩
  cases b with
  | false =>
    go_wp2
    go_ret
    exact ⟨rfl, Below.refl _ _⟩
  | true =>
    go_wp2_with (at_make; refine wpList_make_full _ rfl _ _ 22 rfl w.heap.size 4 i0 (.bool false) 1 Try.underlying22 hi hz0 hz1 _ _ _ _ n rfl rfl rfl rfl ?c1 ?c2 ?c3 ?_)
    case c1 => rw [hz2]; omega
    case c2 => unfold maxLen; omega
    case c3 => exact Nat.le_refl _
    intro w1 hown hgrow
    have hb1 : Below w.heap.size w w1 := (Below.refl _ _).grown hgrow (Nat.le_refl _) (by simp)
    have hs1 := Chk.start zs n
    have hown1 : w1.ownsRow w.heap.size 4 1 (.slice (some ⟨w.heap.size, 0, none⟩) n n) n ((List.replicate n false).map Value.bool) := by simpa [toList_madeCells_one, Value.cells] using hown
    clear hown hgrow
    go_wp2
    go_loopg [11] n (fun gk i wr => ∃ (k : Nat) (S : List Bool), gk = n - k ∧ k ≤ n ∧ i = .int .i64 k ∧ Below w.heap.size w wr ∧ wr.ownsRow w.heap.size 4 1 (.slice (some ⟨w.heap.size, 0, none⟩) n n) n (S.map Value.bool) ∧ Chk zs n k S)
    case atStart => exact ⟨0, _, by omega, Nat.zero_le _, rfl, hb1, hown1, hs1⟩
    case round =>
      obtain ⟨k, S, hgk, hk, rfl, hnx, hown, hS⟩ := hrel
      have HGK : Hid _ := hgk
      clear hown1 hs1 hb1 hgk
      by_cases hlt : k < n
      · have hc3 := ((r3.below hnx) k hlt).2
        have hv : Hid (∃ z, z = zs.getD k 0) := ⟨_, rfl⟩
        obtain ⟨z, hz⟩ := hv
        rw [← hz] at hc3
        have HZ : Hid (z = zs.getD k 0) := hz
        clear hz
        have h1 : (k : Int) < (n : Int) := by omega
        by_cases hz0' : z < 0
        · go_wp2
          go_ret
          exact ⟨rfl, hnx⟩
        · by_cases hzn : (n : Int) ≤ z
          · go_wp2
            go_ret
            exact ⟨rfl, hnx⟩
          · obtain ⟨m, rfl⟩ : ∃ m : Nat, z = m := ⟨z.toNat, by omega⟩
            have hmn : m < n := by omega
            have hmn' : (m : Int) < (n : Int) := by omega
            have hcs : wr.cell? ⟨w.heap.size, m, none⟩ = some (.bool (S.getD m false)) := by
              rw [hown.cellAt m (by omega)]
              simp [List.getD, show m < S.length by rw [hS.len]; exact hmn]
            have hf := hown.frozenAt m
            cases hsm : S.getD m false with
            | true =>
              rw [hsm] at hcs
              go_wp2
              go_ret
              exact ⟨rfl, hnx⟩
            | false =>
              rw [hsm] at hcs
              have R : Below w.heap.size w (wr.setCell ⟨w.heap.size, m, none⟩ (.bool true)) ∧ (wr.setCell ⟨w.heap.size, m, none⟩ (.bool true)).ownsRow w.heap.size 4 1 (.slice (some ⟨w.heap.size, 0, none⟩) n n) n ((S.set m true).map Value.bool) ∧ Chk zs n (k + 1) (S.set m true) :=
                ⟨hnx.setCell (Nat.le_refl _) _, by rw [List.map_set]; exact (hown.stored m _).1, hS.step hmn HZ.out.symm hsm⟩
              have HR : Hid _ := R
              clear R hsm hown hS
              go_wp2
              go_roundg (n - (k + 1))
              case measure => rw [HGK.out]; omega
              case rel => exact ⟨k + 1, _, rfl, by omega, by go_num, HR.out.1, HR.out.2.1, HR.out.2.2⟩
      · have hfin : Hid (Chk zs n n S) := by
          obtain rfl : k = n := by omega
          exact hS
        have hm36 := run_make_row' (P := Try.prog) 36 3 (.int .i64 0) 8 Try.underlying36 info3 rfl .i64 .i64 n (by omega) (by omega)
        have hm22 := run_make_row' (P := Try.prog) 22 4 (.bool false) 1 Try.underlying22 info4 rfl .i64 .i64 n (by omega) (by omega)
        go_wp2
        clear hown hS HGK
        go_cut [13] (fun l wc => ∃ b bw bd, l = .pointer (some ⟨b, 0, none⟩) ∧ w.heap.size ≤ b ∧ w.heap.size ≤ bw ∧ w.heap.size ≤ bd ∧ LW b bw bd n n n 0 base 0 (List.replicate n 0) (List.replicate n false) n false wc ∧ Below w.heap.size w wc)
        case first =>
          go_region_held3 (fun _ => True) (trivial) (first | (go_at_call 19; refine new_lone.mono ?_; rintro e w' ⟨rfl, rfl⟩))
          all_goals (go_wp2_with fail)
          all_goals go_meet
          case rel => 
            have := hnx.size
            exact ⟨_, _, _, rfl, by omega, by omega, by omega, (made1 wr n base).drew, (((hnx.alloc hnx.size _).alloc (by simp; omega) _).alloc (by simp; omega) _).drew⟩
          case rel => 
            have := hnx.size
            exact ⟨_, _, _, rfl, by omega, by omega, by omega, (made2 wr n base).drew, (((hnx.alloc hnx.size _).alloc (by simp; omega) _).alloc (by simp; omega) _).drew⟩
        case rest =>
          clear hm36 hm22
          obtain ⟨b, bw, bd, rfl, q1, q2, q3, hl, hbw⟩ := hcut
          have hst := St.start work found n base (List.replicate n 0) (List.replicate n false) (by simp) (by simp) (fun j => getD_rep n j false)
          go_wp2
          go_loopg [14] n (fun gk i wz => ∃ (k : Nat) (base' : Int) (next' : Nat) (W : List Int) (D : List Bool) (least : Nat), gk = n - k ∧ k ≤ n ∧ i = .int .i64 k ∧ LW b bw bd n n n 0 base' next' W D least false wz ∧ St work found n base (ordOf zs k) base' next' W D least ∧ Below w.heap.size w wz)
          case atStart => exact ⟨0, _, _, _, _, _, by omega, Nat.zero_le _, rfl, hl, hst, hbw⟩
          case round =>
            clear hl hst hbw hnx
            obtain ⟨k, base', next', W, D, least, hgk, hk, rfl, hl, hst, hbw⟩ := hrel
            have HGK : Hid _ := hgk
            have HST : Hid _ := hst
            clear hgk hst
            by_cases hlt : k < n
            · have hz := (r3.below hbw k hlt).2
              obtain ⟨z0, zn⟩ := hfin.out.rng k hlt
              obtain ⟨m, hm⟩ : ∃ m : Nat, zs.getD k 0 = m := ⟨(zs.getD k 0).toNat, by omega⟩
              rw [hm] at hz
              have hmn : m < n := by omega
              have hfr : m ∉ ordOf zs k := by have := hfin.out.fresh hlt; rw [hm] at this; simpa using this
              have HM : Hid _ := hm
              clear hm z0 zn
              obtain ⟨v, hv⟩ : ∃ v, v = work.getD m 0 := ⟨_, rfl⟩
              obtain ⟨f, hf⟩ : ∃ f, f = found.getD m false := ⟨_, rfl⟩
              have k1 := (r1.below hbw m hmn).2
              have k2 := (r2.below hbw m hmn).2
              rw [← hv] at k1
              rw [← hf] at k2
              have HV : Hid _ := hv
              have HF : Hid _ := hf
              clear hv hf
              have h1 : (k : Int) < (n : Int) := by omega
              have h2 : (m : Int) < (n : Int) := by omega
              have HFR : Hid _ := hfr
              clear hfr
              go_wp2
              go_region_held3 (fun w' => w'.cell? (x1.add m) = some (.int .i64 v) ∧ w'.cell? (x2.add m) = some (.bool f)) (go_keep)
                (first | (go_at_call 20; refine (zz_finish hl.drew m hmn v f (by omega) (Nat.le_trans HST.out.n0 HST.out.l0) HST.out.l0 _ rfl).mono ?_; rintro e w2 ⟨rfl, ho, hl2⟩; have hb2 := hbw.drew.trans (ho.below q1 q2 q3); have k1' := (r1.below hb2 m hmn).2; have k2' := (r2.below hb2 m hmn).2; rw [← HV.out] at k1'; rw [← HF.out] at k2'))
              have hl3 := hl2
              rw [HV.out, HF.out] at hl3
              have HST2 : Hid _ := HST.out.step m hmn HFR.out _ rfl
              clear hl2 k1 k2 k1' k2' hl HST
              go_wp2
              go_roundg (n - (k + 1))
              case measure => rw [HGK.out]; omega
              case rel =>
                refine ⟨k + 1, _, _, _, _, _, rfl, by omega, by go_num, hl3, ?_, hb2⟩
                have := HST2.out
                rw [ordOf, HM.out]
                simpa using this
            · obtain ⟨e1, e2, e3, e4, e5⟩ := HST.out.finish (fun x hx => by have ek : k = n := (by omega); rw [ek]; exact hfin.out.all x hx)
              clear HST HGK
              obtain ⟨F, hF⟩ : ∃ F, F = firstOf found 0 n := ⟨_, rfl⟩
              rw [← hF] at e1 e2 e3
              have hFn : F ≤ n := by have := (firstOf_spec found n 0).2.1; omega
              have HF : Hid _ := hF
              clear hF
              obtain ⟨T, hT⟩ : ∃ T, T = sumTo work base 0 F := ⟨_, rfl⟩
              rw [← hT] at e3
              rw [e1, e2, e3] at hl
              clear e1 e2 e3
              have HT : Hid _ := hT
              have HE4 : Hid _ := e4
              have HE5 : Hid _ := e5
              clear e4 e5 hT
              go_wp2
              go_loop [16, 17] (fun f j => ∃ (q : Int) (g : Nat), -1 ≤ q ∧ q < n ∧ j = .int .i64 q ∧ f = .int .i64 g ∧ Hid (g = firstOf found (q + 1).toNat (n - (q + 1).toNat))) (fun _ j => (intOf j + 1).toNat)
              case atStart => exact ⟨_, n, by omega, by omega, rfl, rfl, by show n = _; rw [show ((n : Int) - 1 + 1).toNat = n by omega, Nat.sub_self]; rfl⟩
              case round =>
                obtain ⟨q, g, hq1, hq2, rfl, rfl, hg⟩ := hrel
                by_cases hq : q < 0
                · have hgF : g = F := by
                    rw [HF.out, hg.out, show (q + 1).toNat = 0 by omega, Nat.sub_zero]
                  rw [hgF]
                  clear hg hgF
                  go_wp2
                  go_loop [18, 19] (fun t j => ∃ (p : Nat) (y : Int), p ≤ F ∧ j = .int .i64 p ∧ t = .int .i64 y ∧ Hid (y = sumTo work base 0 p)) (fun _ j => F - (intOf j).toNat)
                  case atStart => exact ⟨0, _, Nat.zero_le _, rfl, rfl, rfl⟩
                  case round =>
                    obtain ⟨p, y, hp, rfl, rfl, hy⟩ := hrel
                    by_cases hpF : p < F
                    · have hpn : p < n := by omega
                      have k1 := (r1.below hbw p hpn).2
                      obtain ⟨v, hv⟩ : ∃ v, v = work.getD p 0 := ⟨_, rfl⟩
                      rw [← hv] at k1
                      have hy2 : Hid (wrap64 (y + v) = sumTo work base 0 (p + 1)) := by
                        show wrap64 (y + v) = _
                        rw [sumTo, ← hy.out, Nat.zero_add, ← hv]
                      clear hv
                      have g1 : (p : Int) < (F : Int) := by omega
                      have g2 : (p : Int) < (n : Int) := by omega
                      go_wp2
                      go_round
                      case rel => exact ⟨p + 1, _, by omega, by go_num, rfl, hy2⟩
                      case measure => simp [intOf]; omega
                    · have hyT : y = T := by rw [HT.out, hy.out, show p = F by omega]
                      rw [hyT]
                      clear hy hyT
                      go_wp2_with fail
                      refine (lone_fields hl).mono ?_
                      rintro e w' ⟨rfl, mm, rfl⟩
                      go_wp2
                      go_loopw [26] (fun i wz => ∃ (p m : Nat), p ≤ n ∧ i = .int .i64 p ∧ wz = wr.drewN m) (fun i _ => n - (intOf i).toNat)
                      case atStart => exact ⟨0, mm, Nat.zero_le _, rfl, rfl⟩
                      case round =>
                        obtain ⟨p, m, hp, rfl, rfl⟩ := hrel
                        by_cases hpn : p < n
                        · have k1 := (r1.below hbw p hpn).2
                          have k2 := hl.cW p hpn
                          have k3 := hl.cD p hpn
                          rw [HE4.out p hpn] at k2
                          rw [HE5.out p hpn] at k3
                          obtain ⟨v, hv⟩ : ∃ v, v = work.getD p 0 := ⟨_, rfl⟩
                          rw [← hv] at k1 k2
                          clear hv
                          have g2 : (p : Int) < (n : Int) := by omega
                          have g3 : (v != v) = false := by simp
                          go_wp2
                          go_quiet (fail)
                          go_wp2
                          go_roundw
                          case rel => exact ⟨p + 1, _, by omega, by go_num, rfl⟩
                          case measure => simp [intOf]; omega
                        · go_wp2
                          go_ret
                          exact ⟨rfl, below_drewN hbw m⟩
                · obtain ⟨m, rfl⟩ : ∃ m : Nat, q = m := ⟨q.toNat, by omega⟩
                  have hmn : m < n := by omega
                  have k2 := (r2.below hbw m hmn).2
                  cases hf : found.getD m false with
                  | true =>
                    rw [hf] at k2
                    have hg2 : Hid _ := first_yes hmn hf
                    clear hf
                    go_wp2
                    go_round
                    case rel => exact ⟨_, m, by omega, by omega, rfl, rfl, hg2⟩
                    case measure => simp [intOf]
                  | false =>
                    rw [hf] at k2
                    have hg2 : Hid _ := first_no hmn hf hg.out
                    clear hf
                    go_wp2
                    go_round
                    case rel => exact ⟨_, g, by omega, by omega, rfl, rfl, hg2⟩
                    case measure => simp [intOf]
end Go.Proofs.Qxb6616076a
