/-
  SEAT b6616170a. The strict reader's containers: zzJSContainer (17), and with it zzJSValue (25).
-/
import Derived.Test.Qxb6616170aValue
import Derived.OwnWalk
namespace Go.Proofs.Qxb6616170a
open Go Go.RowKit
set_option linter.unusedVariables false

theorem PreB.neutral : ∀ {segs : List (List Int)} {P : List Int}, PreB segs P → Neutral P
  | [], _, h => by
    have h' : _ = [] := h
    subst h'
    exact Neutral.nil
  | s :: rest, _, ⟨wA, wB, P', h1, h2, h3, h4, h5⟩ => by
    rw [h1]
    refine h4.neutral.append (h2.neutral.append ?_)
    have : Neutral [44] := Neutral.plain (by omega) (by omega) (by omega) (by omega) (by omega)
    exact this.append (x := [44]) (h3.neutral.append h5.neutral)
theorem Body.neutral : ∀ {segs : List (List Int)} {B : List Int}, Body segs B → Neutral B
  | [], _, h => h.elim
  | [s], _, ⟨w2, h1, h2, h3⟩ => by rw [h1]; exact h3.neutral.append h2.neutral
  | s :: s' :: rest, _, ⟨wA, wB, B', h1, h2, h3, h4, h5⟩ => by
    rw [h1]
    refine h4.neutral.append (h2.neutral.append ?_)
    have : Neutral [44] := Neutral.plain (by omega) (by omega) (by omega) (by omega) (by omega)
    exact this.append (x := [44]) (h3.neutral.append h5.neutral)
theorem ArrText.box {segs : List (List Int)} {s : List Int} (h : ArrText segs s) : Box s := by
  obtain ⟨ws0, B, rfl, h1, h2⟩ := h
  refine ⟨91, ws0 ++ B, 93, by simp, .inl rfl, .inl rfl, h1.neutral.append ?_⟩
  rcases h2 with ⟨_, rfl⟩ | h2
  · exact Neutral.nil
  · exact h2.neutral

/-- What stands between the opening bracket at i and place m. -/
def AInv (t : List Int) (i m cnt : Nat) : Prop := ∃ ws0 P segs, Seg t i m (91 :: (ws0 ++ P)) ∧ AllWs ws0 ∧ PreB segs P ∧ segs.length = cnt
theorem AInv.start {t : List Int} {i m : Nat} {s : List Int} (h0 : i < t.length) (h1 : t.getD i 0 = 91) (h2 : Seg t (i + 1) m s) (h3 : AllWs s) : AInv t i m 0 := by
  refine ⟨s, [], [], ?_, h3, rfl, rfl⟩
  have := Seg.one h0
  rw [h1] at this
  rw [List.append_nil]
  exact this.trans h2
theorem AInv.next {t : List Int} {i m ve m2 m3 cnt : Nat} {s wA wB : List Int} (h : AInv t i m cnt) (h1 : Seg t m ve s) (h2 : Val s) (h3 : Seg t ve m2 wA) (h4 : AllWs wA) (h5 : m2 < t.length) (h6 : t.getD m2 0 = 44) (h7 : Seg t (m2 + 1) m3 wB) (h8 : AllWs wB) : AInv t i m3 (cnt + 1) := by
  obtain ⟨ws0, P, segs, k1, k2, k3, k4⟩ := h
  refine ⟨ws0, P ++ (s ++ (wA ++ 44 :: wB)), segs ++ [s], ?_, k2, k3.snoc h2 h4 h8, by simp [k4]⟩
  have c := Seg.one h5
  rw [h6] at c
  have := (((k1.trans h1).trans h3).trans c).trans h7
  simpa using this
theorem AInv.close {t : List Int} {i m ve m2 cnt : Nat} {s wA : List Int} (h : AInv t i m cnt) (h1 : Seg t m ve s) (h2 : Val s) (h3 : Seg t ve m2 wA) (h4 : AllWs wA) (h5 : m2 < t.length) (h6 : t.getD m2 0 = 93) : ∃ r segs, Seg t i (m2 + 1) r ∧ segs.length = cnt + 1 ∧ ArrText segs r := by
  obtain ⟨ws0, P, segs, k1, k2, k3, k4⟩ := h
  refine ⟨91 :: (ws0 ++ ((P ++ (s ++ wA)) ++ [93])), segs ++ [s], ?_, by simp [k4], ws0, P ++ (s ++ wA), rfl, k2, .inr (k3.body h2 h4)⟩
  have c := Seg.one h5
  rw [h6] at c
  have := ((k1.trans h1).trans h3).trans c
  simpa using this
theorem arr_empty {t : List Int} {i m : Nat} {s : List Int} (h0 : i < t.length) (h1 : t.getD i 0 = 91) (h2 : Seg t (i + 1) m s) (h3 : AllWs s) (h5 : m < t.length) (h6 : t.getD m 0 = 93) : ∃ r, Seg t i (m + 1) r ∧ ArrText [] r := by
  refine ⟨91 :: (s ++ ([] ++ [93])), ?_, s, [], rfl, h3, .inl ⟨rfl, rfl⟩⟩
  have a := Seg.one h0
  rw [h1] at a
  have c := Seg.one h5
  rw [h6] at c
  have := (a.trans h2).trans c
  simpa using this
theorem Val.ne {s : List Int} (h : Val s) : 0 < s.length := by
  obtain ⟨c, r, rfl, _⟩ := h.head
  simp


/-- .. of an object. -/
def OInv (t : List Int) (i m : Nat) : Prop := ∃ P, Seg t i m (123 :: P) ∧ Neutral P
theorem OInv.ext {t : List Int} {i m m' : Nat} {s : List Int} (h : OInv t i m) (h1 : Seg t m m' s) (h2 : Neutral s) : OInv t i m' := by
  obtain ⟨P, k1, k2⟩ := h
  exact ⟨P ++ s, by simpa using k1.trans h1, k2.append h2⟩
theorem OInv.byte {t : List Int} {i m : Nat} (h : OInv t i m) (hm : m < t.length) {z : Int} (hz : z = t.getD m 0) (h1 : z = 44 ∨ z = 58) : OInv t i (m + 1) := by
  have := Seg.one hm
  rw [← hz] at this
  exact h.ext this (Neutral.plain (by omega) (by omega) (by omega) (by omega) (by omega))
theorem OInv.start {t : List Int} {i m : Nat} {s : List Int} (h0 : i < t.length) (h1 : t.getD i 0 = 123) (h2 : Seg t (i + 1) m s) (h3 : AllWs s) : OInv t i m := by
  refine ⟨s, ?_, h3.neutral⟩
  have := Seg.one h0
  rw [h1] at this
  exact this.trans h2
theorem OInv.close {t : List Int} {i m : Nat} (h : OInv t i m) (h5 : m < t.length) (h6 : t.getD m 0 = 125) : ∃ r, Seg t i (m + 1) r ∧ Box r := by
  obtain ⟨P, k1, k2⟩ := h
  have c := Seg.one h5
  rw [h6] at c
  exact ⟨123 :: (P ++ [125]), by simpa using k1.trans c, 123, P, 125, rfl, .inr rfl, .inr rfl, k2⟩

set_option maxRecDepth 100000 in
set_option maxHeartbeats 1000000 in
theorem js_array_of {w : World} {x : Addr} {t : List Int} {n c : Nat} (ht : Txt w x t) (hn : n ≤ 4194304) (lt : t.length = n) (i : Nat) (hi : i < n) (h91 : t.getD i 0 = 91)
    (hv : ∀ (i' : Nat) (w : World), i < i' → i' ≤ n → Txt w x t → Calls Try.prog 25 #[.slice (some x) n c, .int .i64 i'] w fun e w' => ValPost t i' w e w') :
    Calls Try.prog 17 #[.slice (some x) n c, .int .i64 i, .bool false] w fun e w' => BoxPost t i w e w' := by
  have HL : Hid (t.length = n) := lt
  have H91 : Hid (t.getD i 0 = 91) := h91
  have q := ht i (by rw [HL.out]; exact hi)
  rw [h91] at q
  have g1 : (i : Int) < (n : Int) := by omega
  have HV : Hid _ := hv
  clear lt h91 hv
  go_enter Try.func17, Try.ntmps17
  go_wp2_with fail
  refine (js_ws ht hn HL.out (i + 1) hi).mono ?_
  rintro e w' ⟨m, s, rfl, rfl, hs, hws⟩
  have hm0 := hs.1
  have hmn : m ≤ n := by rw [← HL.out]; exact hs.2.1
  have A0 : Hid (AInv t i m 0) := AInv.start (by rw [HL.out]; exact hi) H91.out hs hws
  have E0 : m < n → t.getD m 0 = 93 → Hid (∃ r, Seg t i (m + 1) r ∧ ArrText [] r) := fun a b => arr_empty (by rw [HL.out]; exact hi) H91.out hs hws (by rw [HL.out]; exact a) b
  clear hs hws
  by_cases c0 : m < n ∧ t.getD m 0 = 93
  · obtain ⟨hm, h93⟩ := c0
    have E := E0 hm h93
    have q2 := ht m (by rw [HL.out]; exact hm)
    rw [h93] at q2
    have g2 : (m : Int) < (n : Int) := by omega
    clear E0 h93 A0 HV ht
    go_wp2
    go_ret3
    obtain ⟨r, r1, r2⟩ := E.out
    exact ⟨_, _, 0, rfl, rfl, .inr ⟨m + 1, r, by go_num, r1, r2.box, fun _ => ⟨[], rfl, r2⟩⟩⟩
  · clear E0
    go_upto_region 8 with fail
    go_cut [36] (fun v wc => v = .bool false ∧ w = wc)
    case first =>
      by_cases hm : m < n
      · have q2 := ht m (by rw [HL.out]; exact hm)
        obtain ⟨z, hz⟩ : ∃ z, z = t.getD m 0 := ⟨_, rfl⟩
        rw [← hz] at q2 c0
        have hb : (z == 93) = false := by
          simp only [hm, true_and] at c0
          simp [c0]
        have g2 : (m : Int) < (n : Int) := by omega
        clear c0 hz HV A0 ht
        go_wp2
        go_meet
        case rel => exact ⟨rfl, rfl⟩
      · clear c0 HV A0 ht
        go_wp2
        go_meet
        case rel => exact ⟨rfl, rfl⟩
    case rest =>
      obtain ⟨rfl, rfl⟩ := hcut
      clear c0 q
      go_wp2
      go_loopw [1, 11, 12] (fun v nn bb wr => ∃ m cnt d : Nat, v = .int .i64 m ∧ nn = .int .i64 cnt ∧ bb = .slice none 0 0 ∧ wr = w.drewN d ∧ i < m ∧ m ≤ n ∧ cnt ≤ m ∧ Hid (AInv t i m cnt)) (fun v _ _ _ => n - (intOf v).toNat)
      case atStart => exact ⟨m, 0, 0, rfl, rfl, rfl, rfl, by omega, hmn, by omega, A0⟩
      case round =>
        clear A0 hm0 hmn
        obtain ⟨m, cnt, d, rfl, rfl, rfl, rfl, h1, h2, h3, A⟩ := hrel
        go_wp2_with fail
        refine (HV.out m _ h1 h2 (ht.drewN d)).mono ?_
        rintro e w' ⟨z, d', rfl, rfl, hz⟩
        have HZ : Hid (z = -1 ∨ ∃ (j : Nat) (s : List Int), z = j ∧ Seg t m j s ∧ Val s) := hz
        clear hz
        rcases HZ.out with rfl | ⟨j, s, rfl, s1, s2⟩
        · clear HZ A HV ht
          go_wp2
          go_ret3
          exact ⟨_, _, d + d', rfl, by first | rfl | simp, .inl rfl⟩
        · clear HZ
          have hjn : j ≤ n := by rw [← HL.out]; exact s1.2.1
          have hmj : m < j := by
            have := s1.length
            have := s2.ne
            omega
          have HS : Hid (Seg t m j s ∧ Val s) := ⟨s1, s2⟩
          clear s1 s2
          go_wp2_with fail
          refine (js_ws (ht.drewN (d + d')) hn HL.out j hjn).mono ?_
          rintro e w' ⟨m2, wA, rfl, rfl, k1, k2⟩
          have HA : Hid (Seg t j m2 wA ∧ AllWs wA) := ⟨k1, k2⟩
          have hm2 : m2 ≤ n := by rw [← HL.out]; exact k1.2.1
          have hjm := k1.1
          clear k1 k2
          by_cases hlt : m2 < n
          · have q3 := ht m2 (by rw [HL.out]; exact hlt)
            have g3 : (m2 : Int) < (n : Int) := by omega
            obtain ⟨z, hz⟩ : ∃ z, z = t.getD m2 0 := ⟨_, rfl⟩
            rw [← hz] at q3
            have HZ : Hid (z = t.getD m2 0) := hz
            clear hz
            by_cases a1 : z = 93
            · subst a1
              have fin : Hid (∃ r segs, Seg t i (m2 + 1) r ∧ segs.length = cnt + 1 ∧ ArrText segs r) := A.out.close HS.out.1 HS.out.2 HA.out.1 HA.out.2 (by rw [HL.out]; exact hlt) HZ.out.symm
              clear A HS HA HZ HV ht
              go_wp2
              go_ret3
              obtain ⟨r, segs, f1, f2, f3⟩ := fin.out
              exact ⟨_, _, d + d', rfl, by first | rfl | simp, .inr ⟨m2 + 1, r, by go_num, f1, f3.box, fun _ => ⟨segs, by rw [f2]; go_num, f3⟩⟩⟩
            · have b1 : (z == 93) = false := by simp [a1]
              by_cases a2 : z = 44
              · subst a2
                go_wp2_with fail
                refine (js_ws (ht.drewN (d + d')) hn HL.out (m2 + 1) hlt).mono ?_
                rintro e w' ⟨m3, wB, rfl, rfl, k1, k2⟩
                have nx : Hid (AInv t i m3 (cnt + 1)) := A.out.next HS.out.1 HS.out.2 HA.out.1 HA.out.2 (by rw [HL.out]; exact hlt) HZ.out.symm k1 k2
                have hm3 : m3 ≤ n := by rw [← HL.out]; exact k1.2.1
                have hjm3 := k1.1
                clear k1 k2 A HS HA HZ HV ht
                go_wp2
                go_roundw
                case rel => exact ⟨m3, cnt + 1, d + d', rfl, by go_num, rfl, rfl, by omega, hm3, by omega, nx⟩
                case measure => simp [intOf]; omega
              · have b2 : (z != 44) = true := by simp [a2]
                clear a1 a2 A HS HA HZ HV ht
                go_wp2
                go_ret3
                exact ⟨_, _, d + d', rfl, by first | rfl | simp, .inl rfl⟩
          · clear A HS HA HV ht
            go_wp2
            go_ret3
            exact ⟨_, _, d + d', rfl, by first | rfl | simp, .inl rfl⟩

set_option maxRecDepth 100000 in
set_option maxHeartbeats 1000000 in
theorem js_object_of {w : World} {x : Addr} {t : List Int} {n c : Nat} (ht : Txt w x t) (hn : n ≤ 4194304) (lt : t.length = n) (i : Nat) (hi : i < n) (h123 : t.getD i 0 = 123)
    (hv : ∀ (i' : Nat) (w : World), i < i' → i' ≤ n → Txt w x t → Calls Try.prog 25 #[.slice (some x) n c, .int .i64 i'] w fun e w' => ValPost t i' w e w') :
    Calls Try.prog 17 #[.slice (some x) n c, .int .i64 i, .bool false] w fun e w' => BoxPost t i w e w' := by
  have HL : Hid (t.length = n) := lt
  have H123 : Hid (t.getD i 0 = 123) := h123
  have NO : Hid (∀ {p : Prop}, t.getD i 0 = 91 → p) := fun h => by rw [h123] at h; cases h
  have q := ht i (by rw [HL.out]; exact hi)
  rw [h123] at q
  have g1 : (i : Int) < (n : Int) := by omega
  have HV : Hid _ := hv
  clear lt h123 hv
  go_enter Try.func17, Try.ntmps17
  go_wp2_with fail
  refine (js_ws ht hn HL.out (i + 1) hi).mono ?_
  rintro e w' ⟨m, s, rfl, rfl, hs, hws⟩
  have hm0 := hs.1
  have hmn : m ≤ n := by rw [← HL.out]; exact hs.2.1
  have A0 : Hid (OInv t i m) := OInv.start (by rw [HL.out]; exact hi) H123.out hs hws
  clear hs hws
  by_cases c0 : m < n ∧ t.getD m 0 = 125
  · obtain ⟨hm, h93⟩ := c0
    have E : Hid (∃ r, Seg t i (m + 1) r ∧ Box r) := A0.out.close (by rw [HL.out]; exact hm) h93
    have q2 := ht m (by rw [HL.out]; exact hm)
    rw [h93] at q2
    have g2 : (m : Int) < (n : Int) := by omega
    clear h93 A0 HV ht
    go_wp2
    go_ret3
    obtain ⟨r, r1, r2⟩ := E.out
    exact ⟨_, _, 0, rfl, rfl, .inr ⟨m + 1, r, by go_num, r1, r2, NO.out⟩⟩
  · go_upto_region 8 with fail
    go_cut [36] (fun v wc => v = .bool false ∧ w = wc)
    case first =>
      by_cases hm : m < n
      · have q2 := ht m (by rw [HL.out]; exact hm)
        obtain ⟨z, hz⟩ : ∃ z, z = t.getD m 0 := ⟨_, rfl⟩
        rw [← hz] at q2 c0
        have hb : (z == 125) = false := by
          simp only [hm, true_and] at c0
          simp [c0]
        have g2 : (m : Int) < (n : Int) := by omega
        clear c0 hz HV A0 ht
        go_wp2
        go_meet
        case rel => exact ⟨rfl, rfl⟩
      · clear c0 HV A0 ht
        go_wp2
        go_meet
        case rel => exact ⟨rfl, rfl⟩
    case rest =>
      obtain ⟨rfl, rfl⟩ := hcut
      clear c0 q
      go_wp2
      go_loopw [1, 11, 12] (fun v nn bb wr => ∃ m cnt d : Nat, v = .int .i64 m ∧ nn = .int .i64 cnt ∧ bb = .slice none 0 0 ∧ wr = w.drewN d ∧ i < m ∧ m ≤ n ∧ cnt ≤ m ∧ Hid (OInv t i m)) (fun v _ _ _ => n - (intOf v).toNat)
      case atStart => exact ⟨m, 0, 0, rfl, rfl, rfl, rfl, by omega, hmn, by omega, A0⟩
      case round =>
        clear A0 hm0 hmn
        obtain ⟨m, cnt, d, rfl, rfl, rfl, rfl, h1, h2, h3, A⟩ := hrel
        by_cases hk : m < n
        · have q1 := ht m (by rw [HL.out]; exact hk)
          have g2 : (m : Int) < (n : Int) := by omega
          obtain ⟨z, hz⟩ : ∃ z, z = t.getD m 0 := ⟨_, rfl⟩
          rw [← hz] at q1
          have HZ : Hid (z = t.getD m 0) := hz
          clear hz
          by_cases a0 : z = 34
          · subst a0
            go_wp2_with fail
            refine (js_string (ht.drewN d) hn HL.out m hk HZ.out.symm).mono ?_
            rintro e w' ⟨z, rfl, rfl, hz⟩
            have HZ2 : Hid (z = -1 ∨ ∃ (j : Nat) (s : List Int), z = j ∧ Seg t m j (34 :: s) ∧ lstr s = true) := hz
            clear hz
            rcases HZ2.out with rfl | ⟨ke, s, rfl, s1, s2⟩
            · clear HZ HZ2 A HV ht
              go_wp2
              go_ret3
              exact ⟨_, _, d, rfl, rfl, .inl rfl⟩
            · clear HZ2 HZ
              have A1 : Hid (OInv t i ke) := A.out.ext s1 (Neutral.str s2)
              have hkn : ke ≤ n := by rw [← HL.out]; exact s1.2.1
              have hmk : m ≤ ke := s1.1
              clear s1 s2 A q1
              go_wp2_with fail
              refine (js_ws (ht.drewN d) hn HL.out ke hkn).mono ?_
              rintro e w' ⟨mc, wC, rfl, rfl, k1, k2⟩
              have A2 : Hid (OInv t i mc) := A1.out.ext k1 k2.neutral
              have hmc : mc ≤ n := by rw [← HL.out]; exact k1.2.1
              have hkm := k1.1
              clear k1 k2 A1
              by_cases hk2 : mc < n
              · have q2 := ht mc (by rw [HL.out]; exact hk2)
                have g4 : (mc : Int) < (n : Int) := by omega
                obtain ⟨z, hz⟩ : ∃ z, z = t.getD mc 0 := ⟨_, rfl⟩
                rw [← hz] at q2
                have HZ : Hid (z = t.getD mc 0) := hz
                clear hz
                by_cases a3 : z = 58
                · have A3 : Hid (OInv t i (mc + 1)) := A2.out.byte (by rw [HL.out]; exact hk2) HZ.out (.inr a3)
                  subst a3
                  clear A2 HZ
                  go_wp2_with fail
                  refine (js_ws (ht.drewN d) hn HL.out (mc + 1) hk2).mono ?_
                  rintro e w' ⟨mv, wV, rfl, rfl, k1, k2⟩
                  have A4 : Hid (OInv t i mv) := A3.out.ext k1 k2.neutral
                  have hmv : mv ≤ n := by rw [← HL.out]; exact k1.2.1
                  have hkv := k1.1
                  clear k1 k2 A3 q2
                  go_wp2_with fail
                  refine (HV.out mv _ (by omega) hmv (ht.drewN d)).mono ?_
                  rintro e w' ⟨z, d', rfl, rfl, hz⟩
                  have HZ : Hid (z = -1 ∨ ∃ (j : Nat) (s : List Int), z = j ∧ Seg t mv j s ∧ Val s) := hz
                  clear hz
                  rcases HZ.out with rfl | ⟨j, s, rfl, s1, s2⟩
                  · clear HZ A4 HV ht
                    go_wp2
                    go_ret3
                    exact ⟨_, _, d + d', rfl, by first | rfl | simp, .inl rfl⟩
                  · clear HZ
                    have hjn : j ≤ n := by rw [← HL.out]; exact s1.2.1
                    have hmj : mv < j := by
                      have := s1.length
                      have := s2.ne
                      omega
                    have A5 : Hid (OInv t i j) := A4.out.ext s1 s2.neutral
                    clear s1 s2 A4
                    go_wp2_with fail
                    refine (js_ws (ht.drewN (d + d')) hn HL.out j hjn).mono ?_
                    rintro e w' ⟨m2, wA, rfl, rfl, k1, k2⟩
                    have A6 : Hid (OInv t i m2) := A5.out.ext k1 k2.neutral
                    have hm2 : m2 ≤ n := by rw [← HL.out]; exact k1.2.1
                    have hjm := k1.1
                    clear k1 k2 A5
                    by_cases hlt : m2 < n
                    · have q3 := ht m2 (by rw [HL.out]; exact hlt)
                      have g3 : (m2 : Int) < (n : Int) := by omega
                      obtain ⟨z, hz⟩ : ∃ z, z = t.getD m2 0 := ⟨_, rfl⟩
                      rw [← hz] at q3
                      have HZ : Hid (z = t.getD m2 0) := hz
                      clear hz
                      by_cases a1 : z = 125
                      · subst a1
                        have fin : Hid (∃ r, Seg t i (m2 + 1) r ∧ Box r) := A6.out.close (by rw [HL.out]; exact hlt) HZ.out.symm
                        clear A6 HZ HV ht
                        go_wp2
                        go_ret3
                        obtain ⟨r, f1, f2⟩ := fin.out
                        exact ⟨_, _, d + d', rfl, by first | rfl | simp, .inr ⟨m2 + 1, r, by go_num, f1, f2, NO.out⟩⟩
                      · have b1 : (z == 125) = false := by simp [a1]
                        by_cases a2 : z = 44
                        · have A7 : Hid (OInv t i (m2 + 1)) := A6.out.byte (by rw [HL.out]; exact hlt) HZ.out (.inl a2)
                          subst a2
                          go_wp2_with fail
                          refine (js_ws (ht.drewN (d + d')) hn HL.out (m2 + 1) hlt).mono ?_
                          rintro e w' ⟨m3, wB, rfl, rfl, k1, k2⟩
                          have nx : Hid (OInv t i m3) := A7.out.ext k1 k2.neutral
                          have hm3 : m3 ≤ n := by rw [← HL.out]; exact k1.2.1
                          have hjm3 := k1.1
                          clear k1 k2 A6 A7 HZ HV ht
                          go_wp2
                          go_roundw
                          case rel => exact ⟨m3, cnt + 1, d + d', rfl, by go_num, rfl, rfl, by omega, hm3, by omega, nx⟩
                          case measure => simp [intOf]; omega
                        · have b2 : (z != 44) = true := by simp [a2]
                          clear a1 a2 A6 HZ HV ht
                          go_wp2
                          go_ret3
                          exact ⟨_, _, d + d', rfl, by first | rfl | simp, .inl rfl⟩
                    · clear A6 HV ht
                      go_wp2
                      go_ret3
                      exact ⟨_, _, d + d', rfl, by first | rfl | simp, .inl rfl⟩
                · have b3 : (z != 58) = true := by simp [a3]
                  clear a3 A2 HZ HV ht
                  go_wp2
                  go_ret3
                  exact ⟨_, _, d, rfl, rfl, .inl rfl⟩
              · clear A2 HV ht
                go_wp2
                go_ret3
                exact ⟨_, _, d, rfl, rfl, .inl rfl⟩
          · have b0 : (z != 34) = true := by simp [a0]
            clear a0 A HZ HV ht
            go_wp2
            go_ret3
            exact ⟨_, _, d, rfl, rfl, .inl rfl⟩
        · clear A HV ht
          go_wp2
          go_ret3
          exact ⟨_, _, d, rfl, rfl, .inl rfl⟩

/-- The reader of a value, whatever the text. -/
theorem js_value {x : Addr} {t : List Int} {n c : Nat} (hn : n ≤ 4194304) (lt : t.length = n) : ∀ (k i : Nat) (w : World), n - i ≤ k → i ≤ n → Txt w x t →
    Calls Try.prog 25 #[.slice (some x) n c, .int .i64 i] w fun e w' => ValPost t i w e w'
  | 0, i, w, hk, hi, ht => js_value_of ht hn lt i hi fun h _ => by omega
  | k + 1, i, w, hk, hi, ht => js_value_of ht hn lt i hi fun h hb => by
    have hv : ∀ (i' : Nat) (w : World), i < i' → i' ≤ n → Txt w x t → Calls Try.prog 25 #[.slice (some x) n c, .int .i64 i'] w fun e w' => ValPost t i' w e w' :=
      fun i' w h1 h2 h3 => js_value hn lt k i' w (by omega) h2 h3
    rcases hb with hb | hb
    · exact js_array_of ht hn lt i h hb hv
    · exact js_object_of ht hn lt i h hb hv

/-- The reader of an array at the text's first byte. -/
theorem js_array {w : World} {x : Addr} {t : List Int} {n c : Nat} (ht : Txt w x t) (hn : n ≤ 4194304) (lt : t.length = n) (h0 : 0 < n) (h91 : t.getD 0 0 = 91) :
    Calls Try.prog 17 #[.slice (some x) n c, .int .i64 0, .bool false] w fun e w' => BoxPost t 0 w e w' :=
  js_array_of ht hn lt 0 h0 h91 fun i' w _ h2 h3 => js_value hn lt n i' w (by omega) h2 h3
#print axioms js_array
end Go.Proofs.Qxb6616170a
