/-
  SEAT b6616076a. PLAIN LAWS on what 'finish' computes: no walk.
-/
import Derived.Test.Qxb6616076aLone
namespace Go.Proofs.Qxb6616076a
open Go Go.RowKit

/-- b and the m numbers of W from place s on, summed as Go sums ints. -/
def sumTo (W : List Int) (b : Int) (s : Nat) : Nat → Int
  | 0 => b
  | m + 1 => wrap64 (sumTo W b s m + W.getD (s + m) 0)

theorem sumTo_shift (W : List Int) (b : Int) (s : Nat) : ∀ m, sumTo W (wrap64 (b + W.getD s 0)) (s + 1) m = sumTo W b s (m + 1)
  | 0 => rfl
  | m + 1 => by
    rw [sumTo, sumTo_shift W b s m, sumTo, sumTo]
    rw [show s + 1 + m = s + (m + 1) by omega]
    rfl

theorem sumTo_congr (W V : List Int) (b : Int) (s : Nat) : ∀ m, (∀ j, s ≤ j → j < s + m → W.getD j 0 = V.getD j 0) → sumTo W b s m = sumTo V b s m
  | 0, _ => rfl
  | m + 1, h => by
    rw [sumTo, sumTo, sumTo_congr W V b s m (fun j h1 h2 => h j h1 (by omega)), h (s + m) (by omega) (by omega)]

theorem sumTo_add (W : List Int) (b : Int) (s m : Nat) : ∀ k, sumTo W (sumTo W b s m) (s + m) k = sumTo W b s (m + k)
  | 0 => rfl
  | k + 1 => by
    rw [sumTo, sumTo_add W b s m k, ← Nat.add_assoc m k 1, sumTo, Nat.add_assoc s m k]

/-- What the loop of 'finish' comes to. -/
theorem adv_spec (W : List Int) (D : List Bool) (least : Nat) : ∀ (f : Nat) (base : Int) (next : Nat), least ≤ next + f →
    ∃ m, adv W D least f base next = (sumTo W base next m, next + m) ∧ (∀ j, next ≤ j → j < next + m → D.getD j false = true) ∧ (next ≤ least → next + m ≤ least) ∧ (next + m < least → D.getD (next + m) false = false)
  | 0, base, next, h => ⟨0, rfl, fun j h1 h2 => by omega, fun h1 => h1, fun h1 => by omega⟩
  | f + 1, base, next, h => by
    by_cases hc : next < least ∧ D.getD next false = true
    · obtain ⟨m, e, h1, h2, h3⟩ := adv_spec W D least f (wrap64 (base + W.getD next 0)) (next + 1) (by omega)
      refine ⟨m + 1, ?_, fun j a b => ?_, fun _ => ?_, fun a => ?_⟩
      · rw [adv, if_pos hc, e, sumTo_shift, show next + 1 + m = next + (m + 1) by omega]
      · by_cases ej : j = next
        · rw [ej]; exact hc.2
        · exact h1 j (by omega) (by omega)
      · have := h2 (by omega); omega
      · rw [show next + (m + 1) = next + 1 + m by omega] at *
        exact h3 (by omega)
    · refine ⟨0, by rw [adv, if_neg hc]; rfl, fun j a b => by omega, fun a => a, fun a => ?_⟩
      cases hd : D.getD (next + 0) false with
      | false => rfl
      | true => exact absurd ⟨a, hd⟩ hc

/-- The state of a loneWork told of the searches in 'ord' (in this order), of n searches. -/
structure St (work : List Int) (found : List Bool) (n : Nat) (base0 : Int) (ord : List Nat) (base : Int) (next : Nat) (W : List Int) (D : List Bool) (least : Nat) : Prop where
  lw : W.length = n
  ld : D.length = n
  hW : ∀ j, j ∈ ord → W.getD j 0 = work.getD j 0
  hD : ∀ j, D.getD j false = true ↔ j ∈ ord
  l0 : least ≤ n
  l1 : ∀ j, j ∈ ord → found.getD j false = true → least ≤ j
  l2 : least < n → found.getD least false = true
  n0 : next ≤ least
  n1 : ∀ j, j < next → j ∈ ord
  n2 : next < least → next ∉ ord
  hb : base = sumTo work base0 0 next

theorem St.start (work : List Int) (found : List Bool) (n : Nat) (base0 : Int) (W : List Int) (D : List Bool) (lw : W.length = n) (ld : D.length = n) (hD : ∀ j, D.getD j false = false) : St work found n base0 [] base0 0 W D n :=
  ⟨lw, ld, fun j h => by simp at h, fun j => by rw [hD j]; simp, Nat.le_refl _, fun j h => by simp at h, fun h => by omega, Nat.zero_le _, fun j h => by omega, fun _ => by simp, rfl⟩

theorem St.step {work : List Int} {found : List Bool} {n : Nat} {base0 : Int} {ord : List Nat} {base : Int} {next : Nat} {W : List Int} {D : List Bool} {least : Nat} (h : St work found n base0 ord base next W D least)
    (i : Nat) (hi : i < n) (hni : i ∉ ord) (L : Nat) (hL : L = if found.getD i false = true ∧ i < least then i else least) :
    St work found n base0 (ord ++ [i]) (adv (W.set i (work.getD i 0)) (D.set i true) L n base next).1 (adv (W.set i (work.getD i 0)) (D.set i true) L n base next).2 (W.set i (work.getD i 0)) (D.set i true) L := by
  have hDm : ∀ j, (D.set i true).getD j false = true ↔ j ∈ ord ++ [i] := by
    intro j
    rw [getD_set D i j true false (by rw [h.ld]; exact hi)]
    by_cases e : j = i
    · simp [e]
    · rw [if_neg e, h.hD j]; simp [e]
  have hWm : ∀ j, j ∈ ord ++ [i] → (W.set i (work.getD i 0)).getD j 0 = work.getD j 0 := by
    intro j hj
    rw [getD_set W i j (work.getD i 0) 0 (by rw [h.lw]; exact hi)]
    by_cases e : j = i
    · rw [if_pos e, e]
    · rw [if_neg e]
      exact h.hW j (by simpa [e] using hj)
  have hni' : next ≤ i := by
    rcases Nat.lt_or_ge i next with c | c
    · exact absurd (h.n1 i c) hni
    · exact c
  have hLn : L ≤ n := by rw [hL]; have := h.l0; split <;> omega
  have hnL : next ≤ L := by rw [hL]; have := h.n0; split <;> omega
  obtain ⟨m, e, a1, a2, a3⟩ := adv_spec (W.set i (work.getD i 0)) (D.set i true) L n base next (by omega)
  rw [e]
  have hall : ∀ j, j < next + m → j ∈ ord ++ [i] := by
    intro j hj
    by_cases c : j < next
    · exact List.mem_append_left _ (h.n1 j c)
    · exact (hDm j).1 (a1 j (by omega) hj)
  refine ⟨by simpa using h.lw, by simpa using h.ld, hWm, hDm, hLn, ?_, ?_, a2 hnL, hall, ?_, ?_⟩
  · intro j hj hf
    rcases List.mem_append.1 hj with c | c
    · have := h.l1 j c hf
      rw [hL]; split <;> omega
    · have c : j = i := by simpa using c
      subst c
      rw [hL]
      by_cases c2 : j < least
      · rw [if_pos ⟨hf, c2⟩]; exact Nat.le_refl _
      · rw [if_neg (fun c => c2 c.2)]; omega
  · intro hl
    rw [hL] at hl ⊢
    by_cases c : found.getD i false = true ∧ i < least
    · rw [if_pos c]; exact c.1
    · rw [if_neg c] at hl ⊢; exact h.l2 hl
  · intro hl hm
    have := a3 hl
    rw [(hDm _).2 hm] at this
    cases this
  · show sumTo (W.set i (work.getD i 0)) base next m = sumTo work base0 0 (next + m)
    rw [h.hb]
    have := sumTo_add work base0 0 next m
    rw [Nat.zero_add] at this
    rw [← this]
    exact sumTo_congr _ _ _ _ _ (fun j _ h2 => hWm j (hall j h2))

/-- The first place from s on (below s + k) that found, or s + k. -/
def firstOf (found : List Bool) (s : Nat) : Nat → Nat
  | 0 => s
  | k + 1 => if found.getD s false = true then s else firstOf found (s + 1) k

theorem firstOf_spec (found : List Bool) : ∀ (k s : Nat), s ≤ firstOf found s k ∧ firstOf found s k ≤ s + k ∧ (∀ j, s ≤ j → j < firstOf found s k → found.getD j false = false) ∧ (firstOf found s k < s + k → found.getD (firstOf found s k) false = true)
  | 0, s => ⟨Nat.le_refl _, Nat.le_refl _, fun j h1 h2 => by simp [firstOf] at h2; omega, fun h => by simp [firstOf] at h⟩
  | k + 1, s => by
    obtain ⟨a, b, c, d⟩ := firstOf_spec found k (s + 1)
    rw [firstOf]
    by_cases hs : found.getD s false = true
    · rw [if_pos hs]
      exact ⟨Nat.le_refl _, by omega, fun j h1 h2 => by omega, fun _ => hs⟩
    · rw [if_neg hs]
      refine ⟨by omega, by omega, fun j h1 h2 => ?_, fun h => d (by omega)⟩
      by_cases e : j = s
      · rw [e]; simpa using hs
      · exact c j (by omega) h2

/-- Told of every search: next and least stand at the first that found; base is the work before it. -/
theorem St.finish {work : List Int} {found : List Bool} {n : Nat} {base0 : Int} {ord : List Nat} {base : Int} {next : Nat} {W : List Int} {D : List Bool} {least : Nat} (h : St work found n base0 ord base next W D least)
    (hall : ∀ j, j < n → j ∈ ord) :
    least = firstOf found 0 n ∧ next = firstOf found 0 n ∧ base = sumTo work base0 0 (firstOf found 0 n) ∧ (∀ j, j < n → W.getD j 0 = work.getD j 0) ∧ ∀ j, j < n → D.getD j false = true := by
  obtain ⟨_, b, c, d⟩ := firstOf_spec found n 0
  rw [Nat.zero_add] at b d
  have hl : least = firstOf found 0 n := by
    apply Nat.le_antisymm
    · by_cases e : firstOf found 0 n < n
      · exact h.l1 _ (hall _ e) (d e)
      · have := h.l0; omega
    · rcases Nat.lt_or_ge least (firstOf found 0 n) with c' | c'
      · have h1 := c least (Nat.zero_le _) c'
        have h2 := h.l2 (by omega)
        rw [h1] at h2; cases h2
      · exact c'
  have hn : next = least := by
    rcases Nat.lt_or_ge next least with c' | c'
    · exact absurd (hall next (by have := h.l0; omega)) (h.n2 c')
    · have := h.n0; omega
  refine ⟨hl, hn.trans hl, by rw [h.hb, hn, hl], fun j hj => h.hW j (hall j hj), fun j hj => (h.hD j).2 (hall j hj)⟩

#print axioms St.step
#print axioms St.finish
end Go.Proofs.Qxb6616076a
