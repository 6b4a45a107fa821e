/-
  SEAT b6616170a. JSON TEXT AS A LIST OF BYTES: what the strict reader finds, and what the lenient one needs: no walk, no program.
-/
import Derived.Below
namespace Go.Proofs.Qxb6616170a

def isWs (c : Int) : Bool := c == 32 || c == 9 || c == 10 || c == 13
def isDelim (c : Int) : Bool := c == 44 || c == 93 || c == 125 || isWs c
def AllWs (s : List Int) : Prop := ∀ c ∈ s, isWs c = true

/-- The text of a string behind its opening quote, its closing quote with it. -/
def lstr : List Int → Bool
  | [] => false
  | [c] => c == 34
  | c :: d :: r => if c = 34 then false else if c = 92 then lstr r else lstr (d :: r)

/-- The lenient reader's machine: m: 0: outside a string, 1: inside, 2: behind a backslash; d: the depth. Does the depth come back to nought just at the end? -/
def run : List Int → Nat → Nat → Bool
  | [], _, _ => false
  | c :: r, m, d =>
    if m = 0 then
      if c = 34 then run r 1 d
      else if c = 91 ∨ c = 123 then run r 0 (d + 1)
      else if c = 93 ∨ c = 125 then (if d = 1 then r.isEmpty else run r 0 (d - 1))
      else run r 0 d
    else if m = 1 then (if c = 34 then run r 0 d else if c = 92 then run r 2 d else run r 1 d)
    else run r 1 d

/-- x turns neither depth nor mode. -/
def Neutral (x : List Int) : Prop := ∀ (d : Nat) (r : List Int), 1 ≤ d → run (x ++ r) 0 d = run r 0 d

theorem Neutral.nil : Neutral [] := fun _ _ _ => rfl
theorem Neutral.append {x y : List Int} (hx : Neutral x) (hy : Neutral y) : Neutral (x ++ y) := fun d r hd => by
  rw [List.append_assoc, hx d _ hd, hy d r hd]
theorem Neutral.plain {c : Int} (h1 : c ≠ 34) (h2 : c ≠ 91) (h3 : c ≠ 123) (h4 : c ≠ 93) (h5 : c ≠ 125) : Neutral [c] := fun d r _ => by
  simp [run, h1, h2, h3, h4, h5]
theorem Neutral.all : ∀ {s : List Int}, (∀ c ∈ s, Neutral [c]) → Neutral s
  | [], _ => Neutral.nil
  | c :: s, h => (h c (by simp)).append (x := [c]) (Neutral.all fun x hx => h x (by simp [hx]))

theorem ws_ne {c : Int} (h : isWs c = true) : c ≠ 34 ∧ c ≠ 91 ∧ c ≠ 123 ∧ c ≠ 93 ∧ c ≠ 125 ∧ c ≠ 44 ∧ c ≠ 58 ∧ c ≠ 92 := by
  simp [isWs] at h; omega
theorem AllWs.neutral {s : List Int} (h : AllWs s) : Neutral s := Neutral.all fun c hc => by
  obtain ⟨a, b, d, e, f, _⟩ := ws_ne (h c hc)
  exact Neutral.plain a b d e f

/-- A number, true, false, null. -/
def Scal (s : List Int) : Prop := s ≠ [] ∧ ∀ c ∈ s, isDelim c = false ∧ c ≠ 34 ∧ c ≠ 91 ∧ c ≠ 123
theorem Scal.neutral {s : List Int} (h : Scal s) : Neutral s := Neutral.all fun c hc => by
  obtain ⟨a, b, d, e⟩ := h.2 c hc
  simp [isDelim] at a
  exact Neutral.plain b d e (by omega) (by omega)

theorem run_str : ∀ (s : List Int) (d : Nat) (r : List Int), lstr s = true → run (s ++ r) 1 d = run r 0 d
  | [], _, _, h => by simp [lstr] at h
  | [c], d, r, h => by
    have : c = 34 := by simpa [lstr] using h
    subst this
    simp [run]
  | c :: e :: s, d, r, h => by
    by_cases h1 : c = 34
    · subst h1; simp [lstr] at h
    · by_cases h2 : c = 92
      · subst h2
        have h' : lstr s = true := by simpa [lstr] using h
        have := run_str s d r h'
        simpa [run] using this
      · have h' : lstr (e :: s) = true := by simpa [lstr, h1, h2] using h
        have := run_str (e :: s) d r h'
        simp only [List.cons_append] at this ⊢
        rw [run]
        simpa [h1, h2] using this
theorem Neutral.str {s : List Int} (h : lstr s = true) : Neutral (34 :: s) := fun d r _ => by
  have := run_str s d r h
  simpa [run] using this

/-- A container: its brackets, and what is inside. -/
def Box (s : List Int) : Prop := ∃ o inner c, s = o :: (inner ++ [c]) ∧ (o = 91 ∨ o = 123) ∧ (c = 93 ∨ c = 125) ∧ Neutral inner
theorem Box.neutral {s : List Int} (h : Box s) : Neutral s := by
  obtain ⟨o, inner, c, rfl, ho, hc, hi⟩ := h
  intro d r hd
  have h1 : run (o :: (inner ++ [c]) ++ r) 0 d = run (inner ++ (c :: r)) 0 (d + 1) := by
    have : o ≠ 34 := by omega
    simp [run, this, ho]
  rw [h1, hi (d + 1) _ (by omega), run]
  have h2 : c ≠ 34 := by omega
  have h3 : ¬ (c = 91 ∨ c = 123) := by omega
  simp [h2, h3, hc]
  intro h
  omega
theorem Box.run {s : List Int} (h : Box s) : run s 0 0 = true := by
  obtain ⟨o, inner, c, rfl, ho, hc, hi⟩ := h
  have h1 : Qxb6616170a.run (o :: (inner ++ [c])) 0 0 = Qxb6616170a.run (inner ++ [c]) 0 1 := by
    have : o ≠ 34 := by omega
    simp [Qxb6616170a.run, this, ho]
  rw [h1, hi 1 _ (by omega), Qxb6616170a.run]
  have h2 : c ≠ 34 := by omega
  have h3 : ¬ (c = 91 ∨ c = 123) := by omega
  simp [h2, h3, hc]

/-- The text of a value. -/
def Val (s : List Int) : Prop := (∃ r, s = 34 :: r ∧ lstr r = true) ∨ Box s ∨ Scal s
theorem Val.neutral {s : List Int} (h : Val s) : Neutral s := by
  rcases h with ⟨r, rfl, h⟩ | h | h
  · exact Neutral.str h
  · exact h.neutral
  · exact h.neutral
/-- It begins with no blank, no comma, no closing bracket. -/
theorem Val.head {s : List Int} (h : Val s) : ∃ c r, s = c :: r ∧ isWs c = false ∧ c ≠ 93 ∧ c ≠ 125 ∧ c ≠ 44 := by
  rcases h with ⟨r, rfl, h⟩ | ⟨o, inner, c, rfl, ho, _⟩ | ⟨h1, h2⟩
  · exact ⟨34, r, rfl, rfl, by decide, by decide, by decide⟩
  · rcases ho with rfl | rfl
    · exact ⟨_, _, rfl, rfl, by decide, by decide, by decide⟩
    · exact ⟨_, _, rfl, rfl, by decide, by decide, by decide⟩
  · cases s with
    | nil => exact absurd rfl h1
    | cons c r =>
      obtain ⟨a, _⟩ := h2 c (by simp)
      simp [isDelim] at a
      exact ⟨c, r, rfl, by simp [a.2], by omega, by omega, by omega⟩

/-- The values of an array that is not empty, with what stands between them and the blanks behind the last. -/
def Body : List (List Int) → List Int → Prop
  | [], _ => False
  | [s], B => ∃ w2, B = s ++ w2 ∧ AllWs w2 ∧ Val s
  | s :: s' :: rest, B => ∃ wA wB B', B = s ++ (wA ++ 44 :: (wB ++ B')) ∧ AllWs wA ∧ AllWs wB ∧ Val s ∧ Body (s' :: rest) B'

/-- The text of an array whose values are segs. -/
def ArrText (segs : List (List Int)) (t : List Int) : Prop := ∃ ws0 B, t = 91 :: (ws0 ++ (B ++ [93])) ∧ AllWs ws0 ∧ ((segs = [] ∧ B = []) ∨ Body segs B)

theorem AllWs.append {a b : List Int} (ha : AllWs a) (hb : AllWs b) : AllWs (a ++ b) := fun c hc => by
  rcases List.mem_append.1 hc with h | h
  · exact ha c h
  · exact hb c h

theorem Body.blanks : ∀ {sv : List (List Int)} {B w : List Int}, Body sv B → AllWs w → Body sv (B ++ w)
  | [], _, _, h, _ => h.elim
  | [s], _, w, ⟨w2, h1, h2, h3⟩, hw => ⟨w2 ++ w, by rw [h1, List.append_assoc], h2.append hw, h3⟩
  | s :: s' :: rest, _, w, ⟨wA, wB, B', h1, h2, h3, h4, h5⟩, hw => ⟨wA, wB, B' ++ w, by rw [h1]; simp, h2, h3, h4, Body.blanks h5 hw⟩

theorem Body.join : ∀ {sv sw : List (List Int)} {Bv Bw w0 : List Int}, Body sv Bv → AllWs w0 → Body sw Bw → Body (sv ++ sw) (Bv ++ 44 :: (w0 ++ Bw))
  | [], _, _, _, _, h, _, _ => h.elim
  | [s], [], _, _, _, _, _, h => h.elim
  | [s], s' :: rest, _, Bw, w0, ⟨w2, h1, h2, h3⟩, hw, hb => ⟨w2, w0, Bw, by rw [h1]; simp, h2, hw, h3, hb⟩
  | s :: s' :: rest, sw, _, Bw, w0, ⟨wA, wB, B', h1, h2, h3, h4, h5⟩, hw, hb => ⟨wA, wB, B' ++ 44 :: (w0 ++ Bw), by rw [h1]; simp, h2, h3, h4, Body.join h5 hw hb⟩

theorem Body.ne {sv : List (List Int)} {B : List Int} (h : Body sv B) : sv ≠ [] := fun e => by subst e; exact h

/-- Two arrays joined: v without its closing bracket, a comma where both hold something, w without its opening one. -/
theorem ArrText.join {sv sw : List (List Int)} {v w : List Int} (hv : ArrText sv v) (hw : ArrText sw w) :
    ArrText (sv ++ sw) (v.dropLast ++ (if 0 < sv.length ∧ 0 < sw.length then [44] else []) ++ w.tail) := by
  obtain ⟨a0, A, rfl, h1, h2⟩ := hv
  obtain ⟨b0, B, rfl, h3, h4⟩ := hw
  have e1 : (91 :: (a0 ++ (A ++ [93]))).dropLast = 91 :: (a0 ++ A) := by
    rw [← List.append_assoc, ← List.cons_append, List.dropLast_concat]
  rw [e1, List.tail_cons]
  rcases h2 with ⟨rfl, rfl⟩ | h2
  · rcases h4 with ⟨rfl, rfl⟩ | h4
    · exact ⟨a0 ++ b0, [], by simp, h1.append h3, .inl ⟨rfl, rfl⟩⟩
    · exact ⟨a0 ++ b0, B, by simp, h1.append h3, .inr h4⟩
  · rcases h4 with ⟨rfl, rfl⟩ | h4
    · exact ⟨a0, A ++ b0, by simp, h1, .inr (by rw [List.append_nil]; exact h2.blanks h3)⟩
    · have p1 := List.length_pos_iff.2 h2.ne
      have p2 := List.length_pos_iff.2 h4.ne
      rw [if_pos ⟨p1, p2⟩]
      exact ⟨a0, A ++ 44 :: (b0 ++ B), by simp, h1, .inr (h2.join h3 h4)⟩

/-- Values, each with a comma and blanks behind it. -/
def PreB : List (List Int) → List Int → Prop
  | [], P => P = []
  | s :: rest, P => ∃ wA wB P', P = s ++ (wA ++ 44 :: (wB ++ P')) ∧ AllWs wA ∧ AllWs wB ∧ Val s ∧ PreB rest P'
theorem PreB.snoc : ∀ {segs : List (List Int)} {P s wA wB : List Int}, PreB segs P → Val s → AllWs wA → AllWs wB → PreB (segs ++ [s]) (P ++ (s ++ (wA ++ 44 :: wB)))
  | [], _, s, wA, wB, h, hs, ha, hb => by
    have h' : _ = [] := h
    subst h'
    exact ⟨wA, wB, [], by simp, ha, hb, hs, rfl⟩
  | x :: rest, _, s, wA, wB, ⟨a, b, P', h1, h2, h3, h4, h5⟩, hs, ha, hb => ⟨a, b, _, by rw [h1]; simp, h2, h3, h4, PreB.snoc h5 hs ha hb⟩
theorem PreB.body : ∀ {segs : List (List Int)} {P s w2 : List Int}, PreB segs P → Val s → AllWs w2 → Body (segs ++ [s]) (P ++ (s ++ w2))
  | [], _, s, w2, h, hs, hw => by
    have h' : _ = [] := h
    subst h'
    exact ⟨w2, rfl, hw, hs⟩
  | [x], _, s, w2, ⟨a, b, P', h1, h2, h3, h4, h5⟩, hs, hw => ⟨a, b, P' ++ (s ++ w2), by rw [h1]; simp, h2, h3, h4, PreB.body h5 hs hw⟩
  | x :: y :: rest, _, s, w2, ⟨a, b, P', h1, h2, h3, h4, h5⟩, hs, hw => ⟨a, b, P' ++ (s ++ w2), by rw [h1]; simp, h2, h3, h4, PreB.body h5 hs hw⟩

/-- The bytes of t from place i up to place j are s. -/
def Seg (t : List Int) (i j : Nat) (s : List Int) : Prop := i ≤ j ∧ j ≤ t.length ∧ t.drop i = s ++ t.drop j
theorem Seg.refl {t : List Int} {i : Nat} (h : i ≤ t.length) : Seg t i i [] := ⟨Nat.le_refl _, h, rfl⟩
theorem Seg.trans {t : List Int} {i j k : Nat} {s s' : List Int} (h : Seg t i j s) (h' : Seg t j k s') : Seg t i k (s ++ s') :=
  ⟨Nat.le_trans h.1 h'.1, h'.2.1, by rw [h.2.2, h'.2.2, List.append_assoc]⟩
theorem Seg.one {t : List Int} {i : Nat} (h : i < t.length) : Seg t i (i + 1) [t.getD i 0] :=
  ⟨by omega, by omega, by rw [List.drop_eq_getElem_cons h]; simp [List.getD, h]⟩
theorem Seg.snoc {t : List Int} {i j : Nat} {s : List Int} (h : Seg t i j s) (hj : j < t.length) : Seg t i (j + 1) (s ++ [t.getD j 0]) := h.trans (Seg.one hj)
theorem Seg.length {t : List Int} {i j : Nat} {s : List Int} (h : Seg t i j s) : s.length = j - i := by
  have := congrArg List.length h.2.2
  have h1 := h.1
  have h2 := h.2.1
  simp at this
  omega
theorem Seg.eq {t : List Int} {i j : Nat} {s : List Int} (h : Seg t i j s) : s = (t.drop i).take (j - i) := by
  rw [h.2.2, ← h.length, List.take_left]
theorem Seg.get {t : List Int} {i j : Nat} {s : List Int} (h : Seg t i j s) (k : Nat) (hk : k < s.length) : t.getD (i + k) 0 = s.getD k 0 := by
  have e : (t.drop i)[k]? = (s ++ t.drop j)[k]? := by rw [h.2.2]
  rw [List.getElem?_drop, List.getElem?_append_left hk] at e
  simp [List.getD, e]
/-- A segment cut in two. -/
theorem Seg.split {t : List Int} {i j : Nat} {s s' : List Int} (h : Seg t i j (s ++ s')) : Seg t i (i + s.length) s ∧ Seg t (i + s.length) j s' := by
  have hl := h.length
  simp at hl
  have h1 := h.1
  have h2 := h.2.1
  have e : t.drop (i + s.length) = s' ++ t.drop j := by
    rw [← List.drop_drop, h.2.2, List.append_assoc, List.drop_left]
  refine ⟨⟨by omega, by omega, ?_⟩, by omega, h2, e⟩
  rw [e, ← List.append_assoc]
  exact h.2.2
theorem Seg.head {t : List Int} {i j : Nat} {c : Int} {s : List Int} (h : Seg t i j (c :: s)) : i < t.length ∧ t.getD i 0 = c ∧ Seg t (i + 1) j s := by
  have hl := h.length
  simp at hl
  have h2 := h.2.1
  refine ⟨by omega, by have := h.get 0 (by simp); simpa using this, ?_⟩
  have := Seg.split (s := [c]) (s' := s) h
  exact this.2

end Go.Proofs.Qxb6616170a
