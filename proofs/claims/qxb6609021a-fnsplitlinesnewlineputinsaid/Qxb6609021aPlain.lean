/-
  THE PLAIN LAWS: a text's lines. No Go in sight.
-/
import Derived.Lib.IndexLaws
namespace Go.Proofs.Qxb6609021a
set_option linter.unusedVariables false

def glue (c : UInt8) : List (List UInt8) → List (List UInt8)
  | [] => [[c]]
  | x :: xs => (c :: x) :: xs

/-- The lines of a text, each with its newline; the last one may lack it. -/
def lines : List UInt8 → List (List UInt8)
  | [] => []
  | c :: l => if c = 10 then [10] :: lines l else glue c (lines l)

theorem lines_none : ∀ l : List UInt8, l ≠ [] → (∀ b ∈ l, b ≠ 10) → lines l = [l]
  | [], h, _ => absurd rfl h
  | [c], _, h => by
    have := h c (by simp)
    simp [lines, this, glue]
  | c :: d :: l, _, h => by
    have hc := h c (by simp)
    have ih := lines_none (d :: l) (by simp) (fun b hb => h b (by simp at hb ⊢; exact Or.inr hb))
    rw [lines, if_neg hc, ih, glue]

theorem lines_some : ∀ (p r : List UInt8), (∀ b ∈ p, b ≠ 10) → lines (p ++ 10 :: r) = (p ++ [10]) :: lines r
  | [], r, _ => by simp [lines]
  | c :: p, r, h => by
    have hc := h c (by simp)
    have ih := lines_some p r (fun b hb => h b (by simp [hb]))
    rw [List.cons_append, lines, if_neg hc, ih, glue, List.cons_append]

/-- A line: not empty, no newline but at its end. -/
def Line (x : List UInt8) : Prop := x ≠ [] ∧ ∀ b ∈ x.dropLast, b ≠ 10
/-- Lines, all but the last with a newline. -/
def Good (ls : List (List UInt8)) : Prop := (∀ x ∈ ls, Line x) ∧ ∀ x ∈ ls.dropLast, x.getLast? = some 10

theorem snoc_of_last {x : List UInt8} {c : UInt8} (h : x.getLast? = some c) : x = x.dropLast ++ [c] := by
  have hne : x ≠ [] := by intro e; subst e; simp at h
  have := List.dropLast_concat_getLast hne
  rw [List.getLast?_eq_some_getLast hne] at h
  simp at h
  rw [h] at this
  exact this.symm

theorem Good.tail {x : List UInt8} {ls : List (List UInt8)} (h : Good (x :: ls)) : Good ls := by
  refine ⟨fun y hy => h.1 y (by simp [hy]), fun y hy => ?_⟩
  cases ls with
  | nil => simp at hy
  | cons z r => exact h.2 y (by simp only [List.dropLast_cons_cons, List.mem_cons]; exact Or.inr hy)

theorem Good.unique : ∀ ls : List (List UInt8), Good ls → lines ls.flatten = ls
  | [], _ => rfl
  | [x], h => by
    have hx := h.1 x (by simp)
    simp only [List.flatten_cons, List.flatten_nil, List.append_nil]
    by_cases hl : x.getLast? = some 10
    · have e := snoc_of_last hl
      have := lines_some x.dropLast [] hx.2
      rw [← e] at this
      exact this
    · refine lines_none x hx.1 fun b hb he => ?_
      subst he
      have e := List.dropLast_concat_getLast hx.1
      rw [← e] at hb
      rcases List.mem_append.1 hb with h1 | h1
      · exact hx.2 10 h1 rfl
      · simp at h1
        apply hl
        rw [List.getLast?_eq_some_getLast hx.1, ← h1]
  | x :: y :: r, h => by
    have hx := h.1 x (by simp)
    have hl := h.2 x (by simp)
    have ih := Good.unique (y :: r) h.tail
    rw [List.flatten_cons]
    have e := snoc_of_last hl
    have := lines_some x.dropLast (y :: r).flatten hx.2
    rw [ih, ← e] at this
    rw [← this, e]
    simp

theorem glue_flatten (c : UInt8) (ls : List (List UInt8)) : (glue c ls).flatten = c :: ls.flatten := by
  cases ls <;> simp [glue]

theorem lines_flatten : ∀ l, (lines l).flatten = l
  | [] => rfl
  | c :: l => by
    have ih := lines_flatten l
    by_cases h : c = 10
    · simp [lines, h, ih]
    · rw [lines, if_neg h, glue_flatten, ih]

theorem glue_ne (c : UInt8) (ls : List (List UInt8)) : glue c ls ≠ [] := by cases ls <;> simp [glue]

theorem lines_eq_nil {l : List UInt8} : lines l = [] ↔ l = [] := by
  constructor
  · intro h
    cases l with
    | nil => rfl
    | cons c l =>
      by_cases h' : c = 10
      · simp [lines, h'] at h
      · rw [lines, if_neg h'] at h
        exact absurd h (glue_ne _ _)
  · intro h; subst h; rfl

theorem lines_good : ∀ l, Good (lines l)
  | [] => ⟨by simp [lines], by simp [lines]⟩
  | c :: l => by
    have ih := lines_good l
    by_cases h : c = 10
    · rw [lines, if_pos h]
      refine ⟨fun x hx => ?_, fun x hx => ?_⟩
      · rcases List.mem_cons.1 hx with rfl | hx
        · exact ⟨by simp, by simp⟩
        · exact ih.1 x hx
      · cases hl : lines l with
        | nil => rw [hl] at hx; simp at hx
        | cons z r =>
          rw [hl] at hx
          simp only [List.dropLast_cons_cons, List.mem_cons] at hx
          rcases hx with rfl | hx
          · rfl
          · exact ih.2 x (by rw [hl]; exact hx)
    · rw [lines, if_neg h]
      cases hl : lines l with
      | nil =>
        refine ⟨fun x hx => ?_, fun x hx => ?_⟩
        · simp [glue] at hx; subst hx; exact ⟨by simp, by simp⟩
        · simp [glue] at hx
      | cons z r =>
        rw [hl] at ih
        have hz := ih.1 z (by simp)
        refine ⟨fun x hx => ?_, fun x hx => ?_⟩
        · simp only [glue, List.mem_cons] at hx
          rcases hx with rfl | hx
          · refine ⟨by simp, fun b hb => ?_⟩
            cases z with
            | nil => exact absurd rfl hz.1
            | cons d z =>
              simp only [List.dropLast_cons_cons, List.mem_cons] at hb
              rcases hb with rfl | hb
              · exact h
              · exact hz.2 b hb
          · exact ih.1 x (by simp [hx])
        · cases r with
          | nil => simp [glue] at hx
          | cons y r =>
            simp only [glue, List.dropLast_cons_cons, List.mem_cons] at hx
            rcases hx with rfl | hx
            · have := ih.2 z (by simp)
              cases z with
              | nil => exact absurd rfl hz.1
              | cons d z => simpa using this
            · exact ih.2 x (by simp only [List.dropLast_cons_cons, List.mem_cons]; exact Or.inr hx)

theorem Good.append {s t : List (List UInt8)} (hs : Good s) (ht : Good t) (h : t = [] ∨ ∀ x, s.getLast? = some x → x.getLast? = some 10) : Good (s ++ t) := by
  refine ⟨fun x hx => ?_, fun x hx => ?_⟩
  · rcases List.mem_append.1 hx with h1 | h1
    · exact hs.1 x h1
    · exact ht.1 x h1
  · rcases h with h | h
    · subst h; simp at hx; exact hs.2 x hx
    · cases t with
      | nil => simp at hx; exact hs.2 x hx
      | cons y t =>
        rw [List.dropLast_append_of_ne_nil (by simp)] at hx
        rcases List.mem_append.1 hx with h1 | h1
        · by_cases hne : s = []
          · subst hne; simp at h1
          · rw [← List.dropLast_concat_getLast hne] at h1
            rcases List.mem_append.1 h1 with h2 | h2
            · exact hs.2 x h2
            · simp at h2
              exact h x (by rw [List.getLast?_eq_some_getLast hne, h2])
        · exact ht.2 x h1

/-- The last byte of the last line is the text's last byte. -/
theorem last_last : ∀ {ls : List (List UInt8)} {x : List UInt8}, (∀ y ∈ ls, y ≠ []) → ls.getLast? = some x → x.getLast? = ls.flatten.getLast? := by
  intro ls x hne h
  have hl : ls ≠ [] := by intro e; subst e; simp at h
  have e := List.dropLast_concat_getLast hl
  rw [List.getLast?_eq_some_getLast hl] at h
  simp at h
  rw [← e, h]
  have hx : x ≠ [] := hne x (by rw [← h]; exact List.getLast_mem hl)
  rw [List.flatten_append]
  simp only [List.flatten_cons, List.flatten_nil, List.append_nil]
  rw [List.getLast?_append, List.getLast?_eq_some_getLast hx]
  rfl

theorem Good.left {s t : List (List UInt8)} (h : Good (s ++ t)) : Good s := by
  refine ⟨fun x hx => h.1 x (by simp [hx]), fun x hx => ?_⟩
  cases t with
  | nil => rw [List.append_nil] at h; exact h.2 x hx
  | cons y t => exact h.2 x (by rw [List.dropLast_append_of_ne_nil (by simp)]; exact List.mem_append.2 (Or.inl ((List.dropLast_sublist s).subset hx)))

theorem Good.left_nl {s t : List (List UInt8)} (h : Good (s ++ t)) (ht : t ≠ []) : ∀ x ∈ s, x.getLast? = some 10 := by
  intro x hx
  exact h.2 x (by rw [List.dropLast_append_of_ne_nil ht]; exact List.mem_append.2 (Or.inl hx))

theorem Good.right : ∀ {s t : List (List UInt8)}, Good (s ++ t) → Good t
  | [], t, h => h
  | x :: s, t, h => Good.right (s := s) (Good.tail (by simpa using h))

theorem Good.one {x : List UInt8} (h : Line x) : Good [x] := ⟨fun y hy => by simp at hy; subst hy; exact h, fun y hy => by simp at hy⟩

theorem Line.last_ne {x : List UInt8} (h : Line x) (hl : x.getLast? ≠ some 10) : ∀ b ∈ x, b ≠ 10 := by
  intro b hb he
  subst he
  have e := List.dropLast_concat_getLast h.1
  rw [← e] at hb
  rcases List.mem_append.1 hb with h1 | h1
  · exact h.2 10 h1 rfl
  · simp at h1
    apply hl
    rw [List.getLast?_eq_some_getLast h.1, ← h1]

/-- THE CUT AT A LINE's END. -/
theorem cut_nl {a b : List UInt8} (h : a = [] ∨ b = [] ∨ a.getLast? = some 10) : lines (a ++ b) = lines a ++ lines b := by
  have G : Good (lines a ++ lines b) := by
    refine (lines_good a).append (lines_good b) ?_
    rcases h with h | h | h
    · right; intro x hx; subst h; simp [lines] at hx
    · left; subst h; rfl
    · right; intro x hx
      rw [last_last (fun y hy => ((lines_good a).1 y hy).1) hx, lines_flatten, h]
  have := Good.unique _ G
  rwa [List.flatten_append, lines_flatten, lines_flatten] at this

/-- THE CUT INSIDE A LINE. -/
theorem cut_mid {da tb : List (List UInt8)} {x y l m : List UInt8} (ha : lines l = da ++ [x]) (hb : lines m = y :: tb) (hl : l.getLast? ≠ some 10) :
    lines (l ++ m) = da ++ (x ++ y) :: tb := by
  have ga := lines_good l
  have gb := lines_good m
  rw [ha] at ga
  rw [hb] at gb
  have hx : Line x := ga.1 x (by simp)
  have hy : Line y := gb.1 y (by simp)
  have hxl : x.getLast? ≠ some 10 := by
    rw [last_last (ls := lines l) (fun z hz => ((lines_good l).1 z hz).1) (by rw [ha]; simp), lines_flatten]
    exact hl
  have hxn := hx.last_ne hxl
  have hxy : Line (x ++ y) := by
    refine ⟨by simp [hx.1], fun b hb => ?_⟩
    rw [List.dropLast_append_of_ne_nil hy.1] at hb
    rcases List.mem_append.1 hb with h1 | h1
    · exact hxn b h1
    · exact hy.2 b h1
  have G : Good (da ++ (x ++ y) :: tb) := by
    refine ga.left.append ?_ (Or.inr fun z hz => ga.left_nl (by simp) z (List.mem_of_getLast? hz))
    show Good ([x ++ y] ++ tb)
    refine (Good.one hxy).append gb.tail ?_
    cases tb with
    | nil => left; rfl
    | cons z tb =>
      right
      intro u hu
      simp at hu
      subst hu
      have := gb.2 y (by simp)
      rw [List.getLast?_append, this]
      rfl
  have := Good.unique _ G
  have e : (da ++ (x ++ y) :: tb).flatten = l ++ m := by
    have e1 := lines_flatten l
    have e2 := lines_flatten m
    rw [ha] at e1
    rw [hb] at e2
    rw [← e1, ← e2]
    simp
  rwa [e] at this

/-- A NEWLINE PUT IN INSIDE A LINE. -/
theorem put_mid {l x y : List UInt8} {s t : List (List UInt8)} (h : lines l = s ++ (x ++ y) :: t) (hy : y ≠ []) :
    lines (s.flatten ++ x ++ 10 :: (y ++ t.flatten)) = s ++ (x ++ [10]) :: y :: t := by
  have g := lines_good l
  rw [h] at g
  have hxy : Line (x ++ y) := g.1 _ (by simp)
  have hx : ∀ b ∈ x, b ≠ 10 := fun b hb => hxy.2 b (by rw [List.dropLast_append_of_ne_nil hy]; simp [hb])
  have l1 : Line (x ++ [10]) := ⟨by simp, fun b hb => by simp at hb; exact hx b hb⟩
  have l2 : Line y := ⟨hy, fun b hb => hxy.2 b (by rw [List.dropLast_append_of_ne_nil hy]; simp [hb])⟩
  have gt : Good ([x ++ y] ++ t) := g.right
  have G2 : Good ([y] ++ t) := by
    refine (Good.one l2).append gt.right ?_
    cases t with
    | nil => left; rfl
    | cons z t =>
      right
      intro u hu
      simp at hu
      subst hu
      have := gt.left_nl (by simp) (x ++ y) (by simp)
      rw [List.getLast?_append, List.getLast?_eq_some_getLast hy] at this
      rw [List.getLast?_eq_some_getLast hy]
      simpa using this
  have G1 : Good ([x ++ [10]] ++ ([y] ++ t)) := by
    refine (Good.one l1).append G2 (Or.inr fun u hu => ?_)
    simp at hu
    subst hu
    simp
  have G : Good (s ++ ([x ++ [10]] ++ ([y] ++ t))) := g.left.append G1 (Or.inr fun z hz => g.left_nl (by simp) z (List.mem_of_getLast? hz))
  have := Good.unique _ G
  have e : (s ++ ([x ++ [10]] ++ ([y] ++ t))).flatten = s.flatten ++ x ++ 10 :: (y ++ t.flatten) := by simp
  rw [e] at this
  rw [this]
  simp

/-- Where line k lies in the text. -/
theorem flat_at (ls : List (List UInt8)) (k : Nat) (hk : k < ls.length) :
    (ls.take (k + 1)).flatten.length = (ls.take k).flatten.length + ls[k].length ∧ (ls.take k).flatten.length + ls[k].length ≤ ls.flatten.length ∧
    ∀ j (h : j < ls[k].length), ls.flatten[(ls.take k).flatten.length + j]? = some ls[k][j] := by
  have e1 : ls.take (k + 1) = ls.take k ++ [ls[k]] := by rw [List.take_add_one, List.getElem?_eq_getElem hk]; rfl
  have e2 : ls = ls.take k ++ (ls[k] :: ls.drop (k + 1)) := by rw [List.getElem_cons_drop, List.take_append_drop]
  have e3 : ls.flatten = (ls.take k).flatten ++ (ls[k] ++ (ls.drop (k + 1)).flatten) := by
    have := congrArg List.flatten e2
    rwa [List.flatten_append, List.flatten_cons] at this
  have e4 := congrArg List.length e3
  rw [List.length_append, List.length_append] at e4
  refine ⟨?_, by omega, fun j hj => ?_⟩
  · rw [e1, List.flatten_append, List.length_append]; simp
  · rw [e3, List.getElem?_append_right (by omega), show (ls.take k).flatten.length + j - (ls.take k).flatten.length = j by omega, List.getElem?_append_left hj, List.getElem?_eq_getElem hj]

theorem flat_le (ls : List (List UInt8)) (k : Nat) : (ls.take k).flatten.length ≤ ls.flatten.length := by
  have e : ls.flatten = (ls.take k).flatten ++ (ls.drop k).flatten := by rw [← List.flatten_append, List.take_append_drop]
  rw [e, List.length_append]
  omega

/-- What the checks ask of line k. -/
theorem Good.at {ls : List (List UInt8)} (h : Good ls) (k : Nat) (hk : k < ls.length) : 0 < ls[k].length ∧ (∀ j (hj : j < ls[k].length), ls[k][j] = 10 → j + 1 = ls[k].length) ∧
    (∀ (h1 : k + 1 < ls.length) (h2 : ls[k].length - 1 < ls[k].length), ls[k][ls[k].length - 1] = 10) := by
  have hl := h.1 ls[k] (List.getElem_mem hk)
  refine ⟨List.length_pos_iff.2 hl.1, fun j hj e => ?_, fun h1 h2 => ?_⟩
  · rcases Nat.lt_or_ge (j + 1) ls[k].length with hlt | hge
    · refine absurd e (hl.2 _ ?_)
      rw [List.mem_iff_getElem]
      exact ⟨j, by simp; omega, by rw [List.getElem_dropLast]⟩
    · omega
  · have hm : ls[k] ∈ ls.dropLast := by
      rw [List.mem_iff_getElem]
      exact ⟨k, by simp; omega, by rw [List.getElem_dropLast]⟩
    have := h.2 _ hm
    rw [List.getLast?_eq_getElem?, List.getElem?_eq_getElem h2] at this
    simpa using this

theorem lines_length_le (l : List UInt8) : (lines l).length ≤ l.length := by
  have h : ∀ ls : List (List UInt8), (∀ x ∈ ls, x ≠ []) → ls.length ≤ ls.flatten.length := by
    intro ls
    induction ls with
    | nil => simp
    | cons x ls ih =>
      intro h
      have h1 := ih (fun y hy => h y (by simp [hy]))
      have h2 : 0 < x.length := List.length_pos_iff.2 (h x (by simp))
      simp only [List.length_cons, List.flatten_cons, List.length_append]
      omega
  have := h (lines l) (fun x hx => ((lines_good l).1 x hx).1)
  rwa [lines_flatten] at this
end Go.Proofs.Qxb6609021a
