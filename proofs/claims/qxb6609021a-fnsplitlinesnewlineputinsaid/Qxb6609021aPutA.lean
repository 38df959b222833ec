/-
  'FnSplitLinesNewlinePutIn': the plain laws, and bytes appended one by one.
-/
import Derived.Test.Qxb6609021aCutA
namespace Go.Proofs.Qxb6609021a
open Go.RowKit
set_option linter.unusedVariables false

/-- The text with the newline put in at p. -/
def grown (l : List UInt8) (p : Nat) : List UInt8 := l.take p ++ 10 :: l.drop p

theorem grown_length (l : List UInt8) (p : Nat) (h : p ≤ l.length) : (grown l p).length = l.length + 1 := by
  unfold grown
  rw [List.length_append, List.length_cons, List.length_take, List.length_drop]
  omega

theorem grown_end (l : List UInt8) : grown l l.length = l ++ [10] := by
  unfold grown
  rw [List.take_length, List.drop_length]

/-- Does the text end at a line's end? -/
def endB (l : List UInt8) : Bool := decide (l = [] ∨ l.getLast? = some 10)

theorem end_yes {l : List UInt8} (h : endB l = true) : lines (l ++ [10]) = lines l ++ [[10]] := by
  have h := of_decide_eq_true h
  rw [cut_nl (by rcases h with h | h; exact Or.inl h; exact Or.inr (Or.inr h))]
  rfl

theorem end_no {l : List UInt8} (h : endB l = false) : ∃ dl x, lines l = dl ++ [x] ∧ x.getLast? ≠ some 10 ∧ 0 < x.length ∧ lines (l ++ [10]) = dl ++ [x ++ [10]] := by
  have h := of_decide_eq_false h
  have h1 : l ≠ [] := fun e => h (Or.inl e)
  have h2 : l.getLast? ≠ some 10 := fun e => h (Or.inr e)
  have hn : lines l ≠ [] := fun e => h1 (lines_eq_nil.1 e)
  have e := (List.dropLast_concat_getLast hn).symm
  have hl : (lines l).getLast? = some ((lines l).getLast hn) := List.getLast?_eq_some_getLast hn
  refine ⟨_, _, e, ?_, List.length_pos_iff.2 ((lines_good l).1 _ (List.getLast_mem hn)).1, ?_⟩
  · rw [last_last (fun y hy => ((lines_good l).1 y hy).1) hl, lines_flatten]
    exact h2
  · exact cut_mid (tb := []) e rfl h2

/-- The last line of a text that ends at a line's end. -/
theorem end_line {l : List UInt8} (h : endB l = true) (k : Nat) (hk : k + 1 = (lines l).length) : ((lines l)[k]'(by omega)).getLast? = some 10 := by
  have h := of_decide_eq_true h
  have hn : lines l ≠ [] := fun e => by rw [e] at hk; simp at hk
  have hl : (lines l).getLast? = some ((lines l)[k]'(by omega)) := by
    rw [List.getLast?_eq_getElem?, show (lines l).length - 1 = k by omega, List.getElem?_eq_getElem]
  rw [last_last (fun y hy => ((lines_good l).1 y hy).1) hl, lines_flatten]
  rcases h with h | h
  · exact absurd (by rw [h]; rfl) hn
  · exact h

/-- The newline put in inside line k. -/
theorem put_at (l : List UInt8) (p k : Nat) (hk : k < (lines l).length) (h1 : ((lines l).take k).flatten.length ≤ p) (h2 : p < ((lines l).take k).flatten.length + (lines l)[k].length) :
    lines (grown l p) = (lines l).take k ++ ((lines l)[k].take (p - ((lines l).take k).flatten.length) ++ [10]) :: (lines l)[k].drop (p - ((lines l).take k).flatten.length) :: (lines l).drop (k + 1) := by
  obtain ⟨o, ho⟩ : ∃ o, p - ((lines l).take k).flatten.length = o := ⟨_, rfl⟩
  rw [ho]
  have e : lines l = (lines l).take k ++ ((lines l)[k].take o ++ (lines l)[k].drop o) :: (lines l).drop (k + 1) := by
    rw [List.take_append_drop, List.getElem_cons_drop, List.take_append_drop]
  have hy : (lines l)[k].drop o ≠ [] := fun e => by
    have : ((lines l)[k].drop o).length = 0 := by rw [e]; rfl
    rw [List.length_drop] at this
    omega
  have := put_mid e hy
  have ef : l = (((lines l).take k).flatten ++ (lines l)[k].take o) ++ ((lines l)[k].drop o ++ ((lines l).drop (k + 1)).flatten) := by
    have := congrArg List.flatten e
    rw [lines_flatten, List.flatten_append, List.flatten_cons] at this
    rw [List.append_assoc, ← List.append_assoc ((lines l)[k].take o)]
    exact this
  have hp : (((lines l).take k).flatten ++ (lines l)[k].take o).length = p := by
    rw [List.length_append, List.length_take]
    omega
  have e1 : l.take p = ((lines l).take k).flatten ++ (lines l)[k].take o := by
    conv => lhs; rw [ef]
    rw [← hp]
    exact List.take_left
  have e2 : l.drop p = (lines l)[k].drop o ++ ((lines l).drop (k + 1)).flatten := by
    conv => lhs; rw [ef]
    rw [← hp]
    exact List.drop_left
  unfold grown
  rw [e1, e2]
  exact this

/-- One byte more is appended. -/
theorem push_byte {w W w1 : World} {B : Nat} {v v' : Value} {ms ms' : List UInt8} {x : UInt8} {o : Obj} (he : ms ++ [x] = ms') (hown : W.ownsRow B 5 1 v ms.length (bcells ms)) (hbel : Below B w W) (hB : B ≤ W.heap.size)
    (hg : (W.alloc o).grownBy w1 v.ownBlock) (hown' : w1.ownsRow B 5 1 v' (ms.length + 1) (bcells ms ++ [.int .u8 (x.toNat : Int)])) :
    w1.ownsRow B 5 1 v' ms'.length (bcells ms') ∧ Below B w w1 := by
  subst he
  refine ⟨?_, (hbel.alloc hB o).grown hg (by simp; omega) (fun k e => (hown.lt k e).1)⟩
  have e : bcells (ms ++ [x]) = bcells ms ++ [.int .u8 (x.toNat : Int)] := by simp [bcells]
  rw [e, List.length_append]
  exact hown'

/-- What was appended, as a text. -/
theorem own_text {w : World} {B : Nat} {v : Value} {G : List UInt8} (h : w.ownsRow B 5 1 v G.length (bcells G)) (hne : G ≠ []) :
    ∃ g cap, v = .slice (some ⟨g, 0, none⟩) G.length cap ∧ G.length ≤ cap ∧ cap ≤ 9223372036854775807 ∧ Reads w w.heap.size (some ⟨g, 0, none⟩) G := by
  obtain ⟨h1, ⟨h2, h0⟩ | ⟨g, cap, cur, rfl, hg, hh, hc, hm, hs, ht⟩⟩ := h
  · exact absurd (List.eq_nil_of_length_eq_zero h0) hne
  · unfold maxLen at hm
    exact ⟨g, cap, rfl, hc, hm, reads_of_block hh (by rw [← ht]; simp)⟩

theorem str_add_nl (x : List UInt8) (h : x.length ≤ 100000) (w : World) : (Op.stringOp .add (str x) ⟨#[10]⟩).run Try.prog w = .ok (.string (str (x ++ [10]))) w :=
  str_add x [10] (by simp; omega) w

theorem str_take (x : List UInt8) (o : Nat) (h : o ≤ x.length) (w : World) : (Instr.slice 9 (.string (str x)) none (some (.int .i64 (o : Int))) none).run Try.prog w = .ok (.string (str (x.take o))) w := by
  have h0 : (0 : Int) ≤ (o : Int) := by omega
  have hs := str_size x
  have h1 : (o : Int) ≤ ((str x).size : Int) := by omega
  have e : (str x).extract 0 o = str (x.take o) := by
    unfold str
    apply ByteArray.ext
    rw [ByteArray.data_extract]
    simp
  rw [← e]
  clear hs
  go_simp

theorem str_drop (x : List UInt8) (o : Nat) (h : o ≤ x.length) (w : World) : (Instr.slice 9 (.string (str x)) (some (.int .i64 (o : Int))) none none).run Try.prog w = .ok (.string (str (x.drop o))) w := by
  have h0 : (0 : Int) ≤ (o : Int) := by omega
  have hs := str_size x
  have h1 : (o : Int) ≤ ((str x).size : Int) := by omega
  have e : (str x).extract o (str x).size = str (x.drop o) := by
    rw [hs]
    unfold str
    apply ByteArray.ext
    rw [ByteArray.data_extract]
    simp
    exact List.take_of_length_le (by rw [List.length_drop]; exact Nat.le_refl _)
  rw [← e]
  clear hs
  go_simp
end Go.Proofs.Qxb6609021a
