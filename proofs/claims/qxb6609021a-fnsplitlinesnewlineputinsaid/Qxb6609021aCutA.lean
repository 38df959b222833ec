/-
  The two laws' common parts: the bounds' helpers, what came in, the copy, ZZsplitLines.
-/
import Derived.Test.Qxb6609021aChecks
import Derived.OwnWalk
import Derived.Laws.CopyOwn
import Derived.Deep.DeepCutAuto
import Derived.WalkSpells
import Derived.OpenShut
import Derived.Deep.RegionLaw
import Derived.BigRegion
namespace Go.Proofs.Qxb6609021a
open Go.RowKit
set_option linter.unusedVariables false

/-- WHAT THE WALK IS TOLD OF A SLICE OF INTEGERS THAT CAME IN (the shell's own words). -/
def IsRow (k : IntKind) (w : World) (a : Option Addr) (len cap : Nat) (zs : List Int) : Prop :=
  (a = none ∧ len = 0 ∧ cap = 0 ∧ zs = []) ∨
  ∃ x, a = some x ∧ len ≤ cap ∧ cap ≤ maxLen ∧ zs.length = cap ∧ (∀ i, i < zs.length → w.cell? (x.add i) = some (.int k (zs.getD i 0))) ∧ ∀ n ∈ zs, (Lit.int k n).wf = true

/-- The bytes of a slice that came in. -/
def CameIn (w : World) (a : Option Addr) (l : List UInt8) (cap : Nat) : Prop :=
  l.length ≤ cap ∧ cap ≤ 9223372036854775807 ∧ (a = none → l = [] ∧ cap = 0) ∧ ∀ x, a = some x → ∀ i (h : i < l.length), w.cell? (x.add i) = some (.int .u8 (l[i].toNat : Int))

theorem IsRow.bytes {w : World} {a : Option Addr} {len cap : Nat} {zs : List Int} (h : IsRow .u8 w a len cap zs) : ∃ l : List UInt8, l.length = len ∧ CameIn w a l cap := by
  rcases h with ⟨rfl, rfl, rfl, rfl⟩ | ⟨x, rfl, h1, h2, h3, h4, h5⟩
  · exact ⟨[], rfl, by simp, by simp, fun _ => ⟨rfl, rfl⟩, fun x hx => nomatch hx⟩
  · unfold maxLen at h2
    refine ⟨(zs.take len).map fun n => UInt8.ofNat n.toNat, by simp; omega, by simp; omega, h2, (fun h => nomatch h), fun y hy i hi => ?_⟩
    obtain rfl : x = y := by simpa using hy
    have hi' : i < zs.length := by simp at hi; omega
    rw [h4 i hi']
    have hm : zs.getD i 0 = zs[i] := by simp [List.getD, hi']
    have hb := h5 zs[i] (List.getElem_mem hi')
    have hb2 : 0 ≤ zs[i] ∧ zs[i] ≤ 255 := bounds_u8 hb
    rw [hm, List.getElem_map, List.getElem_take]
    congr 2
    rw [UInt8.toNat_ofNat']
    omega

theorem zzBytes_ok (f : Nat) (hf : f = 9 ∨ f = 13) (a : Option Addr) (n cap : Nat) (p : Int) (w : World) (h : n ≤ 1048576) :
    Calls Try.prog f #[.slice a n cap, .int .i64 p] w fun e w' => e = .returned (.bool true) ∧ w' = w := by
  rcases hf with rfl | rfl
  · go_enter Try.func9, Try.ntmps9
    go_wp2
    go_ret
    exact ⟨rfl, rfl⟩
  · go_enter Try.func13, Try.ntmps13
    go_wp2
    go_ret
    exact ⟨rfl, rfl⟩

theorem zzBytes_no (f : Nat) (hf : f = 9 ∨ f = 13) (a : Option Addr) (n cap : Nat) (p : Int) (w : World) (h : 1048576 < n) (h2 : n ≤ 9223372036854775807) :
    Calls Try.prog f #[.slice a n cap, .int .i64 p] w fun e w' => e = .returned (.bool false) ∧ w' = w := by
  rcases hf with rfl | rfl
  · go_enter Try.func9, Try.ntmps9
    go_wp2
    go_ret
    exact ⟨rfl, rfl⟩
  · go_enter Try.func13, Try.ntmps13
    go_wp2
    go_ret
    exact ⟨rfl, rfl⟩

theorem zzSplit_any (ao : Option Addr) (l : List UInt8) (cap : Nat) (w : World) (hl : l.length ≤ 65537) (hcap : l.length ≤ cap) (hc2 : cap ≤ 9223372036854775807) (hR : Reads w w.heap.size ao l) (hn : ao = none → cap = 0) :
    Calls Try.prog 10 #[.slice ao l.length cap] w fun e w' => ∃ v, e = .returned v ∧ w'.ownsRow w.heap.size 9 1 v (lines l).length ((lines l).map sv) ∧ Below w.heap.size w w' := by
  have HC : Hid (Calls Try.prog 26 #[.slice ao l.length cap] w fun e w' => ∃ v, e = .returned v ∧ w'.ownsRow w.heap.size 9 1 v (lines l).length ((lines l).map sv) ∧ Below w.heap.size w w') := split_any ao l cap w hl hcap hc2 hR hn
  clear hR hn
  go_enter Try.func10, Try.ntmps10
  go_wp2_with fail
  refine HC.out.mono ?_
  rintro e w' ⟨v, rfl, h1, h2⟩
  have H1 : Hid (w'.ownsRow w.heap.size 9 1 v (lines l).length ((lines l).map sv)) := h1
  have H2 : Hid (Below w.heap.size w w') := h2
  clear h1 h2
  go_wp2_with fail
  go_ret
  exact ⟨v, rfl, H1.out, H2.out⟩

/-- The cells of the bytes l. -/
def bcells (l : List UInt8) : List Value := l.map fun b => .int .u8 (b.toNat : Int)

theorem reads_of_block {w : World} {g : Nat} {l : List UInt8} {cur : Array Value} {t : TypeId} (h : w.heap[g]? = some (.cells cur t (0, 0))) (hc : cur.toList.take l.length = bcells l) :
    Reads w w.heap.size (some ⟨g, 0, none⟩) l := by
  intro hne
  have hg : g < w.heap.size := (Array.getElem?_eq_some_iff.1 h).1
  refine ⟨g, 0, rfl, hg, fun i hi => ?_⟩
  have e1 : cur.toList[i]? = some (.int .u8 (l[i].toNat : Int)) := by
    have := congrArg (fun L => L[i]?) hc
    simp only [List.getElem?_take, hi, if_true] at this
    rw [this]
    simp [bcells, hi]
  rw [Nat.zero_add]
  simp [World.cell?, h]
  rw [← Array.getElem?_toList, e1]

/-- What the copy leaves: the bytes, in a block of the call's own (or nil). -/
def Text (w0 w : World) (ao : Option Addr) (l : List UInt8) (cap : Nat) : Prop :=
  cap = l.length ∧ (ao = none → l = []) ∧ (ao = none ∨ ∃ g, ao = some ⟨g, 0, none⟩) ∧ Reads w w.heap.size ao l ∧ Below w0.heap.size w0 w

/-- zzIsLinesOf of a text's lines. -/
theorem isLines_lines (v : Value) (l : List UInt8) (ao : Option Addr) (cap B : Nat) (w : World) (hl : l.length ≤ 65537) (hx : SRow w B v (lines l)) (hr : Reads w B ao l) :
    Calls Try.prog 11 #[v, .slice ao l.length cap] w fun e w' => e = .returned (.bool true) ∧ ∃ n, w' = w.drewN n := by
  have h := isLines_any v (lines l) ao cap B w (by rw [lines_flatten]; exact hl) (by have := lines_length_le l; omega) (lines_good l) hx (by rw [lines_flatten]; exact hr)
  rw [lines_flatten] at h
  exact h

theorem concat_lines (v : Value) (l : List UInt8) (ao : Option Addr) (cap B : Nat) (w : World) (hl : l.length ≤ 65537) (hx : SRow w B v (lines l)) (hr : Reads w B ao l) :
    Calls Try.prog 14 #[v, .slice ao l.length cap] w fun e w' => e = .returned (.bool true) ∧ ∃ n, w' = w.drewN n := by
  have h := concat_any v (lines l) ao cap B w (by rw [lines_flatten]; exact hl) (by have := lines_length_le l; omega) (lines_good l) hx (by rw [lines_flatten]; exact hr)
  rw [lines_flatten] at h
  exact h

theorem heap_of_own {w : World} {base g n cap : Nat} {e : TypeId} {xs : List Value} (h : w.ownsRow base e 1 (.slice (some ⟨g, 0, none⟩) n cap) n xs) : ∃ cur, w.heap[g]? = some (.cells cur e (0, 0)) ∧ cur.size = cap ∧ n ≤ cap := by
  obtain ⟨h1, ⟨h2, _⟩ | ⟨g', cap', cur, hv, hg, hh, hc, hm, hs, ht⟩⟩ := h
  · cases h2
  · cases hv
    exact ⟨cur, hh, by omega, hc⟩

theorem bcells_one (l : List UInt8) : ∀ v ∈ bcells l, v.oneCell' = true := by
  intro v hv
  unfold bcells at hv
  obtain ⟨b, _, rfl⟩ := List.mem_map.1 hv
  rfl

theorem bcells_length (l : List UInt8) : (bcells l).length = l.length := by simp [bcells]

theorem bcells_src {w : World} {x : Addr} {l : List UInt8} (h : ∀ i (h : i < l.length), w.cell? (x.add i) = some (.int .u8 (l[i].toNat : Int))) : ∀ j v, (bcells l)[j]? = some v → w.cell? (x.add j) = some v := by
  intro j v hj
  have hl : j < l.length := by
    have := (List.getElem?_eq_some_iff.1 hj).1
    rwa [bcells_length] at this
  rw [h j hl]
  unfold bcells at hj
  rw [List.getElem?_map, List.getElem?_eq_getElem hl] at hj
  simpa using hj

theorem splice_all (Z X : List Value) (h : X.length = Z.length) : splice Z 0 X = X := by
  unfold splice
  simp [h]


theorem info5s : (Try.prog.info? 5).map (·.size) = some 1 := by kernel_rfl

/-- The copy is made. -/
theorem text_copied {w0 w2 : World} {l : List UInt8} {cur : Array Value} (h : w2.heap[w0.heap.size]? = some (.cells (splice cur.toList 0 (bcells l)).toArray 5 (0, 0))) (hs : cur.size = l.length)
    (hb : Below w0.heap.size w0 w2) : Text w0 w2 (some ⟨w0.heap.size, 0, none⟩) l l.length := by
  rw [splice_all _ _ (by rw [bcells_length]; simp [hs])] at h
  refine ⟨rfl, (fun h => nomatch h), Or.inr ⟨_, rfl⟩, reads_of_block h ?_, hb⟩
  show List.take l.length (bcells l) = bcells l
  exact List.take_of_length_le (by rw [bcells_length]; exact Nat.le_refl _)

/-- 'text[:c]'. -/
theorem slice_to {w0 wc : World} {ao : Option Addr} {l : List UInt8} {cap : Nat} (h : Text w0 wc ao l cap) (c : Nat) (hc : c ≤ l.length) (w : World) :
    (Instr.slice 22 (.slice ao l.length cap) none (some (.int .i64 (c : Int))) none).run Try.prog w = .ok (.slice ao c cap) w := by
  obtain ⟨rfl, hn, ho, -, -⟩ := h
  rcases ho with rfl | ⟨g, rfl⟩
  · obtain rfl := hn rfl
    obtain rfl : c = 0 := by simpa using hc
    kernel_rfl
  · have h0 : (0 : Int) ≤ (c : Int) := by omega
    have h1 : (c : Int) ≤ (l.length : Int) := by omega
    go_simp

/-- 'text[c:]'. -/
theorem slice_from {w0 wc : World} {ao : Option Addr} {l : List UInt8} {cap : Nat} (h : Text w0 wc ao l cap) (c : Nat) (hc : c ≤ l.length) :
    ∃ ao', (∀ w, (Instr.slice 22 (.slice ao l.length cap) (some (.int .i64 (c : Int))) none none).run Try.prog w = .ok (.slice ao' (l.length - c) (cap - c)) w) ∧
      (ao' = none → cap - c = 0) ∧ ∀ w B, Reads w B ao l → Reads w B ao' (l.drop c) := by
  obtain ⟨rfl, hn, ho, -, -⟩ := h
  rcases ho with rfl | ⟨g, rfl⟩
  · obtain rfl := hn rfl
    obtain rfl : c = 0 := by simpa using hc
    exact ⟨none, fun w => by kernel_rfl, fun _ => rfl, fun w B h => h⟩
  · refine ⟨if l.length = c then some ⟨g, 0, none⟩ else some ⟨g, c, none⟩, fun w => ?_, fun h => ?_, fun w B h => ?_⟩
    · have h0 : (0 : Int) ≤ (c : Int) := by omega
      have h1 : (c : Int) ≤ (l.length : Int) := by omega
      go_simp
    · split at h <;> cases h
    · intro hne
      have hcl : ¬ l.length = c := fun e => hne (by rw [← e, List.drop_length])
      have hl : l ≠ [] := fun e => hne (by rw [e, List.drop_nil])
      obtain ⟨b, o, e, hlt, hcell⟩ := h hl
      cases e
      rw [if_neg hcl]
      refine ⟨g, c, rfl, hlt, fun i hi => ?_⟩
      have := hcell (c + i) (by simp at hi; omega)
      rw [Nat.zero_add] at this
      rw [List.getElem_drop]
      exact this

theorem split_take {ao : Option Addr} {l : List UInt8} {cap c : Nat} {w : World} (hl : l.length ≤ 65536) (hc : c ≤ l.length) (hcap : l.length ≤ cap) (hc2 : cap ≤ 65536) (hR : Reads w w.heap.size ao l) (hn : ao = none → cap = 0) :
    Calls Try.prog 10 #[.slice ao c cap] w fun e w' => ∃ v, e = .returned v ∧ SRow w' w'.heap.size v (lines (l.take c)) ∧ Below w.heap.size w w' := by
  have e : (l.take c).length = c := by rw [List.length_take]; omega
  have h := zzSplit_any ao (l.take c) cap w (by omega) (by omega) (by omega) (hR.take c) hn
  rw [e] at h
  refine h.mono ?_
  rintro e w' ⟨v, rfl, h1, h2⟩
  exact ⟨v, rfl, SRow.of_own h1, h2⟩

theorem split_drop {ao : Option Addr} {l : List UInt8} {cap c : Nat} {w : World} (hl : l.length ≤ 65536) (hc : c ≤ l.length) (hcap : l.length ≤ cap) (hc2 : cap ≤ 65536) (hR : Reads w w.heap.size ao (l.drop c)) (hn : ao = none → cap - c = 0) :
    Calls Try.prog 10 #[.slice ao (l.length - c) (cap - c)] w fun e w' => ∃ v, e = .returned v ∧ SRow w' w'.heap.size v (lines (l.drop c)) ∧ Below w.heap.size w w' := by
  have e : (l.drop c).length = l.length - c := List.length_drop
  have h := zzSplit_any ao (l.drop c) (cap - c) w (by omega) (by omega) (by omega) hR hn
  rw [e] at h
  refine h.mono ?_
  rintro e w' ⟨v, rfl, h1, h2⟩
  exact ⟨v, rfl, SRow.of_own h1, h2⟩

theorem split_all {ao : Option Addr} {l : List UInt8} {cap : Nat} {w : World} (hl : l.length ≤ 65537) (hcap : l.length ≤ cap) (hc2 : cap ≤ 9223372036854775807) (hR : Reads w w.heap.size ao l) (hn : ao = none → cap = 0) :
    Calls Try.prog 10 #[.slice ao l.length cap] w fun e w' => ∃ v, e = .returned v ∧ SRow w' w'.heap.size v (lines l) ∧ Below w.heap.size w w' := by
  refine (zzSplit_any ao l cap w (by omega) (by omega) (by omega) hR hn).mono ?_
  rintro e w' ⟨v, rfl, h1, h2⟩
  exact ⟨v, rfl, SRow.of_own h1, h2⟩

/-- append onto a slice of the call's own, as one step of a region that draws its order (after the kit's 'step_append_grows'). -/
theorem step_append_own {P : Program} {ops : Array Oper} {o : Oper} {a : Act} {w : World} {K : Act → World → Prop} {Q : Exit → Act → World → Prop} {E : Prop}
    (hg : o.guard = none) (s x : Operand) (t : TypeId) (hop : o.op = Op.call { callee := Callee.builtin Builtin.append, args := #[s, x], argTypes := #[t, t] })
    (base : Nat) (e : TypeId) (i : TypeInfo) (z : Value) (size bytes : Nat) (h1 : P.underlying t = some (.slice e)) (h2 : P.info? e = some i) (h3 : i.zero = some z) (h4 : i.size = size) (h5 : i.bytes = bytes) (h6 : z.cells.size = size) (h7 : 0 < size)
    (v : Value) (n : Nat) (xs : List Value) (hs : a.eval s = v) (hown : w.ownsRow base e size v n xs)
    (ad : Addr) (m c : Nat) (news : List Value) (hx : a.eval x = .slice (some ad) m c) (hn : news.length = m * size) (hc : ∀ j u, news[j]? = some u → w.cell? (ad.add j) = some u) (h1c : ∀ u ∈ news, u.oneCell' = true)
    (b1 : n + m ≤ maxLen) (b2 : (n + m) * bytes ≤ 140737488355328) (b3 : base ≤ w.heap.size)
    (hK : ∀ v' w', w'.ownsRow base e size v' (n + m) (xs ++ news) → w.grownBy w' v.ownBlock → K (a.put o.dst v') w') :
    if Region.wanted o (yielded ops a.tmps) = true then Oper.wp P o a w K Q else E := by
  have hw : Region.wanted o (yielded ops a.tmps) = true := by simp [Region.wanted, hg]
  rw [if_pos hw]
  obtain ⟨v', w', hrun, r1, r2, _⟩ := run_append_own (P := P) w base t o.type e i z size bytes h1 h2 h3 h4 h5 h6 h7 v n xs hown ad m c news hn hc h1c b1 b2 b3
  unfold Oper.wp
  simp [execOp, hop, resolve, invoke, builtin, hs, hx, hrun, Result.andThen]
  exact hK v' w' r1 r2

theorem str_append (x y : List UInt8) : str x ++ str y = str (x ++ y) := by
  unfold str
  apply ByteArray.ext
  rw [ByteArray.data_append]
  simp

theorem str_add (x y : List UInt8) (h : x.length + y.length ≤ 200000) (w : World) : (Op.stringOp .add (str x) (str y)).run Try.prog w = .ok (.string (str (x ++ y))) w := by
  rw [run_string_add_sum w (str x) (str y) (by rw [str_size, str_size]; omega), str_append]

/-- One line more is appended: the lines are ms' now. -/
theorem push_to {w W w1 : World} {B : Nat} {v v' : Value} {ms ms' : List (List UInt8)} {x : List UInt8} {o : Obj} (he : ms ++ [x] = ms') (hown : W.ownsRow B 9 1 v ms.length (ms.map sv)) (hbel : Below B w W) (hB : B ≤ W.heap.size)
    (hg : (W.alloc o).grownBy w1 v.ownBlock) (hown' : w1.ownsRow B 9 1 v' (ms.length + 1) (ms.map sv ++ [.string (str x)])) :
    w1.ownsRow B 9 1 v' ms'.length (ms'.map sv) ∧ Below B w w1 := by
  subst he
  exact push_line hown hbel hB hg hown'

theorem take_next {α : Type} (l : List α) (j : Nat) (h : j < l.length) : l.take j ++ [l[j]] = l.take (j + 1) := by
  rw [List.take_add_one, List.getElem?_eq_getElem h]; rfl

theorem grown_drew {a b : World} {r : Option Nat} (h : a.drew.grownBy b r) : a.grownBy b r := ⟨h.os, h.tape, h.output, h.size, h.block⟩

/-- Does the cut at c lie at a line's end? -/
def isEnd (l : List UInt8) (c : Nat) : Bool := decide (c = 0 ∨ c = l.length ∨ l[c - 1]? = some 10)

theorem take_last (l : List UInt8) (c : Nat) (h : c + 1 ≤ l.length) : (l.take (c + 1)).getLast? = l[c]? := by
  rw [List.getLast?_eq_getElem?, List.length_take, show min (c + 1) l.length - 1 = c by omega, List.getElem?_take_of_lt (by omega)]

theorem end_true {l : List UInt8} {c : Nat} (hc : c ≤ l.length) (h : isEnd l c = true) : lines l = lines (l.take c) ++ lines (l.drop c) := by
  have h := of_decide_eq_true h
  have := cut_nl (a := l.take c) (b := l.drop c) (by
    rcases h with h | h | h
    · left; rw [h, List.take_zero]
    · right; left; rw [h, List.drop_length]
    · by_cases h0 : c = 0
      · left; rw [h0, List.take_zero]
      · obtain ⟨d, rfl⟩ : ∃ d, c = d + 1 := ⟨c - 1, by omega⟩
        right; right
        rw [take_last l d hc]
        exact h)
  rwa [List.take_append_drop] at this

theorem end_false {l : List UInt8} {c : Nat} (hc : c ≤ l.length) (h : isEnd l c = false) : ∃ da x y tb, lines (l.take c) = da ++ [x] ∧ lines (l.drop c) = y :: tb ∧ lines l = da ++ (x ++ y) :: tb := by
  have h := of_decide_eq_false h
  obtain ⟨d, rfl⟩ : ∃ d, c = d + 1 := ⟨c - 1, by omega⟩
  have hl : d + 1 < l.length := by omega
  have ha : lines (l.take (d + 1)) ≠ [] := fun e => by
    have h0 : (l.take (d + 1)).length = 0 := by rw [lines_eq_nil.1 e]; rfl
    rw [List.length_take] at h0
    omega
  have hb : lines (l.drop (d + 1)) ≠ [] := fun e => by
    have h0 : (l.drop (d + 1)).length = 0 := by rw [lines_eq_nil.1 e]; rfl
    rw [List.length_drop] at h0
    omega
  obtain ⟨y, tb, hb'⟩ := List.exists_cons_of_ne_nil hb
  have ha' := (List.dropLast_concat_getLast ha).symm
  refine ⟨_, _, y, tb, ha', hb', ?_⟩
  have := cut_mid ha' hb' (by
    rw [take_last l d hc]
    exact fun e => h (Or.inr (Or.inr e)))
  rwa [List.take_append_drop] at this

/-- Two calls, one behind the other. -/
theorem below_step {a b c : World} (h1 : Below a.heap.size a b) (h2 : Below b.heap.size b c) : Below a.heap.size a c := h1.trans (h2.mono h1.size)
theorem below_draws (a : World) (n : Nat) : Below a.heap.size a (a.drewN n) := below_drewN (Below.refl _ _) n
theorem SRow.step {a b : World} {v : Value} {ls : List (List UInt8)} (h : SRow a a.heap.size v ls) (hb : Below a.heap.size a b) : SRow b b.heap.size v ls := (h.below hb (Nat.le_refl _)).mono hb.size
theorem Reads.step {a b : World} {ao : Option Addr} {l : List UInt8} (h : Reads a a.heap.size ao l) (hb : Below a.heap.size a b) : Reads b b.heap.size ao l := (h.below hb (Nat.le_refl _)).mono hb.size

end Go.Proofs.Qxb6609021a
