/-
  splitLines: its contract.
-/
import Derived.Test.Qxb6609021aRows
import Derived.Test.Qxb6609021aShelf
import Derived.Test.Qxb6609021aPlain
import Derived.WalkKit
import Derived.BigQuiet
import Derived.Deep.QuietTactic
import Derived.Deep.LoopGhost
import Derived.Laws.IdiomStrings
import Derived.WalkSmall
namespace Go.Proofs.Qxb6609021a
open Go.RowKit
set_option linter.unusedVariables false

theorem info9 : (Try.prog.info? 9).map (fun i => (i.zero, i.size, i.bytes)) = some (some (.string ByteArray.empty), 1, 16) := by kernel_rfl
theorem info5 : (Try.prog.info? 5).map (fun i => (i.zero, i.size, i.bytes)) = some (some (.int .u8 0), 1, 1) := by kernel_rfl

/-- A text as Go's string; as a cell. -/
def str (l : List UInt8) : ByteArray := ⟨l.toArray⟩
def sv (l : List UInt8) : Value := .string (str l)

/-- The slice 'ao' begins at cells that hold the bytes l, in a block below B. -/
def Reads (w : World) (B : Nat) (ao : Option Addr) (l : List UInt8) : Prop :=
  l ≠ [] → ∃ b o, ao = some ⟨b, o, none⟩ ∧ b < B ∧ ∀ i (h : i < l.length), w.cell? ⟨b, o + i, none⟩ = some (.int .u8 (l[i].toNat : Int))

theorem Reads.below {w w' : World} {B C : Nat} {ao : Option Addr} {l : List UInt8} (h : Reads w B ao l) (hb : Below C w w') (hB : B ≤ C) : Reads w' B ao l := by
  intro hne
  obtain ⟨b, o, e, hlt, hc⟩ := h hne
  exact ⟨b, o, e, hlt, fun i hi => (hb.cell (p := ⟨b, o + i, none⟩) (Nat.lt_of_lt_of_le hlt hB)).trans (hc i hi)⟩

theorem Reads.mono {w : World} {B C : Nat} {ao : Option Addr} {l : List UInt8} (h : Reads w B ao l) (hB : B ≤ C) : Reads w C ao l := by
  intro hne
  obtain ⟨b, o, e, hlt, hc⟩ := h hne
  exact ⟨b, o, e, Nat.lt_of_lt_of_le hlt hB, hc⟩

theorem Reads.take {w : World} {B : Nat} {ao : Option Addr} {l : List UInt8} (h : Reads w B ao l) (c : Nat) : Reads w B ao (l.take c) := by
  intro hne
  obtain ⟨b, o, e, hlt, hc⟩ := h (fun e => hne (by rw [e, List.take_nil]))
  refine ⟨b, o, e, hlt, fun i hi => ?_⟩
  rw [List.getElem_take]
  exact hc i (by simp at hi; omega)

theorem bytesOf_map (l : List UInt8) : Lib.bytesOf (l.map fun b => (b.toNat : Int)) = l := by
  unfold Lib.bytesOf
  rw [List.map_map]
  have : ((fun n : Int => UInt8.ofNat n.toNat) ∘ fun b : UInt8 => (b.toNat : Int)) = id := by funext b; simp
  rw [this, List.map_id]

/-- Where the first line ends. -/
theorem first_line (r : List UInt8) (hne : r ≠ []) : ∃ n : Nat, 1 ≤ n ∧ n ≤ r.length ∧ lines r = r.take n :: lines (r.drop n) ∧
    ((Lib.indexByte r 10 = -1 ∧ n = r.length) ∨ Lib.indexByte r 10 + 1 = n) := by
  have hge := Lib.indexByte_ge r 10
  by_cases h : Lib.indexByte r 10 = -1
  · have hn := Lib.indexByte_none h
    refine ⟨r.length, List.length_pos_iff.2 hne, Nat.le_refl _, ?_, Or.inl ⟨h, rfl⟩⟩
    rw [List.take_length, List.drop_length]
    refine lines_none r hne fun b hb he => ?_
    obtain ⟨k, hk, e⟩ := List.getElem_of_mem hb
    exact hn k (by rw [List.getElem?_eq_getElem hk, e, he])
  · obtain ⟨o, ho⟩ := Int.eq_ofNat_of_zero_le (show 0 ≤ Lib.indexByte r 10 by omega)
    obtain ⟨h1, h2⟩ := Lib.indexByte_some ho
    have hlt : o < r.length := (List.getElem?_eq_some_iff.1 h1).1
    refine ⟨o + 1, by omega, by omega, ?_, Or.inr (by omega)⟩
    have e1 : r = r.take o ++ 10 :: r.drop (o + 1) := by
      have : r[o] = 10 := (List.getElem?_eq_some_iff.1 h1).2
      rw [← this, List.getElem_cons_drop, List.take_append_drop]
    have e2 : r.take (o + 1) = r.take o ++ [10] := by
      rw [List.take_add_one, h1]; rfl
    have := lines_some (r.take o) (r.drop (o + 1)) (fun b hb he => by
      obtain ⟨k, hk, e⟩ := List.getElem_of_mem hb
      have hk' : k < o := by simp at hk; omega
      apply h2 k hk'
      rw [List.getElem_take] at e
      rw [List.getElem?_eq_getElem (by omega), e, he])
    rw [← e1, ← e2] at this
    exact this

theorem idx_at {w : World} {B b o cap : Nat} {r : List UInt8} (hc : ∀ i (h : i < r.length), w.cell? ⟨b, o + i, none⟩ = some (.int .u8 (r[i].toNat : Int))) :
    Calls Try.prog 31 #[.slice (some ⟨b, o, none⟩) r.length cap, .int .u8 10] w fun e w' => e = .returned (.int .i64 (Lib.indexByte r 10)) ∧ w' = w := by
  have h := Try.bytes_IndexByte b o r.length cap (r.map fun b => (b.toNat : Int)) 10 w (by simp) (fun i hi => by
    rw [hc i hi]
    simp [List.getD, hi])
  rw [bytesOf_map] at h
  exact h

theorem addr_add (b o j : Nat) : (⟨b, o, none⟩ : Addr).add j = ⟨b, o + j, none⟩ := by
  unfold Addr.add
  split
  · next h => subst h; rfl
  · rfl

/-- One line more is appended. -/
theorem push_line {w W w1 : World} {B : Nat} {v v' : Value} {ms : List (List UInt8)} {x : List UInt8} {o : Obj} (hown : W.ownsRow B 9 1 v ms.length (ms.map sv)) (hbel : Below B w W) (hB : B ≤ W.heap.size)
    (hg : (W.alloc o).grownBy w1 v.ownBlock) (hown' : w1.ownsRow B 9 1 v' (ms.length + 1) (ms.map sv ++ [.string (str x)])) :
    w1.ownsRow B 9 1 v' (ms ++ [x]).length ((ms ++ [x]).map sv) ∧ Below B w w1 := by
  refine ⟨?_, (hbel.alloc hB o).grown hg (by simp; omega) (fun k e => (hown.lt k e).1)⟩
  have e : (ms ++ [x]).map sv = ms.map sv ++ [.string (str x)] := by simp [sv]
  rw [e, List.length_append]
  exact hown'

theorem one_cell (w : World) (v : Value) (t : TypeId) : ∀ j u, [v][j]? = some u → (w.alloc (.cells #[v] t)).cell? ((⟨w.heap.size, 0, none⟩ : Addr).add j) = some u := by
  intro j u h
  match j, h with
  | 0, h =>
    simp at h
    subst h
    simp [Addr.add]

theorem conv_at {w : World} {b o cap n : Nat} {r : List UInt8} (hn : n ≤ r.length) (hc : ∀ i (h : i < r.length), w.cell? ⟨b, o + i, none⟩ = some (.int .u8 (r[i].toNat : Int))) :
    (convert 22 9 (.slice (some ⟨b, o, none⟩) n cap)).run Try.prog w = .ok (.string (str (r.take n))) w := by
  have hl : (r.take n).length = n := by simp; omega
  have h := run_convert_bytes_back (P := Try.prog) w 22 9 5 ⟨b, o, none⟩ cap (r.take n) Try.underlying22 Try.underlying5 Try.underlying9 (fun j hj => by
    have hj' : j < r.length := by omega
    rw [List.getElem_take]
    rw [addr_add]
    exact hc j hj')
  rw [hl] at h
  exact h

set_option maxHeartbeats 1000000 in
theorem split_any (ao : Option Addr) (l : List UInt8) (cap : Nat) (w : World) (hl : l.length ≤ 65537) (hcap : l.length ≤ cap) (hc2 : cap ≤ 9223372036854775807) (hR : Reads w w.heap.size ao l) (hn : ao = none → cap = 0) :
    Calls Try.prog 26 #[.slice ao l.length cap] w fun e w' => ∃ v, e = .returned v ∧ w'.ownsRow w.heap.size 9 1 v (lines l).length ((lines l).map sv) ∧ Below w.heap.size w w' := by
  obtain ⟨i0, hi, hz0, hz1, hz2⟩ := info_parts info9
  have HR : Hid _ := hR
  have HN : Hid _ := hn
  clear hR hn
  go_enter Try.func26, Try.ntmps26
  go_wp2_with fail
  go_loopg [0, 3] l.length (fun k t v wr => ∃ (ao' : Option Addr) (r : List UInt8) (cap' : Nat) (ms : List (List UInt8)), t = .slice ao' r.length cap' ∧ r.length ≤ cap' ∧ cap' ≤ cap ∧ r.length ≤ k ∧ k ≤ l.length ∧
    Reads w w.heap.size ao' r ∧ (ao' = none → cap' = 0) ∧ ms ++ lines r = lines l ∧ wr.ownsRow w.heap.size 9 1 v ms.length (ms.map sv) ∧ Below w.heap.size w wr)
  case atStart => exact ⟨ao, l, cap, [], rfl, hcap, Nat.le_refl _, Nat.le_refl _, Nat.le_refl _, HR.out, HN.out, rfl, World.ownsRow_nil _ _ _ _, Below.refl _ _⟩
  case round =>
    obtain ⟨ao', r, cap', ms, rfl, c1, c2, c3, c4, hrd, hnn, hms, hown, hbel⟩ := hrel
    have HM : Hid (ms ++ lines r = lines l) := hms
    have HO : Hid (wr.ownsRow w.heap.size 9 1 u3 ms.length (ms.map sv)) := hown
    have HB : Hid (Below w.heap.size w wr) := hbel
    have HN' : Hid _ := hnn
    clear hms hnn
    by_cases hr0 : r = []
    · subst hr0
      clear hown hbel
      go_wp2_with fail
      go_ret
      have e := HM.out
      rw [show lines [] = [] from rfl, List.append_nil] at e
      subst e
      exact ⟨_, rfl, HO.out, HB.out⟩
    · obtain ⟨b, o, rfl, hlt, hcell⟩ := hrd hr0
      have hcw : ∀ i (h : i < r.length), wr.cell? ⟨b, o + i, none⟩ = some (.int .u8 (r[i].toNat : Int)) := fun i hi => (hbel.cell (p := ⟨b, o + i, none⟩) hlt).trans (hcell i hi)
      obtain ⟨n, n1, n2, hfl, hX⟩ := first_line r hr0
      have hid := idx_at (B := 0) (cap := cap') hcw
      have hconv := conv_at (cap := cap') n2 hcw
      have HF : Hid (lines r = r.take n :: lines (r.drop n)) := hfl
      have HC : Hid _ := hcell
      clear hcell hcw hfl hrd
      obtain ⟨X, hXe⟩ : ∃ X, Lib.indexByte r 10 = X := ⟨_, rfl⟩
      rw [hXe] at hid hX
      have HI : Hid (Calls Try.prog 31 #[.slice (some ⟨b, o, none⟩) r.length cap', .int .u8 10] wr fun e w' => e = .returned (.int .i64 X) ∧ w' = wr) := hid
      clear hXe hid
      have hr1 : 0 < r.length := List.length_pos_iff.2 hr0
      have HR0 : Hid _ := hr0
      clear hr0
      have hbs := hbel.size
      have hlen : ms.length ≤ l.length := by
        have h1 := lines_length_le l
        have h2 := congrArg List.length HM.out
        rw [List.length_append] at h2
        omega
      clear hown hbel
      rcases hX with ⟨rfl, rfl⟩ | hX
      · go_wp2_with fail
        refine HI.out.mono ?_
        rintro e w' ⟨rfl, rfl⟩
        go_wp2_with (at_builtin; refine wpList_append_own _ rfl _ _ 24 rfl w.heap.size 9 i0 (.string ByteArray.empty) 1 16 Try.underlying24 hi hz0 hz1 hz2 rfl (by decide) _ _ _ rfl (HO.out.alloc _) ⟨w'.heap.size, 0, none⟩ 1 1 [.string (str (r.take r.length))] rfl rfl ?c1 ?c2 ?c3 ?c4 ?c5 ?_)
        case c1 => simpa using one_cell w' (.string (str r)) 9
        case c2 => intro u hu; simp at hu; subst hu; rfl
        case c3 => unfold maxLen; omega
        case c4 => omega
        case c5 => simp; omega
        intro v' w1 hown' hgrow _
        have R := push_line HO.out HB.out hbs hgrow hown'
        have HR1 : Hid (w1.ownsRow w.heap.size 9 1 v' (ms ++ [r]).length ((ms ++ [r]).map sv)) := R.1
        have HR2 : Hid (Below w.heap.size w w1) := R.2
        clear R hown' hgrow
        have HL : Hid ((ms ++ [r]) ++ lines [] = lines l) := by
          show (ms ++ [r]) ++ lines [] = lines l
          have := HM.out
          rw [HF.out, List.take_length, List.drop_length] at this
          rw [← this]
          simp
        go_wp2_with fail
        all_goals
          go_roundg 0
          case measure => omega
          case rel => exact ⟨_, [], _, ms ++ [r], rfl, by simp, by omega, by simp, by omega, fun h => absurd rfl h, fun h => by simp at h, HL.out, HR1.out, HR2.out⟩
      · obtain ⟨x, rfl⟩ : ∃ x : Nat, X = x := ⟨X.toNat, by omega⟩
        obtain rfl : n = x + 1 := by omega
        clear hX
        go_wp2_with fail
        refine HI.out.mono ?_
        rintro e w' ⟨rfl, rfl⟩
        go_wp2_with (at_builtin; refine wpList_append_own _ rfl _ _ 24 rfl w.heap.size 9 i0 (.string ByteArray.empty) 1 16 Try.underlying24 hi hz0 hz1 hz2 rfl (by decide) _ _ _ rfl (HO.out.alloc _) ⟨w'.heap.size, 0, none⟩ 1 1 [.string (str (r.take (x + 1)))] rfl rfl ?d1 ?d2 ?d3 ?d4 ?d5 ?_)
        case d1 => exact one_cell w' (.string (str (r.take (x + 1)))) 9
        case d2 => intro u hu; simp at hu; subst hu; rfl
        case d3 => unfold maxLen; omega
        case d4 => omega
        case d5 => simp; omega
        intro v' w1 hown' hgrow _
        have R := push_line HO.out HB.out hbs hgrow hown'
        have HR1 : Hid (w1.ownsRow w.heap.size 9 1 v' (ms ++ [r.take (x + 1)]).length ((ms ++ [r.take (x + 1)]).map sv)) := R.1
        have HR2 : Hid (Below w.heap.size w w1) := R.2
        clear R hown' hgrow
        have HL : Hid ((ms ++ [r.take (x + 1)]) ++ lines (r.drop (x + 1)) = lines l) := by
          show (ms ++ [r.take (x + 1)]) ++ lines (r.drop (x + 1)) = lines l
          have := HM.out
          rw [HF.out] at this
          rw [← this]
          simp
        have HD : Hid (Reads w w.heap.size (some ⟨b, o + (x + 1), none⟩) (r.drop (x + 1))) := by
          intro _
          refine ⟨b, o + (x + 1), rfl, hlt, fun i hi => ?_⟩
          rw [List.getElem_drop, Nat.add_assoc]
          exact HC.out (x + 1 + i) (by simp at hi; omega)
        by_cases hcn : x + 1 < cap'
        · go_wp2_with fail
          go_roundg (r.length - (x + 1))
          case measure => omega
          case rel => exact ⟨some ⟨b, o + (x + 1), none⟩, r.drop (x + 1), cap' - (x + 1), ms ++ [r.take (x + 1)], by rw [List.length_drop], by rw [List.length_drop]; omega, by omega, by rw [List.length_drop]; exact Nat.le_refl _, by omega, HD.out, (fun h => nomatch h), HL.out, HR1.out, HR2.out⟩
        · have hx1 : x + 1 = r.length := by omega
          have hdn : r.drop (x + 1) = [] := by rw [hx1, List.drop_length]
          have HL' : Hid ((ms ++ [r.take (x + 1)]) ++ lines [] = lines l) := by
            have := HL.out
            rw [hdn] at this
            exact this
          have HX : Hid (x + 1 = r.length) := hx1
          clear hx1 hdn
          go_wp2_with fail
          go_roundg 0
          case measure => omega
          case rel => exact ⟨some ⟨b, o, none⟩, [], 0, ms ++ [r.take (x + 1)], by rw [show r.length - (x + 1) = 0 by have := HX.out; omega]; rfl, Nat.le_refl _, by omega, Nat.le_refl _, by omega, fun h => absurd rfl h, (fun h => nomatch h), HL'.out, HR1.out, HR2.out⟩
end Go.Proofs.Qxb6609021a
