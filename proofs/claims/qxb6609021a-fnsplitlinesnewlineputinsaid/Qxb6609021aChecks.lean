/-
  The law's own helpers: zzEqStrings, zzEndsWithNewline, zzIsLinesOf, zzConcatIs.
-/
import Derived.Test.Qxb6609021aSplit
namespace Go.Proofs.Qxb6609021a
open Go.RowKit
set_option linter.unusedVariables false

/-- The slice v reads as the strings ls, in a block below B. -/
def SRow (w : World) (B : Nat) (v : Value) (ls : List (List UInt8)) : Prop :=
  ∃ ao cap, v = .slice ao ls.length cap ∧ ls.length ≤ cap ∧ ∀ i (h : i < ls.length), ∃ g, ao = some ⟨g, 0, none⟩ ∧ g < B ∧ w.cell? ⟨g, i, none⟩ = some (.string (str ls[i]))

theorem SRow.of_own {w : World} {base : Nat} {v : Value} {ls : List (List UInt8)} (h : w.ownsRow base 9 1 v ls.length (ls.map sv)) : SRow w w.heap.size v ls := by
  have h' := h
  obtain ⟨h1, ⟨rfl, h0⟩ | ⟨g, cap, cur, rfl, hg, hh, hc, hm, hs, ht⟩⟩ := h
  · rw [h0] at h'
    refine ⟨none, 0, by rw [h0], by omega, fun i hi => by omega⟩
  · refine ⟨some ⟨g, 0, none⟩, cap, rfl, hc, fun i hi => ⟨g, rfl, ?_, ?_⟩⟩
    · exact (h'.lt g rfl).2
    · rw [h'.cellAt i (by omega), List.getElem?_map, List.getElem?_eq_getElem hi]
      rfl

theorem SRow.below {w w' : World} {B C : Nat} {v : Value} {ls : List (List UInt8)} (h : SRow w B v ls) (hb : Below C w w') (hB : B ≤ C) : SRow w' B v ls := by
  obtain ⟨ao, cap, rfl, hc, h⟩ := h
  refine ⟨ao, cap, rfl, hc, fun i hi => ?_⟩
  obtain ⟨g, e, hlt, hcell⟩ := h i hi
  exact ⟨g, e, hlt, (hb.cell (p := ⟨g, i, none⟩) (Nat.lt_of_lt_of_le hlt hB)).trans hcell⟩

theorem SRow.mono {w : World} {B C : Nat} {v : Value} {ls : List (List UInt8)} (h : SRow w B v ls) (hB : B ≤ C) : SRow w C v ls := by
  obtain ⟨ao, cap, rfl, hc, h⟩ := h
  refine ⟨ao, cap, rfl, hc, fun i hi => ?_⟩
  obtain ⟨g, e, hlt, hcell⟩ := h i hi
  exact ⟨g, e, Nat.lt_of_lt_of_le hlt hB, hcell⟩

theorem str_size (l : List UInt8) : (str l).size = l.length := by
  show l.toArray.size = l.length
  simp

set_option maxHeartbeats 1000000 in
/-- zzEqStrings of two slices that read alike. -/
theorem eq_any (v v' : Value) (ls : List (List UInt8)) (B : Nat) (w : World) (hl : ls.length ≤ 200000) (hx : SRow w B v ls) (hy : SRow w B v' ls) :
    Calls Try.prog 12 #[v, v'] w fun e w' => e = .returned (.bool true) ∧ ∃ n, w' = w.drewN n := by
  obtain ⟨ao, cap, rfl, hc, hx⟩ := hx
  obtain ⟨ao', cap', rfl, hc', hy⟩ := hy
  have HX : Hid (∀ i (h : i < ls.length), ∃ g, ao = some ⟨g, 0, none⟩ ∧ g < B ∧ w.cell? ⟨g, i, none⟩ = some (.string (str ls[i]))) := hx
  have HY : Hid (∀ i (h : i < ls.length), ∃ g, ao' = some ⟨g, 0, none⟩ ∧ g < B ∧ w.cell? ⟨g, i, none⟩ = some (.string (str ls[i]))) := hy
  clear hx hy
  go_enter Try.func12, Try.ntmps12
  go_wp2_with fail
  go_loopg [5] ls.length (fun k t wr => ∃ j n : Nat, t = .int .i64 j ∧ j ≤ ls.length ∧ ls.length - j ≤ k ∧ wr = w.drewN n)
  case atStart => exact ⟨0, 0, rfl, Nat.zero_le _, Nat.le_refl _, rfl⟩
  case round =>
    obtain ⟨j, n, rfl, hj, hk, rfl⟩ := hrel
    by_cases hlt : j < ls.length
    · obtain ⟨g, rfl, hg, c1⟩ := HX.out j hlt
      obtain ⟨g', rfl, hg', c2⟩ := HY.out j hlt
      go_wp2_with fail
      go_quiet (fail)
      go_wp2_with fail
      go_roundg (ls.length - (j + 1))
      case measure => omega
      case rel => exact ⟨j + 1, _, by go_num, by omega, by omega, rfl⟩
    · go_wp2_with fail
      go_ret
      exact ⟨rfl, n, rfl⟩

theorem str_at (x : List UInt8) (j : Nat) (hj : j < x.length) (w : World) :
    (Instr.index 9 (.string (str x)) (.int .i64 (j : Int))).run Try.prog w = .ok (.int .u8 ((x[j]'hj).toNat : Int)) w := by
  have hs := str_size x
  rw [run_index_string w 9 (str x) .i64 j Try.underlying9, dif_pos ⟨by omega, by omega⟩]
  rfl

theorem str_last (x : List UInt8) (m : Nat) (hl : m < x.length) (hm : x.length = m + 1) (w : World) :
    (Instr.index 9 (.string (str x)) (.int .i64 ((x.length : Int) - 1))).run Try.prog w = .ok (.int .u8 ((x[m]'hl).toNat : Int)) w := by
  rw [show ((x.length : Int) - 1) = (m : Int) by omega]
  exact str_at x m (by omega) w

theorem ne_ten {c : UInt8} (h : c ≠ 10) : ((c.toNat : Int) == 10) = false := beq_eq_false_iff_ne.2 fun e => h (UInt8.toNat_inj.1 (by simpa using Int.ofNat.inj e))

theorem ends_yes (x : List UInt8) (w : World) (hx : x.length ≤ 200000) (h : x.getLast? = some 10) :
    Calls Try.prog 15 #[.string (str x)] w fun e w' => e = .returned (.bool true) ∧ w' = w := by
  have hp : 0 < x.length := by
    cases x with
    | nil => simp at h
    | cons c x => simp
  rw [List.getLast?_eq_getElem?, List.getElem?_eq_getElem (by omega)] at h
  obtain ⟨m, hm⟩ : ∃ m, x.length = m + 1 := ⟨x.length - 1, by omega⟩
  have hml : m < x.length := by omega
  have hi := fun w => str_at x m hml w
  have hb : (((x[m]'hml).toNat : Int) == 10) = true := by
    have e : x.length - 1 = m := by omega
    simp only [e] at h
    simp at h
    rw [h]; rfl
  have hs : ((str x).size : Int) = (m : Int) + 1 := by rw [str_size]; omega
  have hm2 : m ≤ 200000 := by omega
  clear h hm
  go_enter Try.func15, Try.ntmps15
  go_wp2_with fail
  go_ret
  exact ⟨rfl, rfl⟩

theorem ends_no (x : List UInt8) (w : World) (hx : x.length ≤ 200000) (hp : 0 < x.length) (h : x.getLast? ≠ some 10) :
    Calls Try.prog 15 #[.string (str x)] w fun e w' => e = .returned (.bool false) ∧ w' = w := by
  rw [List.getLast?_eq_getElem?, List.getElem?_eq_getElem (by omega)] at h
  obtain ⟨m, hm⟩ : ∃ m, x.length = m + 1 := ⟨x.length - 1, by omega⟩
  have hml : m < x.length := by omega
  have hi := fun w => str_at x m hml w
  have hb : (((x[m]'hml).toNat : Int) == 10) = false := by
    have e : x.length - 1 = m := by omega
    simp only [e] at h
    refine beq_eq_false_iff_ne.2 fun e => h ?_
    rw [show x[m]'hml = 10 from UInt8.toNat_inj.1 (by simpa using Int.ofNat.inj e)]
  have hs : ((str x).size : Int) = (m : Int) + 1 := by rw [str_size]; omega
  have hm2 : m ≤ 200000 := by omega
  clear h hm
  go_enter Try.func15, Try.ntmps15
  go_wp2_with fail
  go_ret
  exact ⟨rfl, rfl⟩

set_option maxHeartbeats 2000000 in
/-- zzIsLinesOf of the lines of a text, and the text. -/
theorem isLines_any (v : Value) (ls : List (List UInt8)) (ao : Option Addr) (cap B : Nat) (w : World) (hl : ls.flatten.length ≤ 65537) (hn : ls.length ≤ 65537) (hg : Good ls)
    (hx : SRow w B v ls) (hr : Reads w B ao ls.flatten) :
    Calls Try.prog 11 #[v, .slice ao ls.flatten.length cap] w fun e w' => e = .returned (.bool true) ∧ ∃ n, w' = w.drewN n := by
  obtain ⟨ao', cap', rfl, hc', hx⟩ := hx
  obtain ⟨L, hL⟩ : ∃ L, ls.flatten = L := ⟨_, rfl⟩
  have HF : Hid (∀ k (hk : k < ls.length), (ls.take (k + 1)).flatten.length = (ls.take k).flatten.length + ls[k].length ∧ (ls.take k).flatten.length + ls[k].length ≤ L.length ∧
    ∀ j (h : j < ls[k].length), L[(ls.take k).flatten.length + j]? = some ls[k][j]) := by
    rw [← hL]; exact flat_at ls
  have HE : Hid ((ls.take ls.length).flatten.length = L.length) := by
    rw [List.take_length, hL]; rfl
  rw [hL] at hr hl ⊢
  have HX : Hid (∀ i (h : i < ls.length), ∃ g, ao' = some ⟨g, 0, none⟩ ∧ g < B ∧ w.cell? ⟨g, i, none⟩ = some (.string (str ls[i]))) := hx
  have HR : Hid (Reads w B ao L) := hr
  have HG : Hid (Good ls) := hg
  clear hx hg hr hL
  go_enter Try.func11, Try.ntmps11
  go_wp2_with fail
  go_loopg [5, 6] ls.length (fun k ps t wr => ∃ j n : Nat, t = .int .i64 j ∧ j ≤ ls.length ∧ ls.length - j ≤ k ∧ ps = .int .i64 ((ls.take j).flatten.length : Int) ∧ wr = w.drewN n)
  case atStart => exact ⟨0, 0, rfl, Nat.zero_le _, Nat.le_refl _, rfl, rfl⟩
  case round =>
    obtain ⟨j, n, rfl, hj, hk, rfl, rfl⟩ := hrel
    by_cases hlt : j < ls.length
    · obtain ⟨g, rfl, hg, c1⟩ := HX.out j hlt
      obtain ⟨f1, f2, f3⟩ := HF.out j hlt
      obtain ⟨g1, g2, g3⟩ := Good.at HG.out j hlt
      obtain ⟨x, hx⟩ : ∃ x, ls[j] = x := ⟨_, rfl⟩
      obtain ⟨p, hp⟩ : ∃ p, (ls.take j).flatten.length = p := ⟨_, rfl⟩
      simp only [hx] at c1 f1 f2 f3 g1 g2 g3
      rw [hp] at f1 f2 f3 ⊢
      have HP : Hid ((ls.take j).flatten.length = p) := hp
      have hne : L ≠ [] := by
        intro e
        have e0 : L.length = 0 := by rw [e]; rfl
        omega
      obtain ⟨b, o, rfl, hb, hcell⟩ := HR.out hne
      have HC : Hid (∀ i (h : i < L.length), w.cell? ⟨b, o + i, none⟩ = some (.int .u8 (L[i].toNat : Int))) := hcell
      have HF1 : Hid ((ls.take (j + 1)).flatten.length = p + x.length) := f1
      have HF3 : Hid (∀ j (h : j < x.length), L[p + j]? = some x[j]) := f3
      have HG2 : Hid (∀ j (hj : j < x.length), x[j] = 10 → j + 1 = x.length) := g2
      have HG3 : Hid (∀ (h1 : j + 1 < ls.length) (h2 : x.length - 1 < x.length), x[x.length - 1] = 10) := g3
      clear hx hp hne hcell f1 f3 g2 g3
      have hsx : (str x).size = x.length := str_size x
      have hz : ((x.length : Int) == 0) = false := beq_eq_false_iff_ne.2 (by omega)
      go_wp2_with fail
      go_loopg [8] x.length (fun k t wr => ∃ i m : Nat, t = .int .i64 i ∧ i ≤ x.length ∧ x.length - i ≤ k ∧ wr = w.drewN m)
      case atStart => exact ⟨0, n, rfl, Nat.zero_le _, Nat.le_refl _, rfl⟩
      case round =>
        obtain ⟨i, m, rfl, hi, hki, rfl⟩ := hrel
        by_cases hil : i < x.length
        · have hix := fun w => str_at x i hil w
          have hlt2 : p + i < L.length := by omega
          have c2 : w.cell? ⟨b, o + (p + i), none⟩ = some (.int .u8 ((x[i]'hil).toNat : Int)) := by
            have := HF3.out i hil
            rw [List.getElem?_eq_getElem hlt2] at this
            simp at this
            rw [HC.out (p + i) hlt2, this]
          have hwr : IntKind.i64.wrap ((p : Int) + (i : Int)) = (p : Int) + (i : Int) := wrap_small _ (by omega) (by omega)
          have k0 : (0 : Int) ≤ (p : Int) + (i : Int) := by omega
          have k1 : (p : Int) + (i : Int) < (L.length : Int) := by omega
          have k2 : ((p : Int) + (i : Int)).toNat = p + i := by omega
          by_cases h10 : x[i]'hil = 10
          · have h11 : (((x[i]'hil).toNat : Int) == 10) = true := by rw [h10]; rfl
            have h12 := HG2.out i hil h10
            have h13 : ((i : Int) != (x.length : Int) - 1) = false := by
              rw [bne_eq_false_iff_eq]; omega
            have H12 : Hid (i + 1 = x.length) := h12
            clear h10 h12
            go_wp2_with fail
            go_quiet (fail)
            go_wp2_with fail
            go_roundg (x.length - (i + 1))
            case measure => omega
            case rel => exact ⟨i + 1, _, by go_num, by omega, by omega, rfl⟩
          · have h11 : (((x[i]'hil).toNat : Int) == 10) = false := ne_ten h10
            clear h10
            go_wp2_with fail
            go_quiet (fail)
            go_wp2_with fail
            go_roundg (x.length - (i + 1))
            case measure => omega
            case rel => exact ⟨i + 1, _, by go_num, by omega, by omega, rfl⟩
        · obtain ⟨m', hm'⟩ : ∃ m', x.length = m' + 1 := ⟨x.length - 1, by omega⟩
          have hml : m' < x.length := by omega
          have hll := fun w => str_last x m' hml hm' w
          have HM : Hid (x.length = m' + 1) := hm'
          clear hm'
          by_cases hjl : j + 1 < ls.length
          · have e10 : ((x[m']'hml).toNat : Int) = 10 := by
              have := HG3.out hjl (by omega)
              have e : x.length - 1 = m' := by have := HM.out; omega
              simp only [e] at this
              rw [this]; rfl
            have e11 : (((x[m']'hml).toNat : Int) != 10) = false := by rw [e10]; rfl
            go_wp2_with fail
            go_roundg (ls.length - (j + 1))
            case measure => omega
            case rel => exact ⟨j + 1, _, by go_num, by omega, by omega, by rw [HF1.out]; go_num, rfl⟩
          · go_wp2_with fail
            go_roundg (ls.length - (j + 1))
            case measure => omega
            case rel => exact ⟨j + 1, _, by go_num, by omega, by omega, by rw [HF1.out]; go_num, rfl⟩
    · have hje : j = ls.length := by omega
      subst hje
      have hpe := HE.out
      rw [hpe]
      clear hpe
      go_wp2_with fail
      go_ret
      exact ⟨by simp, n, rfl⟩

set_option maxHeartbeats 2000000 in
/-- zzConcatIs of the lines of a text, and the text. -/
theorem concat_any (v : Value) (ls : List (List UInt8)) (ao : Option Addr) (cap B : Nat) (w : World) (hl : ls.flatten.length ≤ 65537) (hn : ls.length ≤ 65537) (hg : Good ls)
    (hx : SRow w B v ls) (hr : Reads w B ao ls.flatten) :
    Calls Try.prog 14 #[v, .slice ao ls.flatten.length cap] w fun e w' => e = .returned (.bool true) ∧ ∃ n, w' = w.drewN n := by
  obtain ⟨ao', cap', rfl, hc', hx⟩ := hx
  obtain ⟨L, hL⟩ : ∃ L, ls.flatten = L := ⟨_, rfl⟩
  have HF : Hid (∀ k (hk : k < ls.length), (ls.take (k + 1)).flatten.length = (ls.take k).flatten.length + ls[k].length ∧ (ls.take k).flatten.length + ls[k].length ≤ L.length ∧
    ∀ j (h : j < ls[k].length), L[(ls.take k).flatten.length + j]? = some ls[k][j]) := by
    rw [← hL]; exact flat_at ls
  have HE : Hid ((ls.take ls.length).flatten.length = L.length) := by
    rw [List.take_length, hL]; rfl
  rw [hL] at hr hl ⊢
  have HX : Hid (∀ i (h : i < ls.length), ∃ g, ao' = some ⟨g, 0, none⟩ ∧ g < B ∧ w.cell? ⟨g, i, none⟩ = some (.string (str ls[i]))) := hx
  have HR : Hid (Reads w B ao L) := hr
  have HG : Hid (Good ls) := hg
  clear hx hg hr hL
  go_enter Try.func14, Try.ntmps14
  go_wp2_with fail
  go_loopg [5, 6] ls.length (fun k ps t wr => ∃ j n : Nat, t = .int .i64 j ∧ j ≤ ls.length ∧ ls.length - j ≤ k ∧ ps = .int .i64 ((ls.take j).flatten.length : Int) ∧ wr = w.drewN n)
  case atStart => exact ⟨0, 0, rfl, Nat.zero_le _, Nat.le_refl _, rfl, rfl⟩
  case round =>
    obtain ⟨j, n, rfl, hj, hk, rfl, rfl⟩ := hrel
    by_cases hlt : j < ls.length
    · obtain ⟨g, rfl, hg, c1⟩ := HX.out j hlt
      obtain ⟨f1, f2, f3⟩ := HF.out j hlt
      obtain ⟨g1, g2, g3⟩ := Good.at HG.out j hlt
      obtain ⟨x, hx⟩ : ∃ x, ls[j] = x := ⟨_, rfl⟩
      obtain ⟨p, hp⟩ : ∃ p, (ls.take j).flatten.length = p := ⟨_, rfl⟩
      simp only [hx] at c1 f1 f2 f3 g1 g2 g3
      rw [hp] at f1 f2 f3 ⊢
      have HP : Hid ((ls.take j).flatten.length = p) := hp
      have hne : L ≠ [] := by
        intro e
        have e0 : L.length = 0 := by rw [e]; rfl
        omega
      obtain ⟨b, o, rfl, hb, hcell⟩ := HR.out hne
      have HC : Hid (∀ i (h : i < L.length), w.cell? ⟨b, o + i, none⟩ = some (.int .u8 (L[i].toNat : Int))) := hcell
      have HF1 : Hid ((ls.take (j + 1)).flatten.length = p + x.length) := f1
      have HF3 : Hid (∀ j (h : j < x.length), L[p + j]? = some x[j]) := f3
      have HG2 : Hid (∀ j (hj : j < x.length), x[j] = 10 → j + 1 = x.length) := g2
      have HG3 : Hid (∀ (h1 : j + 1 < ls.length) (h2 : x.length - 1 < x.length), x[x.length - 1] = 10) := g3
      clear hx hp hne hcell f1 f3 g2 g3
      have hsx : (str x).size = x.length := str_size x
      go_wp2_with fail
      go_loopg [8] x.length (fun k t wr => ∃ i m : Nat, t = .int .i64 i ∧ i ≤ x.length ∧ x.length - i ≤ k ∧ wr = w.drewN m)
      case atStart => exact ⟨0, n, rfl, Nat.zero_le _, Nat.le_refl _, rfl⟩
      case round =>
        obtain ⟨i, m, rfl, hi, hki, rfl⟩ := hrel
        by_cases hil : i < x.length
        · have hix := fun w => str_at x i hil w
          have hlt2 : p + i < L.length := by omega
          have c2 : w.cell? ⟨b, o + (p + i), none⟩ = some (.int .u8 ((x[i]'hil).toNat : Int)) := by
            have := HF3.out i hil
            rw [List.getElem?_eq_getElem hlt2] at this
            simp at this
            rw [HC.out (p + i) hlt2, this]
          have hwr : IntKind.i64.wrap ((p : Int) + (i : Int)) = (p : Int) + (i : Int) := wrap_small _ (by omega) (by omega)
          have k0 : (0 : Int) ≤ (p : Int) + (i : Int) := by omega
          have k1 : (p : Int) + (i : Int) < (L.length : Int) := by omega
          have k2 : ((p : Int) + (i : Int)).toNat = p + i := by omega
          go_wp2_with fail
          go_quiet (fail)
          go_wp2_with fail
          go_roundg (x.length - (i + 1))
          case measure => omega
          case rel => exact ⟨i + 1, _, by go_num, by omega, by omega, rfl⟩
        · go_wp2_with fail
          go_roundg (ls.length - (j + 1))
          case measure => omega
          case rel => exact ⟨j + 1, _, by go_num, by omega, by omega, by rw [HF1.out]; go_num, rfl⟩
    · have hje : j = ls.length := by omega
      subst hje
      have hpe := HE.out
      rw [hpe]
      clear hpe
      go_wp2_with fail
      go_ret
      exact ⟨by simp, n, rfl⟩
end Go.Proofs.Qxb6609021a
