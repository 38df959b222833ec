/-
  math/big's nat: pow, slices.Reverse, norm, rsh.
-/
import Derived.Test.Qxb6608999aFmtReader
import Derived.OwnWalk
import Derived.BigRegion
import Derived.RegionTactic
import Derived.Laws.Bits64b
import Derived.Laws.Twins
namespace Go.Proofs.Qxb6608999aFmt
open Go.RowKit
set_option linter.unusedVariables false

/-- A word as a cell. -/
def word (n : Nat) : Value := .int .u64 (n : Int)

def upd (A : Nat → Value) (i : Nat) (v : Value) : Nat → Value := fun j => if j = i then v else A j

/-- Block b's cells up to cap. -/
structure Row (w : World) (b cap : Nat) (A : Nat → Value) : Prop where
  read : ∀ i, i < cap → w.cell? ⟨b, i, none⟩ = some (A i)
  thaw : ∀ i, w.frozen? ⟨b, i, none⟩ = false

theorem Row.drewN {w : World} {b cap : Nat} {A : Nat → Value} (h : Row w b cap A) (n : Nat) : Row (w.drewN n) b cap A := ⟨h.read, h.thaw⟩
theorem Row.set {w : World} {b cap : Nat} {A : Nat → Value} (h : Row w b cap A) (i : Nat) (hi : i < cap) (v : Value) : Row (w.setCell ⟨b, i, none⟩ v) b cap (upd A i v) := by
  refine ⟨fun j hj => ?_, fun j => by rw [World.frozen?_setCell]; exact h.thaw j⟩
  unfold upd
  by_cases e : j = i
  · subst e
    rw [if_pos rfl]
    exact World.cell?_setCell_same _ _ _ (h.read j hj)
  · rw [if_neg e, World.cell?_setCell_other _ _ _ _ (by intro hh; injection hh; omega)]
    exact h.read j hj
theorem Row.only {w w' : World} {b g cap : Nat} {A : Nat → Value} (h : Row w b cap A) (o : Only g w w') (hn : b ≠ g) : Row w' b cap A :=
  ⟨fun i hi => (o.cell (p := ⟨b, i, none⟩) hn).trans (h.read i hi), fun i => (o.frozen (p := ⟨b, i, none⟩) hn).trans (h.thaw i)⟩
theorem Row.below {w w' : World} {b B cap : Nat} {A : Nat → Value} (h : Row w b cap A) (o : Below B w w') (hn : b < B) : Row w' b cap A :=
  ⟨fun i hi => (o.cell (p := ⟨b, i, none⟩) hn).trans (h.read i hi), fun i => (o.frozen (p := ⟨b, i, none⟩) hn).trans (h.thaw i)⟩
theorem Row.congr {w : World} {b cap : Nat} {A A' : Nat → Value} (h : Row w b cap A) (e : ∀ i, i < cap → A i = A' i) : Row w b cap A' := ⟨fun i hi => (h.read i hi).trans (by rw [e i hi]), h.thaw⟩

set_option maxRecDepth 100000 in
theorem pow_any (w : World) : Calls Tryf.prog 59 #[.int .u64 16, .int .i64 8] w fun e w' => e = .returned (.int .u64 4294967296) ∧ w' = w := by
  go_enter Tryf.func59, Tryf.ntmps59
  go_wp2_with fail
  go_loopg [0, 1, 4] 4 (fun k x n p wr => wr = w ∧ ((k = 4 ∧ x = .int .u64 16 ∧ n = .int .i64 8 ∧ p = .int .u64 1) ∨ (k = 3 ∧ x = .int .u64 256 ∧ n = .int .i64 4 ∧ p = .int .u64 1) ∨ (k = 2 ∧ x = .int .u64 65536 ∧ n = .int .i64 2 ∧ p = .int .u64 1) ∨ (k = 1 ∧ x = .int .u64 4294967296 ∧ n = .int .i64 1 ∧ p = .int .u64 1) ∨ (k = 0 ∧ x = .int .u64 0 ∧ n = .int .i64 0 ∧ p = .int .u64 4294967296)))
  case atStart => exact ⟨rfl, Or.inl ⟨rfl, rfl, rfl, rfl⟩⟩
  case round =>
    obtain ⟨rfl, ⟨rfl, rfl, rfl, rfl⟩ | ⟨rfl, rfl, rfl, rfl⟩ | ⟨rfl, rfl, rfl, rfl⟩ | ⟨rfl, rfl, rfl, rfl⟩ | ⟨rfl, rfl, rfl, rfl⟩⟩ := hrel
    · go_wp2_with fail
      go_roundg 3
      case measure => omega
      case rel => exact ⟨rfl, Or.inr (Or.inl ⟨rfl, rfl, rfl, rfl⟩)⟩
    · go_wp2_with fail
      go_roundg 2
      case measure => omega
      case rel => exact ⟨rfl, Or.inr (Or.inr (Or.inl ⟨rfl, rfl, rfl, rfl⟩))⟩
    · go_wp2_with fail
      go_roundg 1
      case measure => omega
      case rel => exact ⟨rfl, Or.inr (Or.inr (Or.inr (Or.inl ⟨rfl, rfl, rfl, rfl⟩)))⟩
    · go_wp2_with fail
      go_roundg 0
      case measure => omega
      case rel => exact ⟨rfl, Or.inr (Or.inr (Or.inr (Or.inr ⟨rfl, rfl, rfl, rfl⟩)))⟩
    · go_wp2_with fail
      go_ret
      exact ⟨rfl, rfl⟩

/-- slices.Reverse of three words. -/
theorem reverse_three (b cap : Nat) (x y z : Int) (A : Nat → Value) (w : World) (h : Row w b cap A) (hcap : 3 ≤ cap) (hm : cap ≤ 9223372036854775807) (h0 : A 0 = .int .u64 x) (h1 : A 1 = .int .u64 y) (h2 : A 2 = .int .u64 z) :
    Calls Tryf.prog 60 #[.slice (some ⟨b, 0, none⟩) 3 cap] w fun e w' => e = .returned (.tuple #[]) ∧ Row w' b cap (upd (upd A 0 (.int .u64 z)) 2 (.int .u64 x)) ∧ Only b w w' := by
  have c0 := h.read 0 (by omega)
  have c1 := h.read 1 (by omega)
  have c2 := h.read 2 (by omega)
  have t0 := h.thaw 0
  have t2 := h.thaw 2
  rw [h0] at c0
  rw [h1] at c1
  rw [h2] at c2
  have H : Hid (Row w b cap A) := h
  clear h h0 h1 h2
  go_enter Tryf.func60, Tryf.ntmps60
  go_wp2_with fail
  go_loopg [2, 3] 1 (fun k i j wr => (k = 1 ∧ wr = w ∧ i = .int .i64 0 ∧ j = .int .i64 2) ∨ (k = 0 ∧ i = .int .i64 1 ∧ j = .int .i64 1 ∧ Row wr b cap (upd (upd A 0 (.int .u64 z)) 2 (.int .u64 x)) ∧ Only b w wr))
  case atStart => exact Or.inl ⟨rfl, rfl, rfl, rfl⟩
  case round =>
    obtain ⟨rfl, rfl, rfl, rfl⟩ | ⟨rfl, rfl, rfl, hr, ho⟩ := hrel
    · go_wp2_with fail
      go_region
      go_wp2_with fail
      go_roundg 0
      case measure => omega
      case rel => exact Or.inr ⟨rfl, rfl, rfl, ((H.out.set 0 (by omega) _).set 2 (by omega) _).drewN 1, (((Only.refl b wr).setCell rfl _).setCell rfl _).drewN 1⟩
    · clear c0 c1 c2 t0 t2 H
      have H1 : Hid (Row wr b cap (upd (upd A 0 (.int .u64 z)) 2 (.int .u64 x))) := hr
      have H2 : Hid (Only b w wr) := ho
      clear hr ho
      go_wp2_with fail
      go_end0
      exact ⟨rfl, H1.out, H2.out⟩

theorem norm_any (b cap n : Nat) (N : Nat → Nat) (w : World) (h : ∀ i, i < n → w.cell? ⟨b, i, none⟩ = some (.int .u64 (N i : Int))) (hn : n ≤ cap) (hm : cap ≤ 9223372036854775807) :
    Calls Tryf.prog 47 #[.slice (some ⟨b, 0, none⟩) n cap] w fun e w' => ∃ m, m ≤ n ∧ (∀ i, m ≤ i → i < n → N i = 0) ∧ (m = 0 ∨ N (m - 1) ≠ 0) ∧ e = .returned (.slice (some ⟨b, 0, none⟩) m cap) ∧ w' = w := by
  have H : Hid (∀ i, i < n → w.cell? ⟨b, i, none⟩ = some (.int .u64 (N i : Int))) := h
  clear h
  go_enter Tryf.func47, Tryf.ntmps47
  go_wp2_with fail
  go_loopg [3] n (fun k i wr => wr = w ∧ k ≤ n ∧ i = .int .i64 (k : Int) ∧ ∀ j, k ≤ j → j < n → N j = 0)
  case atStart => exact ⟨rfl, by omega, rfl, fun j h1 h2 => by omega⟩
  case round =>
    obtain ⟨rfl, hk, rfl, hz⟩ := hrel
    have HZ : Hid (∀ j, gk ≤ j → j < n → N j = 0) := hz
    clear hz
    rcases gk with _ | m
    · go_wp2_with fail
      go_ret
      exact ⟨0, by omega, HZ.out, Or.inl rfl, rfl, rfl⟩
    · have c := H.out m (by omega)
      by_cases hN : N m = 0
      · go_wp2_with fail
        go_roundg m
        case measure => omega
        case rel =>
          refine ⟨rfl, by omega, rfl, fun j h1 h2 => ?_⟩
          by_cases e : j = m
          · subst e; exact hN
          · exact HZ.out j (by omega) h2
      · go_wp2_with fail
        go_ret
        exact ⟨m + 1, by omega, HZ.out, Or.inr hN, rfl, rfl⟩

theorem or_add (a b m : Nat) (i : Nat) (hm : m = 2 ^ i) (h : a < m) : a ||| (b * m) = a + b * m := by
  subst hm
  rw [Nat.or_comm, ← Nat.shiftLeft_eq, ← Nat.shiftLeft_add_eq_or_of_lt h]
  omega

/-- The word of two neighbours, shifted down by 32. -/
def lowW (x y : Nat) : Nat := x / 4294967296 + y % 4294967296 * 4294967296

theorem lowW_lt (x y : Nat) (hx : x < 18446744073709551616) : lowW x y < 18446744073709551616 := by unfold lowW; omega

theorem lowW_bits (x y : Nat) (hx : x < 18446744073709551616) : bits .or .u64 ((x : Int) / 4294967296) (IntKind.u64.wrap ((y : Int) * 4294967296)) = (lowW x y : Int) := by
  have e1 : (x : Int) / 4294967296 = ((x / 4294967296 : Nat) : Int) := by omega
  have e2 : IntKind.u64.wrap ((y : Int) * 4294967296) = ((y % 4294967296 * 4294967296 : Nat) : Int) := by rw [IntKind.wrap_u64]; omega
  rw [e1, e2, bits_or_u64_nat _ _ (by omega) (by omega), or_add _ _ _ 32 (by decide) (by omega)]
  rfl

theorem rshVU_any (b cap n : Nat) (N : Nat → Nat) (A : Nat → Value) (w : World) (h : Row w b cap A) (hA : ∀ i, i < n → A i = .int .u64 (N i : Int)) (hN : ∀ i, N i < 18446744073709551616) (h1 : 1 ≤ n) (hn : n ≤ cap) (hm : cap ≤ 9223372036854775807) :
    Calls Tryf.prog 22 #[.slice (some ⟨b, 0, none⟩) n cap, .slice (some ⟨b, 0, none⟩) n cap, .int .u64 32] w fun e w' => (∃ v, e = .returned v) ∧ Only b w w' ∧
      Row w' b cap (fun t => if t + 1 < n then .int .u64 (lowW (N t) (N (t + 1)) : Int) else if t + 1 = n then .int .u64 ((N t / 4294967296 : Nat) : Int) else A t) := by
  have c0 := h.read 0 (by omega)
  rw [hA 0 (by omega)] at c0
  have H : Hid (Row w b cap A) := h
  have HA : Hid (∀ i, i < n → A i = .int .u64 (N i : Int)) := hA
  clear h hA
  have b0 := hN 0
  have z0 : ((n : Int) == 0) = false := beq_eq_false_iff_ne.2 (by omega)
  have z1 : (0 : Int) < (n : Int) := by omega
  have e1 : bits .and .u64 32 63 = 32 := by decide
  have e2 : IntKind.u64.wrap (64 - 32) = 32 := by decide
  go_enter Tryf.func22, Tryf.ntmps22
  go_wp2_with fail
  go_loopg [8] (n - 1) (fun k i wr => ∃ j, 1 ≤ j ∧ j ≤ n ∧ k = n - j ∧ i = .int .i64 (j : Int) ∧ Only b w wr ∧ Row wr b cap (fun t => if t + 1 < j then .int .u64 (lowW (N t) (N (t + 1)) : Int) else A t))
  case atStart => exact ⟨1, by omega, by omega, rfl, rfl, Only.refl _ _, H.out.congr fun i _ => by simp⟩
  case round =>
    obtain ⟨j, hj1, hj2, rfl, rfl, ho, hr⟩ := hrel
    obtain ⟨m, rfl⟩ : ∃ m, j = m + 1 := ⟨j - 1, by omega⟩
    clear c0
    have c1 := hr.read m (by omega)
    rw [if_neg (by omega), HA.out m (by omega)] at c1
    have t1 := hr.thaw m
    have bm := hN m
    by_cases hlt : m + 1 < n
    · have c2 := hr.read (m + 1) (by omega)
      rw [if_neg (by omega), HA.out (m + 1) (by omega)] at c2
      have bm2 := hN (m + 1)
      have HR : Hid (Row wr b cap (fun t => if t + 1 < m + 1 then .int .u64 (lowW (N t) (N (t + 1)) : Int) else A t)) := hr
      have HO : Hid (Only b w wr) := ho
      clear hr ho
      go_wp2_with fail
      go_region
      go_wp2_with fail
      rw [lowW_bits _ _ bm]
      go_roundg (n - (m + 1 + 1))
      case measure => omega
      case rel =>
        refine ⟨m + 1 + 1, by omega, by omega, rfl, rfl, (HO.out.setCell rfl _).drewN 1, ((HR.out.set m (by omega) _).drewN 1).congr fun i _ => ?_⟩
        unfold upd
        dsimp only
        by_cases e : i = m
        · subst e
          rw [if_pos rfl, if_pos (by omega)]
        · rw [if_neg e]
          by_cases e2 : i + 1 < m + 1
          · rw [if_pos e2, if_pos (by omega)]
          · rw [if_neg e2, if_neg (by omega)]
    · obtain rfl : n = m + 1 := by omega
      have HR : Hid (Row wr b cap (fun t => if t + 1 < m + 1 then .int .u64 (lowW (N t) (N (t + 1)) : Int) else A t)) := hr
      have HO : Hid (Only b w wr) := ho
      clear hr ho
      go_wp2_with fail
      go_ret
      refine ⟨⟨_, rfl⟩, HO.out.setCell rfl _, (HR.out.set m (by omega) _).congr fun i _ => ?_⟩
      unfold upd
      dsimp only
      by_cases e : i = m
      · subst e
        rw [if_pos rfl, if_neg (by omega), if_pos rfl]
        congr 1
      · rw [if_neg e]
        by_cases e2 : i + 1 < m + 1
        · rw [if_pos e2, if_pos e2]
        · rw [if_neg e2, if_neg e2, if_neg (by omega)]

theorem make_reuse (a : Option Addr) (l cap n : Nat) (w : World) (hn : n ≤ cap) (hl : l ≤ cap) (hm : cap ≤ 9223372036854775807) :
    Calls Tryf.prog 45 #[.slice a l cap, .int .i64 (n : Int)] w fun e w' => e = .returned (.slice a n cap) ∧ w' = w := by
  go_enter Tryf.func45, Tryf.ntmps45
  go_wp2_with fail
  go_ret
  exact ⟨rfl, rfl⟩

theorem rsh_nil (b cap : Nat) (w : World) (hm : cap ≤ 9223372036854775807) :
    Calls Tryf.prog 61 #[.slice (some ⟨b, 0, none⟩) 0 cap, .slice (some ⟨b, 0, none⟩) 0 cap, .int .u64 32] w fun e w' => e = .returned (.slice (some ⟨b, 0, none⟩) 0 cap) ∧ w' = w := by
  go_enter Tryf.func61, Tryf.ntmps61
  go_wp2_with fail
  go_ret
  exact ⟨rfl, rfl⟩

/-- The words of what is shifted down by 32. -/
def shW (N : Nat → Nat) (n t : Nat) : Nat := if t + 1 < n then lowW (N t) (N (t + 1)) else N t / 4294967296

theorem rsh_any (b cap n : Nat) (N : Nat → Nat) (A : Nat → Value) (w : World) (h : Row w b cap A) (hA : ∀ i, i < n → A i = .int .u64 (N i : Int)) (hN : ∀ i, N i < 18446744073709551616) (h1 : 1 ≤ n) (hn : n ≤ cap) (hm : cap ≤ 9223372036854775807) :
    Calls Tryf.prog 61 #[.slice (some ⟨b, 0, none⟩) n cap, .slice (some ⟨b, 0, none⟩) n cap, .int .u64 32] w fun e w' => ∃ m A', m ≤ n ∧ (∀ i, m ≤ i → i < n → shW N n i = 0) ∧ (m = 0 ∨ shW N n (m - 1) ≠ 0) ∧
      e = .returned (.slice (some ⟨b, 0, none⟩) m cap) ∧ Only b w w' ∧ Row w' b cap A' ∧ ∀ i, i < n → A' i = .int .u64 (shW N n i : Int) := by
  have H : Hid (Row w b cap A) := h
  have HA : Hid (∀ i, i < n → A i = .int .u64 (N i : Int)) := hA
  clear h hA
  have ht : ∀ args w, (callFunc 66 args).run Tryf.prog w = .ok (.enter 22 args) w := run_callFunc_twin (twin := "math/big.rshVU_g") Tryf.func66 (by kernel_rfl) (by kernel_rfl) (by kernel_rfl) (by kernel_rfl) Tryf.func22 (by kernel_rfl) (by kernel_rfl) (by kernel_rfl)
  go_enter Tryf.func61, Tryf.ntmps61
  go_wp2_with fail
  refine (make_reuse _ n cap n w hn hn hm).mono ?_
  rintro e' w1 ⟨rfl, rfl⟩
  go_wp2_with fail
  refine (rshVU_any b cap n N A w1 H.out HA.out hN h1 hn hm).mono ?_
  rintro e' w2 ⟨⟨v, rfl⟩, ho, hr⟩
  have HO : Hid (Only b w1 w2) := ho
  have R : Row w2 b cap (fun t => if t < n then .int .u64 (shW N n t : Int) else A t) := hr.congr fun t _ => by
    unfold shW
    by_cases e1 : t + 1 < n
    · rw [if_pos e1, if_pos e1, if_pos (by omega)]
    · by_cases e2 : t + 1 = n
      · rw [if_neg e1, if_pos e2, if_neg e1, if_pos (by omega)]
      · rw [if_neg e1, if_neg e2, if_neg (by omega)]
  have HR : Hid (Row w2 b cap (fun t => if t < n then .int .u64 (shW N n t : Int) else A t)) := R
  have HC : Hid (∀ i, i < n → w2.cell? ⟨b, i, none⟩ = some (.int .u64 (shW N n i : Int))) := fun i hi => by
    have := R.read i (by omega)
    rw [if_pos hi] at this
    exact this
  clear ho hr R
  go_wp2_with fail
  refine (norm_any b cap n (shW N n) w2 HC.out hn hm).mono ?_
  rintro e' w3 ⟨m, m1, m2, m3, rfl, rfl⟩
  go_wp2_with fail
  go_ret
  exact ⟨m, _, m1, m2, m3, rfl, HO.out, HR.out, fun i hi => if_pos hi⟩
end Go.Proofs.Qxb6608999aFmt
