/-
  math/big's lshVU_g, nat.make, nat.lsh, (*Int).Lsh.
-/
import Derived.Test.Qxb6608999aFmtShl
import Derived.Test.Qxb6608999aFmtArith
namespace Go.Proofs.Qxb6608999aFmt
open Go.RowKit
set_option linter.unusedVariables false

/-- The word below. -/
def prevW (N : Nat → Nat) (t : Nat) : Nat := if t = 0 then 0 else N (t - 1)

theorem upW_bits (r q x y : Nat) (hrq : r + q = 64) (hy : y < 18446744073709551616) : bits .or .u64 (IntKind.u64.wrap ((x : Int) * 2 ^ r)) ((y : Int) / 2 ^ q) = (upW r x y : Int) := by
  obtain rfl : q = 64 - r := by omega
  have e1 : IntKind.u64.wrap ((x : Int) * 2 ^ r) = ((x * 2 ^ r % 18446744073709551616 : Nat) : Int) := by rw [IntKind.wrap_u64]; simp
  have e2 : (y : Int) / 2 ^ (64 - r) = ((y / 2 ^ (64 - r) : Nat) : Int) := by simp
  rw [e1, e2, bits_or_u64_nat _ _ (Nat.mod_lt _ (by decide)) (Nat.lt_of_le_of_lt (Nat.div_le_self _ _) hy), upW_or r x y (by omega) hy]

theorem upW_zero (r x : Nat) : IntKind.u64.wrap ((x : Int) * 2 ^ r) = (upW r x 0 : Int) := by
  rw [IntKind.wrap_u64]
  simp [upW]

theorem and63 (r : Nat) (h : r < 64) : bits .and .u64 (r : Int) 63 = (r : Int) := by
  rw [show (63 : Int) = ((63 : Nat) : Int) from rfl, bits_and_u64_nat r 63 (by omega) (by omega)]
  have : r &&& 63 = r % 64 := Nat.and_two_pow_sub_one_eq_mod r 6
  rw [this, Nat.mod_eq_of_lt h]

set_option maxRecDepth 100000 in
theorem lshVU_any (b D k m cap capz r : Nat) (N : Nat → Nat) (w : World) (hx : ∀ j, j < m → w.cell? ⟨b, j, none⟩ = some (.int .u64 (N j : Int))) (hN : ∀ i, N i < 18446744073709551616)
    (hz : ∀ t, t < k + m → ∃ v, w.cell? ⟨D, t, none⟩ = some v) (ht : ∀ t, w.frozen? ⟨D, t, none⟩ = false) (hm : 1 ≤ m) (hm3 : m ≤ 3) (hr : 1 ≤ r) (hr2 : r < 64) (hc : m ≤ cap) (hcz : m ≤ capz) (hcm : cap ≤ 9223372036854775807) (hczm : capz ≤ 9223372036854775807) :
    Calls Tryf.prog 21 #[.slice (some ⟨D, k, none⟩) m capz, .slice (some ⟨b, 0, none⟩) m cap, .int .u64 (r : Int)] w fun e w' => e = .returned (.int .u64 ((N (m - 1) / 2 ^ (64 - r) : Nat) : Int)) ∧ Only D w w' ∧
      (∀ t, t < m → w'.cell? ⟨D, k + t, none⟩ = some (.int .u64 (upW r (N t) (prevW N t) : Int))) ∧ (∀ t, t < k ∨ k + m ≤ t → w'.cell? ⟨D, t, none⟩ = w.cell? ⟨D, t, none⟩) ∧ (∀ t, w'.frozen? ⟨D, t, none⟩ = false) := by
  obtain ⟨q, hq⟩ : ∃ q, r + q = 64 := ⟨64 - r, by omega⟩
  obtain ⟨n, rfl⟩ : ∃ n, m = n + 1 := ⟨m - 1, by omega⟩
  have ctop := hx n (by omega)
  have HX : Hid (∀ j, j < n + 1 → w.cell? ⟨b, j, none⟩ = some (.int .u64 (N j : Int))) := hx
  have HZ : Hid (∀ t, t < k + (n + 1) → ∃ v, w.cell? ⟨D, t, none⟩ = some v) := hz
  have HT : Hid (∀ t, w.frozen? ⟨D, t, none⟩ = false) := ht
  have HN : Hid (∀ i, N i < 18446744073709551616) := hN
  clear hx hz ht hN
  have e1 := and63 r hr2
  have e2 : bits .and .u64 (64 - (r : Int)) 63 = (q : Int) := by
    rw [show 64 - (r : Int) = (q : Int) from by omega]
    exact and63 q (by omega)
  have z0 : ((n : Int) + 1 == 0) = false := beq_eq_false_iff_ne.2 (by omega)
  have z1 : ((r : Int) == 0) = false := beq_eq_false_iff_ne.2 (by omega)
  go_enter Tryf.func21, Tryf.ntmps21
  go_wp2_with fail
  clear ctop z0 z1 e1 e2
  go_loopg [8] n (fun kk i wr => ∃ j, j ≤ n ∧ kk = j ∧ i = .int .i64 (j : Int) ∧ Only D w wr ∧ (∀ t, j < t → t < n + 1 → wr.cell? ⟨D, k + t, none⟩ = some (.int .u64 (upW r (N t) (prevW N t) : Int))) ∧
    (∀ t, t ≤ k + j ∨ k + (n + 1) ≤ t → wr.cell? ⟨D, t, none⟩ = w.cell? ⟨D, t, none⟩) ∧ (∀ t, wr.frozen? ⟨D, t, none⟩ = false))
  case atStart => exact ⟨n, by omega, rfl, rfl, Only.refl _ _, fun t h1 h2 => by omega, fun _ _ => rfl, HT.out⟩
  case round =>
    obtain ⟨j, hj, hkj, rfl, ho, hw, hs, hf⟩ := hrel
    have hkj' := hkj.symm
    clear hkj
    subst hkj'
    have hb : ∀ t, t ≤ j → wr.cell? ⟨b, t, none⟩ = some (.int .u64 (N t : Int)) := by
      intro t ht
      by_cases e : b = D
      · subst e
        rw [hs t (by omega)]
        exact HX.out t (by omega)
      · exact (ho.cell (p := ⟨b, t, none⟩) e).trans (HX.out t (by omega))
    obtain ⟨v, hv⟩ := HZ.out (k + j) (by omega)
    have hv' : wr.cell? ⟨D, k + j, none⟩ = some v := (hs (k + j) (by omega)).trans hv
    have hfj := hf (k + j)
    have HI : Hid (Only D w wr ∧ (∀ t, j < t → t < n + 1 → wr.cell? ⟨D, k + t, none⟩ = some (.int .u64 (upW r (N t) (prevW N t) : Int))) ∧
      (∀ t, t ≤ k + j ∨ k + (n + 1) ≤ t → wr.cell? ⟨D, t, none⟩ = w.cell? ⟨D, t, none⟩) ∧ (∀ t, wr.frozen? ⟨D, t, none⟩ = false)) := ⟨ho, hw, hs, hf⟩
    clear ho hw hs hf hv
    rcases j with _ | i
    · have c0 := hb 0 (by omega)
      have b0 := HN.out 0
      clear hb
      rw [Nat.add_zero] at hv' hfj
      go_wp2_with fail
      rw [upW_zero]
      go_ret
      obtain ⟨ho, hw, hs, hf⟩ := HI.out
      refine ⟨?_, ho.setCell rfl _, fun t ht => ?_, fun t ht => ?_, fun t => by rw [World.frozen?_setCell]; exact hf t⟩
      · obtain rfl : q = 64 - r := by omega
        have e0 : (N n : Int) / 2 ^ (64 - r) = ((N n / 2 ^ (64 - r) : Nat) : Int) := by simp
        show Ending.returned (.int .u64 ((N n : Int) / 2 ^ (64 - r))) = Ending.returned (.int .u64 ((N n / 2 ^ (64 - r) : Nat) : Int))
        rw [e0]
      · by_cases e : t = 0
        · subst e
          exact World.cell?_setCell_same _ _ _ hv'
        · rw [World.cell?_setCell_other _ _ _ _ (by intro hh; injection hh; omega)]
          exact hw t (by omega) ht
      · rw [World.cell?_setCell_other _ _ _ _ (by intro hh; injection hh; omega)]
        exact hs t (by omega)
    · have c0 := hb i (by omega)
      have c1 := hb (i + 1) (by omega)
      have b0 := HN.out i
      have b1 := HN.out (i + 1)
      clear hb
      go_wp2_with fail
      go_region
      go_wp2_with fail
      rw [upW_bits r q _ _ hq b0]
      go_roundg i
      case measure => omega
      case rel =>
        obtain ⟨ho, hw, hs, hf⟩ := HI.out
        refine ⟨i, by omega, rfl, rfl, (ho.setCell rfl _).drewN 1, fun t h1 h2 => ?_, fun t ht => ?_, fun t => ?_⟩
        · by_cases e : t = i + 1
          · subst e
            exact World.cell?_setCell_same _ _ _ hv'
          · refine (World.cell?_setCell_other _ _ _ _ (by intro hh; injection hh; omega)).trans ?_
            exact hw t (by omega) h2
        · refine (World.cell?_setCell_other _ _ _ _ (by intro hh; injection hh; omega)).trans ?_
          exact hs t (by omega)
        · exact (World.frozen?_setCell _ _ _ _).trans (hf t)
end Go.Proofs.Qxb6608999aFmt
