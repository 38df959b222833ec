/-
  (*math/big.Int).Lsh.
-/
import Derived.Test.Qxb6608999aFmtLsh3
import Derived.Deep.RegionWith
namespace Go.Proofs.Qxb6608999aFmt
open Go.RowKit
set_option linter.unusedVariables false

theorem lsh_any (b cap m T s : Nat) (w : World) (h : NatAt w b cap m T) (hb : b < w.heap.size) (hs2 : s ≤ 160) (hX : T * 2 ^ s < 1461501637330902918203684832716283019655932542976) :
    Calls Tryf.prog 31 #[.slice (some ⟨b, 0, none⟩) m cap, .slice (some ⟨b, 0, none⟩) m cap, .int .u64 (s : Int)] w fun e w' => ∃ D c mm, e = .returned (.slice (some ⟨D, 0, none⟩) mm c) ∧ NatAt w' D c mm (T * 2 ^ s) ∧ (D = b ∨ w.heap.size ≤ D) ∧ D < w'.heap.size ∧ But w.heap.size b w w' := by
  rcases Nat.eq_zero_or_pos s with rfl | hs
  · refine (lsh_zero b cap m T w h).mono ?_
    rintro e w' ⟨rfl, q, rfl⟩
    refine ⟨b, cap, m, rfl, ?_, Or.inl rfl, hb, But.drewN _ _ _ _⟩
    rw [Nat.pow_zero, Nat.mul_one]
    exact h.drewN q
  · rcases Nat.eq_zero_or_pos m with rfl | hm
    · refine (lsh_nil b cap s w hs hs2 h.cmax).mono ?_
      rintro e w' ⟨rfl, rfl⟩
      have hT : T = 0 := zero_word T (fun i => h.high i (by omega)) h.lt
      refine ⟨b, cap, 0, rfl, ?_, Or.inl rfl, hb, But.refl _ _ _⟩
      have : T * 2 ^ s = T := by rw [hT, Nat.zero_mul]
      rw [this]
      exact h
    · by_cases hr : s % 64 = 0
      · exact lsh_even b cap m T s (s / 64) (s % 64) w h hb hm hs hs2 hX rfl rfl hr
      · exact lsh_some b cap m T s (s / 64) (s % 64) w h hb hm hs hs2 hX rfl rfl hr

set_option maxRecDepth 100000 in
theorem intLsh_any (d b cap m T s : Nat) (w : World) (h : BigAt w d b cap m T) (hd : d < w.heap.size) (hb : b < w.heap.size) (hs2 : s ≤ 160) (hX : T * 2 ^ s < 1461501637330902918203684832716283019655932542976) :
    Calls Tryf.prog 14 #[.pointer (some ⟨d, 0, none⟩), .pointer (some ⟨d, 0, none⟩), .int .u64 (s : Int)] w fun e w' => e = .returned (.pointer (some ⟨d, 0, none⟩)) ∧ ∃ D c mm, BigAt w' d D c mm (T * 2 ^ s) ∧ D < w'.heap.size ∧ (D = b ∨ w.heap.size ≤ D) ∧ (∀ B, B ≤ d → B ≤ b → Below B w w') ∧ (∀ j, j < w.heap.size → j ≠ d → j ≠ b → w'.heap[j]? = w.heap[j]?) := by
  have c0 := h.neg
  have c1 := h.abs
  have HB : Hid (BigAt w d b cap m T) := h
  have HX : Hid (T * 2 ^ s < 1461501637330902918203684832716283019655932542976) := hX
  clear h hX
  go_enter Tryf.func14, Tryf.ntmps14
  go_wp2_with fail
  go_region_with (go_at_call 31; refine (lsh_any b cap m T s _ (HB.out.nat.drewN 1) hb hs2 HX.out).mono ?_; rintro e' w1 ⟨D, c, mm, rfl, hnat, hD, hDs, hbut⟩; have HR : Hid (NatAt w1 D c mm (T * 2 ^ s) ∧ (D = b ∨ w.heap.size ≤ D) ∧ D < w1.heap.size ∧ But w.heap.size b w w1) := ⟨hnat, hD, hDs, ⟨hbut.os, hbut.tape, hbut.output, hbut.size, hbut.block⟩⟩; have k1 : w1.cell? ⟨d, 1, none⟩ = some (.slice (some ⟨b, 0, none⟩) m cap) := (HR.out.2.2.2.cell (p := ⟨d, 1, none⟩) hd (fun e => HB.out.ne e.symm)).trans HB.out.abs; have z1 : w1.frozen? ⟨d, 1, none⟩ = false := (World.frozen?_of_block (a := ⟨d, 1, none⟩) (HR.out.2.2.2.block d hd (fun e => HB.out.ne e.symm))).trans HB.out.thaw1; clear hnat hD hDs hbut)
  all_goals
    have k0 : w1.cell? ⟨d, 0, none⟩ = some (.bool false) := (HR.out.2.2.2.cell (p := ⟨d, 0, none⟩) hd (fun e => HB.out.ne e.symm)).trans HB.out.neg
    have z0 : w1.frozen? ⟨d, 0, none⟩ = false := (World.frozen?_of_block (a := ⟨d, 0, none⟩) (HR.out.2.2.2.block d hd (fun e => HB.out.ne e.symm))).trans HB.out.thaw0
    go_wp2_with fail
    go_ret
    obtain ⟨hnat, hD, hDs, hbut⟩ := HR.out
    refine ⟨rfl, D, c, mm, BigAt.make k0 k1 z0 z1 hnat ?_, by simpa [World.setCell] using hDs, hD, fun B h1 h2 => ((hbut.below (by omega) h2).setCell (by show B ≤ d; exact h1) _).setCell (by show B ≤ d; exact h1) _, fun j j1 j2 j3 => by
      rw [Below.heap_setCell _ _ _ _ j2, Below.heap_setCell _ _ _ _ j2]
      exact hbut.block j j1 j3⟩
    rcases hD with rfl | hD
    · exact HB.out.ne
    · omega
end Go.Proofs.Qxb6608999aFmt
