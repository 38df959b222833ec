/-
  (*math/big.Int).SetString at forty hexadecimal digits.
-/
import Derived.Test.Qxb6608999aFmtScan
namespace Go.Proofs.Qxb6608999aFmt
open Go.RowKit
set_option linter.unusedVariables false

/-- A big.Int in block d that is not negative and below 2^160: its words lie in block b. -/
structure BigAt (w : World) (d b cap m T : Nat) : Prop where
  neg : w.cell? ⟨d, 0, none⟩ = some (.bool false)
  abs : w.cell? ⟨d, 1, none⟩ = some (.slice (some ⟨b, 0, none⟩) m cap)
  thaw0 : w.frozen? ⟨d, 0, none⟩ = false
  thaw1 : w.frozen? ⟨d, 1, none⟩ = false
  nat : NatAt w b cap m T
  ne : b ≠ d

theorem NatAt.only {w w' : World} {g b cap m T : Nat} (h : NatAt w b cap m T) (o : Only g w w') (hn : b ≠ g) : NatAt w' b cap m T := by
  obtain ⟨⟨A, h1, h2⟩, r1, r2, r3, r4, r5, r6, r7⟩ := h
  exact ⟨⟨A, h1.only o hn, h2⟩, r1, r2, r3, r4, r5, r6, r7⟩
theorem NatAt.setOther {w : World} {b cap m T : Nat} (h : NatAt w b cap m T) (p : Addr) (v : Value) (hn : b ≠ p.block) : NatAt (w.setCell p v) b cap m T :=
  h.only (g := p.block) ((Only.refl _ w).setCell rfl v) hn

theorem RAt.setOther {g : Nat} {s : ByteArray} {i : Nat} {w : World} (h : RAt g s i w) (p : Addr) (v : Value) (hn : g ≠ p.block) : RAt g s i (w.setCell p v) :=
  h.only (h := p.block) ((Only.refl _ w).setCell rfl v) hn

theorem BigAt.make {w : World} {d b cap m T : Nat} {x : Bool} {v : Value} (k0 : w.cell? ⟨d, 0, none⟩ = some (.bool x)) (k1 : w.cell? ⟨d, 1, none⟩ = some v) (z0 : w.frozen? ⟨d, 0, none⟩ = false) (z1 : w.frozen? ⟨d, 1, none⟩ = false) (h : NatAt w b cap m T) (hb : b ≠ d) :
    BigAt ((w.setCell ⟨d, 1, none⟩ (.slice (some ⟨b, 0, none⟩) m cap)).setCell ⟨d, 0, none⟩ (.bool false)) d b cap m T := by
  have k2 : (w.setCell ⟨d, 1, none⟩ (.slice (some ⟨b, 0, none⟩) m cap)).cell? ⟨d, 0, none⟩ = some (.bool x) := by
    rw [World.cell?_setCell_other _ _ _ _ (by simp)]; exact k0
  refine ⟨World.cell?_setCell_same _ _ _ k2, ?_, ?_, ?_, (h.setOther _ _ hb).setOther _ _ hb, hb⟩
  · rw [World.cell?_setCell_other _ _ _ _ (by simp)]; exact World.cell?_setCell_same _ _ _ k1
  · rw [World.frozen?_setCell, World.frozen?_setCell]; exact z0
  · rw [World.frozen?_setCell, World.frozen?_setCell]; exact z1

set_option maxRecDepth 100000 in
theorem intScan_any (d g : Nat) (s : ByteArray) (f : Nat → Nat) (e : Addr) (x : Bool) (w : World) (hx : Hex s f) (h : RAt g s 0 w) (hE : EofIs e w) (hg : 0 < g) (hd : 0 < d) (hdg : d < g) (hgB : g < w.heap.size)
    (c0 : w.cell? ⟨d, 0, none⟩ = some (.bool x)) (c1 : w.cell? ⟨d, 1, none⟩ = some (.slice none 0 0)) (t0 : w.frozen? ⟨d, 0, none⟩ = false) (t1 : w.frozen? ⟨d, 1, none⟩ = false) :
    Calls Tryf.prog 36 #[.pointer (some ⟨d, 0, none⟩), .iface 54 (.pointer (some ⟨g, 0, none⟩)), .int .i64 16] w fun e' w' => e' = .returned (.tuple #[.pointer (some ⟨d, 0, none⟩), .int .i64 16, .nilIface]) ∧
      ∃ b cap m, BigAt w' d b cap m (hv f 0 40) ∧ g < b ∧ b < w'.heap.size ∧ RAt g s 40 w' ∧ Below d w w' := by
  obtain ⟨hsz, hf, hdig⟩ := hx
  have hs : s.size ≤ 1000 := by omega
  have hs0 : 0 < s.size := by omega
  have d0 := hdig 0 hs0
  have ne1 : s[0] ≠ 45 := by intro hh; rw [hh] at d0; revert d0; simp
  have ne2 : s[0] ≠ 43 := by intro hh; rw [hh] at d0; revert d0; simp
  have HX : Hid (Hex s f) := ⟨hsz, hf, hdig⟩
  have H : Hid (RAt g s 0 w) := h
  have HE : Hid (EofIs e w) := hE
  have HC : Hid (w.cell? ⟨d, 0, none⟩ = some (.bool x) ∧ w.cell? ⟨d, 1, none⟩ = some (.slice none 0 0) ∧ w.frozen? ⟨d, 0, none⟩ = false ∧ w.frozen? ⟨d, 1, none⟩ = false) := ⟨c0, c1, t0, t1⟩
  clear h hE hsz hf hdig d0 c0 c1 t0 t1
  go_enter Tryf.func36, Tryf.ntmps36
  go_wp2_with fail
  refine (scanSign_any g s w hs hs0 H.out ne1 ne2).mono ?_
  rintro e' w1 ⟨rfl, hr1, ho1⟩
  have HR1 : Hid (RAt g s 0 w1) := hr1
  have HO1 : Hid (Only g w w1) := ho1
  have c1 : w1.cell? ⟨d, 1, none⟩ = some (.slice none 0 0) := (ho1.cell (p := ⟨d, 1, none⟩) (by show d ≠ g; omega)).trans HC.out.2.1
  have hE1 : Hid (EofIs e w1) := (ho1.cell (p := ⟨0, 0, none⟩) (by show 0 ≠ g; omega)).trans HE.out
  have hs1 : g < w1.heap.size := by rw [ho1.size]; exact hgB
  clear hr1 ho1
  go_wp2_with fail
  refine (scan_any g s f e w1 HX.out HR1.out hE1.out hg hs1).mono ?_
  rintro e' w2 ⟨b, cap, m, rfl, hb1, hb2, hnat, hr2, hbut⟩
  have k0 : w2.cell? ⟨d, 0, none⟩ = some (.bool x) := (hbut.cell (p := ⟨d, 0, none⟩) (by show d < _; omega) (by show d ≠ g; omega)).trans ((HO1.out.cell (p := ⟨d, 0, none⟩) (by show d ≠ g; omega)).trans HC.out.1)
  have k1 : w2.cell? ⟨d, 1, none⟩ = some (.slice none 0 0) := (hbut.cell (p := ⟨d, 1, none⟩) (by show d < _; omega) (by show d ≠ g; omega)).trans c1
  have z0 : w2.frozen? ⟨d, 0, none⟩ = false := (World.frozen?_of_block (a := ⟨d, 0, none⟩) (hbut.block d (by omega) (by omega))).trans ((HO1.out.frozen (p := ⟨d, 0, none⟩) (by show d ≠ g; omega)).trans HC.out.2.2.1)
  have z1 : w2.frozen? ⟨d, 1, none⟩ = false := (World.frozen?_of_block (a := ⟨d, 1, none⟩) (hbut.block d (by omega) (by omega))).trans ((HO1.out.frozen (p := ⟨d, 1, none⟩) (by show d ≠ g; omega)).trans HC.out.2.2.2)
  have HN : Hid (NatAt w2 b cap m (hv f 0 40)) := hnat
  have HR2 : Hid (RAt g s 40 w2) := hr2
  have HB2 : Hid (But w1.heap.size g w1 w2) := hbut
  have hm3 := hnat.le3
  clear hnat hr2 hbut c1
  go_wp2_with fail
  all_goals
    go_ret3
    exact ⟨rfl, b, cap, m, BigAt.make k0 k1 z0 z1 HN.out (by omega), by omega, by simpa [World.setCell] using hb2, (HR2.out.setOther _ _ (by show g ≠ d; omega)).setOther _ _ (by show g ≠ d; omega),
      (((HO1.out.below (by omega)).trans (HB2.out.below (by omega) (by omega))).setCell (by show d ≤ d; omega) _).setCell (by show d ≤ d; omega) _⟩

theorem neq_eof (e : Addr) (w : World) : (binOp .neq 28 (.iface 79 (.pointer (some e))) (.iface 79 (.pointer (some e)))).run Tryf.prog w = .ok (.bool false) w := by
  have h : (Op.equal 28 (.iface 79 (.pointer (some e))) (.iface 79 (.pointer (some e)))).run Tryf.prog w = .ok true w := by
    obtain ⟨i, h1, h2⟩ := Option.map_eq_some_iff.1 comp79
    obtain ⟨j, h3, _⟩ := Option.map_eq_some_iff.1 there81
    exact run_equalIn_iface_ptr_same w 9998 e Tryf.underlying28 Tryf.underlying79 h1 h2 h3
  simp only [binOp]
  simp [h]

theorem BigAt.only {w w' : World} {g d b cap m T : Nat} (h : BigAt w d b cap m T) (o : Only g w w') (h1 : d ≠ g) (h2 : b ≠ g) : BigAt w' d b cap m T :=
  ⟨(o.cell (p := ⟨d, 0, none⟩) h1).trans h.neg, (o.cell (p := ⟨d, 1, none⟩) h1).trans h.abs, (o.frozen (p := ⟨d, 0, none⟩) h1).trans h.thaw0, (o.frozen (p := ⟨d, 1, none⟩) h1).trans h.thaw1, h.nat.only o h2, h.ne⟩

set_option maxRecDepth 100000 in
theorem setFromScanner_any (d g : Nat) (s : ByteArray) (f : Nat → Nat) (e : Addr) (x : Bool) (w : World) (hx : Hex s f) (h : RAt g s 0 w) (hE : EofIs e w) (hg : 0 < g) (hd : 0 < d) (hdg : d < g) (hgB : g < w.heap.size)
    (c0 : w.cell? ⟨d, 0, none⟩ = some (.bool x)) (c1 : w.cell? ⟨d, 1, none⟩ = some (.slice none 0 0)) (t0 : w.frozen? ⟨d, 0, none⟩ = false) (t1 : w.frozen? ⟨d, 1, none⟩ = false) :
    Calls Tryf.prog 25 #[.pointer (some ⟨d, 0, none⟩), .iface 54 (.pointer (some ⟨g, 0, none⟩)), .int .i64 16] w fun e' w' => e' = .returned (.tuple #[.pointer (some ⟨d, 0, none⟩), .bool true]) ∧
      ∃ b cap m, BigAt w' d b cap m (hv f 0 40) ∧ g < b ∧ b < w'.heap.size ∧ Below d w w' := by
  have HI : Hid (Hex s f ∧ RAt g s 0 w ∧ EofIs e w ∧ w.cell? ⟨d, 0, none⟩ = some (.bool x) ∧ w.cell? ⟨d, 1, none⟩ = some (.slice none 0 0) ∧ w.frozen? ⟨d, 0, none⟩ = false ∧ w.frozen? ⟨d, 1, none⟩ = false) := ⟨hx, h, hE, c0, c1, t0, t1⟩
  have HE : Hid (EofIs e w) := hE
  have hsz := hx.1
  have m1 := meth_read ⟨g, 0, none⟩
  have q1 := neq_eof e
  clear h hE c0 c1 t0 t1 hx
  go_enter Tryf.func25, Tryf.ntmps25
  go_wp2_with fail
  obtain ⟨i1, i2, i3, i4, i5, i6, i7⟩ := HI.out
  refine (intScan_any d g s f e x w i1 i2 i3 hg hd hdg hgB i4 i5 i6 i7).mono ?_
  clear i1 i2 i3 i4 i5 i6 i7
  rintro e' w1 ⟨rfl, b, cap, m, hbig, hgb, hbs, hr, hbel⟩
  have HBig : Hid (BigAt w1 d b cap m (hv f 0 40)) := hbig
  have HR : Hid (RAt g s 40 w1) := hr
  have HBel : Hid (Below d w w1) := hbel
  have HE1 : Hid (EofIs e w1) := (hbel.cell (p := ⟨0, 0, none⟩) hd).trans HE.out
  clear hbig hr hbel HI
  go_wp2_with fail
  refine (readByte_end g s 40 e w1 (by omega) (by omega) (by omega) HR.out HE1.out hg).mono ?_
  rintro e' w2 ⟨rfl, hr, ho⟩
  have HO : Hid (Only g w1 w2) := ho
  have cE : w2.cell? ⟨0, 0, none⟩ = some (.iface 79 (.pointer (some e))) := (ho.cell (p := ⟨0, 0, none⟩) (by show 0 ≠ g; omega)).trans HE1.out
  have hs2 : b < w2.heap.size := by rw [ho.size]; exact hbs
  clear hr ho
  go_wp2_with fail
  go_ret2
  exact ⟨rfl, b, cap, m, HBig.out.only HO.out (by omega) (by omega), hgb, hs2, HBel.out.trans (HO.out.below (by omega))⟩

theorem newReader_any (s : ByteArray) (w : World) : Calls Tryf.prog 26 #[.string s] w fun e w' => e = .returned (.pointer (some ⟨w.heap.size, 0, none⟩)) ∧ RAt w.heap.size s 0 w' ∧ w'.heap.size = w.heap.size + 1 ∧ Below w.heap.size w w' := by
  go_enter Tryf.func26, Tryf.ntmps26
  go_wp2_with fail
  go_ret
  refine ⟨rfl, ⟨?_, ?_, ⟨-1, ?_⟩, ?_, ?_⟩, ?_, (Below.refl _ w).alloc (Nat.le_refl _) _⟩
  · simp
  · simp
  · simp
  · simp
  · simp
  · simp

set_option maxRecDepth 100000 in
theorem setString_any (d : Nat) (s : ByteArray) (f : Nat → Nat) (e : Addr) (x : Bool) (w : World) (hx : Hex s f) (hE : EofIs e w) (hd : 0 < d) (hdB : d < w.heap.size)
    (c0 : w.cell? ⟨d, 0, none⟩ = some (.bool x)) (c1 : w.cell? ⟨d, 1, none⟩ = some (.slice none 0 0)) (t0 : w.frozen? ⟨d, 0, none⟩ = false) (t1 : w.frozen? ⟨d, 1, none⟩ = false) :
    Calls Tryf.prog 10 #[.pointer (some ⟨d, 0, none⟩), .string s, .int .i64 16] w fun e' w' => e' = .returned (.tuple #[.pointer (some ⟨d, 0, none⟩), .bool true]) ∧
      ∃ b cap m, BigAt w' d b cap m (hv f 0 40) ∧ d < b ∧ b < w'.heap.size ∧ Below d w w' := by
  have HE : Hid (EofIs e w) := hE
  have HX : Hid (Hex s f) := hx
  have HC : Hid (w.cell? ⟨d, 0, none⟩ = some (.bool x) ∧ w.cell? ⟨d, 1, none⟩ = some (.slice none 0 0) ∧ w.frozen? ⟨d, 0, none⟩ = false ∧ w.frozen? ⟨d, 1, none⟩ = false) := ⟨c0, c1, t0, t1⟩
  clear c0 c1 t0 t1 hx hE
  go_enter Tryf.func10, Tryf.ntmps10
  go_wp2_with fail
  refine (newReader_any s w).mono ?_
  rintro e' w1 ⟨rfl, hr, hsz, hbel⟩
  have HR : Hid (RAt w.heap.size s 0 w1) := hr
  have HB : Hid (Below w.heap.size w w1) := hbel
  clear hr hbel
  go_wp2_with fail
  have b1 : (⟨d, 0, none⟩ : Addr).block < w.heap.size := hdB
  have b2 : (⟨d, 1, none⟩ : Addr).block < w.heap.size := hdB
  have b3 : (⟨0, 0, none⟩ : Addr).block < w.heap.size := by show 0 < _; omega
  refine (setFromScanner_any d w.heap.size s f e x w1 HX.out HR.out ((HB.out.cell b3).trans HE.out) (by omega) hd hdB (by omega) ((HB.out.cell b1).trans HC.out.1) ((HB.out.cell b2).trans HC.out.2.1) ((HB.out.frozen b1).trans HC.out.2.2.1) ((HB.out.frozen b2).trans HC.out.2.2.2)).mono ?_
  rintro e' w2 ⟨rfl, b, cap, m, hbig, hgb, hbs, hbel⟩
  have HBig : Hid (BigAt w2 d b cap m (hv f 0 40)) := hbig
  have HB2 : Hid (Below d w1 w2) := hbel
  clear hbig hbel
  go_wp2_with fail
  go_ret2
  exact ⟨rfl, b, cap, m, HBig.out, by omega, hbs, (HB.out.mono (by omega)).trans HB2.out⟩
end Go.Proofs.Qxb6608999aFmt
