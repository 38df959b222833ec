/-
  strings.Reader's ReadByte and UnreadByte; math/big's scanSign.
-/
import Derived.Test.Qxb6608999aFmtRows
import Derived.Test.Qxb6608999aFmtShelf
import Derived.WalkKit
import Derived.BigQuiet
import Derived.Deep.QuietTactic
import Derived.Deep.LoopGhost
import Derived.RowKit3
import Derived.WalkSmall
import Derived.OpenShut
import Derived.Laws.Runes
namespace Go.Proofs.Qxb6608999aFmt
open Go.RowKit
set_option linter.unusedVariables false

/-- Only block g has turned. -/
structure Only (g : Nat) (w w' : World) : Prop where
  os : w'.os = w.os
  tape : w'.tape = w.tape
  output : w'.output = w.output
  size : w'.heap.size = w.heap.size
  block : ∀ k, k ≠ g → w'.heap[k]? = w.heap[k]?

theorem Only.refl (g : Nat) (w : World) : Only g w w := ⟨rfl, rfl, rfl, rfl, fun _ _ => rfl⟩
theorem Only.trans {g : Nat} {a b c : World} (h : Only g a b) (k : Only g b c) : Only g a c := ⟨k.os.trans h.os, k.tape.trans h.tape, k.output.trans h.output, k.size.trans h.size, fun i hi => (k.block i hi).trans (h.block i hi)⟩
theorem Only.drewN {g : Nat} {a w : World} (h : Only g a w) (n : Nat) : Only g a (w.drewN n) := ⟨h.os, h.tape, h.output, h.size, h.block⟩
theorem Only.setCell {g : Nat} {a w : World} (h : Only g a w) {p : Addr} (hp : p.block = g) (u : Value) : Only g a (w.setCell p u) :=
  h.trans ⟨rfl, rfl, rfl, by simp [World.setCell], fun k hk => Below.heap_setCell _ _ _ _ (by omega)⟩
theorem Only.cell {g : Nat} {w w' : World} (h : Only g w w') {p : Addr} (hp : p.block ≠ g) : w'.cell? p = w.cell? p := World.cell?_of_block (w := w) (h.block p.block hp)
theorem Only.frozen {g : Nat} {w w' : World} (h : Only g w w') {p : Addr} (hp : p.block ≠ g) : w'.frozen? p = w.frozen? p := World.frozen?_of_block (w := w) (h.block p.block hp)
theorem Only.below {g B : Nat} {w w' : World} (h : Only g w w') (hB : B ≤ g) : Below B w w' := ⟨h.os, h.tape, h.output, by rw [h.size]; exact Nat.le_refl _, fun k hk => h.block k (by omega)⟩

/-- A reader over s that stands at i, in block g. -/
structure RAt (g : Nat) (s : ByteArray) (i : Nat) (w : World) : Prop where
  c0 : w.cell? ⟨g, 0, none⟩ = some (.string s)
  c1 : w.cell? ⟨g, 1, none⟩ = some (.int .i64 i)
  c2 : ∃ r : Int, w.cell? ⟨g, 2, none⟩ = some (.int .i64 r)
  f1 : w.frozen? ⟨g, 1, none⟩ = false
  f2 : w.frozen? ⟨g, 2, none⟩ = false

theorem RAt.drewN {g : Nat} {s : ByteArray} {i : Nat} {w : World} (h : RAt g s i w) (n : Nat) : RAt g s i (w.drewN n) := ⟨h.c0, h.c1, h.c2, h.f1, h.f2⟩
theorem RAt.set2 {g : Nat} {s : ByteArray} {i : Nat} {w : World} (h : RAt g s i w) (v : Int) : RAt g s i (w.setCell ⟨g, 2, none⟩ (.int .i64 v)) := by
  obtain ⟨c0, c1, ⟨r, c2⟩, f1, f2⟩ := h
  refine ⟨?_, ?_, ⟨v, World.cell?_setCell_same _ _ _ c2⟩, ?_, ?_⟩
  · rw [World.cell?_setCell_other _ _ _ _ (by simp)]; exact c0
  · rw [World.cell?_setCell_other _ _ _ _ (by simp)]; exact c1
  · rw [World.frozen?_setCell]; exact f1
  · rw [World.frozen?_setCell]; exact f2
theorem RAt.set1 {g : Nat} {s : ByteArray} {i : Nat} {w : World} (h : RAt g s i w) (j : Nat) (v : Int) (hv : v = j) : RAt g s j (w.setCell ⟨g, 1, none⟩ (.int .i64 v)) := by
  subst hv
  obtain ⟨c0, c1, ⟨r, c2⟩, f1, f2⟩ := h
  refine ⟨?_, World.cell?_setCell_same _ _ _ c1, ⟨r, ?_⟩, ?_, ?_⟩
  · rw [World.cell?_setCell_other _ _ _ _ (by simp)]; exact c0
  · rw [World.cell?_setCell_other _ _ _ _ (by simp)]; exact c2
  · rw [World.frozen?_setCell]; exact f1
  · rw [World.frozen?_setCell]; exact f2
theorem RAt.only {g h : Nat} {s : ByteArray} {i : Nat} {w w' : World} (r : RAt g s i w) (o : Only h w w') (hn : g ≠ h) : RAt g s i w' := by
  obtain ⟨c0, c1, ⟨r, c2⟩, f1, f2⟩ := r
  exact ⟨(o.cell (p := ⟨g, 0, none⟩) hn).trans c0, (o.cell (p := ⟨g, 1, none⟩) hn).trans c1, ⟨r, (o.cell (p := ⟨g, 2, none⟩) hn).trans c2⟩, (o.frozen (p := ⟨g, 1, none⟩) hn).trans f1, (o.frozen (p := ⟨g, 2, none⟩) hn).trans f2⟩
theorem RAt.below {g B : Nat} {s : ByteArray} {i : Nat} {w w' : World} (r : RAt g s i w) (o : Below B w w') (hn : g < B) : RAt g s i w' := by
  obtain ⟨c0, c1, ⟨r, c2⟩, f1, f2⟩ := r
  exact ⟨(o.cell (p := ⟨g, 0, none⟩) hn).trans c0, (o.cell (p := ⟨g, 1, none⟩) hn).trans c1, ⟨r, (o.cell (p := ⟨g, 2, none⟩) hn).trans c2⟩, (o.frozen (p := ⟨g, 1, none⟩) hn).trans f1, (o.frozen (p := ⟨g, 2, none⟩) hn).trans f2⟩

theorem readByte_any (g : Nat) (s : ByteArray) (i : Nat) (w : World) (hs : s.size ≤ 1000) (hi : i < s.size) (h : RAt g s i w) :
    Calls Tryf.prog 94 #[.pointer (some ⟨g, 0, none⟩)] w fun e w' => e = .returned (.tuple #[.int .u8 (s[i].toNat : Int), .nilIface]) ∧ RAt g s (i + 1) w' ∧ Only g w w' := by
  have H : Hid (RAt g s i w) := h
  obtain ⟨c0, c1, ⟨r, c2⟩, f1, f2⟩ := h
  have hd : decide (s.size ≤ i) = false := decide_eq_false (by omega)
  go_enter Tryf.func94, Tryf.ntmps94
  go_wp2_with fail
  go_quiet (fail)
  go_wp2_with fail
  go_quiet (fail)
  go_wp2_with fail
  go_ret2
  exact ⟨rfl, ((H.out.set2 (-1)).drewN _).set1 (i + 1) _ (by omega), (((Only.refl g w).setCell rfl _).drewN _).setCell rfl _⟩

/-- io.EOF's variable (block 0) holds the pointer e to its error. -/
def EofIs (e : Addr) (w : World) : Prop := w.cell? ⟨0, 0, none⟩ = some (.iface 79 (.pointer (some e)))

theorem readByte_end (g : Nat) (s : ByteArray) (i : Nat) (e : Addr) (w : World) (hs : s.size ≤ 1000) (hi : s.size ≤ i) (hi2 : i ≤ 2000) (h : RAt g s i w) (hE : EofIs e w) (hg : 0 < g) :
    Calls Tryf.prog 94 #[.pointer (some ⟨g, 0, none⟩)] w fun e' w' => e' = .returned (.tuple #[.int .u8 0, .iface 79 (.pointer (some e))]) ∧ RAt g s i w' ∧ Only g w w' := by
  have H : Hid (RAt g s i w) := h
  obtain ⟨c0, c1, ⟨r, c2⟩, f1, f2⟩ := h
  have hd : decide (s.size ≤ i) = true := decide_eq_true (by omega)
  have hE' : (w.setCell ⟨g, 2, none⟩ (.int .i64 (-1))).cell? ⟨0, 0, none⟩ = some (.iface 79 (.pointer (some e))) := by
    rw [World.cell?_setCell_other _ _ _ _ (by simp)]; exact hE
  clear hE
  go_enter Tryf.func94, Tryf.ntmps94
  go_wp2_with fail
  go_quiet (fail)
  go_wp2_with fail
  go_quiet (fail)
  go_wp2_with fail
  go_ret2
  exact ⟨rfl, ((H.out.set2 (-1)).drewN _).drewN _, ((((Only.refl g w).setCell rfl _).drewN _).drewN _)⟩

theorem unreadByte_any (g : Nat) (s : ByteArray) (i : Nat) (w : World) (hi2 : i ≤ 2000) (h : RAt g s (i + 1) w) :
    Calls Tryf.prog 95 #[.pointer (some ⟨g, 0, none⟩)] w fun e w' => e = .returned .nilIface ∧ RAt g s i w' ∧ Only g w w' := by
  have H : Hid (RAt g s (i + 1) w) := h
  obtain ⟨c0, c1, ⟨r, c2⟩, f1, f2⟩ := h
  go_enter Tryf.func95, Tryf.ntmps95
  go_wp2_with fail
  go_ret
  exact ⟨rfl, (H.out.set2 (-1)).set1 i _ (by omega), ((Only.refl g w).setCell rfl _).setCell rfl _⟩

theorem meth_read (a : Addr) (w : World) : (method 249 54 (.pointer (some a)) "ReadByte").run Tryf.prog w = .ok (94, .pointer (some a)) w := by kernel_rfl
theorem meth_unread (a : Addr) (w : World) : (method 249 54 (.pointer (some a)) "UnreadByte").run Tryf.prog w = .ok (95, .pointer (some a)) w := by kernel_rfl

theorem ne_byte {c d : UInt8} (h : c ≠ d) : ((c.toNat : Int) == (d.toNat : Int)) = false := beq_eq_false_iff_ne.2 fun e => h (UInt8.toNat_inj.1 (by omega))

set_option maxRecDepth 1000000 in
/-- scanSign at a digit. -/
theorem scanSign_any (g : Nat) (s : ByteArray) (w : World) (hs : s.size ≤ 1000) (hi : 0 < s.size) (h : RAt g s 0 w) (h1 : s[0] ≠ 45) (h2 : s[0] ≠ 43) :
    Calls Tryf.prog 48 #[.iface 54 (.pointer (some ⟨g, 0, none⟩))] w fun e w' => e = .returned (.tuple #[.bool false, .nilIface]) ∧ RAt g s 0 w' ∧ Only g w w' := by
  have H : Hid (RAt g s 0 w) := h
  have m1 := meth_read ⟨g, 0, none⟩
  have m2 := meth_unread ⟨g, 0, none⟩
  have b1 : ((s[0].toNat : Int) == 45) = false := ne_byte (d := 45) h1
  have b2 : ((s[0].toNat : Int) == 43) = false := ne_byte (d := 43) h2
  clear h h1 h2
  go_enter Tryf.func48, Tryf.ntmps48
  go_wp2_with fail
  refine (readByte_any g s 0 w hs hi H.out).mono ?_
  rintro e w1 ⟨rfl, hr, ho⟩
  have HR : Hid (RAt g s (0 + 1) w1) := hr
  have HO : Hid (Only g w w1) := ho
  clear hr ho
  go_wp2_with fail
  refine (unreadByte_any g s 0 w1 (by omega) HR.out).mono ?_
  rintro e w2 ⟨rfl, hr, ho⟩
  have HR2 : Hid (RAt g s 0 w2) := hr
  have HO2 : Hid (Only g w1 w2) := ho
  clear hr ho
  go_wp2_with fail
  go_ret2
  exact ⟨rfl, HR2.out, HO.out.trans HO2.out⟩
end Go.Proofs.Qxb6608999aFmt
