/-
  What the law's walk leans on, III: ranges of cells, and what stays over its regions.
-/
import Derived.Test.Qxb6608999aFmtLawB
import Derived.Deep.RegionHeld3
import Derived.Stop.LaidErr
namespace Go.Proofs.Qxb6608999aFmt
open Go.RowKit Go.Extern.Stop Go.Stop Go.Extern
set_option linter.unusedVariables false

theorem setCells_below (N b : Nat) (hb : N ≤ b) : ∀ (vs : List Value) (o : Nat) (w : World), Below N w (w.setCells b o vs)
  | [], _, w => Below.refl _ w
  | v :: r, o, w => ((Below.refl N w).setCell (p := ⟨b, o, none⟩) hb v).trans (setCells_below N b hb r (o + 1) _)

theorem Kp.setCells {F : Interp} {B : Nat → Nat} {e : Addr} {h : Nat} {w x : World} (k : Kp F B e h w x) (b : Nat) (hb : h + 1 + 1 ≤ b) (vs : List Value) : Kp F B e h w (x.setCells b 0 vs) := by
  have bl := setCells_below (h + 1 + 1) b hb vs 0 x
  exact ⟨by rw [bl.tape]; exact k.tape, (bl.cell (p := ⟨0, 0, none⟩) (by show 0 < h + 1 + 1; omega)).trans k.eof, k.idb.below bl (by omega), k.zero.below bl (by omega), k.bel.trans (bl.mono (by omega)), Nat.le_trans k.size bl.size⟩

theorem rangeAt_below {x y : World} {N b o : Nat} {cs : List Value} (hr : x.rangeAt b o cs) (bl : Below N x y) (hb : b < N) : y.rangeAt b o cs := fun j v hv => (bl.cell (p := ⟨b, o + j, none⟩) hb).trans (hr j v hv)

theorem rangeAt_lt {x : World} {b : Nat} {X : Nat → Nat} (hr : x.rangeAt b 0 (bcells X 20)) : b < x.heap.size := by
  have h0 := hr 0 (.int .u8 (X 0 : Int)) (by simp [bcells])
  exact World.block_lt_of_cell? x ⟨b, 0 + 0, none⟩ h0

theorem BlkT.range {t : TypeId} {x : World} {g : Nat} {X : Nat → Nat} (h : BlkT t x g X) : x.rangeAt g 0 (bcells X 20) := fun j v hv => by
  rw [Nat.zero_add, cell_of_row x g j _ _ _ h]
  simpa using hv
theorem Blk.range {x : World} {g : Nat} {X : Nat → Nat} (h : Blk x g X) : x.rangeAt g 0 (bcells X 20) := BlkT.range (t := 22) h

theorem BlkT.there {t : TypeId} {x : World} {g : Nat} {X : Nat → Nat} (h : BlkT t x g X) : x.there g 0 20 := fun j hj => by
  rw [Nat.zero_add]
  exact ⟨by rw [h.row.read j hj]; rfl, h.row.thaw j⟩

theorem there_new (x : World) : (x.alloc (.cells #[.int .u8 0, .int .u8 0, .int .u8 0, .int .u8 0, .int .u8 0, .int .u8 0, .int .u8 0, .int .u8 0, .int .u8 0, .int .u8 0, .int .u8 0, .int .u8 0, .int .u8 0, .int .u8 0, .int .u8 0, .int .u8 0, .int .u8 0, .int .u8 0, .int .u8 0, .int .u8 0] 26)).there x.heap.size 0 20 := BlkT.there (t := 26) (X := fun _ => 0) (heap_alloc_new x _)

theorem bcells_length (X : Nat → Nat) : (bcells X 20).length = 20 := by simp [bcells]
theorem bcells_cells (X : Nat → Nat) : ∀ v ∈ bcells X 20, v.oneCell' = true := by
  intro v hv
  simp only [bcells, List.mem_map] at hv
  obtain ⟨i, _, rfl⟩ := hv
  rfl
theorem info22 (X : Nat → Nat) : (Tryf.prog.info? 22).map (·.size) = some (bcells X 20).length := by
  rw [bcells_length]
  kernel_rfl
theorem info26 (X : Nat → Nat) : (Tryf.prog.info? 26).map (·.size) = some (bcells X 20).length := by
  rw [bcells_length]
  kernel_rfl


theorem k5_drew {F : Interp} {B : Nat → Nat} {e : Addr} {h g : Nat} {w x : World} {bits : Nat} (k : x.rangeAt h 0 (bcells B 20) ∧ x.cell? ⟨g, 0, none⟩ = some (.int .i64 (bits : Int)) ∧ Hid (Kp F B e h w x)) : x.drew.rangeAt h 0 (bcells B 20) ∧ x.drew.cell? ⟨g, 0, none⟩ = some (.int .i64 (bits : Int)) ∧ Hid (Kp F B e h w x.drew) :=
  ⟨(World.rangeAt_drew _ _ _ _).2 k.1, k.2.1, k.2.2.out.drew⟩
theorem k5_alloc {F : Interp} {B : Nat → Nat} {e : Addr} {h g : Nat} {w x : World} {bits : Nat} (k : x.rangeAt h 0 (bcells B 20) ∧ x.cell? ⟨g, 0, none⟩ = some (.int .i64 (bits : Int)) ∧ Hid (Kp F B e h w x)) (o : Obj) : (x.alloc o).rangeAt h 0 (bcells B 20) ∧ (x.alloc o).cell? ⟨g, 0, none⟩ = some (.int .i64 (bits : Int)) ∧ Hid (Kp F B e h w (x.alloc o)) :=
  ⟨World.rangeAt_alloc k.1 o, cell?_alloc_old _ k.2.1, k.2.2.out.alloc o⟩
theorem k5_below {F : Interp} {B : Nat → Nat} {e : Addr} {h g : Nat} {w x : World} {bits : Nat} {y : World} (k : x.rangeAt h 0 (bcells B 20) ∧ x.cell? ⟨g, 0, none⟩ = some (.int .i64 (bits : Int)) ∧ Hid (Kp F B e h w x)) (b : Below x.heap.size x y) : y.rangeAt h 0 (bcells B 20) ∧ y.cell? ⟨g, 0, none⟩ = some (.int .i64 (bits : Int)) ∧ Hid (Kp F B e h w y) :=
  ⟨rangeAt_below k.1 b (rangeAt_lt k.1), (b.cell (p := ⟨g, 0, none⟩) (World.block_lt_of_cell? x ⟨g, 0, none⟩ k.2.1)).trans k.2.1, k.2.2.out.below b⟩


theorem k8_drew {F : Interp} {B X : Nat → Nat} {e : Addr} {h g : Nat} {w x : World} (k : x.rangeAt h 0 (bcells B 20) ∧ x.rangeAt g 0 (bcells X 20) ∧ Hid (Kp F B e h w x)) : x.drew.rangeAt h 0 (bcells B 20) ∧ x.drew.rangeAt g 0 (bcells X 20) ∧ Hid (Kp F B e h w x.drew) :=
  ⟨(World.rangeAt_drew _ _ _ _).2 k.1, (World.rangeAt_drew _ _ _ _).2 k.2.1, k.2.2.out.drew⟩
theorem k8_alloc {F : Interp} {B X : Nat → Nat} {e : Addr} {h g : Nat} {w x : World} (k : x.rangeAt h 0 (bcells B 20) ∧ x.rangeAt g 0 (bcells X 20) ∧ Hid (Kp F B e h w x)) (o : Obj) : (x.alloc o).rangeAt h 0 (bcells B 20) ∧ (x.alloc o).rangeAt g 0 (bcells X 20) ∧ Hid (Kp F B e h w (x.alloc o)) :=
  ⟨World.rangeAt_alloc k.1 o, World.rangeAt_alloc k.2.1 o, k.2.2.out.alloc o⟩
theorem k8_below {F : Interp} {B X : Nat → Nat} {e : Addr} {h g : Nat} {w x : World} {y : World} (k : x.rangeAt h 0 (bcells B 20) ∧ x.rangeAt g 0 (bcells X 20) ∧ Hid (Kp F B e h w x)) (b : Below x.heap.size x y) : y.rangeAt h 0 (bcells B 20) ∧ y.rangeAt g 0 (bcells X 20) ∧ Hid (Kp F B e h w y) :=
  ⟨rangeAt_below k.1 b (rangeAt_lt k.1), rangeAt_below k.2.1 b (rangeAt_lt k.2.1), k.2.2.out.below b⟩


theorem k5_set {F : Interp} {B : Nat → Nat} {e : Addr} {h g : Nat} {w x : World} {bits : Nat} (k : x.rangeAt h 0 (bcells B 20) ∧ x.cell? ⟨g, 0, none⟩ = some (.int .i64 (bits : Int)) ∧ Hid (Kp F B e h w x)) (b : Nat) (vs : List Value) (h1 : h + 1 + 1 ≤ b) (h2 : g < b) : (x.setCells b 0 vs).rangeAt h 0 (bcells B 20) ∧ (x.setCells b 0 vs).cell? ⟨g, 0, none⟩ = some (.int .i64 (bits : Int)) ∧ Hid (Kp F B e h w (x.setCells b 0 vs)) :=
  ⟨World.rangeAt_setCells_apart k.1 b 0 vs (Or.inl (by omega)), ((setCells_below b b (Nat.le_refl _) vs 0 x).cell (p := ⟨g, 0, none⟩) h2).trans k.2.1, k.2.2.out.setCells b h1 vs⟩

theorem k5_out {F : Interp} {B : Nat → Nat} {e : Addr} {h g : Nat} {w x : World} {bits : Nat} (k : x.rangeAt h 0 (bcells B 20) ∧ x.cell? ⟨g, 0, none⟩ = some (.int .i64 (bits : Int)) ∧ Hid (Kp F B e h w x)) : Hid (Kp F B e h w x) := k.2.2
theorem k8_out {F : Interp} {B X : Nat → Nat} {e : Addr} {h g : Nat} {w x : World} (k : x.rangeAt h 0 (bcells B 20) ∧ x.rangeAt g 0 (bcells X 20) ∧ Hid (Kp F B e h w x)) : Hid (Kp F B e h w x) := k.2.2

theorem parse_good2 (F : Interp) (B : Nat → Nat) (hB : ∀ i, B i < 256) (bits : Nat) (hbits : bits ≤ 160) (e : Addr) (w : World) (hF : F.answers w.tape) (hE : EofIs e w) (hw : 0 < w.heap.size) (hT : bv B 20 < 2 ^ bits) :
    Calls Tryf.prog 5 #[.agg #[.int .i64 (bits : Int)], .string (oxText B)] w fun ev w' => ev = .returned (.tuple #[.agg (bcells (fun q => byte (bv B 20 * 2 ^ (160 - bits)) (19 - q)) 20).toArray, .nilIface]) ∧ Below w.heap.size w w' := by
  refine (parse_any F B hB bits hbits e w hF hE hw).mono ?_
  rintro ev w' ⟨h, ⟨_, h2⟩ | ⟨h2, _⟩⟩
  · exact ⟨h2, h⟩
  · exact absurd hT h2

theorem parse_bad2 (F : Interp) (B : Nat → Nat) (hB : ∀ i, B i < 256) (bits : Nat) (hbits : bits ≤ 160) (e : Addr) (w : World) (hF : F.answers w.tape) (hE : EofIs e w) (hw : 0 < w.heap.size) (hT : ¬ bv B 20 < 2 ^ bits) :
    Calls Tryf.prog 5 #[.agg #[.int .i64 (bits : Int)], .string (oxText B)] w fun ev w' => (∃ p, ev = .returned (.tuple #[.agg (bcells (fun _ => 0) 20).toArray, .iface 79 (.pointer (some p))])) ∧ Below w.heap.size w w' := by
  refine (parse_any F B hB bits hbits e w hF hE hw).mono ?_
  rintro ev w' ⟨h, ⟨h2, _⟩ | ⟨_, h2⟩⟩
  · exact absurd h2 hT
  · exact ⟨h2, h⟩

theorem shift_good2 (B : Nat → Nat) (hB : ∀ i, B i < 256) (bits : Nat) (hbits : bits ≤ 160) (hT : bv B 20 < 2 ^ bits) (w : World) :
    Calls Tryf.prog 8 #[.agg (bcells B 20).toArray, .int .i64 (160 - (bits : Int))] w fun e w' => e = .returned (.agg (bcells (fun q => byte (bv B 20 * 2 ^ (160 - bits)) (19 - q)) 20).toArray) ∧ Below w.heap.size w w' := by
  have e1 : (160 - (bits : Int)) = ((160 - bits : Nat) : Int) := by omega
  rw [e1]
  have e2 : part (bv B 20) (160 - bits) (160 - (160 - bits)) = bv B 20 * 2 ^ (160 - bits) := by
    unfold part
    rw [show 160 - (160 - bits) = bits by omega, Nat.mod_eq_of_lt hT]
  have h := zzShiftLeft_any B (160 - bits) hB (by omega) w
  rw [e2] at h
  exact h

theorem shift_good3 (B : Nat → Nat) (hB : ∀ i, B i < 256) (bits : Nat) (hbits : bits ≤ 160) (hT : bv B 20 < 2 ^ bits) (w : World) :
    Calls Tryf.prog 8 #[.agg (bcells B 20).toArray, .int .i64 (IntKind.i64.wrap (160 - (bits : Int)))] w fun e w' => e = .returned (.agg (bcells (fun q => byte (bv B 20 * 2 ^ (160 - bits)) (19 - q)) 20).toArray) ∧ Below w.heap.size w w' := by
  have e1 : IntKind.i64.wrap (160 - (bits : Int)) = 160 - (bits : Int) := by
    simp [IntKind.wrap, IntKind.signed, IntKind.bits]
    omega
  rw [e1]
  exact shift_good2 B hB bits hbits hT w
end Go.Proofs.Qxb6608999aFmt
