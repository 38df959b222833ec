/-
  What the law's walk leans on.
-/
import Derived.Test.Qxb6608999aFmtParse
import Derived.Deep.WholeRow
import Derived.Stop.BytesEq
namespace Go.Proofs.Qxb6608999aFmt
open Go.RowKit Go.Extern.Stop Go.Stop Go.Extern
set_option linter.unusedVariables false

set_option maxRecDepth 100000 in
/-- Out of the widths: true. -/
theorem law_out (bits : Int) (V : Array Value) (w : World) (hV : V.size = 20) (h : bits < 0 ∨ 160 < bits) :
    Calls Tryf.prog 3 #[.int .i64 bits, .agg V] w fun e w' => e = .returned (.bool true) ∧ Below w.heap.size w w' := by
  rcases h with h | h
  · go_enter Tryf.func3, Tryf.ntmps3
    go_wp2_with fail
    go_ret
    exact ⟨rfl, (Below.refl _ w).alloc (Nat.le_refl _) _⟩
  · go_enter Tryf.func3, Tryf.ntmps3
    go_wp2_with fail
    go_ret
    exact ⟨rfl, (Below.refl _ w).alloc (Nat.le_refl _) _⟩

theorem newSpace_any (bits : Int) (w : World) : Calls Tryf.prog 4 #[.int .i64 bits] w fun e w' => e = .returned (.agg #[.int .i64 bits]) ∧ Below w.heap.size w w' := by
  go_enter Tryf.func4, Tryf.ntmps4
  go_wp2_with fail
  refine bodyPost_ret (results_cell_row rfl _ _ w.heap.size 24 _ (0, 0) _ rfl (heap_alloc_last w _) Tryf.underlying24 rfl (by kernel_rfl)) rfl ⟨rfl, (Below.refl _ w).alloc (Nat.le_refl _) _⟩


theorem idString_ex (B : Nat → Nat) (hB : ∀ i, B i < 256) (w : World) :
    Calls Tryf.prog 6 #[.agg #[.int .u8 (B 0 : Int), .int .u8 (B 1 : Int), .int .u8 (B 2 : Int), .int .u8 (B 3 : Int), .int .u8 (B 4 : Int), .int .u8 (B 5 : Int), .int .u8 (B 6 : Int), .int .u8 (B 7 : Int), .int .u8 (B 8 : Int), .int .u8 (B 9 : Int), .int .u8 (B 10 : Int), .int .u8 (B 11 : Int), .int .u8 (B 12 : Int), .int .u8 (B 13 : Int), .int .u8 (B 14 : Int), .int .u8 (B 15 : Int), .int .u8 (B 16 : Int), .int .u8 (B 17 : Int), .int .u8 (B 18 : Int), .int .u8 (B 19 : Int)]] w fun e w' => e = .returned (.string (hexText B)) ∧ Below w.heap.size w w' := idString_any B hB w

theorem parse_ex (F : Interp) (B : Nat → Nat) (hB : ∀ i, B i < 256) (bits : Nat) (hbits : bits ≤ 160) (e : Addr) (w : World) (hF : F.answers w.tape) (hE : EofIs e w) (hw : 0 < w.heap.size) :
    Calls Tryf.prog 5 #[.agg #[.int .i64 (bits : Int)], .string (oxText B)] w fun ev w' => Below w.heap.size w w' ∧
      ((bv B 20 < 2 ^ bits ∧ ev = .returned (.tuple #[.agg #[.int .u8 (byte (bv B 20 * 2 ^ (160 - bits)) 19 : Int), .int .u8 (byte (bv B 20 * 2 ^ (160 - bits)) 18 : Int), .int .u8 (byte (bv B 20 * 2 ^ (160 - bits)) 17 : Int), .int .u8 (byte (bv B 20 * 2 ^ (160 - bits)) 16 : Int), .int .u8 (byte (bv B 20 * 2 ^ (160 - bits)) 15 : Int), .int .u8 (byte (bv B 20 * 2 ^ (160 - bits)) 14 : Int), .int .u8 (byte (bv B 20 * 2 ^ (160 - bits)) 13 : Int), .int .u8 (byte (bv B 20 * 2 ^ (160 - bits)) 12 : Int), .int .u8 (byte (bv B 20 * 2 ^ (160 - bits)) 11 : Int), .int .u8 (byte (bv B 20 * 2 ^ (160 - bits)) 10 : Int), .int .u8 (byte (bv B 20 * 2 ^ (160 - bits)) 9 : Int), .int .u8 (byte (bv B 20 * 2 ^ (160 - bits)) 8 : Int), .int .u8 (byte (bv B 20 * 2 ^ (160 - bits)) 7 : Int), .int .u8 (byte (bv B 20 * 2 ^ (160 - bits)) 6 : Int), .int .u8 (byte (bv B 20 * 2 ^ (160 - bits)) 5 : Int), .int .u8 (byte (bv B 20 * 2 ^ (160 - bits)) 4 : Int), .int .u8 (byte (bv B 20 * 2 ^ (160 - bits)) 3 : Int), .int .u8 (byte (bv B 20 * 2 ^ (160 - bits)) 2 : Int), .int .u8 (byte (bv B 20 * 2 ^ (160 - bits)) 1 : Int), .int .u8 (byte (bv B 20 * 2 ^ (160 - bits)) 0 : Int)], .nilIface])) ∨ (¬ bv B 20 < 2 ^ bits ∧ ∃ p, ev = .returned (.tuple #[.agg #[.int .u8 0, .int .u8 0, .int .u8 0, .int .u8 0, .int .u8 0, .int .u8 0, .int .u8 0, .int .u8 0, .int .u8 0, .int .u8 0, .int .u8 0, .int .u8 0, .int .u8 0, .int .u8 0, .int .u8 0, .int .u8 0, .int .u8 0, .int .u8 0, .int .u8 0, .int .u8 0], .iface 79 (.pointer (some p))]))) := parse_any F B hB bits hbits e w hF hE hw

theorem parse_good (F : Interp) (B : Nat → Nat) (hB : ∀ i, B i < 256) (bits : Nat) (hbits : bits ≤ 160) (e : Addr) (w : World) (hF : F.answers w.tape) (hE : EofIs e w) (hw : 0 < w.heap.size) (hT : bv B 20 < 2 ^ bits) :
    Calls Tryf.prog 5 #[.agg #[.int .i64 (bits : Int)], .string (oxText B)] w fun ev w' => ev = .returned (.tuple #[.agg #[.int .u8 (byte (bv B 20 * 2 ^ (160 - bits)) 19 : Int), .int .u8 (byte (bv B 20 * 2 ^ (160 - bits)) 18 : Int), .int .u8 (byte (bv B 20 * 2 ^ (160 - bits)) 17 : Int), .int .u8 (byte (bv B 20 * 2 ^ (160 - bits)) 16 : Int), .int .u8 (byte (bv B 20 * 2 ^ (160 - bits)) 15 : Int), .int .u8 (byte (bv B 20 * 2 ^ (160 - bits)) 14 : Int), .int .u8 (byte (bv B 20 * 2 ^ (160 - bits)) 13 : Int), .int .u8 (byte (bv B 20 * 2 ^ (160 - bits)) 12 : Int), .int .u8 (byte (bv B 20 * 2 ^ (160 - bits)) 11 : Int), .int .u8 (byte (bv B 20 * 2 ^ (160 - bits)) 10 : Int), .int .u8 (byte (bv B 20 * 2 ^ (160 - bits)) 9 : Int), .int .u8 (byte (bv B 20 * 2 ^ (160 - bits)) 8 : Int), .int .u8 (byte (bv B 20 * 2 ^ (160 - bits)) 7 : Int), .int .u8 (byte (bv B 20 * 2 ^ (160 - bits)) 6 : Int), .int .u8 (byte (bv B 20 * 2 ^ (160 - bits)) 5 : Int), .int .u8 (byte (bv B 20 * 2 ^ (160 - bits)) 4 : Int), .int .u8 (byte (bv B 20 * 2 ^ (160 - bits)) 3 : Int), .int .u8 (byte (bv B 20 * 2 ^ (160 - bits)) 2 : Int), .int .u8 (byte (bv B 20 * 2 ^ (160 - bits)) 1 : Int), .int .u8 (byte (bv B 20 * 2 ^ (160 - bits)) 0 : Int)], .nilIface]) ∧ Below w.heap.size w w' := by
  refine (parse_ex F B hB bits hbits e w hF hE hw).mono ?_
  rintro ev w' ⟨h, ⟨_, h2⟩ | ⟨h2, _⟩⟩
  · exact ⟨h2, h⟩
  · exact absurd hT h2

theorem parse_bad (F : Interp) (B : Nat → Nat) (hB : ∀ i, B i < 256) (bits : Nat) (hbits : bits ≤ 160) (e : Addr) (w : World) (hF : F.answers w.tape) (hE : EofIs e w) (hw : 0 < w.heap.size) (hT : ¬ bv B 20 < 2 ^ bits) :
    Calls Tryf.prog 5 #[.agg #[.int .i64 (bits : Int)], .string (oxText B)] w fun ev w' => (∃ p, ev = .returned (.tuple #[.agg #[.int .u8 0, .int .u8 0, .int .u8 0, .int .u8 0, .int .u8 0, .int .u8 0, .int .u8 0, .int .u8 0, .int .u8 0, .int .u8 0, .int .u8 0, .int .u8 0, .int .u8 0, .int .u8 0, .int .u8 0, .int .u8 0, .int .u8 0, .int .u8 0, .int .u8 0, .int .u8 0], .iface 79 (.pointer (some p))])) ∧ Below w.heap.size w w' := by
  refine (parse_ex F B hB bits hbits e w hF hE hw).mono ?_
  rintro ev w' ⟨h, ⟨h2, _⟩ | ⟨_, h2⟩⟩
  · exact absurd h2 hT
  · exact ⟨h2, h⟩

/-- What stays over the law's walk. -/
structure Kp (F : Interp) (B : Nat → Nat) (e : Addr) (h : Nat) (w x : World) : Prop where
  tape : F.answers x.tape
  eof : EofIs e x
  idb : Blk x h B
  zero : Blk x (h + 1) (fun _ => 0)
  bel : Below h w x
  size : h + 1 + 1 ≤ x.heap.size

theorem Kp.drew {F : Interp} {B : Nat → Nat} {e : Addr} {h : Nat} {w x : World} (k : Kp F B e h w x) : Kp F B e h w x.drew := ⟨k.tape, k.eof, k.idb, k.zero, k.bel.drew, k.size⟩
theorem Kp.alloc {F : Interp} {B : Nat → Nat} {e : Addr} {h : Nat} {w x : World} (k : Kp F B e h w x) (o : Obj) : Kp F B e h w (x.alloc o) := by
  have s1 : (x.alloc o).heap.size = x.heap.size + 1 := by simp
  have := k.size
  exact ⟨k.tape, (((Below.refl x.heap.size x).alloc (Nat.le_refl _) o).cell (p := ⟨0, 0, none⟩) (by show 0 < _; omega)).trans k.eof, k.idb.alloc (by omega) o, k.zero.alloc (by omega) o, k.bel.alloc (by omega) o, by omega⟩
theorem Kp.below {F : Interp} {B : Nat → Nat} {e : Addr} {h : Nat} {w x y : World} (k : Kp F B e h w x) (b : Below x.heap.size x y) : Kp F B e h w y := by
  have := k.size
  have := b.size
  exact ⟨by rw [b.tape]; exact k.tape, (b.cell (p := ⟨0, 0, none⟩) (by show 0 < _; omega)).trans k.eof, k.idb.below b (by omega), k.zero.below b (by omega), k.bel.trans (b.mono (by omega)), by omega⟩

theorem new_below {x y : World} (b : Below (x.alloc (.cells (bcells (fun _ => 0) 20).toArray 26)).heap.size (x.alloc (.cells (bcells (fun _ => 0) 20).toArray 26)) y) : BlkT 26 y x.heap.size (fun _ => 0) := by
  have h : BlkT 26 (x.alloc (.cells (bcells (fun _ => 0) 20).toArray 26)) x.heap.size (fun _ => 0) := by
    unfold BlkT
    show (x.heap.push _)[x.heap.size]? = _
    rw [Array.getElem?_push_size]
  exact h.below b (by simp)

theorem zero20 {w : World} {g : Nat} (h : BlkT 26 w g (fun _ => 0)) : (∀ i, w.frozen? ⟨g, i, none⟩ = false) ∧ w.cell? ⟨g, 0, none⟩ = some (.int .u8 0) ∧ w.cell? ⟨g, 1, none⟩ = some (.int .u8 0) ∧ w.cell? ⟨g, 2, none⟩ = some (.int .u8 0) ∧ w.cell? ⟨g, 3, none⟩ = some (.int .u8 0) ∧ w.cell? ⟨g, 4, none⟩ = some (.int .u8 0) ∧ w.cell? ⟨g, 5, none⟩ = some (.int .u8 0) ∧ w.cell? ⟨g, 6, none⟩ = some (.int .u8 0) ∧ w.cell? ⟨g, 7, none⟩ = some (.int .u8 0) ∧ w.cell? ⟨g, 8, none⟩ = some (.int .u8 0) ∧ w.cell? ⟨g, 9, none⟩ = some (.int .u8 0) ∧ w.cell? ⟨g, 10, none⟩ = some (.int .u8 0) ∧ w.cell? ⟨g, 11, none⟩ = some (.int .u8 0) ∧ w.cell? ⟨g, 12, none⟩ = some (.int .u8 0) ∧ w.cell? ⟨g, 13, none⟩ = some (.int .u8 0) ∧ w.cell? ⟨g, 14, none⟩ = some (.int .u8 0) ∧ w.cell? ⟨g, 15, none⟩ = some (.int .u8 0) ∧ w.cell? ⟨g, 16, none⟩ = some (.int .u8 0) ∧ w.cell? ⟨g, 17, none⟩ = some (.int .u8 0) ∧ w.cell? ⟨g, 18, none⟩ = some (.int .u8 0) ∧ w.cell? ⟨g, 19, none⟩ = some (.int .u8 0) :=
  ⟨h.row.thaw, h.row.read 0 (by omega), h.row.read 1 (by omega), h.row.read 2 (by omega), h.row.read 3 (by omega), h.row.read 4 (by omega), h.row.read 5 (by omega), h.row.read 6 (by omega), h.row.read 7 (by omega), h.row.read 8 (by omega), h.row.read 9 (by omega), h.row.read 10 (by omega), h.row.read 11 (by omega), h.row.read 12 (by omega), h.row.read 13 (by omega), h.row.read 14 (by omega), h.row.read 15 (by omega), h.row.read 16 (by omega), h.row.read 17 (by omega), h.row.read 18 (by omega), h.row.read 19 (by omega)⟩

theorem ox_add (B : Nat → Nat) (w : World) : (Op.stringOp .add ⟨#[48, 120]⟩ (hexText B)).run Tryf.prog w = .ok (.string (oxText B)) w := by
  have hs : (hexText B).size = 40 := hexText_size B
  have e : (⟨#[48, 120]⟩ : ByteArray) ++ hexText B = oxText B := by
    apply ByteArray.ext
    rw [ByteArray.data_append]
    simp [hexText, oxText]
  rw [← e]
  exact run_string_add_sum w _ _ (by rw [hs]; decide)
end Go.Proofs.Qxb6608999aFmt
