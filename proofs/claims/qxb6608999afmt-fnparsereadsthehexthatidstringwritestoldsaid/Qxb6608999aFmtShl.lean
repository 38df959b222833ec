/-
  zzShiftLeft.
-/
import Derived.Test.Qxb6608999aFmtLen
import Derived.Laws.BitsAllLaws
namespace Go.Proofs.Qxb6608999aFmt
open Go.RowKit
set_option linter.unusedVariables false

/-- The number's byte at place q. -/
def byte (N q : Nat) : Nat := N / 256 ^ q % 256

theorem byte_lt (N q : Nat) : byte N q < 256 := Nat.mod_lt _ (by decide)

theorem byte_eq (N q : Nat) : byte N q = N / 2 ^ (8 * q) % 2 ^ 8 := by
  unfold byte
  rw [Nat.pow_mul]

theorem byte_testBit (N q i : Nat) : (byte N q).testBit i = (decide (i < 8) && N.testBit (8 * q + i)) := by
  rw [byte_eq, Nat.testBit_mod_two_pow, Nat.testBit_div_two_pow, Nat.add_comm]

theorem byte_add (V p q : Nat) (h : V < 2 ^ p) : byte (V + 2 ^ p) q = if q = p / 8 then byte V q ||| 2 ^ (p % 8) else byte V q := by
  have e : V + 2 ^ p = 2 ^ p ||| V := by
    have := Nat.two_pow_add_eq_or_of_lt h 1
    rw [Nat.mul_one] at this
    rw [← this, Nat.add_comm]
  rw [e]
  apply Nat.eq_of_testBit_eq
  intro i
  rw [byte_testBit, Nat.testBit_or, Nat.testBit_two_pow]
  by_cases hq : q = p / 8
  · rw [if_pos hq, Nat.testBit_or, byte_testBit, Nat.testBit_two_pow]
    by_cases hi : i < 8
    · have : (p = 8 * q + i) ↔ (p % 8 = i) := by omega
      simp only [hi, decide_true, Bool.true_and]
      rw [Bool.or_comm, decide_eq_decide.2 this]
    · have h1 : ¬ (p % 8 = i) := by omega
      simp [hi, h1]
  · rw [if_neg hq, byte_testBit]
    by_cases hi : i < 8
    · have : ¬ (p = 8 * q + i) := by omega
      simp [this]
    · simp [hi]

theorem bv_byte (B : Nat → Nat) (hB : ∀ i, B i < 256) (q : Nat) (h : q < 20) : byte (bv B 20) q = B (19 - q) := by
  have e1 := bv_div B hB (20 - q) q
  rw [show 20 - q + q = 20 from by omega] at e1
  unfold byte
  rw [e1, show 20 - q = (19 - q) + 1 from by omega]
  show (bv B (19 - q) * 256 + B (19 - q)) % 256 = _
  have := hB (19 - q)
  omega

theorem byte_bit (N k : Nat) : byte N (k / 8) / 2 ^ (k % 8) % 2 = N / 2 ^ k % 2 := by
  have h := byte_testBit N (k / 8) (k % 8)
  rw [show 8 * (k / 8) + k % 8 = k from by omega] at h
  have hk : k % 8 < 8 := by omega
  simp only [hk, decide_true, Bool.true_and, Nat.testBit_eq_decide_div_mod_eq] at h
  have h2 := decide_eq_decide.1 h
  have h3 : byte N (k / 8) / 2 ^ (k % 8) % 2 < 2 := Nat.mod_lt _ (by decide)
  have h4 : N / 2 ^ k % 2 < 2 := Nat.mod_lt _ (by decide)
  omega

/-- The number that the first k bits make, shifted up by s. -/
def part (T s k : Nat) : Nat := T % 2 ^ k * 2 ^ s

theorem part_lt (T s k : Nat) : part T s k < 2 ^ (k + s) := by
  unfold part
  rw [Nat.pow_add]
  exact Nat.mul_lt_mul_of_pos_right (Nat.mod_lt _ (Nat.two_pow_pos _)) (Nat.two_pow_pos _)

theorem part_succ (T s k : Nat) : part T s (k + 1) = if T / 2 ^ k % 2 = 1 then part T s k + 2 ^ (k + s) else part T s k := by
  unfold part
  rw [Nat.mod_pow_succ]
  have h : T / 2 ^ k % 2 < 2 := Nat.mod_lt _ (by decide)
  by_cases h1 : T / 2 ^ k % 2 = 1
  · rw [if_pos h1, h1, Nat.mul_one, Nat.add_mul, Nat.pow_add]
  · rw [if_neg h1, show T / 2 ^ k % 2 = 0 from by omega, Nat.mul_zero, Nat.add_zero]

theorem Row.alloc {w : World} {b cap : Nat} {A : Nat → Value} (h : Row w b cap A) (hb : b < w.heap.size) (o : Obj) : Row (w.alloc o) b cap A :=
  h.below (B := b + 1) ((Below.refl _ w).alloc (by omega) o) (by omega)

theorem row_bytes' (B : Nat → Nat) (n : Nat) (t : TypeId) (w : World) (h : Nat) (hh : w.heap.size = h) : Row (w.alloc (.cells (bcells B n).toArray t)) h n (fun i => .int .u8 (B i : Int)) := by
  subst hh
  exact row_bytes B n t w

theorem bit_and (x r : Nat) (hx : x < 256) : bits .and .u8 ((x : Int) / 2 ^ r) 1 = ((x / 2 ^ r % 2 : Nat) : Int) := by
  have e1 : (x : Int) / 2 ^ r = ((x / 2 ^ r : Nat) : Int) := by simp
  have h2 : x / 2 ^ r ≤ x := Nat.div_le_self _ _
  rw [e1, show (1 : Int) = ((1 : Nat) : Int) from rfl, u8_and_nat _ _ (by omega) (by omega), Nat.and_one_is_mod]

theorem bit_or (y r : Nat) (hy : y < 256) (hr : r < 8) : bits .or .u8 (y : Int) ((2 : Int) ^ r % 256) = ((y ||| 2 ^ r : Nat) : Int) := by
  have h2 : 2 ^ r < 256 := Nat.lt_of_lt_of_le (Nat.pow_lt_pow_right (by decide) hr) (by decide)
  have e1 : (2 : Int) ^ r % 256 = ((2 ^ r : Nat) : Int) := by
    have : (2 : Int) ^ r = ((2 ^ r : Nat) : Int) := by simp
    rw [this]
    generalize 2 ^ r = z at h2 ⊢
    omega
  rw [e1, u8_or_nat _ _ hy h2]

/-- A block of bytes, whole. -/
def Blk (w : World) (g : Nat) (F : Nat → Nat) : Prop := w.heap[g]? = some (.cells (bcells F 20).toArray 22 (0, 0))

theorem bcells_size (F : Nat → Nat) (n : Nat) : (bcells F n).toArray.size = n := by simp [bcells]

theorem Blk.row {w : World} {g : Nat} {F : Nat → Nat} (h : Blk w g F) : Row w g 20 (fun i => .int .u8 (F i : Int)) := by
  unfold Blk at h
  refine ⟨fun i hi => ?_, fun i => ?_⟩
  · rw [cell_of_row w g i _ _ _ h]
    simpa using bcells_get F 20 i hi
  · simp [World.frozen?, h]

theorem bcells_congr {F G : Nat → Nat} {n : Nat} (h : ∀ i, i < n → F i = G i) : bcells F n = bcells G n := by
  unfold bcells
  apply List.map_congr_left
  intro i hi
  rw [h i (by simpa using hi)]

theorem Blk.congr {w : World} {g : Nat} {F G : Nat → Nat} (h : Blk w g F) (e : ∀ i, i < 20 → F i = G i) : Blk w g G := by
  unfold Blk at h ⊢
  rw [h, bcells_congr e]

theorem bcells_set (F : Nat → Nat) (n i x : Nat) (hi : i < n) : (bcells F n).toArray.setIfInBounds i (.int .u8 (x : Int)) = (bcells (fun j => if j = i then x else F j) n).toArray := by
  apply Array.ext_getElem?
  intro j
  rw [Array.getElem?_setIfInBounds]
  by_cases hj : i = j
  · subst hj
    rw [if_pos rfl, if_pos (by rw [bcells_size]; exact hi)]
    have := bcells_get (fun j => if j = i then x else F j) n i hi
    simp only [if_true] at this
    simpa using this.symm
  · rw [if_neg hj]
    by_cases hjn : j < n
    · have h1 := bcells_get F n j hjn
      have h2 := bcells_get (fun j => if j = i then x else F j) n j hjn
      simp only [show ¬ j = i from fun e => hj e.symm, if_false] at h2
      simp [h1, h2]
    · rw [Array.getElem?_eq_none (by rw [bcells_size]; omega), Array.getElem?_eq_none (by rw [bcells_size]; omega)]

theorem Blk.set {w : World} {g : Nat} {F : Nat → Nat} (h : Blk w g F) (i x : Nat) (hi : i < 20) : Blk (w.setCell ⟨g, i, none⟩ (.int .u8 (x : Int))) g (fun j => if j = i then x else F j) := by
  unfold Blk
  rw [heap_setCell_same w g i _ _ _ h, bcells_set F 20 i x hi]

theorem Blk.only {w w' : World} {g k : Nat} {F : Nat → Nat} (h : Blk w g F) (o : Only k w w') (hn : g ≠ k) : Blk w' g F := (o.block g hn).trans h
theorem Blk.below {w w' : World} {g B : Nat} {F : Nat → Nat} (h : Blk w g F) (o : Below B w w') (hn : g < B) : Blk w' g F := (o.block g hn).trans h
theorem Blk.alloc {w : World} {g : Nat} {F : Nat → Nat} (h : Blk w g F) (hn : g < w.heap.size) (o : Obj) : Blk (w.alloc o) g F := (Below.heap_alloc w o g hn).trans h
theorem Blk.new (w : World) (F : Nat → Nat) (g : Nat) (hg : w.heap.size = g) : Blk (w.alloc (.cells (bcells F 20).toArray 22)) g F := by
  subst hg
  unfold Blk
  show (w.heap.push _)[w.heap.size]? = _
  simp

theorem bcells_one (F : Nat → Nat) (n : Nat) : (bcells F n).toArray.all (·.oneCell') = true := by
  rw [Array.all_eq_true_iff_forall_mem]
  intro v hv
  simp [bcells] at hv
  obtain ⟨a, _, rfl⟩ := hv
  rfl

theorem size22 (F : Nat → Nat) : (Tryf.prog.info? 22).map (·.size) = some (bcells F 20).toArray.size := by
  rw [bcells_size]
  kernel_rfl

theorem below_setRow {B : Nat} (w : World) (g : Nat) (cs : Array Value) (h : B ≤ g) : Below B w (w.setRow g cs) := by
  refine ⟨rfl, rfl, rfl, by simp, fun k hk => ?_⟩
  simp only [World.setRow, Array.getElem?_modify]
  rw [if_neg (by omega)]

set_option maxRecDepth 100000 in
theorem zzShiftLeft_any (B : Nat → Nat) (s : Nat) (hB : ∀ i, B i < 256) (hs : s ≤ 160) (w : World) :
    Calls Tryf.prog 8 #[.agg (bcells B 20).toArray, .int .i64 (s : Int)] w fun e w' => e = .returned (.agg (bcells (fun i => byte (part (bv B 20) s (160 - s)) (19 - i)) 20).toArray) ∧ Below w.heap.size w w' := by
  have b0 := ((Blk.new w B _ rfl).alloc (by simp) (.cells (bcells (fun _ => 0) 20).toArray 22)).alloc (by simp; omega) (.cells (bcells (fun _ => 0) 20).toArray 22)
  have b1 := (Blk.new (w.alloc (.cells (bcells B 20).toArray 22)) (fun _ => 0) (w.heap.size + 1) (by simp)).alloc (by simp) (.cells (bcells (fun _ => 0) 20).toArray 22)
  have b2 := Blk.new ((w.alloc (.cells (bcells B 20).toArray 22)).alloc (.cells (bcells (fun _ => 0) 20).toArray 22)) (fun _ => 0) (w.heap.size + 1 + 1) (by simp)
  have hbel : Below w.heap.size w (((w.alloc (.cells (bcells B 20).toArray 22)).alloc (.cells (bcells (fun _ => 0) 20).toArray 22)).alloc (.cells (bcells (fun _ => 0) 20).toArray 22)) :=
    (((Below.refl _ w).alloc (Nat.le_refl _) _).alloc (by simp) _).alloc (by simp; omega) _
  obtain ⟨W, hW⟩ : ∃ W, ((w.alloc (.cells (bcells B 20).toArray 22)).alloc (.cells (bcells (fun _ => 0) 20).toArray 22)).alloc (.cells (bcells (fun _ => 0) 20).toArray 22) = W := ⟨_, rfl⟩
  rw [hW] at b0 b1 b2 hbel
  have HW : Hid (((w.alloc (.cells (bcells B 20).toArray 22)).alloc (.cells (bcells (fun _ => 0) 20).toArray 22)).alloc (.cells (bcells (fun _ => 0) 20).toArray 22) = W) := hW
  have HI : Hid (Blk W w.heap.size B ∧ Blk W (w.heap.size + 1) (fun _ => 0) ∧ Blk W (w.heap.size + 1 + 1) (fun _ => 0) ∧ Below w.heap.size w W) := ⟨b0, b1, b2, hbel⟩
  clear b0 b1 b2 hbel hW
  go_enter Tryf.func8, Tryf.ntmps8
  go_wp2_with fail
  obtain ⟨h, hh⟩ : ∃ h, w.heap.size = h := ⟨_, rfl⟩
  obtain ⟨V, hV⟩ : ∃ V, Value.agg (bcells B 20).toArray = V := ⟨_, rfl⟩
  have hW := HW.out
  have hI := HI.out
  rw [hh] at hI ⊢
  rw [show (Obj.cells #[Value.int .u8 0, .int .u8 0, .int .u8 0, .int .u8 0, .int .u8 0, .int .u8 0, .int .u8 0, .int .u8 0, .int .u8 0, .int .u8 0, .int .u8 0, .int .u8 0, .int .u8 0, .int .u8 0, .int .u8 0, .int .u8 0, .int .u8 0, .int .u8 0, .int .u8 0, .int .u8 0] 22) = .cells (bcells (fun _ => 0) 20).toArray 22 from rfl, hW, hV]
  have HJ : Hid (Blk W h B ∧ Blk W (h + 1) (fun _ => 0) ∧ Blk W (h + 1 + 1) (fun _ => 0) ∧ Below h w W) := hI
  have HH : Hid (w.heap.size = h) := hh
  clear hI hW hh hV HW HI
  go_loopg [6] 160 (fun k i wr => ∃ j : Nat, j + s ≤ 160 ∧ k = 160 - j ∧ i = .int .i64 (j : Int) ∧ Blk wr h B ∧ Blk wr (h + 1) (fun _ => 0) ∧ Blk wr (h + 1 + 1) (fun t => byte (part (bv B 20) s j) (19 - t)) ∧ Below h w wr)
  case atStart =>
    obtain ⟨j1, j2, j3, j4⟩ := HJ.out
    refine ⟨0, by omega, rfl, rfl, j1, j2, j3.congr fun i _ => ?_, j4⟩
    simp [part, byte, Nat.mod_one]
  case round =>
    obtain ⟨j, hj, rfl, rfl, r0, r1, r2, hb⟩ := hrel
    have HR : Hid (Blk wr h B ∧ Blk wr (h + 1) (fun _ => 0) ∧ Blk wr (h + 1 + 1) (fun t => byte (part (bv B 20) s j) (19 - t)) ∧ Below h w wr) := ⟨r0, r1, r2, hb⟩
    clear r0 r1 r2 hb HJ
    by_cases hlt : j + s < 160
    · have c := HR.out.1.row.read (19 - j / 8) (by omega)
      obtain ⟨x, hx⟩ : ∃ x, B (19 - j / 8) = x := ⟨_, rfl⟩
      rw [hx] at c
      have hx8 : x < 256 := by rw [← hx]; exact hB _
      have HX : Hid (B (19 - j / 8) = x) := hx
      have hbit : x / 2 ^ (j % 8) % 2 = bv B 20 / 2 ^ j % 2 := by
        have := byte_bit (bv B 20) j
        rw [bv_byte B hB (j / 8) (by omega), hx] at this
        exact this
      have HBit : Hid (x / 2 ^ (j % 8) % 2 = bv B 20 / 2 ^ j % 2) := hbit
      have e1 := bit_and x (j % 8) hx8
      clear hx hbit
      by_cases h1 : x / 2 ^ (j % 8) % 2 = 1
      · rw [h1] at e1
        have c2 := HR.out.2.2.1.row.read (19 - (j + s) / 8) (by omega)
        have t2 := HR.out.2.2.1.row.thaw (19 - (j + s) / 8)
        rw [show 19 - (19 - (j + s) / 8) = (j + s) / 8 from by omega] at c2
        obtain ⟨y, hy⟩ : ∃ y, byte (part (bv B 20) s j) ((j + s) / 8) = y := ⟨_, rfl⟩
        have hy8 : y < 256 := by rw [← hy]; exact byte_lt _ _
        rw [hy] at c2
        have HY : Hid (byte (part (bv B 20) s j) ((j + s) / 8) = y) := hy
        clear hy
        go_wp2_with fail
        rw [bit_or y ((j + s) % 8) hy8 (by omega)]
        go_roundg (160 - (j + 1))
        case measure => omega
        case rel =>
          obtain ⟨r0, r1, r2, hb⟩ := HR.out
          have o := (Only.refl (h + 1 + 1) wr).setCell (p := ⟨h + 1 + 1, 19 - (j + s) / 8, none⟩) rfl (.int .u8 ((y ||| 2 ^ ((j + s) % 8) : Nat) : Int))
          refine ⟨j + 1, by omega, rfl, rfl, r0.only o (by omega), r1.only o (by omega), (r2.set (19 - (j + s) / 8) _ (by omega)).congr fun t ht => ?_, hb.setCell (by show h ≤ h + 1 + 1; omega) _⟩
          have hb1 : bv B 20 / 2 ^ j % 2 = 1 := by rw [← HBit.out]; exact h1
          have ep : part (bv B 20) s (j + 1) = part (bv B 20) s j + 2 ^ (j + s) := by rw [part_succ, if_pos hb1]
          rw [ep, byte_add _ _ _ (part_lt _ _ _)]
          by_cases e : t = 19 - (j + s) / 8
          · rw [if_pos e, if_pos (by omega), show 19 - t = (j + s) / 8 from by omega, HY.out]
          · rw [if_neg e, if_neg (by omega)]
      · have h0 : x / 2 ^ (j % 8) % 2 = 0 := by omega
        rw [h0] at e1
        go_wp2_with fail
        go_roundg (160 - (j + 1))
        case measure => omega
        case rel =>
          obtain ⟨r0, r1, r2, hb⟩ := HR.out
          refine ⟨j + 1, by omega, rfl, rfl, r0, r1, ?_, hb⟩
          rw [part_succ, if_neg (by rw [← HBit.out]; exact h1)]
          exact r2
    · obtain rfl : j = 160 - s := by omega
      go_wp2_with (first
        | refine wpList_load_row rfl 22 _ rfl (h + 1 + 1) rfl 22 _ (0, 0) _ HR.out.2.2.1 Tryf.underlying22 rfl (size22 _) ?_
        | refine wpList_store_row rfl 22 _ _ rfl (h + 1) _ rfl rfl 22 _ HR.out.2.1 (size22 _) (by rw [bcells_size, bcells_size]) (bcells_one _ _) ?_)
      refine bodyPost_ret (results_cell_row rfl _ _ (h + 1) 22 _ (0, 0) _ rfl (setRow_heap _ _ _ _ _ _ HR.out.2.1) Tryf.underlying22 rfl (size22 _)) rfl ⟨rfl, ?_⟩
      rw [HH.out]
      exact HR.out.2.2.2.trans (below_setRow _ _ _ (by omega))
end Go.Proofs.Qxb6608999aFmt
