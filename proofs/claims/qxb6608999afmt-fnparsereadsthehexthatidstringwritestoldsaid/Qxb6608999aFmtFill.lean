/-
  math/big's nat.bytes, (*Int).FillBytes.
-/
import Derived.Test.Qxb6608999aFmtLsh4
namespace Go.Proofs.Qxb6608999aFmt
open Go.RowKit
set_option linter.unusedVariables false

/-- A block of twenty bytes, whole, of the type t. -/
def BlkT (t : TypeId) (w : World) (g : Nat) (F : Nat → Nat) : Prop := w.heap[g]? = some (.cells (bcells F 20).toArray t (0, 0))

theorem BlkT.row {t : TypeId} {w : World} {g : Nat} {F : Nat → Nat} (h : BlkT t w g F) : Row w g 20 (fun i => .int .u8 (F i : Int)) := by
  unfold BlkT at h
  refine ⟨fun i hi => ?_, fun i => ?_⟩
  · rw [cell_of_row w g i _ _ _ h]
    simpa using bcells_get F 20 i hi
  · simp [World.frozen?, h]

theorem BlkT.congr {t : TypeId} {w : World} {g : Nat} {F G : Nat → Nat} (h : BlkT t w g F) (e : ∀ i, i < 20 → F i = G i) : BlkT t w g G := by
  unfold BlkT at h ⊢
  rw [h, bcells_congr e]

theorem BlkT.set {t : TypeId} {w : World} {g : Nat} {F : Nat → Nat} (h : BlkT t w g F) (i x : Nat) (hi : i < 20) : BlkT t (w.setCell ⟨g, i, none⟩ (.int .u8 (x : Int))) g (fun j => if j = i then x else F j) := by
  unfold BlkT
  rw [heap_setCell_same w g i _ _ _ h, bcells_set F 20 i x hi]

theorem BlkT.only {t : TypeId} {w w' : World} {g k : Nat} {F : Nat → Nat} (h : BlkT t w g F) (o : Only k w w') (hn : g ≠ k) : BlkT t w' g F := (o.block g hn).trans h

theorem BlkT.clear {t : TypeId} {g : Nat} : ∀ (n o : Nat) {w : World} {F : Nat → Nat}, BlkT t w g F → o + n ≤ 20 → BlkT t (w.setCells g o (List.replicate n (.int .u8 0))) g (fun j => if o ≤ j ∧ j < o + n then 0 else F j)
  | 0, o, _, _, h, _ => h.congr fun j _ => by rw [if_neg (by omega)]
  | n + 1, o, _, F, h, ho => by
    have h1 := BlkT.clear n (o + 1) (h.set o 0 (by omega)) (by omega)
    refine BlkT.congr h1 fun j _ => ?_
    by_cases e1 : o + 1 ≤ j ∧ j < o + 1 + n
    · rw [if_pos e1, if_pos (by omega)]
    · rw [if_neg e1]
      by_cases e2 : j = o
      · rw [if_pos e2, if_pos (by omega)]
      · rw [if_neg e2, if_neg (by omega)]

/-- A word's byte is the number's. -/
theorem word_byte (X t j : Nat) (hj : j < 8) : wd X t / 256 ^ j % 256 = byte X (8 * t + j) := by
  have e1 : wd X t = X / 2 ^ (64 * t) % 2 ^ 64 := by
    unfold wd
    rw [Nat.pow_mul]
  have e2 : (256 : Nat) ^ j = 2 ^ (8 * j) := by rw [Nat.pow_mul]
  rw [e1, e2, show (256 : Nat) = 2 ^ 8 from rfl]
  apply Nat.eq_of_testBit_eq
  intro i
  rw [byte_testBit, Nat.testBit_mod_two_pow, Nat.testBit_div_two_pow, Nat.testBit_mod_two_pow, Nat.testBit_div_two_pow]
  by_cases hi : i < 8
  · have h1 : i + 8 * j < 64 := by omega
    simp only [hi, h1, decide_true, Bool.true_and]
    congr 1
    omega
  · simp [hi]

theorem byte_big (X q : Nat) (hX : X < 1461501637330902918203684832716283019655932542976) (hq : 20 ≤ q) : byte X q = 0 := by
  unfold byte
  have h3 : 256 ^ 20 ≤ 256 ^ q := Nat.pow_le_pow_right (by decide) hq
  have h4 : (256 : Nat) ^ 20 = 1461501637330902918203684832716283019655932542976 := by decide
  rw [Nat.div_eq_of_lt (by omega)]

/-- What the buffer holds when p bytes are laid. -/
def fillF (X p : Nat) : Nat → Nat := fun q => if 20 ≤ q + p then byte X (19 - q) else 0

theorem conv_byte (x : Nat) : IntKind.u8.wrap (x : Int) = ((x % 256 : Nat) : Int) := by
  rw [IntKind.wrap_u8']
  omega

set_option maxRecDepth 100000 in
theorem bytes_any (T : TypeId) (g D c mm X : Nat) (w : World) (h : NatAt w D c mm X) (hb : BlkT T w g (fun _ => 0)) (hne : D ≠ g) :
    Calls Tryf.prog 32 #[.slice (some ⟨D, 0, none⟩) mm c, .slice (some ⟨g, 0, none⟩) 20 20] w fun e w' => (∃ v, e = .returned v) ∧ BlkT T w' g (fun q => byte X (19 - q)) ∧ Only g w w' := by
  obtain ⟨⟨A, hrow, hA⟩, r1, r2, r3, r4, r5, r6, r7⟩ := h
  have HC : Hid (∀ j, j < mm → w.cell? ⟨D, j, none⟩ = some (.int .u64 (wd X j : Int))) := fun j hj => by rw [← hA j hj]; exact hrow.read j (by omega)
  have HHi : Hid (∀ i, mm ≤ i → wd X i = 0) := r4
  have HX : Hid (X < 1461501637330902918203684832716283019655932542976) := r6
  have HB : Hid (BlkT T w g (fun _ => 0)) := hb
  clear hrow hA r4 r5 r6 hb
  go_enter Tryf.func32, Tryf.ntmps32
  go_wp2_with fail
  go_loopg [4, 12] mm (fun k i tt wr => ∃ t : Nat, t ≤ mm ∧ k = mm - t ∧ tt = .int .i64 (t : Int) ∧ i = .int .i64 (20 - 8 * (t : Int)) ∧ BlkT T wr g (fillF X (8 * t)) ∧ Only g w wr)
  case atStart => exact ⟨0, by omega, rfl, rfl, rfl, HB.out.congr fun q hq => by unfold fillF; rw [if_neg (by omega)], Only.refl _ _⟩
  case round =>
    obtain ⟨t, ht, rfl, rfl, rfl, hbl, ho⟩ := hrel
    have HBl : Hid (BlkT T wr g (fillF X (8 * t))) := hbl
    have HO : Hid (Only g w wr) := ho
    clear hbl ho
    by_cases hlt : t < mm
    · have ct := (HO.out.cell (p := ⟨D, t, none⟩) hne).trans (HC.out t hlt)
      go_wp2_with fail
      go_loopg [4, 6, 7] 8 (fun k i d jj wr => ∃ j : Nat, j ≤ 8 ∧ k = 8 - j ∧ jj = .int .i64 (j : Int) ∧ i = .int .i64 (20 - 8 * (t : Int) - (j : Int)) ∧ d = .int .u64 ((wd X t / 256 ^ j : Nat) : Int) ∧ BlkT T wr g (fillF X (8 * t + j)) ∧ Only g w wr)
      case atStart => exact ⟨0, by omega, rfl, rfl, by simp, by simp, HBl.out, HO.out⟩
      case round =>
        clear HBl HO ct
        obtain ⟨j, hj, rfl, rfl, rfl, rfl, hbl, ho⟩ := hrel
        have HBl : Hid (BlkT T wr g (fillF X (8 * t + j))) := hbl
        have HO : Hid (Only g w wr) := ho
        clear hbl ho
        obtain ⟨x, hx⟩ : ∃ x, wd X t / 256 ^ j = x := ⟨_, rfl⟩
        have hxl : x < 18446744073709551616 := by rw [← hx]; exact Nat.lt_of_le_of_lt (Nat.div_le_self _ _) (wd_lt X t)
        rw [hx]
        have HXX : Hid (wd X t / 256 ^ j = x) := hx
        clear hx
        by_cases hj8 : j < 8
        · have hby : x % 256 = byte X (8 * t + j) := by rw [← HXX.out]; exact word_byte X t j hj8
          have HBy : Hid (x % 256 = byte X (8 * t + j)) := hby
          clear hby
          by_cases hp : 8 * t + j < 20
          · have c1 := HBl.out.row.read (19 - (8 * t + j)) (by omega)
            have f1 := HBl.out.row.thaw (19 - (8 * t + j))
            obtain ⟨p, hpp⟩ : ∃ p, 19 - (8 * t + j) = p := ⟨_, rfl⟩
            rw [hpp] at c1 f1
            obtain ⟨z, hz⟩ : ∃ z, fillF X (8 * t + j) p = z := ⟨_, rfl⟩
            rw [hz] at c1
            clear hz
            have ep : 20 - 8 * (t : Int) - (j : Int) - 1 = (p : Int) := by omega
            go_wp2_with fail
            rw [show (x : Int) % 256 = ((x % 256 : Nat) : Int) from by omega]
            go_roundg (8 - (j + 1))
            case measure => omega
            case rel =>
              refine ⟨j + 1, by omega, rfl, rfl, congrArg _ (by omega), ?_, (HBl.out.set p (x % 256) (by omega)).congr fun q hq => ?_, HO.out.setCell rfl _⟩
              · rw [Nat.pow_succ, ← Nat.div_div_eq_div_mul, HXX.out]
                rfl
              · unfold fillF
                by_cases e : q = p
                · rw [if_pos e, if_pos (by omega), HBy.out, show 19 - q = 8 * t + j from by omega]
                · rw [if_neg e]
                  by_cases e2 : 20 ≤ q + (8 * t + j)
                  · rw [if_pos e2, if_pos (by omega)]
                  · rw [if_neg e2, if_neg (by omega)]
          · have h0 : x % 256 = 0 := by rw [HBy.out]; exact byte_big X _ HX.out (by omega)
            go_wp2_with fail
            go_roundg (8 - (j + 1))
            case measure => omega
            case rel =>
              refine ⟨j + 1, by omega, rfl, rfl, congrArg _ (by omega), ?_, HBl.out.congr fun q hq => ?_, HO.out⟩
              · rw [Nat.pow_succ, ← Nat.div_div_eq_div_mul, HXX.out]
                rfl
              · unfold fillF
                rw [if_pos (by omega), if_pos (by omega)]
        · obtain rfl : j = 8 := by omega
          go_wp2_with fail
          go_roundg (mm - (t + 1))
          case measure => omega
          case rel => exact ⟨t + 1, by omega, rfl, rfl, congrArg _ (by omega), HBl.out, HO.out⟩
    · obtain rfl : t = mm := by omega
      have HE : Hid (BlkT T wr g (fun q => byte X (19 - q)) ∧ Only g w wr) := ⟨HBl.out.congr fun q hq => by
        unfold fillF
        by_cases e : 20 ≤ q + 8 * t
        · rw [if_pos e]
        · rw [if_neg e]
          have h1 := word_byte X ((19 - q) / 8) ((19 - q) % 8) (by omega)
          rw [HHi.out _ (by omega), show 8 * ((19 - q) / 8) + (19 - q) % 8 = 19 - q from by omega] at h1
          rw [← h1]
          simp, HO.out⟩
      clear HBl HO
      obtain ⟨W, hW⟩ : ∃ W, W = wr := ⟨_, rfl⟩
      rw [← hW] at HE ⊢
      clear hW
      by_cases h3 : t ≤ 2
      · have e1 : ((20 : Int) - 8 * (t : Int)) = ((20 - 8 * t : Nat) : Int) := by omega
        rw [e1]
        go_wp2_with fail
        go_loopg [4] 20 (fun k i wr => wr = W ∧ ∃ p : Nat, p ≤ 20 ∧ 20 - p ≤ k ∧ i = .int .i64 (p : Int))
        case atStart => exact ⟨rfl, 20 - 8 * t, by omega, by omega, rfl⟩
        case round =>
          obtain ⟨hwr, p, hp, hk, rfl⟩ := hrel
          have hwr' := hwr.symm
          clear hwr
          subst hwr'
          by_cases hp20 : p < 20
          · have c1 := HE.out.1.row.read p hp20
            obtain ⟨z, hz⟩ : ∃ z, byte X (19 - p) = z := ⟨_, rfl⟩
            have hz8 : z < 256 := by rw [← hz]; exact byte_lt _ _
            rw [hz] at c1
            clear hz
            by_cases hz0 : z = 0
            · subst hz0
              go_wp2_with fail
              go_roundg (20 - (p + 1))
              case measure => omega
              case rel => exact ⟨rfl, p + 1, by omega, by omega, rfl⟩
            · have b0 : ((z : Int) == 0) = false := beq_eq_false_iff_ne.2 (by omega)
              go_wp2_with fail
              go_ret
              exact ⟨⟨_, rfl⟩, HE.out.1, HE.out.2⟩
          · obtain rfl : p = 20 := by omega
            go_wp2_with fail
            go_ret
            exact ⟨⟨_, rfl⟩, HE.out.1, HE.out.2⟩
      · obtain rfl : t = 3 := by omega
        go_wp2_with fail
        go_loopg [4] 20 (fun k i wr => wr = W ∧ ∃ p : Nat, p ≤ 20 ∧ 20 - p ≤ k ∧ i = .int .i64 (p : Int))
        case atStart => exact ⟨rfl, 0, by omega, by omega, rfl⟩
        case round =>
          obtain ⟨hwr, p, hp, hk, rfl⟩ := hrel
          have hwr' := hwr.symm
          clear hwr
          subst hwr'
          by_cases hp20 : p < 20
          · have c1 := HE.out.1.row.read p hp20
            obtain ⟨z, hz⟩ : ∃ z, byte X (19 - p) = z := ⟨_, rfl⟩
            have hz8 : z < 256 := by rw [← hz]; exact byte_lt _ _
            rw [hz] at c1
            clear hz
            by_cases hz0 : z = 0
            · subst hz0
              go_wp2_with fail
              go_roundg (20 - (p + 1))
              case measure => omega
              case rel => exact ⟨rfl, p + 1, by omega, by omega, rfl⟩
            · have b0 : ((z : Int) == 0) = false := beq_eq_false_iff_ne.2 (by omega)
              go_wp2_with fail
              go_ret
              exact ⟨⟨_, rfl⟩, HE.out.1, HE.out.2⟩
          · obtain rfl : p = 20 := by omega
            go_wp2_with fail
            go_ret
            exact ⟨⟨_, rfl⟩, HE.out.1, HE.out.2⟩

theorem zero5 (w : World) : (zeroValue 5).run Tryf.prog w = .ok (.int .u8 0) w := by kernel_rfl

set_option maxRecDepth 100000 in
theorem fillBytes_any (T : TypeId) (g d D c mm X : Nat) (F : Nat → Nat) (w : World) (h : BigAt w d D c mm X) (hb : BlkT T w g F) (h1 : D ≠ g) (h2 : d ≠ g) :
    Calls Tryf.prog 16 #[.pointer (some ⟨d, 0, none⟩), .slice (some ⟨g, 0, none⟩) 20 20] w fun e w' => (∃ v, e = .returned v) ∧ BlkT T w' g (fun q => byte X (19 - q)) ∧ Only g w w' := by
  have hcl : ∀ ty, (Builtin.clear_ #[47] ty #[.slice (some ⟨g, 0, none⟩) 20 20]).run Tryf.prog w = .ok (.tuple #[]) (w.setCells g 0 (List.replicate 20 (.int .u8 0))) := fun ty =>
    Lib.run_clear_slice w 47 5 ty (.int .u8 0) Tryf.underlying47 zero5 rfl rfl g 0 20 20 (by decide) (fun j hj => by rw [Nat.zero_add, hb.row.read j hj]; rfl) (fun j _ => hb.row.thaw _)
  have hb2 : BlkT T (w.setCells g 0 (List.replicate 20 (.int .u8 0))) g (fun _ => 0) := (BlkT.clear 20 0 hb (by omega)).congr fun j hj => by rw [if_pos (by omega)]
  have ho : Only g w (w.setCells g 0 (List.replicate 20 (.int .u8 0))) := (Only.refl g w).setCells _ _
  obtain ⟨W, hW⟩ : ∃ W, w.setCells g 0 (List.replicate 20 (.int .u8 0)) = W := ⟨_, rfl⟩
  rw [hW] at hcl hb2 ho
  have c1 : W.cell? ⟨d, 1, none⟩ = some (.slice (some ⟨D, 0, none⟩) mm c) := (ho.cell (p := ⟨d, 1, none⟩) h2).trans h.abs
  have HN : Hid (NatAt W D c mm X) := h.nat.only ho h1
  have HB : Hid (BlkT T W g (fun _ => 0)) := hb2
  have HO : Hid (Only g w W) := ho
  clear h hb hb2 ho hW
  go_enter Tryf.func16, Tryf.ntmps16
  go_wp2_with fail
  refine (bytes_any T g D c mm X W HN.out HB.out h1).mono ?_
  rintro e' w2 ⟨⟨v, rfl⟩, hb, ho⟩
  have HB2 : Hid (BlkT T w2 g (fun q => byte X (19 - q))) := hb
  have HO2 : Hid (Only g W w2) := ho
  clear hb ho
  go_wp2_with fail
  go_ret
  exact ⟨⟨_, rfl⟩, HB2.out, HO.out.trans HO2.out⟩
end Go.Proofs.Qxb6608999aFmt
