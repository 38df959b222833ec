/-
  (Space).Parse at 0x and forty hexadecimal digits.
-/
import Derived.Test.Qxb6608999aFmtText
import Derived.Test.Qxb6608999aFmtErr
namespace Go.Proofs.Qxb6608999aFmt
open Go.RowKit Go.Extern.Stop Go.Stop Go.Extern
set_option linter.unusedVariables false

/-- The text that is parsed. -/
def oxText (B : Nat → Nat) : ByteArray := ⟨(48 :: 120 :: Lib.Hx.encode (bl B)).toArray⟩

theorem cut_ox (B : Nat → Nat) : (⟨(Lib.trimPrefix (oxText B).data.toList [48, 120]).toArray⟩ : ByteArray) = hexText B := by
  simp [oxText, hexText, Lib.trimPrefix, Lib.hasPrefix]

theorem has_ox (B : Nat → Nat) : Lib.hasPrefix (oxText B).data.toList [48, 120] = true := by
  simp [oxText, Lib.hasPrefix]

theorem len_exists (T : Nat) : ∃ L, ∀ k, L ≤ k ↔ T < 2 ^ k := by
  by_cases h : T = 0
  · subst h
    exact ⟨0, fun k => by simp [Nat.two_pow_pos]⟩
  · refine ⟨Nat.log2 T + 1, fun k => ?_⟩
    rw [← Nat.log2_lt h]
    exact Iff.rfl

theorem bitLen_at (d b cap m T L : Nat) (w : World) (h : BigAt w d b cap m T) (hL : ∀ k, L ≤ k ↔ T < 2 ^ k) :
    Calls Tryf.prog 13 #[.pointer (some ⟨d, 0, none⟩)] w fun e w' => e = .returned (.int .i64 (L : Int)) ∧ w' = w := by
  refine (bitLen_any d b cap m T w h).mono ?_
  rintro e w' ⟨L', rfl, h', rfl⟩
  have h1 : L' = L := by
    have a := (h' L).2 ((hL L).1 (Nat.le_refl _))
    have b := (hL L').2 ((h' L').1 (Nat.le_refl _))
    omega
  rw [h1]
  exact ⟨rfl, rfl⟩

theorem NatAt.below {w w' : World} {B b cap m T : Nat} (h : NatAt w b cap m T) (o : Below B w w') (hn : b < B) : NatAt w' b cap m T := by
  obtain ⟨⟨A, h1, h2⟩, r1, r2, r3, r4, r5, r6, r7⟩ := h
  exact ⟨⟨A, h1.below o hn, h2⟩, r1, r2, r3, r4, r5, r6, r7⟩

theorem BigAt.below {w w' : World} {B d b cap m T : Nat} (h : BigAt w d b cap m T) (o : Below B w w') (h1 : d < B) (h2 : b < B) : BigAt w' d b cap m T :=
  ⟨(o.cell (p := ⟨d, 0, none⟩) h1).trans h.neg, (o.cell (p := ⟨d, 1, none⟩) h1).trans h.abs, (o.frozen (p := ⟨d, 0, none⟩) h1).trans h.thaw0, (o.frozen (p := ⟨d, 1, none⟩) h1).trans h.thaw1, h.nat.below o h2, h.ne⟩

theorem BigAt.drewN {w : World} {d b cap m T : Nat} (h : BigAt w d b cap m T) (q : Nat) : BigAt (w.drewN q) d b cap m T := ⟨h.neg, h.abs, h.thaw0, h.thaw1, h.nat.drewN q, h.ne⟩

theorem BlkT.below {t : TypeId} {w w' : World} {g B : Nat} {F : Nat → Nat} (h : BlkT t w g F) (o : Below B w w') (hn : g < B) : BlkT t w' g F := (o.block g hn).trans h

theorem indexAny_none (chars : List UInt8) : ∀ l : List UInt8, (∀ x ∈ l, x ∉ chars) → Lib.indexAny l chars = -1
  | [], _ => rfl
  | x :: l, h => by
    have ih := indexAny_none chars l (fun y hy => h y (List.mem_cons_of_mem _ hy))
    have hx : ¬ x ∈ chars := h x (List.mem_cons_self)
    simp [Lib.indexAny, hx, ih]

theorem hex_byte (B : Nat → Nat) (hB : ∀ i, B i < 256) (j : Nat) (b : UInt8) (hb : (hexText B).data.toList[j]? = some b) : b.toNat ≠ 43 ∧ b.toNat ≠ 45 ∧ b.toNat < 128 := by
  obtain ⟨hj, rfl⟩ := List.getElem?_eq_some_iff.1 hb
  have hj' : j < (hexText B).size := by
    rw [hexText_size]
    have : (hexText B).data.toList.length = 40 := by have := hexText_size B; rw [Lib.size_eq] at this; exact this
    omega
  have key := (hexText_hex B hB).2.2 j hj'
  have e1 : (hexText B).data.toList[j] = (hexText B)[j]'hj' := rfl
  rw [e1]
  omega

theorem pm_ascii (j : Nat) (b : UInt8) (hb : (⟨#[43, 45]⟩ : ByteArray).data.toList[j]? = some b) : b.toNat < 128 := by
  match j, hb with
  | 0, hb => simp at hb; subst hb; decide
  | 1, hb => simp at hb; subst hb; decide
  | j + 2, hb => simp at hb

theorem no_sign (B : Nat → Nat) (hB : ∀ i, B i < 256) : Lib.containsAny (hexText B).data.toList (⟨#[43, 45]⟩ : ByteArray).data.toList = false := by
  unfold Lib.containsAny
  rw [indexAny_none _ _ (fun x hx hc => ?_)]
  · decide
  · obtain ⟨j, hj, rfl⟩ := List.getElem_of_mem hx
    have h := hex_byte B hB j _ (List.getElem?_eq_getElem hj)
    simp at hc
    simp only [Array.getElem_toList] at h
    rcases hc with hc | hc
    · rw [hc] at h; exact h.1 rfl
    · rw [hc] at h; exact h.2.1 rfl

/-- What the three new blocks hold. -/
structure Start (bits h : Nat) (e : Addr) (w W : World) : Prop where
  space : W.cell? ⟨h, 0, none⟩ = some (.int .i64 (bits : Int))
  res : BlkT 26 W (h + 1) (fun _ => 0)
  c0 : W.cell? ⟨h + 1 + 1, 0, none⟩ = some (.bool false)
  c1 : W.cell? ⟨h + 1 + 1, 1, none⟩ = some (.slice none 0 0)
  t0 : W.frozen? ⟨h + 1 + 1, 0, none⟩ = false
  t1 : W.frozen? ⟨h + 1 + 1, 1, none⟩ = false
  eof : EofIs e W
  bel : Below h w W
  size : W.heap.size = h + 1 + 1 + 1

theorem start_of (bits : Nat) (e : Addr) (w : World) (hE : EofIs e w) (hw : 0 < w.heap.size) :
    Start bits w.heap.size e w (((w.alloc (.cells #[.int .i64 (bits : Int)] 24)).alloc (.cells (bcells (fun _ => 0) 20).toArray 26)).alloc (.cells #[.bool false, .slice none 0 0] 42)) := by
  have hbel : Below w.heap.size w (((w.alloc (.cells #[.int .i64 (bits : Int)] 24)).alloc (.cells (bcells (fun _ => 0) 20).toArray 26)).alloc (.cells #[.bool false, .slice none 0 0] 42)) :=
    (((Below.refl _ w).alloc (Nat.le_refl _) _).alloc (by simp) _).alloc (by simp; omega) _
  have s1 : (w.alloc (.cells #[.int .i64 (bits : Int)] 24)).heap.size = w.heap.size + 1 := by simp
  have s2 : ((w.alloc (.cells #[.int .i64 (bits : Int)] 24)).alloc (.cells (bcells (fun _ => 0) 20).toArray 26)).heap.size = w.heap.size + 1 + 1 := by simp
  refine ⟨?_, ?_, ?_, ?_, ?_, ?_, (hbel.cell (p := ⟨0, 0, none⟩) hw).trans hE, hbel, by simp⟩
  · rw [World.cell?_alloc_past _ _ _ (by rw [s2]; omega), World.cell?_alloc_past _ _ _ (by rw [s1]; omega), World.cell?_alloc_at _ _ _ _ rfl]
    rfl
  · unfold BlkT
    rw [Below.heap_alloc _ _ _ (by rw [s2]; omega), ← s1]
    show ((w.alloc (.cells #[.int .i64 (bits : Int)] 24)).heap.push _)[(w.alloc (.cells #[.int .i64 (bits : Int)] 24)).heap.size]? = _
    rw [Array.getElem?_push_size]
  · rw [World.cell?_alloc_at _ _ _ _ s2.symm]
    rfl
  · rw [World.cell?_alloc_at _ _ _ _ s2.symm]
    rfl
  · rw [World.frozen?_alloc_at _ _ _ _ s2.symm]
  · rw [World.frozen?_alloc_at _ _ _ _ s2.symm]

theorem shift_any (bits : Nat) (w : World) (hb : bits ≤ 160) : Calls Tryf.prog 15 #[.agg #[.int .i64 (bits : Int)]] w fun e w' => e = .returned (.int .u64 ((160 - bits : Nat) : Int)) ∧ Below w.heap.size w w' := by
  have e1 : (160 : Int) - (bits : Int) = ((160 - bits : Nat) : Int) := by omega
  go_enter Tryf.func15, Tryf.ntmps15
  go_wp2_with fail
  go_ret
  refine ⟨?_, (Below.refl _ w).alloc (Nat.le_refl _) _⟩
  rw [← e1]
  rfl

theorem size26 (F : Nat → Nat) : (Tryf.prog.info? 26).map (·.size) = some (bcells F 20).toArray.size := by
  rw [bcells_size]
  kernel_rfl
end Go.Proofs.Qxb6608999aFmt
