/-
  (*math/big.Int).BitLen; zzBitLen.
-/
import Derived.Test.Qxb6608999aFmtSet
namespace Go.Proofs.Qxb6608999aFmt
open Go.RowKit
set_option linter.unusedVariables false

theorem auxLen_le : ∀ (f x : Nat), x < 2 ^ f → ∀ k, Lib.bitLenAux f x ≤ k ↔ x < 2 ^ k
  | 0, x, h, k => by
    have h0 : x = 0 := by simpa using h
    subst h0
    simp [Lib.bitLenAux, Nat.two_pow_pos]
  | f + 1, x, h, k => by
    rw [Lib.bitLenAux]
    by_cases h0 : x = 0
    · subst h0
      simp [Nat.two_pow_pos]
    · rw [if_neg h0]
      have hf : x / 2 < 2 ^ f := by rw [Nat.pow_succ] at h; omega
      rcases k with _ | j
      · simp; omega
      · have := auxLen_le f (x / 2) hf j
        rw [Nat.pow_succ]
        omega

theorem len_le (x : Nat) (h : x < 18446744073709551616) (k : Nat) : Lib.bitLen x ≤ k ↔ x < 2 ^ k := auxLen_le 64 x (by simpa using h) k

theorem smear (x d : Nat) (hx : x < 18446744073709551616) (hd : 1 ≤ d) : bits .or .u64 (x : Int) ((x : Int) / (d : Int)) = ((x ||| x / d : Nat) : Int) ∧ (x ||| x / d) < 18446744073709551616 ∧ ∀ k, (x ||| x / d) < 2 ^ k ↔ x < 2 ^ k := by
  have hq : x / d ≤ x := Nat.div_le_self x d
  refine ⟨?_, ?_, fun k => ⟨fun h => Nat.lt_of_le_of_lt Nat.left_le_or h, fun h => Nat.or_lt_two_pow h (by omega)⟩⟩
  · rw [← bits_or_u64_nat x (x / d) hx (by omega)]
    congr 1
  · exact Nat.or_lt_two_pow (n := 64) hx (by omega)

/-- T's top word. -/
theorem top_word (T m : Nat) (h3 : m ≤ 3) (hm : 1 ≤ m) (hh : ∀ i, m ≤ i → wd T i = 0) (hT : T < 1461501637330902918203684832716283019655932542976) : T / 18446744073709551616 ^ (m - 1) = wd T (m - 1) := by
  have z0 := hh 0
  have z1 := hh 1
  have z2 := hh 2
  have e0 : wd T 0 = T % 18446744073709551616 := by simp [wd]
  have e1 : wd T 1 = T / 18446744073709551616 % 18446744073709551616 := by simp [wd]
  have e2 : wd T 2 = T / 340282366920938463463374607431768211456 % 18446744073709551616 := by simp [wd]
  obtain rfl | rfl | rfl : m = 1 ∨ m = 2 ∨ m = 3 := by omega
  · have a := z1 (by omega)
    have b := z2 (by omega)
    rw [e1] at a
    rw [e2] at b
    show T / 18446744073709551616 ^ 0 = wd T 0
    rw [e0, Nat.pow_zero]
    omega
  · have b := z2 (by omega)
    rw [e2] at b
    show T / 18446744073709551616 ^ 1 = wd T 1
    rw [e1, Nat.pow_one]
    omega
  · show T / 18446744073709551616 ^ 2 = wd T 2
    rw [e2, show (18446744073709551616 : Nat) ^ 2 = 340282366920938463463374607431768211456 from by decide]
    omega

theorem zero_word (T : Nat) (hh : ∀ i, wd T i = 0) (hT : T < 1461501637330902918203684832716283019655932542976) : T = 0 := by
  have z0 := hh 0
  have z1 := hh 1
  have z2 := hh 2
  have e0 : wd T 0 = T % 18446744073709551616 := by simp [wd]
  have e1 : wd T 1 = T / 18446744073709551616 % 18446744073709551616 := by simp [wd]
  have e2 : wd T 2 = T / 340282366920938463463374607431768211456 % 18446744073709551616 := by simp [wd]
  rw [e0] at z0
  rw [e1] at z1
  rw [e2] at z2
  omega

theorem len_words (T j x L : Nat) (hx : T / 18446744073709551616 ^ j = x) (h0 : x ≠ 0) (hL : ∀ k, L ≤ k ↔ x < 2 ^ k) (k : Nat) : j * 64 + L ≤ k ↔ T < 2 ^ k := by
  have hw : (18446744073709551616 : Nat) ^ j = 2 ^ (64 * j) := by
    rw [show (18446744073709551616 : Nat) = 2 ^ 64 from by decide, ← Nat.pow_mul]
  rw [hw] at hx
  by_cases h : 64 * j ≤ k
  · obtain ⟨r, rfl⟩ : ∃ r, k = 64 * j + r := ⟨k - 64 * j, by omega⟩
    have h1 : T < 2 ^ (64 * j + r) ↔ x < 2 ^ r := by
      rw [← hx, Nat.div_lt_iff_lt_mul (Nat.two_pow_pos _), Nat.pow_add, Nat.mul_comm]
    rw [h1, ← hL r]
    omega
  · have h1 : ¬ T < 2 ^ k := by
      intro hlt
      have h2 : 2 ^ k ≤ 2 ^ (64 * j) := Nat.pow_le_pow_right (by decide) (by omega)
      rw [Nat.div_eq_of_lt (by omega)] at hx
      omega
    constructor
    · intro; omega
    · intro; contradiction

set_option maxRecDepth 100000 in
theorem natLen_any (b cap m T : Nat) (w : World) (h : NatAt w b cap m T) :
    Calls Tryf.prog 30 #[.slice (some ⟨b, 0, none⟩) m cap] w fun e w' => ∃ L : Nat, e = .returned (.int .i64 (L : Int)) ∧ (∀ k, L ≤ k ↔ T < 2 ^ k) ∧ w' = w := by
  obtain ⟨⟨A, hr, hA⟩, r1, r2, r3, r4, r5, r6, r7⟩ := h
  rcases Nat.eq_zero_or_pos m with rfl | hm
  · have hz := zero_word T (fun i => r4 i (by omega)) r6
    have HZ : Hid (T = 0) := hz
    clear hr hA r4 r5 hz
    go_enter Tryf.func30, Tryf.ntmps30
    go_wp2_with fail
    go_ret
    exact ⟨0, rfl, fun k => by rw [HZ.out]; simp [Nat.two_pow_pos], rfl⟩
  · obtain ⟨j, rfl⟩ : ∃ j, m = j + 1 := ⟨m - 1, by omega⟩
    have htw := top_word T (j + 1) r2 hm r4 r6
    have hne : wd T j ≠ 0 := by rcases r5 with h | h; omega; exact h
    have hc := hr.read j (by omega)
    rw [hA j (by omega)] at hc
    have hlt := wd_lt T j
    obtain ⟨x, hx⟩ : ∃ x, wd T j = x := ⟨_, rfl⟩
    have htw' : T / 18446744073709551616 ^ j = x := by rw [← hx]; exact htw
    rw [hx] at hc hlt hne
    have HT : Hid (T / 18446744073709551616 ^ j = x ∧ x ≠ 0) := ⟨htw', hne⟩
    clear htw htw' hne hr hA r4 r5 hx
    obtain ⟨s1, l1, k1⟩ := smear x 2 hlt (by omega)
    obtain ⟨x1, hx1⟩ : ∃ x1, x ||| x / 2 = x1 := ⟨_, rfl⟩
    rw [hx1] at s1 l1 k1
    obtain ⟨s2, l2, k2⟩ := smear x1 4 l1 (by omega)
    obtain ⟨x2, hx2⟩ : ∃ x2, x1 ||| x1 / 4 = x2 := ⟨_, rfl⟩
    rw [hx2] at s2 l2 k2
    obtain ⟨s3, l3, k3⟩ := smear x2 16 l2 (by omega)
    obtain ⟨x3, hx3⟩ : ∃ x3, x2 ||| x2 / 16 = x3 := ⟨_, rfl⟩
    rw [hx3] at s3 l3 k3
    obtain ⟨s4, l4, k4⟩ := smear x3 256 l3 (by omega)
    obtain ⟨x4, hx4⟩ : ∃ x4, x3 ||| x3 / 256 = x4 := ⟨_, rfl⟩
    rw [hx4] at s4 l4 k4
    obtain ⟨s5, l5, k5⟩ := smear x4 65536 l4 (by omega)
    obtain ⟨x5, hx5⟩ : ∃ x5, x4 ||| x4 / 65536 = x5 := ⟨_, rfl⟩
    rw [hx5] at s5 l5 k5
    obtain ⟨s6, l6, k6⟩ := smear x5 4294967296 l5 (by omega)
    obtain ⟨x6, hx6⟩ : ∃ x6, x5 ||| x5 / 4294967296 = x6 := ⟨_, rfl⟩
    rw [hx6] at s6 l6 k6
    have HK : Hid (∀ k, Lib.bitLen x6 ≤ k ↔ x < 2 ^ k) := fun k => (len_le x6 l6 k).trans ((k6 k).trans ((k5 k).trans ((k4 k).trans ((k3 k).trans ((k2 k).trans (k1 k))))))
    have s6' : bits .or .u64 (x5 : Int) ((x5 : Int) / 65536 / 65536) = (x6 : Int) := by
      rw [← s6]
      congr 1
      omega
    have s1' : bits .or .u64 (x : Int) ((x : Int) / 2) = (x1 : Int) := s1
    have s2' : bits .or .u64 (x1 : Int) ((x1 : Int) / 4) = (x2 : Int) := s2
    have s3' : bits .or .u64 (x2 : Int) ((x2 : Int) / 16) = (x3 : Int) := s3
    have s4' : bits .or .u64 (x3 : Int) ((x3 : Int) / 256) = (x4 : Int) := s4
    have s5' : bits .or .u64 (x4 : Int) ((x4 : Int) / 65536) = (x5 : Int) := s5
    clear s1 s2 s3 s4 s5 s6 k1 k2 k3 k4 k5 k6 hx1 hx2 hx3 hx4 hx5 hx6
    have HL : Hid (Lib.bitLen x6 ≤ 64) := (len_le x6 l6 64).2 (by simpa using l6)
    go_enter Tryf.func30, Tryf.ntmps30
    go_wp2_with fail
    refine (Tryf.bits_Len (x6 : Int) w (by omega) (by omega)).mono ?_
    rintro e' w1 ⟨rfl, rfl⟩
    rw [Int.toNat_natCast]
    obtain ⟨L, hL⟩ : ∃ L, Lib.bitLen x6 = L := ⟨_, rfl⟩
    have hL64 := HL.out
    rw [hL] at hL64 ⊢
    have HL2 : Hid (Lib.bitLen x6 = L) := hL
    clear hL
    go_wp2_with fail
    go_ret
    refine ⟨j * 64 + L, ?_, len_words T j x L HT.out.1 HT.out.2 (by rw [← HL2.out]; exact HK.out), rfl⟩
    simp

theorem bitLen_any (d b cap m T : Nat) (w : World) (h : BigAt w d b cap m T) :
    Calls Tryf.prog 13 #[.pointer (some ⟨d, 0, none⟩)] w fun e w' => ∃ L : Nat, e = .returned (.int .i64 (L : Int)) ∧ (∀ k, L ≤ k ↔ T < 2 ^ k) ∧ w' = w := by
  have HN : Hid (NatAt w b cap m T) := h.nat
  have c1 := h.abs
  clear h
  go_enter Tryf.func13, Tryf.ntmps13
  go_wp2_with fail
  refine (natLen_any b cap m T w HN.out).mono ?_
  rintro e' w1 ⟨L, rfl, hL, rfl⟩
  have HL : Hid (∀ k, L ≤ k ↔ T < 2 ^ k) := hL
  clear hL
  go_wp2_with fail
  go_ret
  exact ⟨L, rfl, HL.out, rfl⟩

/-- The array's number: n bytes of it. -/
def bv (B : Nat → Nat) : Nat → Nat
  | 0 => 0
  | n + 1 => bv B n * 256 + B n

/-- Twenty bytes as cells. -/
def bcells (B : Nat → Nat) (n : Nat) : List Value := (List.range n).map fun i => .int .u8 (B i : Int)

theorem bv_div (B : Nat → Nat) (hB : ∀ i, B i < 256) (n : Nat) : ∀ k, bv B (n + k) / 256 ^ k = bv B n
  | 0 => by simp
  | k + 1 => by
    show (bv B (n + k) * 256 + B (n + k)) / 256 ^ (k + 1) = _
    rw [Nat.pow_succ, Nat.mul_comm (256 ^ k), ← Nat.div_div_eq_div_mul]
    have : (bv B (n + k) * 256 + B (n + k)) / 256 = bv B (n + k) := by have := hB (n + k); omega
    rw [this]
    exact bv_div B hB n k

theorem bv_lt (B : Nat → Nat) (hB : ∀ i, B i < 256) : ∀ n, bv B n < 256 ^ n
  | 0 => by simp [bv]
  | n + 1 => by
    have h1 := bv_lt B hB n
    have h2 := hB n
    simp only [bv, Nat.pow_succ]
    omega

theorem bv_zero (B : Nat → Nat) : ∀ n, (∀ i, i < n → B i = 0) → bv B n = 0
  | 0, _ => rfl
  | n + 1, h => by
    simp only [bv]
    rw [bv_zero B n (fun i hi => h i (by omega)), h n (by omega)]

theorem bcells_get (B : Nat → Nat) (n i : Nat) (h : i < n) : (bcells B n)[i]? = some (.int .u8 (B i : Int)) := by simp [bcells, h]

theorem row_bytes (B : Nat → Nat) (n : Nat) (t : TypeId) (w : World) : Row (w.alloc (.cells (bcells B n).toArray t)) w.heap.size n (fun i => .int .u8 (B i : Int)) := by
  refine ⟨fun i hi => ?_, fun i => ?_⟩
  · have h := bcells_get B n i hi
    simp [h]
  · simp

/-- A number's length behind a shift. -/
theorem len_shift (T c x L : Nat) (hx : T / 2 ^ c = x) (h0 : x ≠ 0) (hL : ∀ k, L ≤ k ↔ x < 2 ^ k) (k : Nat) : c + L ≤ k ↔ T < 2 ^ k := by
  by_cases h : c ≤ k
  · obtain ⟨r, rfl⟩ : ∃ r, k = c + r := ⟨k - c, by omega⟩
    have h1 : T < 2 ^ (c + r) ↔ x < 2 ^ r := by
      rw [← hx, Nat.div_lt_iff_lt_mul (Nat.two_pow_pos _), Nat.pow_add, Nat.mul_comm]
    rw [h1, ← hL r]
    omega
  · have h1 : ¬ T < 2 ^ k := by
      intro hlt
      have h2 : 2 ^ k ≤ 2 ^ c := Nat.pow_le_pow_right (by decide) (by omega)
      rw [Nat.div_eq_of_lt (by omega)] at hx
      omega
    constructor
    · intro; omega
    · intro; contradiction

theorem byte_len (x c : Nat) (h0 : x / 2 ^ c = 0) (h1 : c = 0 ∨ x / 2 ^ (c - 1) ≠ 0) (hx : x ≠ 0) (k : Nat) : c ≤ k ↔ x < 2 ^ k := by
  have hlt : x < 2 ^ c := by
    rw [Nat.div_eq_zero_iff] at h0
    rcases h0 with h | h
    · have := Nat.two_pow_pos c; omega
    · exact h
  constructor
  · intro h
    exact Nat.lt_of_lt_of_le hlt (Nat.pow_le_pow_right (by decide) h)
  · intro h
    by_cases hc : c ≤ k
    · exact hc
    · rcases h1 with rfl | h1
      · omega
      · exfalso
        apply h1
        exact Nat.div_eq_of_lt (Nat.lt_of_lt_of_le h (Nat.pow_le_pow_right (by decide) (by omega)))

theorem zzBitLen_any (B : Nat → Nat) (hB : ∀ i, B i < 256) (w : World) :
    Calls Tryf.prog 7 #[.agg (bcells B 20).toArray] w fun e w' => ∃ L : Nat, e = .returned (.int .i64 (L : Int)) ∧ (∀ k, L ≤ k ↔ bv B 20 < 2 ^ k) ∧ Below w.heap.size w w' := by
  have hrow := row_bytes B 20 22 w
  have hbel : Below w.heap.size w (w.alloc (.cells (bcells B 20).toArray 22)) := (Below.refl _ w).alloc (Nat.le_refl _) _
  go_enter Tryf.func7, Tryf.ntmps7
  go_wp2_with fail
  obtain ⟨W, hW⟩ : ∃ W, w.alloc (.cells (bcells B 20).toArray 22) = W := ⟨_, rfl⟩
  obtain ⟨V, hV⟩ : ∃ V, Value.agg (bcells B 20).toArray = V := ⟨_, rfl⟩
  rw [hW] at hrow hbel ⊢
  rw [hV]
  have HR : Hid (Row W w.heap.size 20 (fun i => .int .u8 (B i : Int))) := hrow
  have HB : Hid (Below w.heap.size w W) := hbel
  clear hrow hbel hW hV
  go_loopg [3] 20 (fun k i wr => wr = W ∧ ∃ j : Nat, j ≤ 20 ∧ k = 20 - j ∧ i = .int .i64 (j : Int) ∧ ∀ t, t < j → B t = 0)
  case atStart => exact ⟨rfl, 0, by omega, rfl, rfl, fun t h => by omega⟩
  case round =>
    obtain ⟨hwr, j, hj, rfl, rfl, hz⟩ := hrel
    have hwr' := hwr.symm
    clear hwr
    subst hwr'
    have HZ : Hid (∀ t, t < j → B t = 0) := hz
    clear hz
    by_cases hj20 : j < 20
    · have c := HR.out.read j hj20
      have hx := hB j
      obtain ⟨x, hxj⟩ : ∃ x, B j = x := ⟨_, rfl⟩
      rw [hxj] at c hx
      have HX : Hid (B j = x) := hxj
      clear hxj
      by_cases h0 : x = 0
      · subst h0
        go_wp2_with fail
        go_roundg (20 - (j + 1))
        case measure => omega
        case rel =>
          refine ⟨rfl, j + 1, by omega, rfl, rfl, fun t ht => ?_⟩
          by_cases e : t = j
          · subst e; exact HX.out
          · exact HZ.out t (by omega)
      · have b0 : ((x : Int) == 0) = false := beq_eq_false_iff_ne.2 (by omega)
        go_wp2_with fail
        go_loopg [4, 5] 8 (fun k nn v wr => wr = W ∧ ∃ c : Nat, c ≤ 8 ∧ k = 8 - c ∧ nn = .int .i64 (c : Int) ∧ v = .int .u8 ((x / 2 ^ c : Nat) : Int) ∧ (c = 0 ∨ x / 2 ^ (c - 1) ≠ 0))
        case atStart => exact ⟨rfl, 0, by omega, rfl, rfl, by simp, Or.inl rfl⟩
        case round =>
          obtain ⟨hwr, c, hc8, rfl, rfl, rfl, hc⟩ := hrel
          have hwr' := hwr.symm
          clear hwr
          subst hwr'
          obtain ⟨y, hy⟩ : ∃ y, x / 2 ^ c = y := ⟨_, rfl⟩
          rw [hy]
          have hyx : y < 256 := by rw [← hy]; exact Nat.lt_of_le_of_lt (Nat.div_le_self _ _) hx
          have HY : Hid (x / 2 ^ c = y) := hy
          have HC : Hid (c = 0 ∨ x / 2 ^ (c - 1) ≠ 0) := hc
          have hc9 : y = 0 ∨ c < 8 := by
            by_cases h8 : c < 8
            · exact Or.inr h8
            · obtain rfl : c = 8 := by omega
              left
              rw [← hy]
              exact Nat.div_eq_of_lt hx
          clear hy hc
          by_cases hy0 : y = 0
          · subst hy0
            go_wp2_with fail
            go_ret
            refine ⟨(19 - j) * 8 + c, ?_, fun k => len_shift (bv B 20) ((19 - j) * 8) x c ?_ h0 (byte_len x c HY.out HC.out h0) k, HB.out⟩
            · have e0 : (19 - (j : Int)) * 8 + (c : Int) = (((19 - j) * 8 + c : Nat) : Int) := by omega
              rw [← e0]
              rfl
            · have e1 := bv_div B hB (j + 1) (19 - j)
              rw [show j + 1 + (19 - j) = 20 from by omega] at e1
              rw [show (2 : Nat) ^ ((19 - j) * 8) = 256 ^ (19 - j) from by rw [Nat.mul_comm, Nat.pow_mul], e1]
              show bv B j * 256 + B j = x
              rw [bv_zero B j HZ.out, HX.out]
              omega
          · have b1 : ((y : Int) == 0) = false := beq_eq_false_iff_ne.2 (by omega)
            go_wp2_with fail
            go_roundg (8 - (c + 1))
            case measure => omega
            case rel =>
              refine ⟨rfl, c + 1, by omega, rfl, rfl, ?_, Or.inr (by show x / 2 ^ c ≠ 0; rw [HY.out]; exact hy0)⟩
              rw [Nat.pow_succ, ← Nat.div_div_eq_div_mul, HY.out]
              rfl
    · obtain rfl : j = 20 := by omega
      go_wp2_with fail
      go_ret
      refine ⟨0, rfl, fun k => ?_, HB.out⟩
      rw [bv_zero B 20 HZ.out]
      simp [Nat.two_pow_pos]
end Go.Proofs.Qxb6608999aFmt
