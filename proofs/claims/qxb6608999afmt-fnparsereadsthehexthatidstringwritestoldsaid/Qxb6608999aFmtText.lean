/-
  ID.String: forty hexadecimal digits, and their number.
-/
import Derived.Test.Qxb6608999aFmtFill
namespace Go.Proofs.Qxb6608999aFmt
open Go.RowKit
set_option linter.unusedVariables false

/-- The bytes. -/
def bl (B : Nat → Nat) : List UInt8 := (List.range 20).map fun i => UInt8.ofNat (B i)

theorem bl_length (B : Nat → Nat) : (bl B).length = 20 := by simp [bl]

theorem bl_get (B : Nat → Nat) (hB : ∀ i, B i < 256) (i : Nat) (h : i < (bl B).length) : (bl B)[i].toNat = B i := by
  have h1 := hB i
  simp [bl]
  omega

/-- The digits. -/
def dig (B : Nat → Nat) (i : Nat) : Nat := if i % 2 = 0 then B (i / 2) / 16 else B (i / 2) % 16

theorem dig_lt (B : Nat → Nat) (hB : ∀ i, B i < 256) (i : Nat) : dig B i < 16 := by
  unfold dig
  have := hB (i / 2)
  split <;> omega

theorem hv_dig (B : Nat → Nat) (hB : ∀ i, B i < 256) : ∀ n, hv (dig B) 0 (2 * n) = bv B n
  | 0 => rfl
  | n + 1 => by
    have h1 : hv (dig B) 0 (2 * (n + 1)) = (hv (dig B) 0 (2 * n) * 16 + dig B (0 + 2 * n)) * 16 + dig B (0 + (2 * n + 1)) := rfl
    rw [h1, hv_dig B hB n]
    unfold dig
    rw [if_pos (by omega), if_neg (by omega), show (0 + 2 * n) / 2 = n from by omega, show (0 + (2 * n + 1)) / 2 = n from by omega]
    show _ = bv B n * 256 + B n
    omega

theorem digit_of : ∀ d : Fin 16, (48 ≤ (Lib.Hx.digit d.val).toNat ∧ (Lib.Hx.digit d.val).toNat ≤ 57 ∧ d.val = (Lib.Hx.digit d.val).toNat - 48) ∨ (97 ≤ (Lib.Hx.digit d.val).toNat ∧ (Lib.Hx.digit d.val).toNat ≤ 102 ∧ d.val = (Lib.Hx.digit d.val).toNat - 87) := by decide +kernel

theorem encode_get : ∀ (l : List UInt8) (i : Nat) (h : i < (Lib.Hx.encode l).length), ∃ h2 : i / 2 < l.length, (Lib.Hx.encode l)[i] = Lib.Hx.digit (if i % 2 = 0 then l[i / 2].toNat / 16 else l[i / 2].toNat % 16)
  | [], i, h => by simp [Lib.Hx.encode] at h
  | a :: t, i, h => by
    simp only [Lib.Hx.encode_cons] at h ⊢
    match i, h with
    | 0, _ => exact ⟨by simp, by simp⟩
    | 1, _ => exact ⟨by simp, by simp⟩
    | i + 2, h =>
      have h' : i < (Lib.Hx.encode t).length := by simpa using h
      obtain ⟨h2, e⟩ := encode_get t i h'
      refine ⟨by simp; omega, ?_⟩
      have e2 : (i + 2) / 2 = i / 2 + 1 := by omega
      have e3 : (i + 2) % 2 = i % 2 := by omega
      simp only [List.getElem_cons_succ, e2, e3]
      exact e

/-- The text. -/
def hexText (B : Nat → Nat) : ByteArray := ⟨(Lib.Hx.encode (bl B)).toArray⟩

theorem hexText_size (B : Nat → Nat) : (hexText B).size = 40 := by
  show (Lib.Hx.encode (bl B)).toArray.size = 40
  simp [Lib.Hx.encode_length, bl_length]

theorem hexText_hex (B : Nat → Nat) (hB : ∀ i, B i < 256) : Hex (hexText B) (dig B) := by
  refine ⟨hexText_size B, dig_lt B hB, fun i hi => ?_⟩
  have hi' : i < (Lib.Hx.encode (bl B)).length := by rw [Lib.Hx.encode_length, bl_length]; rw [hexText_size] at hi; omega
  obtain ⟨h2, e⟩ := encode_get (bl B) i hi'
  have e2 : (Lib.Hx.encode (bl B))[i] = Lib.Hx.digit (dig B i) := by
    rw [e]
    unfold dig
    rw [bl_get B hB (i / 2) h2]
  have key : (48 ≤ (Lib.Hx.digit (dig B i)).toNat ∧ (Lib.Hx.digit (dig B i)).toNat ≤ 57 ∧ dig B i = (Lib.Hx.digit (dig B i)).toNat - 48) ∨ (97 ≤ (Lib.Hx.digit (dig B i)).toNat ∧ (Lib.Hx.digit (dig B i)).toNat ≤ 102 ∧ dig B i = (Lib.Hx.digit (dig B i)).toNat - 87) := digit_of ⟨dig B i, dig_lt B hB i⟩
  rw [← e2] at key
  exact key

set_option maxRecDepth 100000 in
theorem idString_any (B : Nat → Nat) (hB : ∀ i, B i < 256) (w : World) :
    Calls Tryf.prog 6 #[.agg (bcells B 20).toArray] w fun e w' => e = .returned (.string (hexText B)) ∧ Below w.heap.size w w' := by
  have hrow := row_bytes B 20 26 w
  have HR : Hid (Row (w.alloc (.cells (bcells B 20).toArray 26)) w.heap.size 20 (fun i => .int .u8 (B i : Int))) := hrow
  have HB : Hid (Below w.heap.size w (w.alloc (.cells (bcells B 20).toArray 26))) := (Below.refl _ w).alloc (Nat.le_refl _) _
  clear hrow
  go_enter Tryf.func6, Tryf.ntmps6
  go_wp2_with fail
  have hx := Tryf.hex_EncodeToString_bytes w.heap.size 0 20 (bl B) (w.alloc (.cells (bcells B 20).toArray 26)) (fun i h => by
    rw [Nat.zero_add, HR.out.read i (by rw [bl_length] at h; exact h), bl_get B hB i h]) (by simp) (by rw [bl_length]; decide)
  rw [bl_length] at hx
  refine hx.mono ?_
  rintro e' w1 ⟨rfl, hb⟩
  have HB1 : Hid (Below (w.alloc (.cells (bcells B 20).toArray 26)).heap.size (w.alloc (.cells (bcells B 20).toArray 26)) w1) := hb
  clear hb hx
  go_wp2_with fail
  go_ret
  exact ⟨rfl, HB.out.trans (HB1.out.mono (by simp))⟩
end Go.Proofs.Qxb6608999aFmt
