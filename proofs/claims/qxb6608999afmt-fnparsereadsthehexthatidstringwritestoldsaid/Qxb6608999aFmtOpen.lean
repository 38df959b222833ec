/-
  The array of twenty bytes, opened and shut.
-/
import Derived.Test.Qxb6608999aFmtLawA
import Derived.OpenShut
import Derived.WideShapes
namespace Go.Proofs.Qxb6608999aFmt
open Go.ChangeShapes Go.WideShapes Go.RowKit Go.Extern.Stop Go.Stop Go.Extern
set_option linter.unusedVariables false

theorem Tryf.cells5 : Tryf.prog.cellsOf 5 = 1 := by kernel_rfl
theorem Tryf.cells22 : Tryf.prog.cellsOf 22 = 20 := by kernel_rfl

theorem mapM_const {α β : Type} (g : α → Option β) (h : α → β) : ∀ (l : List α), (∀ a ∈ l, g a = some (h a)) → l.mapM g = some (l.map h)
  | [], _ => rfl
  | a :: l, hl => by
    rw [List.mapM_cons, hl a (by simp), mapM_const g h l fun b hb => hl b (by simp [hb])]
    rfl

theorem bcells_len (B : Nat → Nat) (n : Nat) : (bcells B n).length = n := by simp [bcells]

theorem bcells_take (B : Nat → Nat) (i : Nat) (h : i < 20) : ((bcells B 20).drop i).take 1 = [.int .u8 (B i : Int)] := by
  rw [List.drop_eq_getElem_cons (by rw [bcells_len]; exact h)]
  simp [bcells]

/-- Twenty bytes, shut. -/
theorem shut20 {H : Type} {enc : TypeId × Value → H} {W : World} {base : Nat} {sp : Nat → Bool} {held : Bool} (B : Nat → Nat) (hB : ∀ i, B i < 256) :
    DataW.Trod enc Tryf.prog W base sp held 22 (.agg (bcells B 20).toArray) (.agg ((List.range 20).map fun i => .lit (.int .u8 (B i : Int)))) [] := by
  refine ⟨2, ?_⟩
  show DataW.trod enc Tryf.prog W base sp held 2 22 (bcells B 20) = _
  unfold DataW.trod
  rw [Tryf.underlying22]
  have e : ∀ i ∈ List.range 20, DataW.trod enc Tryf.prog W base sp held 1 5 (((bcells B 20).drop (i * Tryf.prog.cellsOf 5)).take (Tryf.prog.cellsOf 5)) = some ((fun i : Nat => ((.lit (.int .u8 (B i : Int)) : DataW H), ([] : List MemPlace))) i) := by
    intro i hi
    have hi' := List.mem_range.1 hi
    have := hB i
    rw [Tryf.cells5, Nat.mul_one, bcells_take B i hi']
    unfold DataW.trod
    rw [Tryf.underlying5]
    have hw : (Lit.int .u8 (B i : Int)).wf = true := by
      simp [Lit.wf, IntKind.min, IntKind.max, IntKind.signed, IntKind.bits]
      omega
    simp [hw]
  have hm := mapM_const _ _ _ e
  have hl : (bcells B 20).length = Tryf.prog.cellsOf 22 := by rw [bcells_len, Tryf.cells22]
  simp only [hl, if_true, hm, Option.map_some, List.map_map]
  rfl

set_option maxRecDepth 100000 in
/-- Twenty bytes, opened. -/
theorem open20 {H : Type} {enc : TypeId × Value → H} {W : World} {base b0 : Nat} {r : Reach} {sp : Nat → Bool} {held : Bool} {v : Value} {d : DataW H} {ps : List MemPlace}
    (hval : Value.okWide Tryf.prog W r b0 22 v) (hd : DataW.Trod enc Tryf.prog W base sp held 22 v d ps) :
    ∃ B : Nat → Nat, (∀ i, B i < 256) ∧ v = .agg (bcells B 20).toArray ∧ d = .agg ((List.range 20).map fun i => .lit (.int .u8 (B i : Int))) ∧ ps = [] := by
  have hv : ∃ cs : Array Value, v = .agg cs := by
    unfold Value.okWide at hval
    rw [Tryf.underlying22] at hval
    obtain ⟨cs, rfl, _⟩ := hval
    exact ⟨cs, rfl⟩
  obtain ⟨cs, rfl⟩ := hv
  obtain ⟨fuel, hf⟩ := id hd
  obtain ⟨xs, m, _, ex, hlen, hl, hel⟩ := DataW.trod_array Tryf.underlying22 hf
  rw [Tryf.cells22] at hlen
  have hlen' : cs.toList.length = 20 := hlen
  have key : ∀ i, i < 20 → ∃ b : Nat, b < 256 ∧ cs.toList[i]? = some (.int .u8 (b : Int)) := by
    intro i hi
    have k := hel i hi
    rw [Tryf.cells5, Nat.mul_one, List.getElem?_eq_getElem (by omega)] at k
    obtain ⟨z, e1, e2, hw⟩ := DataW.trod_int Tryf.underlying5 k
    have hz : 0 ≤ z ∧ z ≤ 255 := by simpa [Lit.wf, IntKind.min, IntKind.max, IntKind.signed, IntKind.bits] using hw
    refine ⟨z.toNat, by omega, ?_⟩
    have h0 : ((cs.toList.drop i).take 1)[0]? = some (.int .u8 z) := by
      have : ((Value.agg cs).cells.toList.drop i).take 1 = [.int .u8 z] := e1
      rw [show (Value.agg cs).cells.toList = cs.toList from rfl] at this
      rw [this]; rfl
    have h1 : cs.toList[i]? = some (.int .u8 z) := by simpa using h0
    rw [h1, Int.toNat_of_nonneg hz.1]
  obtain ⟨B, hB⟩ : ∃ B : Nat → Nat, ∀ i, B i < 256 ∧ (i < 20 → cs.toList[i]? = some (.int .u8 (B i : Int))) := by
    refine ⟨fun i => if h : i < 20 then (key i h).choose else 0, fun i => ?_⟩
    by_cases h : i < 20
    · simp only [h, dif_pos]
      exact ⟨(key i h).choose_spec.1, fun _ => (key i h).choose_spec.2⟩
    · simp [h]
  have hcs : cs = (bcells B 20).toArray := by
    have : cs.toList = bcells B 20 := by
      apply List.ext_getElem?
      intro i
      by_cases h : i < 20
      · rw [(hB i).2 h]
        simp [bcells, h]
      · rw [List.getElem?_eq_none (by omega), List.getElem?_eq_none (by rw [bcells_len]; omega)]
    rw [← this]
  subst hcs
  have hs := shut20 (enc := enc) (W := W) (base := base) (sp := sp) (held := held) B fun i => (hB i).1
  obtain ⟨f2, hf2⟩ := hs
  refine ⟨B, fun i => (hB i).1, rfl, ?_⟩
  have u := DataW.Trod.unique hd ⟨f2, hf2⟩
  exact u
end Go.Proofs.Qxb6608999aFmt
