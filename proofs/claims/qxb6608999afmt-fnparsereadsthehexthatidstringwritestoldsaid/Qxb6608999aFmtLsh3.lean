/-
  math/big's nat.lsh.
-/
import Derived.Test.Qxb6608999aFmtLsh2
namespace Go.Proofs.Qxb6608999aFmt
open Go.RowKit
set_option linter.unusedVariables false

theorem NatAt.drewN {w : World} {b cap m T : Nat} (h : NatAt w b cap m T) (q : Nat) : NatAt (w.drewN q) b cap m T := by
  obtain ⟨⟨A, h1, h2⟩, r1, r2, r3, r4, r5, r6, r7⟩ := h
  exact ⟨⟨A, h1.drewN q, h2⟩, r1, r2, r3, r4, r5, r6, r7⟩

theorem But.drewN (B g : Nat) (w : World) (q : Nat) : But B g w (w.drewN q) := ⟨rfl, rfl, rfl, Nat.le_refl _, fun _ _ _ => rfl⟩

theorem lsh_zero (b cap m T : Nat) (w : World) (h : NatAt w b cap m T) :
    Calls Tryf.prog 31 #[.slice (some ⟨b, 0, none⟩) m cap, .slice (some ⟨b, 0, none⟩) m cap, .int .u64 0] w fun e w' => e = .returned (.slice (some ⟨b, 0, none⟩) m cap) ∧ ∃ q, w' = w.drewN q := by
  have hc := h.cmax
  have hp := h.pos
  have h3 := h.le3
  clear h
  rcases Nat.eq_zero_or_pos m with rfl | hm
  · go_enter Tryf.func31, Tryf.ntmps31
    go_wp2_with fail
    refine (same_nil b cap w).mono ?_
    rintro e' w1 ⟨rfl, q1, rfl⟩
    go_wp2_with fail
    refine (alias_any b cap _ hp hc).mono ?_
    rintro e' w1 ⟨rfl, q2, rfl⟩
    go_wp2_with fail
    go_ret
    exact ⟨rfl, _, rfl⟩
  · go_enter Tryf.func31, Tryf.ntmps31
    go_wp2_with fail
    refine (same_any b cap m w hm h3).mono ?_
    rintro e' w1 ⟨rfl, q1, rfl⟩
    go_wp2_with fail
    go_ret
    exact ⟨rfl, _, rfl⟩

theorem lsh_nil (b cap s : Nat) (w : World) (hs : 1 ≤ s) (hs2 : s ≤ 160) (hc : cap ≤ 9223372036854775807) :
    Calls Tryf.prog 31 #[.slice (some ⟨b, 0, none⟩) 0 cap, .slice (some ⟨b, 0, none⟩) 0 cap, .int .u64 (s : Int)] w fun e w' => e = .returned (.slice (some ⟨b, 0, none⟩) 0 cap) ∧ w' = w := by
  have z0 : ((s : Int) == 0) = false := beq_eq_false_iff_ne.2 (by omega)
  go_enter Tryf.func31, Tryf.ntmps31
  go_wp2_with fail
  go_ret
  exact ⟨rfl, rfl⟩

theorem zero82 (w : World) : (zeroValue 82).run Tryf.prog w = .ok (.int .u64 0) w := by kernel_rfl

theorem setCell_ex {w : World} {D c : Nat} (h : ∀ t, t < c → ∃ v, w.cell? ⟨D, t, none⟩ = some v) (p : Addr) (u : Value) (t : Nat) (ht : t < c) : ∃ v, (w.setCell p u).cell? ⟨D, t, none⟩ = some v := by
  obtain ⟨v, hv⟩ := h t ht
  by_cases e : p = ⟨D, t, none⟩
  · subst e
    exact ⟨u, World.cell?_setCell_same _ _ _ hv⟩
  · exact ⟨v, by rw [World.cell?_setCell_other _ _ _ _ e]; exact hv⟩

theorem setCells_ex' {D c : Nat} : ∀ (vs : List Value) (o : Nat) {w : World}, (∀ t, t < c → ∃ v, w.cell? ⟨D, t, none⟩ = some v) → ∀ t, t < c → ∃ v, (w.setCells D o vs).cell? ⟨D, t, none⟩ = some v
  | [], _, _, h, t, ht => h t ht
  | v :: vs, o, _, h, t, ht => setCells_ex' vs (o + 1) (fun t ht => setCell_ex h ⟨D, o, none⟩ v t ht) t ht

theorem setCells_ex {D c : Nat} {w : World} (h : ∀ t, t < c → ∃ v, w.cell? ⟨D, t, none⟩ = some v) (u : Value) (k : Nat) (t : Nat) (ht : t < c) : ∃ v, (w.setCells D 0 (List.replicate k u)).cell? ⟨D, t, none⟩ = some v := setCells_ex' _ _ h t ht

theorem Only.setCells {g : Nat} {a : World} : ∀ {w : World}, Only g a w → ∀ (o : Nat) (vs : List Value), Only g a (w.setCells g o vs) := by
  intro w h o vs
  induction vs generalizing w o with
  | nil => exact h
  | cons v vs ih => exact ih (h.setCell rfl v) _

theorem clear_words (D k c : Nat) (w : World) (hex : ∀ t, t < k → ∃ v, w.cell? ⟨D, t, none⟩ = some v) (hf : ∀ t, w.frozen? ⟨D, t, none⟩ = false) (ty : TypeId) :
    (Builtin.clear_ #[40] ty #[.slice (some ⟨D, 0, none⟩) k c]).run Tryf.prog w = .ok (.tuple #[]) (w.setCells D 0 (List.replicate k (.int .u64 0))) := by
  rcases Nat.eq_zero_or_pos k with rfl | hk
  · simp [Builtin.clear_, run_underlying Tryf.underlying40, World.setCells]
  · exact Lib.run_clear_slice w 40 82 ty (.int .u64 0) Tryf.underlying40 zero82 rfl rfl D 0 k c hk (fun j hj => by obtain ⟨v, hv⟩ := hex j hj; rw [Nat.zero_add, hv]; rfl) (fun j _ => hf _)

theorem shl_high (T s k r m t : Nat) (hk : s / 64 = k) (hr : s % 64 = r) (hh : ∀ i, m ≤ i → wd T i = 0) (ht : m + k + 1 ≤ t) : wd (T * 2 ^ s) t = 0 := by
  obtain ⟨d, rfl⟩ : ∃ d, t = k + d := ⟨t - k, by omega⟩
  rw [wd_shl T s k r d hk hr]
  unfold prevW
  rw [if_neg (by omega), hh d (by omega), hh (d - 1) (by omega)]
  simp [upW]

theorem shl_cells (D k m T s r : Nat) (w : World) (hk : s / 64 = k) (hr : s % 64 = r) (hm : 1 ≤ m) (hk3 : k ≤ 3) (hz : wd T m = 0) (hc : ∀ t, t < m → w.cell? ⟨D, k + t, none⟩ = some (.int .u64 (upW r (wd T t) (prevW (wd T) t) : Int)))
    (hex : ∀ t, t < m + k + 1 → ∃ v, w.cell? ⟨D, t, none⟩ = some v) :
    ∀ t, t < m + k + 1 → ((w.setCell ⟨D, m + k, none⟩ (.int .u64 ((wd T (m - 1) / 2 ^ (64 - r) : Nat) : Int))).setCells D 0 (List.replicate k (.int .u64 0))).cell? ⟨D, t, none⟩ = some (.int .u64 (wd (T * 2 ^ s) t : Int)) := by
  intro t ht
  by_cases h1 : t < k
  · have := World.cell?_setCells_in D (List.replicate k (.int .u64 0)) 0 (w.setCell ⟨D, m + k, none⟩ (.int .u64 ((wd T (m - 1) / 2 ^ (64 - r) : Nat) : Int))) (fun j hj => by
      obtain ⟨v', hv'⟩ := setCell_ex hex ⟨D, m + k, none⟩ (.int .u64 ((wd T (m - 1) / 2 ^ (64 - r) : Nat) : Int)) j (by simp at hj; omega)
      rw [Nat.zero_add, hv']; rfl) t (by simpa using h1)
    rw [Nat.zero_add] at this
    rw [this, wd_shl_low T s k t hk h1]
    simp
  · rw [World.cell?_setCells_out D _ 0 _ _ (fun _ _ => Or.inr (by simp; omega))]
    obtain ⟨d, rfl⟩ : ∃ d, t = k + d := ⟨t - k, by omega⟩
    rw [wd_shl T s k r d hk hr]
    by_cases h2 : d < m
    · rw [World.cell?_setCell_other _ _ _ _ (by intro hh; injection hh; omega)]
      exact hc d h2
    · obtain rfl : d = m := by omega
      obtain ⟨v, hv⟩ := hex (d + k) (by omega)
      rw [Nat.add_comm k d, World.cell?_setCell_same _ _ _ hv, hz]
      unfold prevW
      rw [if_neg (by omega)]
      simp [upW]

/-- T's words as cells. -/
def wordCells (T m : Nat) : List Value := (List.range m).map fun t => .int .u64 (wd T t : Int)

theorem wordCells_length (T m : Nat) : (wordCells T m).length = m := by simp [wordCells]

theorem wordCells_get (T m t : Nat) (h : t < (wordCells T m).length) : (wordCells T m)[t] = .int .u64 (wd T t : Int) := by simp [wordCells]

theorem wordCells_one (T m : Nat) : ∀ v ∈ wordCells T m, v.oneCell' = true := by
  intro v hv
  simp [wordCells] at hv
  obtain ⟨a, _, rfl⟩ := hv
  rfl

theorem wordCells_read {w : World} {b m T : Nat} (h : ∀ j, j < m → w.cell? ⟨b, j, none⟩ = some (.int .u64 (wd T j : Int))) : ∀ (j : Nat) v, (wordCells T m)[j]? = some v → w.cell? ((⟨b, 0, none⟩ : Addr).add j) = some v := by
  intro j v hv
  obtain ⟨hj, rfl⟩ := List.getElem?_eq_some_iff.1 hv
  rw [wordCells_get, ← h j (by rw [wordCells_length] at hj; exact hj)]
  have hadd : (⟨b, 0, none⟩ : Addr).add j = ⟨b, j, none⟩ := by unfold Addr.add; split <;> simp_all
  rw [hadd]

theorem upW_even (x y : Nat) (hx : x < 18446744073709551616) (hy : y < 18446744073709551616) : upW 0 x y = x := by
  unfold upW
  rw [Nat.pow_zero, Nat.mul_one, Nat.mod_eq_of_lt hx, Nat.div_eq_of_lt (by simpa using hy)]
  rfl

theorem even_cells (D k m T r : Nat) (w : World) (hr : r = 0) (hex : ∀ t, t < k + m → ∃ v, w.cell? ⟨D, t, none⟩ = some v) : ∀ t, t < m → (w.setCells D k (wordCells T m)).cell? ⟨D, k + t, none⟩ = some (.int .u64 (upW r (wd T t) (prevW (wd T) t) : Int)) := by
  intro t ht
  subst hr
  rw [World.cell?_setCells_in D (wordCells T m) k w (fun j hj => by
    obtain ⟨v, hv⟩ := hex (k + j) (by rw [wordCells_length] at hj; omega)
    rw [hv]; rfl) t (by rw [wordCells_length]; exact ht), wordCells_get, upW_even _ _ (wd_lt T t)]
  unfold prevW
  split
  · decide
  · exact wd_lt T _

theorem wpList_copy_run' {P : Program} (w : World) {ops : Array Oper} {rest : List Oper} {o : Oper} {a : Act} {Q : Exit → Act → World → Prop} (hgd : o.guard = none) (d s : Operand) (t t' : TypeId)
    (ho : o.op = .call { callee := .builtin .copy, args := #[d, s], argTypes := #[t, t'] }) (v u : Value) (hd : a.eval d = v) (hs : a.eval s = u) {v' : Value} {w' : World}
    (hr : (Builtin.copy_ #[t, t'] o.type #[v, u]).run P w = .ok v' w') (h : wpList P ops Q rest (a.put o.dst v') w') : wpList P ops Q (o :: rest) a w :=
  wpList_plain hgd fun _ hK => by
    unfold Oper.wp execOp
    simp only [ho, resolve, invoke, builtin, Sem.run_bind, Sem.run_pure, Result.andThen_ok, List.map_toArray, List.map_cons, List.map_nil, hd, hs, hr]
    exact hK _ _ h

set_option maxRecDepth 100000 in
theorem lsh_some (b cap m T s k r : Nat) (w : World) (h : NatAt w b cap m T) (hb : b < w.heap.size) (hm : 1 ≤ m) (hs : 1 ≤ s) (hs2 : s ≤ 160) (hX : T * 2 ^ s < 1461501637330902918203684832716283019655932542976) (hk : s / 64 = k) (hr : s % 64 = r) (hr0 : r ≠ 0) :
    Calls Tryf.prog 31 #[.slice (some ⟨b, 0, none⟩) m cap, .slice (some ⟨b, 0, none⟩) m cap, .int .u64 (s : Int)] w fun e w' => ∃ D c mm, e = .returned (.slice (some ⟨D, 0, none⟩) mm c) ∧ NatAt w' D c mm (T * 2 ^ s) ∧ (D = b ∨ w.heap.size ≤ D) ∧ D < w'.heap.size ∧ But w.heap.size b w w' := by
  obtain ⟨⟨A, hrow, hA⟩, r1, r2, r3, r4, r5, r6, r7⟩ := h
  have hfit : m + k ≤ 3 := by rw [← hk]; exact words_fit T s m hm (by rcases r5 with h | h; omega; exact h) hX
  have HX : Hid (T * 2 ^ s < 1461501637330902918203684832716283019655932542976) := hX
  have HC : Hid (∀ j, j < m → w.cell? ⟨b, j, none⟩ = some (.int .u64 (wd T j : Int))) := fun j hj => by rw [← hA j hj]; exact hrow.read j (by omega)
  have HE : Hid (∀ t, t < cap → ∃ v, w.cell? ⟨b, t, none⟩ = some v) := fun t ht => ⟨_, hrow.read t ht⟩
  have HF : Hid (∀ t, w.frozen? ⟨b, t, none⟩ = false) := hrow.thaw
  have HHi : Hid (∀ i, m ≤ i → wd T i = 0) := r4
  have HK : Hid (s / 64 = k ∧ s % 64 = r) := ⟨hk, hr⟩
  have ek : (s : Int) / 64 = (k : Int) := by omega
  have er : (s : Int) % 64 = (r : Int) := by omega
  have z0 : ((s : Int) == 0) = false := beq_eq_false_iff_ne.2 (by omega)
  have z1 : ((r : Int) == 0) = false := beq_eq_false_iff_ne.2 (by omega)
  have hr64 : r < 64 := by omega
  have ht : ∀ args w, (callFunc 46 args).run Tryf.prog w = .ok (.enter 21 args) w := run_callFunc_twin (twin := "math/big.lshVU_g") Tryf.func46 (by kernel_rfl) (by kernel_rfl) (by kernel_rfl) (by kernel_rfl) Tryf.func21 (by kernel_rfl) (by kernel_rfl) (by kernel_rfl)
  clear hrow hA r4 r5 hX hk hr
  go_enter Tryf.func31, Tryf.ntmps31
  go_wp2_with fail
  have hmk := make_any b m cap (m + k + 1) w HE.out HF.out hb r1 r3 (by omega) (by omega)
  rw [show ((m + k + 1 : Nat) : Int) = (m : Int) + (k : Int) + 1 from by omega] at hmk
  refine hmk.mono ?_
  clear hmk
  rintro e' w1 ⟨D, c, rfl, c1, c2, hex, hfz, hD, hDs, hbel⟩
  have H1 : Hid ((∀ t, t < c → ∃ v, w1.cell? ⟨D, t, none⟩ = some v) ∧ (∀ t, w1.frozen? ⟨D, t, none⟩ = false) ∧ Below w.heap.size w w1) := ⟨hex, hfz, hbel⟩
  have HC1 : Hid (∀ j, j < m → w1.cell? ⟨b, j, none⟩ = some (.int .u64 (wd T j : Int))) := fun j hj => (hbel.cell (p := ⟨b, j, none⟩) hb).trans (HC.out j hj)
  clear hex hfz hbel
  have em : (m : Int) + (k : Int) - (m : Int) = (k : Int) := by omega
  go_wp2_with fail
  refine (lshVU_any b D k m cap (c - k) r (wd T) w1 HC1.out (wd_lt T) (fun t ht => H1.out.1 t (by omega)) H1.out.2.1 hm r2 (by omega) hr64 r1 (by omega) r3 (by omega)).mono ?_
  rintro e' w2 ⟨rfl, ho, hcell, hsame, hfr⟩
  obtain ⟨vv, hvv⟩ := H1.out.1 (m + k) (by omega)
  have hcn : w2.cell? ⟨D, m + k, none⟩ = some vv := (hsame (m + k) (by omega)).trans hvv
  have hfn := hfr (m + k)
  have hall : ∀ t, t < c → ∃ v, w2.cell? ⟨D, t, none⟩ = some v := fun t ht => by
    by_cases h : t < k ∨ k + m ≤ t
    · rw [hsame t h]; exact H1.out.1 t ht
    · have := hcell (t - k) (by omega)
      rw [show k + (t - k) = t from by omega] at this
      exact ⟨_, this⟩
  obtain ⟨y, hy⟩ : ∃ y, wd T (m - 1) / 2 ^ (64 - r) = y := ⟨_, rfl⟩
  rw [hy]
  have hcl := clear_words D k c (w2.setCell ⟨D, m + k, none⟩ (.int .u64 (y : Int))) (fun t ht => setCell_ex hall ⟨D, m + k, none⟩ _ t (by omega)) (fun t => by rw [World.frozen?_setCell]; exact hfr t)
  have hwords := shl_cells D k m T s r w2 HK.out.1 HK.out.2 hm (by omega) (HHi.out m (Nat.le_refl _)) hcell (fun t ht => hall t (by omega))
  rw [hy] at hwords
  have hall3 : ∀ t, t < c → ∃ v, ((w2.setCell ⟨D, m + k, none⟩ (.int .u64 (y : Int))).setCells D 0 (List.replicate k (.int .u64 0))).cell? ⟨D, t, none⟩ = some v := fun t ht => setCells_ex (fun t ht => setCell_ex hall ⟨D, m + k, none⟩ _ t ht) _ k t ht
  have hfr3 : ∀ t, ((w2.setCell ⟨D, m + k, none⟩ (.int .u64 (y : Int))).setCells D 0 (List.replicate k (.int .u64 0))).frozen? ⟨D, t, none⟩ = false := fun t => by rw [World.frozen?_setCells, World.frozen?_setCell]; exact hfr t
  have hO3 : Only D w1 ((w2.setCell ⟨D, m + k, none⟩ (.int .u64 (y : Int))).setCells D 0 (List.replicate k (.int .u64 0))) := (ho.setCell rfl _).setCells _ _
  have HZ : Hid ((∀ t, t < m + k + 1 → ((w2.setCell ⟨D, m + k, none⟩ (.int .u64 (y : Int))).setCells D 0 (List.replicate k (.int .u64 0))).cell? ⟨D, t, none⟩ = some (.int .u64 (wd (T * 2 ^ s) t : Int))) ∧
    (∀ t, t < c → ∃ v, ((w2.setCell ⟨D, m + k, none⟩ (.int .u64 (y : Int))).setCells D 0 (List.replicate k (.int .u64 0))).cell? ⟨D, t, none⟩ = some v) ∧
    (∀ t, ((w2.setCell ⟨D, m + k, none⟩ (.int .u64 (y : Int))).setCells D 0 (List.replicate k (.int .u64 0))).frozen? ⟨D, t, none⟩ = false) ∧ Only D w1 ((w2.setCell ⟨D, m + k, none⟩ (.int .u64 (y : Int))).setCells D 0 (List.replicate k (.int .u64 0)))) := ⟨hwords, hall3, hfr3, hO3⟩
  clear hwords hall3 hfr3 hO3 hall hcell hsame hfr ho hvv hy
  go_wp2_with fail
  obtain ⟨W4, hW4⟩ : ∃ W4, (w2.setCell ⟨D, m + k, none⟩ (.int .u64 (y : Int))).setCells D 0 (List.replicate k (.int .u64 0)) = W4 := ⟨_, rfl⟩
  have hz := HZ.out
  rw [hW4] at hz ⊢
  clear hcl hW4 HZ hcn hfn
  refine (norm_any D c (m + k + 1) (wd (T * 2 ^ s)) W4 hz.1 c1 c2).mono ?_
  rintro e' w5 ⟨mm, m1, m2, m3, rfl, rfl⟩
  have HZ : Hid (_ ∧ _ ∧ _ ∧ _) := hz
  have HM : Hid (_ ∧ _) := And.intro m2 m3
  clear hz m2 m3
  go_wp2_with fail
  go_ret
  obtain ⟨z1, z2, z3, z4⟩ := HZ.out
  have hbel := H1.out.2.2
  refine ⟨D, c, mm, rfl, natAt_of HX.out c1 c2 z2 z3 z1 (fun t ht => ?_) m1 HM.out.1 HM.out.2 (by omega), hD, by rw [z4.size]; exact hDs, ?_⟩
  · exact shl_high T s k r m t HK.out.1 HK.out.2 HHi.out (by omega)
  · refine ⟨z4.os.trans hbel.os, z4.tape.trans hbel.tape, z4.output.trans hbel.output, by rw [z4.size]; exact hbel.size, fun j hj hne => (z4.block j ?_).trans (hbel.block j hj)⟩
    rcases hD with rfl | hD
    · exact hne
    · omega
set_option maxHeartbeats 1000000 in
set_option maxRecDepth 100000 in
theorem lsh_even (b cap m T s k r : Nat) (w : World) (h : NatAt w b cap m T) (hb : b < w.heap.size) (hm : 1 ≤ m) (hs : 1 ≤ s) (hs2 : s ≤ 160) (hX : T * 2 ^ s < 1461501637330902918203684832716283019655932542976) (hk : s / 64 = k) (hr : s % 64 = r) (hr0 : r = 0) :
    Calls Tryf.prog 31 #[.slice (some ⟨b, 0, none⟩) m cap, .slice (some ⟨b, 0, none⟩) m cap, .int .u64 (s : Int)] w fun e w' => ∃ D c mm, e = .returned (.slice (some ⟨D, 0, none⟩) mm c) ∧ NatAt w' D c mm (T * 2 ^ s) ∧ (D = b ∨ w.heap.size ≤ D) ∧ D < w'.heap.size ∧ But w.heap.size b w w' := by
  obtain ⟨⟨A, hrow, hA⟩, r1, r2, r3, r4, r5, r6, r7⟩ := h
  have hfit : m + k ≤ 3 := by rw [← hk]; exact words_fit T s m hm (by rcases r5 with h | h; omega; exact h) hX
  have HX : Hid (T * 2 ^ s < 1461501637330902918203684832716283019655932542976) := hX
  have HC : Hid (∀ j, j < m → w.cell? ⟨b, j, none⟩ = some (.int .u64 (wd T j : Int))) := fun j hj => by rw [← hA j hj]; exact hrow.read j (by omega)
  have HE : Hid (∀ t, t < cap → ∃ v, w.cell? ⟨b, t, none⟩ = some v) := fun t ht => ⟨_, hrow.read t ht⟩
  have HF : Hid (∀ t, w.frozen? ⟨b, t, none⟩ = false) := hrow.thaw
  have HHi : Hid (∀ i, m ≤ i → wd T i = 0) := r4
  have HK : Hid (s / 64 = k ∧ s % 64 = r) := ⟨hk, hr⟩
  have ek : (s : Int) / 64 = (k : Int) := by omega
  have er : (s : Int) % 64 = 0 := by omega
  have z0 : ((s : Int) == 0) = false := beq_eq_false_iff_ne.2 (by omega)
  have hr64 : r < 64 := by omega
  have ht : ∀ args w, (callFunc 46 args).run Tryf.prog w = .ok (.enter 21 args) w := run_callFunc_twin (twin := "math/big.lshVU_g") Tryf.func46 (by kernel_rfl) (by kernel_rfl) (by kernel_rfl) (by kernel_rfl) Tryf.func21 (by kernel_rfl) (by kernel_rfl) (by kernel_rfl)
  clear hrow hA r4 r5 hX hk hr
  go_enter Tryf.func31, Tryf.ntmps31
  go_wp2_with fail
  have hmk := make_any b m cap (m + k + 1) w HE.out HF.out hb r1 r3 (by omega) (by omega)
  rw [show ((m + k + 1 : Nat) : Int) = (m : Int) + (k : Int) + 1 from by omega] at hmk
  refine hmk.mono ?_
  clear hmk
  rintro e' w1 ⟨D, c, rfl, c1, c2, hex, hfz, hD, hDs, hbel⟩
  have H1 : Hid ((∀ t, t < c → ∃ v, w1.cell? ⟨D, t, none⟩ = some v) ∧ (∀ t, w1.frozen? ⟨D, t, none⟩ = false) ∧ Below w.heap.size w w1) := ⟨hex, hfz, hbel⟩
  have HC1 : Hid (∀ j, j < m → w1.cell? ⟨b, j, none⟩ = some (.int .u64 (wd T j : Int))) := fun j hj => (hbel.cell (p := ⟨b, j, none⟩) hb).trans (HC.out j hj)
  clear hex hfz hbel
  have em : (m : Int) + (k : Int) - (m : Int) = (k : Int) := by omega
  have hcopy : ∀ ty, (Builtin.copy_ #[40, 40] ty #[.slice (some ⟨D, k, none⟩) m (c - k), .slice (some ⟨b, 0, none⟩) m cap]).run Tryf.prog w1 = .ok (goInt (wordCells T m).length) (w1.setCells D k (wordCells T m)) := fun ty =>
    run_copy_cells w1 40 40 ty 82 D k m (c - k) ⟨b, 0, none⟩ m cap (wordCells T m) Tryf.underlying40 there82 (by rw [wordCells_length]; exact (Nat.min_self m).symm) (wordCells_read HC1.out) (fun j hj => by
      obtain ⟨v, hv⟩ := H1.out.1 (k + j) (by rw [wordCells_length] at hj; omega)
      rw [hv]; rfl) (fun j _ => H1.out.2.1 _) (wordCells_one T m)
  have hcell := even_cells D k m T r w1 hr0 (fun t ht => H1.out.1 t (by omega))
  have hsame : ∀ t, t < k ∨ k + m ≤ t → (w1.setCells D k (wordCells T m)).cell? ⟨D, t, none⟩ = w1.cell? ⟨D, t, none⟩ := fun t ht => World.cell?_setCells_out D _ k _ _ (fun _ _ => by rw [wordCells_length]; exact ht)
  have hfr : ∀ t, (w1.setCells D k (wordCells T m)).frozen? ⟨D, t, none⟩ = false := fun t => by rw [World.frozen?_setCells]; exact H1.out.2.1 t
  have ho : Only D w1 (w1.setCells D k (wordCells T m)) := (Only.refl D w1).setCells _ _
  obtain ⟨w2, hw2⟩ : ∃ w2, w1.setCells D k (wordCells T m) = w2 := ⟨_, rfl⟩
  rw [hw2] at hcopy hcell hsame hfr ho
  clear hw2
  obtain ⟨vv, hvv⟩ := H1.out.1 (m + k) (by omega)
  have hcn : w2.cell? ⟨D, m + k, none⟩ = some vv := (hsame (m + k) (by omega)).trans hvv
  have hfn := hfr (m + k)
  have hall : ∀ t, t < c → ∃ v, w2.cell? ⟨D, t, none⟩ = some v := fun t ht => by
    by_cases h : t < k ∨ k + m ≤ t
    · rw [hsame t h]; exact H1.out.1 t ht
    · have := hcell (t - k) (by omega)
      rw [show k + (t - k) = t from by omega] at this
      exact ⟨_, this⟩
  obtain ⟨y, hy⟩ : ∃ y, wd T (m - 1) / 2 ^ (64 - r) = y := ⟨_, rfl⟩
  have hy0 : y = 0 := by
    have h64 : (2 : Nat) ^ (64 - r) = 18446744073709551616 := by rw [hr0]
    rw [← hy, h64]
    exact Nat.div_eq_of_lt (wd_lt T _)
  have hcl := clear_words D k c (w2.setCell ⟨D, m + k, none⟩ (.int .u64 0)) (fun t ht => setCell_ex hall ⟨D, m + k, none⟩ _ t (by omega)) (fun t => by rw [World.frozen?_setCell]; exact hfr t)
  have hwords : ∀ t, t < m + k + 1 → ((w2.setCell ⟨D, m + k, none⟩ (.int .u64 0)).setCells D 0 (List.replicate k (.int .u64 0))).cell? ⟨D, t, none⟩ = some (.int .u64 (wd (T * 2 ^ s) t : Int)) := by
    have h := shl_cells D k m T s r w2 HK.out.1 HK.out.2 hm (by omega) (HHi.out m (Nat.le_refl _)) hcell (fun t ht => hall t (by omega))
    rw [hy, hy0] at h
    exact h
  have hall3 : ∀ t, t < c → ∃ v, ((w2.setCell ⟨D, m + k, none⟩ (.int .u64 0)).setCells D 0 (List.replicate k (.int .u64 0))).cell? ⟨D, t, none⟩ = some v := fun t ht => setCells_ex (fun t ht => setCell_ex hall ⟨D, m + k, none⟩ _ t ht) _ k t ht
  have hfr3 : ∀ t, ((w2.setCell ⟨D, m + k, none⟩ (.int .u64 0)).setCells D 0 (List.replicate k (.int .u64 0))).frozen? ⟨D, t, none⟩ = false := fun t => by rw [World.frozen?_setCells, World.frozen?_setCell]; exact hfr t
  have hO3 : Only D w1 ((w2.setCell ⟨D, m + k, none⟩ (.int .u64 0)).setCells D 0 (List.replicate k (.int .u64 0))) := (ho.setCell rfl _).setCells _ _
  have HZ : Hid ((∀ t, t < m + k + 1 → ((w2.setCell ⟨D, m + k, none⟩ (.int .u64 0)).setCells D 0 (List.replicate k (.int .u64 0))).cell? ⟨D, t, none⟩ = some (.int .u64 (wd (T * 2 ^ s) t : Int))) ∧
    (∀ t, t < c → ∃ v, ((w2.setCell ⟨D, m + k, none⟩ (.int .u64 0)).setCells D 0 (List.replicate k (.int .u64 0))).cell? ⟨D, t, none⟩ = some v) ∧
    (∀ t, ((w2.setCell ⟨D, m + k, none⟩ (.int .u64 0)).setCells D 0 (List.replicate k (.int .u64 0))).frozen? ⟨D, t, none⟩ = false) ∧ Only D w1 ((w2.setCell ⟨D, m + k, none⟩ (.int .u64 0)).setCells D 0 (List.replicate k (.int .u64 0)))) := ⟨hwords, hall3, hfr3, hO3⟩
  clear hwords hall3 hfr3 hO3 hall hcell hsame hfr ho hvv hy
  clear hy0
  go_wp2_with (refine wpList_copy_run' _ rfl _ _ 40 40 rfl _ _ rfl rfl (hcopy _) ?_)
  obtain ⟨W4, hW4⟩ : ∃ W4, (w2.setCell ⟨D, m + k, none⟩ (.int .u64 0)).setCells D 0 (List.replicate k (.int .u64 0)) = W4 := ⟨_, rfl⟩
  have hz := HZ.out
  rw [hW4] at hz ⊢
  clear hcl hW4 HZ hcn hfn
  refine (norm_any D c (m + k + 1) (wd (T * 2 ^ s)) W4 hz.1 c1 c2).mono ?_
  rintro e' w5 ⟨mm, m1, m2, m3, rfl, rfl⟩
  have HZ : Hid (_ ∧ _ ∧ _ ∧ _) := hz
  have HM : Hid (_ ∧ _) := And.intro m2 m3
  clear hz m2 m3
  go_wp2_with fail
  go_ret
  obtain ⟨z1, z2, z3, z4⟩ := HZ.out
  have hbel := H1.out.2.2
  refine ⟨D, c, mm, rfl, natAt_of HX.out c1 c2 z2 z3 z1 (fun t ht => ?_) m1 HM.out.1 HM.out.2 (by omega), hD, by rw [z4.size]; exact hDs, ?_⟩
  · exact shl_high T s k r m t HK.out.1 HK.out.2 HHi.out (by omega)
  · refine ⟨z4.os.trans hbel.os, z4.tape.trans hbel.tape, z4.output.trans hbel.output, by rw [z4.size]; exact hbel.size, fun j hj hne => (z4.block j ?_).trans (hbel.block j hj)⟩
    rcases hD with rfl | hD
    · exact hne
    · omega
end Go.Proofs.Qxb6608999aFmt
