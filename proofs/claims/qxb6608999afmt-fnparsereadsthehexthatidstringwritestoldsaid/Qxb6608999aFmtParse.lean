/-
  (Space).Parse at 0x and forty hexadecimal digits.
-/
import Derived.Test.Qxb6608999aFmtParseA
import Derived.Laws.ResultCell
namespace Go.Proofs.Qxb6608999aFmt
open Go.RowKit Go.Extern.Stop Go.Stop Go.Extern
set_option linter.unusedVariables false

theorem results_row_tmp {P : Program} {fn : Func} {p u : Tmp} {ty : TypeId} (h : fn.results = #[.cell p ty, .tmp u]) (tmps : Array Value) (w : World) (g : Nat) (t : TypeId) (cs : Array Value) (fr : Nat × Nat) (d : TypeDesc)
    (hp : tmps.getD p undef = .pointer (some ⟨g, 0, none⟩)) (hg : w.heap[g]? = some (.cells cs t fr))
    (hu : P.underlying ty = some d) (hd : (match d with | .struct _ | .array _ _ => true | _ => false) = true) (hi : (P.info? ty).map (·.size) = some cs.size) :
    (results fn tmps).run P w = .ok (.tuple #[.agg cs, tmps.getD u undef]) w := by
  rw [results_cell_tmp h, hp]
  simp [asAddr, Result.andThen, run_loadVar_row w g t ty cs fr d hg hu hd hi]

set_option maxRecDepth 100000 in
theorem parse_any (F : Interp) (B : Nat → Nat) (hB : ∀ i, B i < 256) (bits : Nat) (hbits : bits ≤ 160) (e : Addr) (w : World) (hF : F.answers w.tape) (hE : EofIs e w) (hw : 0 < w.heap.size) :
    Calls Tryf.prog 5 #[.agg #[.int .i64 (bits : Int)], .string (oxText B)] w fun ev w' => Below w.heap.size w w' ∧
      ((bv B 20 < 2 ^ bits ∧ ev = .returned (.tuple #[.agg (bcells (fun q => byte (bv B 20 * 2 ^ (160 - bits)) (19 - q)) 20).toArray, .nilIface])) ∨ (¬ bv B 20 < 2 ^ bits ∧ ∃ p, ev = .returned (.tuple #[.agg (bcells (fun _ => 0) 20).toArray, .iface 79 (.pointer (some p))]))) := by
  have HF : Hid (F.answers w.tape) := hF
  have HS : Hid (Start bits w.heap.size e w (((w.alloc (.cells #[.int .i64 (bits : Int)] 24)).alloc (.cells (bcells (fun _ => 0) 20).toArray 26)).alloc (.cells #[.bool false, .slice none 0 0] 42))) := start_of bits e w hE hw
  clear hF hE
  go_enter Tryf.func5, Tryf.ntmps5
  go_wp2_with fail
  refine (Tryf.strings_CutPrefix (oxText B) ⟨#[48, 120]⟩ _).mono ?_
  rintro e' w1 ⟨rfl, rfl⟩
  rw [show (⟨#[48, 120]⟩ : ByteArray).data.toList = [48, 120] from rfl, cut_ox, has_ox]
  go_wp2_with fail
  have hS := HS.out
  obtain ⟨W, hW⟩ : ∃ W, ((w.alloc (.cells #[.int .i64 (bits : Int)] 24)).alloc (.cells (bcells (fun _ => 0) 20).toArray 26)).alloc (.cells #[.bool false, .slice none 0 0] 42) = W := ⟨_, rfl⟩
  obtain ⟨h, hh⟩ : ∃ h, w.heap.size = h := ⟨_, rfl⟩
  rw [hW, hh] at hS
  rw [show (Obj.cells #[Value.int .u8 0, .int .u8 0, .int .u8 0, .int .u8 0, .int .u8 0, .int .u8 0, .int .u8 0, .int .u8 0, .int .u8 0, .int .u8 0, .int .u8 0, .int .u8 0, .int .u8 0, .int .u8 0, .int .u8 0, .int .u8 0, .int .u8 0, .int .u8 0, .int .u8 0, .int .u8 0] 26) = .cells (bcells (fun _ => 0) 20).toArray 26 from rfl, hW, hh]
  have HH : Hid (w.heap.size = h) := hh
  have HSt : Hid (Start bits h e w W) := hS
  clear hS hW hh HS
  have hsz := HSt.out.size
  refine (setString_any (h + 1 + 1) (hexText B) (dig B) e false W (hexText_hex B hB) HSt.out.eof (by omega) (by omega) HSt.out.c0 HSt.out.c1 HSt.out.t0 HSt.out.t1).mono ?_
  rintro e' w2 ⟨rfl, b, cap, m, hbig, hdb, hbs, hbel⟩
  have e40 : hv (dig B) 0 40 = bv B 20 := hv_dig B hB 20
  rw [e40] at hbig
  obtain ⟨T, hT⟩ : ∃ T, bv B 20 = T := ⟨_, rfl⟩
  rw [hT] at hbig
  have HT : Hid (bv B 20 = T) := hT
  have HBig : Hid (BigAt w2 (h + 1 + 1) b cap m T) := hbig
  have HBel : Hid (Below (h + 1 + 1) W w2) := hbel
  clear e40 hT hbig hbel
  go_wp2_with fail
  refine (Tryf.strings_ContainsAny_laid (hexText B) ⟨#[43, 45]⟩ w2 (by rw [hexText_size]; decide) (by decide) (fun j b hb => (hex_byte B hB j b hb).2.2) (fun j b hb => pm_ascii j b hb)).mono ?_
  rintro e' w3 ⟨rfl, hb3⟩
  rw [no_sign B hB]
  have HBig3 : Hid (BigAt w3 (h + 1 + 1) b cap m T) := HBig.out.below hb3 (by omega) hbs
  have HBel3 : Hid (Below (h + 1 + 1) W w3) := HBel.out.trans (hb3.mono (by omega))
  have hs3 : b < w3.heap.size := by have := hb3.size; omega
  have hcs : w3.cell? ⟨h, 0, none⟩ = some (.int .i64 (bits : Int)) := (HBel3.out.cell (p := ⟨h, 0, none⟩) (by show h < _; omega)).trans HSt.out.space
  obtain ⟨L, hL⟩ := len_exists T
  have HL : Hid (∀ k, L ≤ k ↔ T < 2 ^ k) := hL
  have hL160 : L ≤ 160 := (hL 160).2 (Nat.lt_of_lt_of_le HBig.out.nat.lt (by decide))
  clear hb3 HBig HBel hL
  go_wp2_with fail
  go_quiet ((go_at_call 13; refine (bitLen_at (h + 1 + 1) b cap m T L _ (HBig3.out.drewN _) HL.out).mono ?_; rintro e w2 ⟨rfl, rfl⟩; exact ⟨rfl, _, rfl⟩))
  obtain ⟨w4, hw4⟩ : ∃ w4, w3.drewN nq = w4 := ⟨_, rfl⟩
  have HBig4 : Hid (BigAt w4 (h + 1 + 1) b cap m T) := by rw [← hw4]; exact HBig3.out.drewN nq
  have HBel4 : Hid (Below (h + 1 + 1) W w4) := by rw [← hw4]; exact below_drewN HBel3.out nq
  have hs4 : b < w4.heap.size := by rw [← hw4]; exact hs3
  rw [hw4]
  clear HBig3 HBel3 hs3 hcs hw4
  have hcs : w4.cell? ⟨h, 0, none⟩ = some (.int .i64 (bits : Int)) := (HBel4.out.cell (p := ⟨h, 0, none⟩) (by show h < _; omega)).trans HSt.out.space
  have HRes : Hid (BlkT 26 w4 (h + 1) (fun _ => 0)) := HSt.out.res.below HBel4.out (by omega)
  have HTape : Hid (F.answers w4.tape) := by rw [HBel4.out.tape, HSt.out.bel.tape]; exact HF.out
  by_cases hlt : bits < L
  · go_wp2_with fail
    refine (errorf_any F (oxText B) (bits : Int) w4.heap.size (w4.alloc (.cells #[.iface 9 (.string (oxText B)), .iface 3 (.int .i64 (bits : Int))] 20)) HTape.out (by rw [World.cell?_alloc_at _ _ _ _ rfl]; rfl) (by rw [World.cell?_alloc_at _ _ _ _ rfl]; rfl)).mono ?_
    rintro e' w5 ⟨⟨p, rfl⟩, hb5⟩
    have HBel5 : Hid (Below (w4.heap.size) w4 w5) := ((Below.refl _ w4).alloc (Nat.le_refl _) _).trans (hb5.mono (by simp))
    clear hb5
    have HRes5 : Hid (BlkT 26 w5 (h + 1) (fun _ => 0)) := HRes.out.below HBel5.out (by omega)
    go_wp2_with (refine wpList_store_row rfl 26 _ _ rfl (h + 1) (bcells (fun _ => 0) 20).toArray rfl rfl 26 _ HRes5.out (size26 _) rfl (bcells_one _ _) ?_)
    refine bodyPost_ret (results_row_tmp rfl _ _ (h + 1) 26 _ (0, 0) _ rfl (setRow_heap _ _ _ _ _ _ HRes5.out) Tryf.underlying26 rfl (size26 _)) rfl ⟨?_, Or.inr ⟨?_, p, rfl⟩⟩
    · rw [HH.out]
      exact HSt.out.bel.trans ((HBel4.out.mono (by omega)).trans ((HBel5.out.mono (by omega)).trans (below_setRow _ _ _ (by omega))))
    · rw [HT.out, ← HL.out bits]
      omega
  · have hbel5 : Below w4.heap.size w4 (w4.alloc (.cells (bcells (fun _ => 0) 20).toArray 26)) := (Below.refl _ w4).alloc (Nat.le_refl _) _
    have hnew5 : BlkT 26 (w4.alloc (.cells (bcells (fun _ => 0) 20).toArray 26)) w4.heap.size (fun _ => 0) := by
      unfold BlkT
      show (w4.heap.push _)[w4.heap.size]? = _
      rw [Array.getElem?_push_size]
    have hs5 : (w4.alloc (.cells (bcells (fun _ => 0) 20).toArray 26)).heap.size = w4.heap.size + 1 := by simp
    obtain ⟨w5, hw5⟩ : ∃ w5, w4.alloc (.cells (bcells (fun _ => 0) 20).toArray 26) = w5 := ⟨_, rfl⟩
    have HW5 : Hid (w4.alloc (.cells (bcells (fun _ => 0) 20).toArray 26) = w5) := hw5
    rw [hw5] at hbel5 hnew5 hs5
    have H5 : Hid (Below w4.heap.size w4 w5 ∧ BlkT 26 w5 w4.heap.size (fun _ => 0) ∧ w5.heap.size = w4.heap.size + 1) := ⟨hbel5, hnew5, hs5⟩
    clear hbel5 hnew5 hs5 hw5
    go_wp2_with fail
    have hw5 := HW5.out
    rw [show (Obj.cells #[Value.int .u8 0, .int .u8 0, .int .u8 0, .int .u8 0, .int .u8 0, .int .u8 0, .int .u8 0, .int .u8 0, .int .u8 0, .int .u8 0, .int .u8 0, .int .u8 0, .int .u8 0, .int .u8 0, .int .u8 0, .int .u8 0, .int .u8 0, .int .u8 0, .int .u8 0, .int .u8 0] 26) = .cells (bcells (fun _ => 0) 20).toArray 26 from rfl, hw5]
    obtain ⟨g, hg⟩ : ∃ g, w4.heap.size = g := ⟨_, rfl⟩
    have h5 := H5.out
    rw [hg] at h5 ⊢
    rw [hg] at hs4
    have HBig5 : Hid (BigAt w5 (h + 1 + 1) b cap m T) := HBig4.out.below (B := g) (by rw [← hg]; rw [← hg] at h5; exact h5.1) (by omega) hs4
    have HBel5 : Hid (Below (h + 1 + 1) W w5) := HBel4.out.trans (h5.1.mono (by omega))
    have HNew : Hid (BlkT 26 w5 g (fun _ => 0)) := h5.2.1
    have hsz5 := h5.2.2
    have hcs5 : w5.cell? ⟨h, 0, none⟩ = some (.int .i64 (bits : Int)) := (HBel5.out.cell (p := ⟨h, 0, none⟩) (by show h < _; omega)).trans HSt.out.space
    have HXX : Hid (T * 2 ^ (160 - bits) < 1461501637330902918203684832716283019655932542976) := by
      have h1 : T < 2 ^ bits := (HL.out bits).1 (by omega)
      have h2 : T * 2 ^ (160 - bits) < 2 ^ bits * 2 ^ (160 - bits) := Nat.mul_lt_mul_of_pos_right h1 (Nat.two_pow_pos _)
      rw [← Nat.pow_add, show bits + (160 - bits) = 160 from by omega] at h2
      exact Nat.lt_of_lt_of_le h2 (by decide)
    clear h5 H5 HW5 hw5 hcs HBig4 HBel4 HRes HTape hg
    go_region_with (first
      | (go_at_call 15; refine (shift_any bits _ hbits).mono ?_; rintro e' w6 ⟨rfl, hb6⟩; have HBig6 : Hid (BigAt w6 (h + 1 + 1) b cap m T) := HBig5.out.below ⟨hb6.os, hb6.tape, hb6.output, hb6.size, hb6.block⟩ (by have := hsz5; show _ < w5.heap.size; omega) (by have := hsz5; show _ < w5.heap.size; omega); have HB6 : Hid (Below w5.heap.size w5 w6) := ⟨hb6.os, hb6.tape, hb6.output, hb6.size, hb6.block⟩; have hs6 : w5.heap.size ≤ w6.heap.size := hb6.size; clear hb6)
      | (go_at_call 14; (refine (intLsh_any (h + 1 + 1) b cap m T (160 - bits) w6 HBig6.out (by omega) (by omega) (by omega) HXX.out).mono ?_; rintro e' w7 ⟨rfl, D, c, mm, hbig7, hD7, hDb, hbel7, hblk7⟩; have HBig7 : Hid (BigAt w7 (h + 1 + 1) D c mm (T * 2 ^ (160 - bits))) := hbig7; have HNew7 : Hid (BlkT 26 w7 g (fun _ => 0)) := (hblk7 g (by omega) (by omega) (by omega)).trans (HNew.out.below HB6.out (by omega)); have HBel7 : Hid (Below (h + 1 + 1) w6 w7) := hbel7 (h + 1 + 1) (Nat.le_refl _) (by omega); have hDg : D ≠ g := (by rcases hDb with hDb | hDb <;> omega); clear hbig7 hDb hbel7 hblk7))
      | (go_at_call 16; (refine (fillBytes_any 26 g (h + 1 + 1) D c mm (T * 2 ^ (160 - bits)) (fun _ => 0) w7 HBig7.out HNew7.out hDg (by omega)).mono ?_; rintro e' w8 ⟨⟨v8, rfl⟩, hb8, ho8⟩; have HNew8 : Hid (BlkT 26 w8 g (fun q => byte (T * 2 ^ (160 - bits)) (19 - q))) := hb8; have HO8 : Hid (Only g w7 w8) := ho8; clear hb8 ho8)))
    have HBel8 : Hid (Below (h + 1 + 1) W w8) := HBel5.out.trans ((HB6.out.mono (by omega)).trans (HBel7.out.trans (HO8.out.below (by omega))))
    have HRes8 : Hid (BlkT 26 w8 (h + 1) (fun _ => 0)) := HSt.out.res.below HBel8.out (by omega)
    go_wp2_with (first
      | refine wpList_load_row rfl 26 _ rfl g rfl 26 _ (0, 0) _ HNew8.out Tryf.underlying26 rfl (size26 _) ?_
      | refine wpList_store_row rfl 26 _ _ rfl (h + 1) _ rfl rfl 26 _ HRes8.out (size26 _) (by rw [bcells_size, bcells_size]) (bcells_one _ _) ?_)
    refine bodyPost_ret (results_row_tmp rfl _ _ (h + 1) 26 _ (0, 0) _ rfl (setRow_heap _ _ _ _ _ _ HRes8.out) Tryf.underlying26 rfl (size26 _)) rfl ⟨?_, Or.inl ⟨?_, ?_⟩⟩
    · rw [HH.out]
      exact HSt.out.bel.trans ((HBel8.out.mono (by omega)).trans (below_setRow _ _ _ (by omega)))
    · rw [HT.out, ← HL.out bits]
      omega
    · rw [HT.out]
      rfl
end Go.Proofs.Qxb6608999aFmt
