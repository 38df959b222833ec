/-
  The law's walk.
-/
import Derived.Test.Qxb6608999aFmtLawC
import Derived.Deep.DeepCutAuto
namespace Go.Proofs.Qxb6608999aFmt
open Go.RowKit Go.Extern.Stop Go.Stop Go.Extern
set_option linter.unusedVariables false
set_option linter.unusedSimpArgs false

set_option maxHeartbeats 8000000 in
set_option maxRecDepth 1000000 in
theorem law_in (F : Interp) (B : Nat → Nat) (hB : ∀ i, B i < 256) (bits : Nat) (hbits : bits ≤ 160) (e : Addr) (w : World) (hF : F.answers w.tape) (hE : EofIs e w) (hw : 0 < w.heap.size) :
    Calls Tryf.prog 3 #[.int .i64 (bits : Int), .agg (bcells B 20).toArray] w fun ev w' => ev = .returned (.bool true) ∧ Below w.heap.size w w' := by
  have HF : Hid (F.answers w.tape) := hF
  have HE : Hid (EofIs e w) := hE
  clear hF hE
  have hz : Obj.cells #[Value.int .u8 0, .int .u8 0, .int .u8 0, .int .u8 0, .int .u8 0, .int .u8 0, .int .u8 0, .int .u8 0, .int .u8 0, .int .u8 0, .int .u8 0, .int .u8 0, .int .u8 0, .int .u8 0, .int .u8 0, .int .u8 0, .int .u8 0, .int .u8 0, .int .u8 0, .int .u8 0] 22 = .cells (bcells (fun _ => 0) 20).toArray 22 := rfl
  have HZ : Hid (Obj.cells #[Value.int .u8 0, .int .u8 0, .int .u8 0, .int .u8 0, .int .u8 0, .int .u8 0, .int .u8 0, .int .u8 0, .int .u8 0, .int .u8 0, .int .u8 0, .int .u8 0, .int .u8 0, .int .u8 0, .int .u8 0, .int .u8 0, .int .u8 0, .int .u8 0, .int .u8 0, .int .u8 0] 22 = .cells (bcells (fun _ => 0) 20).toArray 22) := hz
  clear hz
  have b0 := (Blk.new w B _ rfl).alloc (by simp) (.cells (bcells (fun _ => 0) 20).toArray 22)
  have b1 := Blk.new (w.alloc (.cells (bcells B 20).toArray 22)) (fun _ => 0) (w.heap.size + 1) (by simp)
  have hbel : Below w.heap.size w ((w.alloc (.cells (bcells B 20).toArray 22)).alloc (.cells (bcells (fun _ => 0) 20).toArray 22)) := ((Below.refl _ w).alloc (Nat.le_refl _) _).alloc (by simp) _
  have hsz : ((w.alloc (.cells (bcells B 20).toArray 22)).alloc (.cells (bcells (fun _ => 0) 20).toArray 22)).heap.size = w.heap.size + 1 + 1 := by simp
  obtain ⟨W, hW⟩ : ∃ W, (w.alloc (.cells (bcells B 20).toArray 22)).alloc (.cells (bcells (fun _ => 0) 20).toArray 22) = W := ⟨_, rfl⟩
  rw [hW] at b0 b1 hbel hsz
  have HW : Hid ((w.alloc (.cells (bcells B 20).toArray 22)).alloc (.cells (bcells (fun _ => 0) 20).toArray 22) = W) := hW
  have HS : Hid (Blk W w.heap.size B ∧ Blk W (w.heap.size + 1) (fun _ => 0) ∧ Below w.heap.size w W ∧ W.heap.size = w.heap.size + 1 + 1) := ⟨b0, b1, hbel, hsz⟩
  clear b0 b1 hbel hsz hW
  go_enter Tryf.func3, Tryf.ntmps3
  go_wp2_with fail
  obtain ⟨h, hh⟩ : ∃ h, w.heap.size = h := ⟨_, rfl⟩
  have hS := HS.out
  have hW := HW.out
  have hz := HZ.out
  rw [hh] at hS ⊢
  rw [hz, hW]
  have HH : Hid (w.heap.size = h) := hh
  have HB0 : Hid (Blk W h B ∧ Blk W (h + 1) (fun _ => 0) ∧ Below h w W) := ⟨hS.1, hS.2.1, hS.2.2.1⟩
  have hsz := hS.2.2.2
  have hh0 : 0 < h := by omega
  clear hS hW hz HZ HS HW hh
  refine (newSpace_any (bits : Int) W).mono ?_
  rintro e' w1 ⟨rfl, hb1⟩
  have HB1 : Hid (Below W.heap.size W w1) := hb1
  have hs1 := hb1.size
  clear hb1
  go_wp2_with fail
  obtain ⟨g, hg⟩ : ∃ g, w1.heap.size = g := ⟨_, rfl⟩
  have hb2 : Below W.heap.size W (w1.alloc (.cells #[.int .i64 (bits : Int)] 24)) := HB1.out.alloc hs1 _
  have cs : (w1.alloc (.cells #[.int .i64 (bits : Int)] 24)).cell? ⟨w1.heap.size, 0, none⟩ = some (.int .i64 (bits : Int)) := by
    rw [World.cell?_alloc_at _ _ _ _ rfl]
    rfl
  have hs2 : (w1.alloc (.cells #[.int .i64 (bits : Int)] 24)).heap.size = w1.heap.size + 1 := by simp
  obtain ⟨w2, hw2⟩ : ∃ w2, w1.alloc (.cells #[.int .i64 (bits : Int)] 24) = w2 := ⟨_, rfl⟩
  rw [hw2] at hb2 cs hs2 ⊢
  rw [hg] at cs hs2 hs1 ⊢
  rw [hsz] at hb2 hs1
  have HB2 : Hid (Blk w2 h B ∧ Blk w2 (h + 1) (fun _ => 0) ∧ Below h w w2) := ⟨HB0.out.1.below hb2 (by omega), HB0.out.2.1.below hb2 (by omega), HB0.out.2.2.trans (hb2.mono (by omega))⟩
  clear hb2 hw2 hg HB1 HB0 hsz
  have K2 : Hid (Kp F B e h w w2) := ⟨by rw [HB2.out.2.2.tape]; exact HF.out, (HB2.out.2.2.cell (p := ⟨0, 0, none⟩) hh0).trans HE.out, HB2.out.1, HB2.out.2.1, HB2.out.2.2, by omega⟩
  clear HB2
  have HS2 : Hid (w2.heap.size = g + 1) := hs2
  have hl1 : h < w2.heap.size := by omega
  have hl2 : g < w2.heap.size := by omega
  clear hs2
  have HS5 : Hid (w2.rangeAt h 0 (bcells B 20) ∧ w2.cell? ⟨g, 0, none⟩ = some (.int .i64 (bits : Int)) ∧ Hid (Kp F B e h w w2)) := ⟨K2.out.idb.range, cs, K2⟩
  clear cs K2
  have hox := ox_add B
  have hu22 := Tryf.underlying22
  have hu26 := Tryf.underlying26
  have hi22 := info22 B
  by_cases hT : bv B 20 < 2 ^ bits
  · have HT : Hid (bv B 20 < 2 ^ bits) := hT
    clear hT
    go_cut [7, 8] (fun s7 s8 wx => ∃ gN, s7 = .pointer (some ⟨gN, 0, none⟩) ∧ s8 = .nilIface ∧ Hid (Kp F B e h w wx) ∧ Hid (wx.rangeAt gN 0 (bcells (fun q => byte (bv B 20 * 2 ^ (160 - bits)) (19 - q)) 20)))
    case first =>
      have hiX := info26 (fun q => byte (bv B 20 * 2 ^ (160 - bits)) (19 - q))
      have hlX := bcells_length (fun q => byte (bv B 20 * 2 ^ (160 - bits)) (19 - q))
      have hcX := bcells_cells (fun q => byte (bv B 20 * 2 ^ (160 - bits)) (19 - q))
      go_region_held3 (fun x => x.rangeAt h 0 (bcells B 20) ∧ x.cell? ⟨g, 0, none⟩ = some (.int .i64 (bits : Int)) ∧ Hid (Kp F B e h w x)) (first | with_reducible exact k5_drew HS5.out | with_reducible exact k5_drew (k5_alloc HS5.out _) | with_reducible exact k5_alloc (by assumption) _ | with_reducible exact k5_below (by assumption) (by assumption) | with_reducible exact k5_set (by assumption) _ _ (by omega) (by omega))
        (first
        | (go_at_call 6; refine (idString_any B hB _).mono ?_; rintro e' w3 ⟨rfl, hb3⟩; have hl3 : g < w3.heap.size := (by have := hb3.size; simp at this; omega); (try (have N3 : Hid (BlkT 26 w3 w2.heap.size (fun _ => 0)) := new_below (x := w2) ⟨hb3.os, hb3.tape, hb3.output, hb3.size, hb3.block⟩; have hn3 : w2.heap.size < w3.heap.size := (by have := hb3.size; simp at this; omega))))
        | (have HeldK : Kp F B e h w w3 := (show (fun x => x.rangeAt h 0 (bcells B 20) ∧ x.cell? ⟨g, 0, none⟩ = some (.int .i64 (bits : Int)) ∧ Hid (Kp F B e h w x)) w3 by assumption).2.2.out; go_at_call 5; refine (parse_good2 F B hB bits hbits e w3 HeldK.tape HeldK.eof (by have := HeldK.size; omega) HT.out).mono ?_; rintro e' w4 ⟨rfl, hb4⟩; have hl4 : g < w4.heap.size := (by have := hb4.size; omega); have thC := there_new w4; (try (have thA : w4.there w2.heap.size 0 20 := (N3.out.below hb4 (by omega)).there)))
        | (have HeldK : Kp F B e h w (w3.alloc (.cells #[.int .u8 0, .int .u8 0, .int .u8 0, .int .u8 0, .int .u8 0, .int .u8 0, .int .u8 0, .int .u8 0, .int .u8 0, .int .u8 0, .int .u8 0, .int .u8 0, .int .u8 0, .int .u8 0, .int .u8 0, .int .u8 0, .int .u8 0, .int .u8 0, .int .u8 0, .int .u8 0] 26)) := (show (fun x => x.rangeAt h 0 (bcells B 20) ∧ x.cell? ⟨g, 0, none⟩ = some (.int .i64 (bits : Int)) ∧ Hid (Kp F B e h w x)) (w3.alloc (.cells #[.int .u8 0, .int .u8 0, .int .u8 0, .int .u8 0, .int .u8 0, .int .u8 0, .int .u8 0, .int .u8 0, .int .u8 0, .int .u8 0, .int .u8 0, .int .u8 0, .int .u8 0, .int .u8 0, .int .u8 0, .int .u8 0, .int .u8 0, .int .u8 0, .int .u8 0, .int .u8 0] 26)) by assumption).2.2.out; go_at_call 5; refine (parse_good2 F B hB bits hbits e (w3.alloc (.cells #[.int .u8 0, .int .u8 0, .int .u8 0, .int .u8 0, .int .u8 0, .int .u8 0, .int .u8 0, .int .u8 0, .int .u8 0, .int .u8 0, .int .u8 0, .int .u8 0, .int .u8 0, .int .u8 0, .int .u8 0, .int .u8 0, .int .u8 0, .int .u8 0, .int .u8 0, .int .u8 0] 26)) HeldK.tape HeldK.eof (by have := HeldK.size; omega) HT.out).mono ?_; rintro e' w4 ⟨rfl, hb4⟩; have hl4 : g < w4.heap.size := (by have := hb4.size; simp at this; omega); have thB : w4.there w3.heap.size 0 20 := (new_below (x := w3) hb4).there))
      all_goals go_wp2_with fail
      all_goals go_meet
      all_goals (refine ⟨_, rfl, rfl, k5_out (bits := bits) (g := g) (by assumption), ?_⟩; show World.rangeAt _ _ _ _; exact World.rangeAt_setCells_same _ _ _ _ (by rw [hlX]; assumption))
    case rest =>
      obtain ⟨gN, rfl, rfl, HK, HN⟩ := hcut
      go_wp2_with (first | refine wpList_load_mid rfl 22 _ rfl h 0 rfl (bcells B 20) _ HK.out.idb.range Tryf.underlying22 rfl (info22 B) ?_)
      refine (zzBitLen_any B hB _).mono ?_
      rintro e' w5 ⟨L, rfl, hL, hb5⟩
      have hLb : (L : Int) ≤ (bits : Int) := by
        have := (hL bits).2 HT.out
        omega
      have HS8 : Hid (w5.rangeAt h 0 (bcells B 20) ∧ w5.rangeAt gN 0 (bcells (fun q => byte (bv B 20 * 2 ^ (160 - bits)) (19 - q)) 20) ∧ Hid (Kp F B e h w w5)) := k8_below ⟨HK.out.idb.range, HN.out, HK⟩ hb5
      clear hL hb5 HK HN
      have hq := fun x => equal22 (fun q => byte (bv B 20 * 2 ^ (160 - bits)) (19 - q)) (fun _ => byte_lt _ _) x
      have hG : Tryf.prog.eqGuardType Tryf.prog.depth 22 = false := by kernel_rfl
      go_wp2_with fail
      refine wp_region_noPanic ?_
      refine wp_region_held_drew (S := (fun x => x.rangeAt h 0 (bcells B 20) ∧ x.rangeAt gN 0 (bcells (fun q => byte (bv B 20 * 2 ^ (160 - bits)) (19 - q)) 20) ∧ Hid (Kp F B e h w x))) (by kernel_rfl) (k8_drew HS8.out) (fun hHeld => ?_)
      refine wpAnyH_take (i := 0) (v := .nilIface) rfl (by kernel_rfl) (by kernel_rfl) (by kernel_rfl) (fun _ _ _ h => h) (Or.inl ⟨by rfl, fun y hy => by go_simp⟩) (by assumption) ?_
      simp only [Act.put, List.setIfInBounds_toArray, List.set_cons_zero, List.set_cons_succ]
      refine wpAnyH_take (i := 1) (v := .bool true) rfl (by kernel_rfl) (by kernel_rfl) (by kernel_rfl) (fun _ _ _ h => h) (Or.inl ⟨by rfl, fun y hy => by go_simp⟩) (by assumption) ?_
      simp only [Act.put, List.setIfInBounds_toArray, List.set_cons_zero, List.set_cons_succ]
      refine wpAnyH_take (i := 2) (v := .bool true) rfl (by kernel_rfl) (by kernel_rfl) (by kernel_rfl) (fun _ _ _ h => h) (Or.inl ⟨by rfl, fun y hy => by go_simp⟩) (by assumption) ?_
      simp only [Act.put, List.setIfInBounds_toArray, List.set_cons_zero, List.set_cons_succ]
      refine wpAnyH_take (i := 3) (v := (.agg (bcells (fun q => byte (bv B 20 * 2 ^ (160 - bits)) (19 - q)) 20).toArray)) rfl (by kernel_rfl) (by kernel_rfl) (by kernel_rfl) (fun _ _ _ h => h) (yieldsIf_load_mid (by rfl) 26 _ rfl gN 0 rfl _ _ (fun y hy => hy.2.1) Tryf.underlying26 rfl (info26 _)) (by assumption) ?_
      simp only [Act.put, List.setIfInBounds_toArray, List.set_cons_zero, List.set_cons_succ]
      refine wpAnyH_take (i := 4) (v := (.agg (bcells B 20).toArray)) rfl (by kernel_rfl) (by kernel_rfl) (by kernel_rfl) (fun _ _ _ h => h) (yieldsIf_load_mid (by rfl) 22 _ rfl h 0 rfl _ _ (fun y hy => hy.1) Tryf.underlying22 rfl (info22 B)) (by assumption) ?_
      simp only [Act.put, List.setIfInBounds_toArray, List.set_cons_zero, List.set_cons_succ]
      refine wpAnyH_take (i := 5) (v := .int .i64 (bits : Int)) rfl (by kernel_rfl) (by kernel_rfl) (by kernel_rfl) (fun _ _ _ h => h) (Or.inl ⟨by rfl, fun y hy => by go_simp⟩) (by assumption) ?_
      simp only [Act.put, List.setIfInBounds_toArray, List.set_cons_zero, List.set_cons_succ]
      refine wpAnyH_take (i := 6) (v := .int .i64 (IntKind.i64.wrap (160 - (bits : Int)))) rfl (by kernel_rfl) (by kernel_rfl) (by kernel_rfl) (fun _ _ _ h => h) (Or.inl ⟨by rfl, fun y hy => by go_simp⟩) (by assumption) ?_
      simp only [Act.put, List.setIfInBounds_toArray, List.set_cons_zero, List.set_cons_succ]
      refine wpAnyH_ready (rs := [7]) (by kernel_rfl) (by simp) ?_
      refine AllReadyH.cons rfl (fun K hK => ?_) AllReadyH.nil
      go_simp
      refine (shift_good3 B hB bits hbits HT.out _).mono ?_
      rintro e' w6 ⟨rfl, hb6⟩
      refine hK.out _ _ (k8_below hHeld hb6) (fun hHeld2 => ?_)
      clear hK K hHeld
      refine wpAnyH_take (i := 8) (oi := { dst := some 44, op := Op.binOp BinOp.eql 22 (Operand.tmp 39) (Operand.tmp 43) 22, type := 4, pos := "laws_pkg_sim_b1.go:331", after := #[{ on := 3, ground := Ground.data }, { on := 7, ground := Ground.data }, { on := 2, ground := Ground.guard }], guard := some (2, true) }) (v := .bool true) rfl (by kernel_rfl) (by kernel_rfl) (by kernel_rfl) (fun _ _ _ h => h) (Or.inl ⟨by rfl, fun y hy => by go_simp⟩) (by assumption) ?_
      simp only [Act.put, List.setIfInBounds_toArray, List.set_cons_zero, List.set_cons_succ]
      refine wpAnyH_take (i := 9) (oi := { dst := some 45, op := Op.pick (Operand.tmp 38) (Operand.tmp 44) (Operand.const (Value.bool false)), type := 4, pos := "laws_pkg_sim_b1.go:331", after := #[{ on := 2, ground := Ground.data }, { on := 8, ground := Ground.data }], guard := none }) (v := .bool true) rfl (by kernel_rfl) (by kernel_rfl) (by kernel_rfl) (fun _ _ _ h => h) (Or.inl ⟨by rfl, fun y hy => by go_simp⟩) (by assumption) ?_
      simp only [Act.put, List.setIfInBounds_toArray, List.set_cons_zero, List.set_cons_succ]
      refine wpAnyH_take (i := 10) (oi := { dst := some 4, op := Op.assign (Operand.tmp 45), type := 4, pos := "laws_pkg_sim_b1.go:331", after := #[{ on := 9, ground := Ground.data }, { on := 7, ground := Ground.chain }, { on := 0, ground := Ground.phase }, { on := 1, ground := Ground.phase }, { on := 2, ground := Ground.phase }, { on := 3, ground := Ground.phase }, { on := 4, ground := Ground.phase }, { on := 5, ground := Ground.phase }, { on := 6, ground := Ground.phase }, { on := 7, ground := Ground.phase }, { on := 8, ground := Ground.phase }, { on := 9, ground := Ground.phase }], guard := none }) (v := .bool true) rfl (by kernel_rfl) (by kernel_rfl) (by kernel_rfl) (fun _ _ _ h => h) (Or.inl ⟨by rfl, fun y hy => by go_simp⟩) (by assumption) ?_
      simp only [Act.put, List.setIfInBounds_toArray, List.set_cons_zero, List.set_cons_succ]
      refine wpAnyH_done (by kernel_rfl) ?_ _
      refine NoPanic.normal ?_
      go_wp2_with fail
      go_ret
      refine ⟨rfl, ?_⟩
      rw [HH.out]
      exact hHeld2.2.2.out.bel
  · have HT : Hid (¬ bv B 20 < 2 ^ bits) := hT
    clear hT
    go_cut [7, 8] (fun s7 s8 wx => ∃ gN p, s7 = .pointer (some ⟨gN, 0, none⟩) ∧ s8 = .iface 79 (.pointer (some p)) ∧ Hid (Kp F B e h w wx) ∧ Hid (wx.rangeAt gN 0 (bcells (fun _ => 0) 20)))
    case first =>
      have hiX := info26 (fun _ => 0)
      have hlX := bcells_length (fun _ => 0)
      have hcX := bcells_cells (fun _ => 0)
      go_region_held3 (fun x => x.rangeAt h 0 (bcells B 20) ∧ x.cell? ⟨g, 0, none⟩ = some (.int .i64 (bits : Int)) ∧ Hid (Kp F B e h w x)) (first | with_reducible exact k5_drew HS5.out | with_reducible exact k5_drew (k5_alloc HS5.out _) | with_reducible exact k5_alloc (by assumption) _ | with_reducible exact k5_below (by assumption) (by assumption) | with_reducible exact k5_set (by assumption) _ _ (by omega) (by omega))
        (first
        | (go_at_call 6; refine (idString_any B hB _).mono ?_; rintro e' w3 ⟨rfl, hb3⟩; have hl3 : g < w3.heap.size := (by have := hb3.size; simp at this; omega); (try (have N3 : Hid (BlkT 26 w3 w2.heap.size (fun _ => 0)) := new_below (x := w2) ⟨hb3.os, hb3.tape, hb3.output, hb3.size, hb3.block⟩; have hn3 : w2.heap.size < w3.heap.size := (by have := hb3.size; simp at this; omega))))
        | (have HeldK : Kp F B e h w w3 := (show (fun x => x.rangeAt h 0 (bcells B 20) ∧ x.cell? ⟨g, 0, none⟩ = some (.int .i64 (bits : Int)) ∧ Hid (Kp F B e h w x)) w3 by assumption).2.2.out; go_at_call 5; refine (parse_bad2 F B hB bits hbits e w3 HeldK.tape HeldK.eof (by have := HeldK.size; omega) HT.out).mono ?_; rintro e' w4 ⟨⟨p, rfl⟩, hb4⟩; have hl4 : g < w4.heap.size := (by have := hb4.size; omega); have thC := there_new w4; (try (have thA : w4.there w2.heap.size 0 20 := (N3.out.below hb4 (by omega)).there)))
        | (have HeldK : Kp F B e h w (w3.alloc (.cells #[.int .u8 0, .int .u8 0, .int .u8 0, .int .u8 0, .int .u8 0, .int .u8 0, .int .u8 0, .int .u8 0, .int .u8 0, .int .u8 0, .int .u8 0, .int .u8 0, .int .u8 0, .int .u8 0, .int .u8 0, .int .u8 0, .int .u8 0, .int .u8 0, .int .u8 0, .int .u8 0] 26)) := (show (fun x => x.rangeAt h 0 (bcells B 20) ∧ x.cell? ⟨g, 0, none⟩ = some (.int .i64 (bits : Int)) ∧ Hid (Kp F B e h w x)) (w3.alloc (.cells #[.int .u8 0, .int .u8 0, .int .u8 0, .int .u8 0, .int .u8 0, .int .u8 0, .int .u8 0, .int .u8 0, .int .u8 0, .int .u8 0, .int .u8 0, .int .u8 0, .int .u8 0, .int .u8 0, .int .u8 0, .int .u8 0, .int .u8 0, .int .u8 0, .int .u8 0, .int .u8 0] 26)) by assumption).2.2.out; go_at_call 5; refine (parse_bad2 F B hB bits hbits e (w3.alloc (.cells #[.int .u8 0, .int .u8 0, .int .u8 0, .int .u8 0, .int .u8 0, .int .u8 0, .int .u8 0, .int .u8 0, .int .u8 0, .int .u8 0, .int .u8 0, .int .u8 0, .int .u8 0, .int .u8 0, .int .u8 0, .int .u8 0, .int .u8 0, .int .u8 0, .int .u8 0, .int .u8 0] 26)) HeldK.tape HeldK.eof (by have := HeldK.size; omega) HT.out).mono ?_; rintro e' w4 ⟨⟨p, rfl⟩, hb4⟩; have hl4 : g < w4.heap.size := (by have := hb4.size; simp at this; omega); have thB : w4.there w3.heap.size 0 20 := (new_below (x := w3) hb4).there))
      all_goals go_wp2_with fail
      all_goals go_meet
      all_goals (refine ⟨_, _, rfl, rfl, k5_out (bits := bits) (g := g) (by assumption), ?_⟩; show World.rangeAt _ _ _ _; exact World.rangeAt_setCells_same _ _ _ _ (by rw [hlX]; assumption))
    case rest =>
      obtain ⟨gN, p, rfl, rfl, HK, HN⟩ := hcut
      go_wp2_with (first | refine wpList_load_mid rfl 22 _ rfl h 0 rfl (bcells B 20) _ HK.out.idb.range Tryf.underlying22 rfl (info22 B) ?_)
      refine (zzBitLen_any B hB _).mono ?_
      rintro e' w5 ⟨L, rfl, hL, hb5⟩
      have hLb : (bits : Int) < (L : Int) := by
        have := mt (hL bits).1 HT.out
        omega
      have HK5 : Hid (Kp F B e h w w5) := HK.out.below hb5
      have HN5 : Hid (w5.rangeAt gN 0 (bcells (fun _ => 0) 20)) := rangeAt_below HN.out hb5 (rangeAt_lt HN.out)
      clear hL hb5 HK HN
      have hq := fun x => equal22 (fun _ => 0) (fun _ => by decide) x
      have hG : Tryf.prog.eqGuardType Tryf.prog.depth 22 = false := by kernel_rfl
      go_wp2_with (first
        | (refine wpList_step (fun K hK => ?_); rw [if_pos (by rfl)]; refine wp_load_mid 26 _ rfl gN 0 rfl _ _ HN5.out Tryf.underlying26 rfl (info26 _) (hK _ _ ?_); clear hK K)
        | (refine wpList_step (fun K hK => ?_); rw [if_pos (by rfl)]; refine wp_load_mid 22 _ rfl (h + 1) 0 rfl _ _ HK5.out.zero.range Tryf.underlying22 rfl (info22 _) (hK _ _ ?_); clear hK K))
      go_ret
      refine ⟨rfl, ?_⟩
      rw [HH.out]
      exact HK5.out.bel
end Go.Proofs.Qxb6608999aFmt
