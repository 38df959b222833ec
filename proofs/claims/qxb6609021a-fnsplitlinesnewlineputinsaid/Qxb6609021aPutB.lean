/-
  'FnSplitLinesNewlinePutIn': its walk.
-/
import Derived.Test.Qxb6609021aPutA
namespace Go.Proofs.Qxb6609021a
open Go.RowKit
set_option linter.unusedVariables false

set_option maxHeartbeats 4000000 in
set_option maxRecDepth 1000000 in
theorem put_walk_nil (a : Option Addr) (l : List UInt8) (cap : Nat) (p : Nat) (w : World) (hl : l.length ≤ 65536) (hp : p ≤ l.length) (h : CameIn w a l cap) (hpl0 : p = l.length ∧ l = []) :
    Calls Try.prog 4 #[.slice a l.length cap, .int .i64 p] w fun e w' => e = .returned (.bool true) ∧ Below w.heap.size w w' := by
  have HPL0 : Hid (p = l.length ∧ l = []) := hpl0
  clear hpl0
  obtain ⟨h1, h2, h3, h4⟩ := h
  obtain ⟨i5, hi5, hz50, hz51, hz52⟩ := info_parts info5
  obtain ⟨i0, hi, hz0, hz1, hz2⟩ := info_parts info9
  have hne := fun w => run_neq_slice_nil_any (P := Try.prog) w 22 5 a l.length cap 0 0 Try.underlying22
  have H3 : Hid (a = none → l = [] ∧ cap = 0) := h3
  have H4 : Hid (∀ x, a = some x → ∀ i (h : i < l.length), w.cell? (x.add i) = some (.int .u8 (l[i].toNat : Int))) := h4
  clear h3 h4
  go_enter Try.func4, Try.ntmps4
  go_upto_if 36 with (go_at_call 13; refine (zzBytes_ok 13 (Or.inr rfl) a l.length cap _ w (by omega)).mono ?_; rintro e wz ⟨rfl, hz⟩; subst hz)
  go_cut [0, 5] (fun t z wc => ∃ ao cap', t = .slice ao l.length cap' ∧ Text wz wc ao l cap')
  case first =>
    cases a with
    | none =>
      obtain ⟨rfl, rfl⟩ := H3.out rfl
      go_wp2_with fail
      go_meet
      case rel => exact ⟨none, 0, rfl, rfl, fun _ => rfl, Or.inl rfl, fun h => absurd rfl h, Below.refl _ _⟩
    | some x =>
      have HS : Hid (∀ j v, (bcells l)[j]? = some v → wz.cell? (x.add j) = some v) := bcells_src (H4.out x rfl)
      go_wp2_with (at_make; refine wpList_make_full _ rfl _ _ 22 rfl wz.heap.size 5 i5 (.int .u8 0) 1 Try.underlying22 hi5 hz50 hz51 _ _ _ _ l.length rfl rfl rfl rfl (by rw [hz52]; omega) (by unfold maxLen; omega) (Nat.le_refl _) ?_)
      intro w1 hown hgrow
      obtain ⟨cur, hcur, hcs, _⟩ := heap_of_own hown
      have hb1 : Below wz.heap.size wz w1 := (Below.refl _ _).grown hgrow (Nat.le_refl _) (fun k h => nomatch h)
      have HB1 : Hid (Below wz.heap.size wz w1) := hb1
      have HCU : Hid (w1.heap[wz.heap.size]? = some (.cells cur 5 (0, 0))) := hcur
      have HCS : Hid (cur.size = l.length) := hcs
      clear hown hgrow hcur hcs hb1
      go_wp2_with (refine wpList_copy_splice rfl (.tmp 40) (.tmp 41) 22 22 rfl 5 Try.underlying22 info5s _ _ _ _ _ _ rfl rfl wz.heap.size 0 cur.toList 5 (by simpa using HCU.out) (bcells l) ?k1 ?k2 ?k3 (bcells_one l) wz.heap.size wz HB1.out (Nat.le_refl _) ?k4)
      case k1 => rw [bcells_length]; exact (Nat.min_self _).symm
      case k2 => exact fun _ j v hj => cell_later HB1.out (HS.out j v hj)
      case k3 => have := HCS.out; rw [bcells_length]; simp; omega
      case k4 =>
        intro w2 hw2 hb2
        have HB2 : Hid (Below wz.heap.size wz w2) := hb2
        clear hb2
        go_wp2_with fail
        go_meet
        case rel => exact ⟨_, _, rfl, text_copied hw2.out HCS.out HB2.out⟩
  case rest =>
    obtain ⟨ao, cap', rfl, ht⟩ := hcut
    have HT : Hid (Text wz wc ao l cap') := ht
    obtain ⟨ht1, ht2, ht3, ht4, ht5⟩ := ht
    have hnn : ao = none → cap' = 0 := fun e => by rw [ht1, ht2 e]; rfl
    have HN : Hid (ao = none → cap' = 0) := hnn
    have HR : Hid (Reads wc wc.heap.size ao l) := ht4
    have hcl : l.length ≤ cap' := by omega
    have hcm : cap' ≤ 65536 := by omega
    clear ht1 ht2 ht3 ht4 ht5 hnn hne H3 H4
    have HBZ : Hid (Below wz.heap.size wz wc) := HT.out.2.2.2.2
    clear HT
    go_wp2_with (at_make; refine wpList_make_own _ rfl _ _ 22 rfl wc.heap.size 5 i5 (.int .u8 0) 1 Try.underlying22 hi5 hz50 hz51 _ _ _ (l.length + 1) rfl rfl (by omega) (by rw [hz52]; omega) (by unfold maxLen; omega) (Nat.le_refl _) ?_)
    intro w1 hown1 hgrow1
    have HO1 : Hid (w1.ownsRow wc.heap.size 5 1 (.slice (some ⟨wc.heap.size, 0, none⟩) 0 (l.length + 1)) 0 []) := hown1
    have HB1 : Hid (Below wc.heap.size wc w1) := (Below.refl _ _).grown hgrow1 (Nat.le_refl _) (fun k h => nomatch h)
    clear hown1 hgrow1
    go_wp2_with fail
    go_loopg [6, 7] p (fun k vG t wx => ∃ j : Nat, t = .int .i64 j ∧ j ≤ p ∧ p - j ≤ k ∧ wx.ownsRow wc.heap.size 5 1 vG (l.take j).length (bcells (l.take j)) ∧ Below wc.heap.size wc wx)
    case atStart => exact ⟨0, rfl, Nat.zero_le _, Nat.le_refl _, HO1.out, HB1.out⟩
    case round =>
      obtain ⟨j, rfl, hj, hk, ho, hb⟩ := hrel
      by_cases hlt : j < p
      · have hlj : j < l.length := by omega
        obtain ⟨b, o, rfl, hbl, hcell⟩ := HR.out (fun e => by rw [e] at hlj; simp at hlj)
        have c2 : wr.cell? ⟨b, o + j, none⟩ = some (.int .u8 (l[j].toNat : Int)) := (hb.cell (p := ⟨b, o + j, none⟩) hbl).trans (hcell j hlj)
        clear hcell
        obtain ⟨M, hM⟩ : ∃ M, l.take j = M := ⟨_, rfl⟩
        have hml : M.length ≤ 200000 := by rw [← hM, List.length_take]; omega
        have HM : Hid (M ++ [l[j]] = l.take (j + 1)) := by
          subst hM
          show _ = l.take (j + 1)
          exact (take_next l j hlj)
        rw [hM] at ho
        clear hM
        have HO : Hid (wr.ownsRow wc.heap.size 5 1 u6 M.length (bcells M)) := ho
        have HB' : Hid (Below wc.heap.size wc wr) := hb
        have hbs := hb.size
        clear ho hb
        go_wp2_with (at_builtin; refine wpList_append_own _ rfl _ _ 22 rfl wc.heap.size 5 i5 (.int .u8 0) 1 1 Try.underlying22 hi5 hz50 hz51 hz52 rfl (by decide) _ _ _ rfl (HO.out.alloc _) ⟨wr.heap.size, 0, none⟩ 1 1 [.int .u8 ((l[j]).toNat : Int)] rfl rfl ?ba1 ?ba2 ?ba3 ?ba4 ?ba5 ?_)
        case ba1 => exact one_cell wr (.int .u8 ((l[j]).toNat : Int)) 5
        case ba2 => intro u hu; simp at hu; subst hu; rfl
        case ba3 => unfold maxLen; omega
        case ba4 => omega
        case ba5 => simp; omega
        intro v' w6 hown' hgrow _
        have R := push_byte HM.out HO.out HB'.out hbs hgrow hown'
        have HR1 : Hid (w6.ownsRow wc.heap.size 5 1 v' (l.take (j + 1)).length (bcells (l.take (j + 1)))) := R.1
        have HR2 : Hid (Below wc.heap.size wc w6) := R.2
        clear R hown' hgrow HM HO HB'
        go_wp2_with fail
        go_roundg (p - (j + 1))
        case measure => omega
        case rel => exact ⟨j + 1, by go_num, by omega, by omega, HR1.out, HR2.out⟩
      · obtain rfl : p = j := by omega
        obtain ⟨M, hM⟩ : ∃ M, l.take p = M := ⟨_, rfl⟩
        have hml : M.length ≤ 200000 := by rw [← hM, List.length_take]; omega
        have HM : Hid (M ++ [(10 : UInt8)] = l.take p ++ [10]) := by
          subst hM
          show _ = l.take p ++ [10]
          exact (rfl)
        rw [hM] at ho
        clear hM
        have HO : Hid (wr.ownsRow wc.heap.size 5 1 u6 M.length (bcells M)) := ho
        have HB' : Hid (Below wc.heap.size wc wr) := hb
        have hbs := hb.size
        clear ho hb
        go_wp2_with (at_builtin; refine wpList_append_own _ rfl _ _ 22 rfl wc.heap.size 5 i5 (.int .u8 0) 1 1 Try.underlying22 hi5 hz50 hz51 hz52 rfl (by decide) _ _ _ rfl (HO.out.alloc _) ⟨wr.heap.size, 0, none⟩ 1 1 [.int .u8 (((10 : UInt8)).toNat : Int)] rfl rfl ?bb1 ?bb2 ?bb3 ?bb4 ?bb5 ?_)
        case bb1 => exact one_cell wr (.int .u8 (((10 : UInt8)).toNat : Int)) 5
        case bb2 => intro u hu; simp at hu; subst hu; rfl
        case bb3 => unfold maxLen; omega
        case bb4 => omega
        case bb5 => simp; omega
        intro v' w6 hown' hgrow _
        have R := push_byte HM.out HO.out HB'.out hbs hgrow hown'
        have HR1 : Hid (w6.ownsRow wc.heap.size 5 1 v' (l.take p ++ [10]).length (bcells (l.take p ++ [10]))) := R.1
        have HR2 : Hid (Below wc.heap.size wc w6) := R.2
        clear R hown' hgrow HM HO HB'
        go_wp2_with fail
        go_loopg [6, 8] (l.length - p) (fun k vG t wx => ∃ i : Nat, t = .int .i64 ((p : Int) + i) ∧ p + i ≤ l.length ∧ l.length - p - i ≤ k ∧ wx.ownsRow wc.heap.size 5 1 vG (l.take p ++ [10] ++ (l.drop p).take i).length (bcells (l.take p ++ [10] ++ (l.drop p).take i)) ∧ Below wc.heap.size wc wx)
        case atStart => exact ⟨0, by go_num, by omega, by omega, by rw [List.take_zero, List.append_nil]; exact HR1.out, HR2.out⟩
        case round =>
          clear HR1 HR2
          obtain ⟨i, rfl, hi', hk', ho, hb⟩ := hrel
          by_cases hlt' : p + i < l.length
          · obtain ⟨b, o, rfl, hbl, hcell⟩ := HR.out (fun e => by rw [e] at hlt'; simp at hlt')
            have c2 : wr.cell? ⟨b, o + (p + i), none⟩ = some (.int .u8 (l[p + i].toNat : Int)) := (hb.cell (p := ⟨b, o + (p + i), none⟩) hbl).trans (hcell (p + i) hlt')
            have k0 : ((p : Int) + (i : Int)).toNat = p + i := by omega
            clear hcell
            obtain ⟨M, hM⟩ : ∃ M, l.take p ++ [10] ++ (l.drop p).take i = M := ⟨_, rfl⟩
            have hml : M.length ≤ 200000 := by rw [← hM, List.length_append, List.length_append, List.length_take, List.length_take, List.length_drop]; simp; omega
            have HM : Hid (M ++ [l[p + i]] = l.take p ++ [10] ++ (l.drop p).take (i + 1)) := by
              subst hM
              show _ = l.take p ++ [10] ++ (l.drop p).take (i + 1)
              exact (by rw [List.append_assoc (l.take p ++ [10]), ← take_next (l.drop p) i (by rw [List.length_drop]; omega), List.getElem_drop])
            rw [hM] at ho
            clear hM
            have HO : Hid (wr.ownsRow wc.heap.size 5 1 u6 M.length (bcells M)) := ho
            have HB' : Hid (Below wc.heap.size wc wr) := hb
            have hbs := hb.size
            clear ho hb
            go_wp2_with (at_builtin; refine wpList_append_own _ rfl _ _ 22 rfl wc.heap.size 5 i5 (.int .u8 0) 1 1 Try.underlying22 hi5 hz50 hz51 hz52 rfl (by decide) _ _ _ rfl (HO.out.alloc _) ⟨wr.heap.size, 0, none⟩ 1 1 [.int .u8 ((l[p + i]).toNat : Int)] rfl rfl ?bc1 ?bc2 ?bc3 ?bc4 ?bc5 ?_)
            case bc1 => exact one_cell wr (.int .u8 ((l[p + i]).toNat : Int)) 5
            case bc2 => intro u hu; simp at hu; subst hu; rfl
            case bc3 => unfold maxLen; omega
            case bc4 => omega
            case bc5 => simp; omega
            intro v' w6 hown' hgrow _
            have R := push_byte HM.out HO.out HB'.out hbs hgrow hown'
            have HR1 : Hid (w6.ownsRow wc.heap.size 5 1 v' (l.take p ++ [10] ++ (l.drop p).take (i + 1)).length (bcells (l.take p ++ [10] ++ (l.drop p).take (i + 1)))) := R.1
            have HR2 : Hid (Below wc.heap.size wc w6) := R.2
            clear R hown' hgrow HM HO HB'
            go_wp2_with fail
            go_roundg (l.length - p - (i + 1))
            case measure => omega
            case rel => exact ⟨i + 1, by go_num, by omega, by omega, HR1.out, HR2.out⟩
          · have hdr : (l.drop p).take i = l.drop p := List.take_of_length_le (by rw [List.length_drop]; omega)
            have HG : Hid (wr.ownsRow wc.heap.size 5 1 u6 (grown l p).length (bcells (grown l p))) := by
              have e : grown l p = l.take p ++ [10] ++ (l.drop p).take i := by rw [hdr]; unfold grown; simp
              rw [e]
              exact ho
            have HBG : Hid (Below wc.heap.size wc wr) := hb
            clear ho hb hdr
            obtain ⟨g6, c6, rfl, hc6, hm6, hr6⟩ := own_text HG.out (by unfold grown; simp)
            have HRG : Hid (Reads wr wr.heap.size (some ⟨g6, 0, none⟩) (grown l p)) := hr6
            have HR0 : Hid (Reads wr wr.heap.size ao l) := HR.out.step HBG.out
            have HB0 : Hid (Below wz.heap.size wz wr) := below_step HBZ.out HBG.out
            have hgl : (grown l p).length ≤ 65537 := by rw [grown_length l p hp]; omega
            clear hr6 HG HBG HBZ HR HO1 HB1
            go_wp2_with fail
            refine (split_all (by omega) hcl (by omega) HR0.out HN.out).mono ?_
            rintro e w2 ⟨vA, rfl, hrow, hbel⟩
            have HA2 : Hid (SRow w2 w2.heap.size vA (lines l)) := hrow
            have HB2 : Hid (Below wr.heap.size wr w2) := hbel
            clear hrow hbel
            go_wp2_with fail
            refine (split_all hgl hc6 hm6 (HRG.out.step HB2.out) (fun h => nomatch h)).mono ?_
            rintro e w3 ⟨vB, rfl, hrow, hbel⟩
            have HC3 : Hid (SRow w3 w3.heap.size vB (lines (grown l p))) := hrow
            have HB3 : Hid (Below w2.heap.size w2 w3) := hbel
            have HA3 : Hid (SRow w3 w3.heap.size vA (lines l)) := HA2.out.step hbel
            clear hrow hbel
            go_wp2_with fail
            refine (concat_lines vA l ao cap' w3.heap.size w3 (by omega) HA3.out ((HR0.out.step HB2.out).step HB3.out)).mono ?_
            rintro e w4 ⟨rfl, n4, hw4⟩
            have HB4 : Hid (Below w3.heap.size w3 w4) := by rw [hw4]; exact below_draws _ _
            clear hw4
            have HB : Hid (Below wz.heap.size wz w4) := below_step (below_step (below_step HB0.out HB2.out) HB3.out) HB4.out
            have HC : Hid (SRow w4 w4.heap.size vB (lines (grown l p))) := HC3.out.step HB4.out
            have hrowA := HA3.out.step HB4.out
            obtain ⟨LS, hLS⟩ : ∃ LS, lines l = LS := ⟨_, rfl⟩
            have nS : LS.length ≤ 65536 := by
              have := lines_length_le l
              rw [hLS] at this
              omega
            rw [hLS] at hrowA
            have HLS : Hid (lines l = LS) := hLS
            obtain ⟨aL, cL, rfl, hcL, hrL⟩ := hrowA
            have HL : Hid (∀ i (h : i < LS.length), ∃ g, aL = some ⟨g, 0, none⟩ ∧ g < w4.heap.size ∧ w4.cell? ⟨g, i, none⟩ = some (.string (str LS[i]))) := hrL
            clear hLS hrL HA3 HA2 HC3 HB4 HB3 HB2 HB0 HR0 HRG
            go_wp2_with (at_make; refine wpList_make_own _ rfl _ _ 24 rfl w4.heap.size 9 i0 (.string ByteArray.empty) 1 Try.underlying24 hi hz0 hz1 _ _ _ (LS.length + 1) rfl rfl (by omega) (by rw [hz2]; omega) (by unfold maxLen; omega) (Nat.le_refl _) ?_)
            intro w5 hown5 hgrow5
            have HO5 : Hid (w5.ownsRow w4.heap.size 9 1 (.slice (some ⟨w4.heap.size, 0, none⟩) 0 (LS.length + 1)) 0 []) := hown5
            have HB5 : Hid (Below w4.heap.size w4 w5) := (Below.refl _ _).grown hgrow5 (Nat.le_refl _) (fun k h => nomatch h)
            clear hown5 hgrow5
            go_upto_if 92 with fail
            go_cut [11] (fun vW wx => wx.ownsRow w4.heap.size 9 1 vW (lines (grown l p)).length ((lines (grown l p)).map sv) ∧ Below w4.heap.size w4 wx)
            case first =>
              have hpl := HPL0.out.1
              have HGe : Hid (lines (grown l p) = lines (l ++ [10])) := by
                show lines (grown l p) = lines (l ++ [10])
                rw [hpl, grown_end]
              have b1 : ((p : Int) == (l.length : Int)) = true := beq_iff_eq.2 (by omega)
              have HPL : Hid (p = l.length) := hpl
              clear hpl
              have HQ : Hid (endB l = true) := decide_eq_true (Or.inl HPL0.out.2)
              have h0 : LS.length = 0 := by
                have := congrArg List.length (HLS.out.symm.trans (lines_eq_nil.2 HPL0.out.2))
                simpa using this
              have d0 : decide ((LS.length : Int) - 1 < 0) = true := decide_eq_true (by omega)
              have hS0 : LS.length ≤ 0 := by omega
              clear h0
              have HA : Hid (lines (grown l p) = LS ++ [[10]]) := by
                have := HGe.out.trans (end_yes HQ.out)
                rwa [HLS.out] at this
              go_wp2_with fail
              go_loopg [11, 13] LS.length (fun k vW t wx => ∃ j : Nat, t = .int .i64 j ∧ j ≤ LS.length ∧ LS.length - j ≤ k ∧ wx.ownsRow w4.heap.size 9 1 vW (LS.take j).length ((LS.take j).map sv) ∧ Below w4.heap.size w4 wx)
              case atStart => exact ⟨0, rfl, Nat.zero_le _, Nat.le_refl _, HO5.out, HB5.out⟩
              case round =>
                obtain ⟨j, rfl, hj, hk, ho, hb⟩ := hrel
                by_cases hlt : j < LS.length
                · exact absurd hlt (by omega)
                · obtain rfl : j = LS.length := by omega
                  rw [List.take_length] at ho
                  obtain ⟨M, hM⟩ : ∃ M, LS = M := ⟨_, rfl⟩
                  have hml : M.length ≤ 200000 := by rw [← hM]; omega
                  have HM : Hid (M ++ [([10] : List UInt8)] = LS ++ [[10]]) := by
                    subst hM
                    show _ = LS ++ [[10]]
                    exact (rfl)
                  rw [hM] at ho
                  clear hM
                  have HO : Hid (wr.ownsRow w4.heap.size 9 1 u11 M.length (M.map sv)) := ho
                  have HB' : Hid (Below w4.heap.size w4 wr) := hb
                  have hbs := hb.size
                  clear ho hb
                  go_wp2_with (at_builtin; refine wpList_append_own _ rfl _ _ 24 rfl w4.heap.size 9 i0 (.string ByteArray.empty) 1 16 Try.underlying24 hi hz0 hz1 hz2 rfl (by decide) _ _ _ rfl (HO.out.alloc _) ⟨wr.heap.size, 0, none⟩ 1 1 [.string (str (([10] : List UInt8)))] rfl rfl ?pb1 ?pb2 ?pb3 ?pb4 ?pb5 ?_)
                  case pb1 => exact one_cell wr (.string (str (([10] : List UInt8)))) 9
                  case pb2 => intro u hu; simp at hu; subst hu; rfl
                  case pb3 => unfold maxLen; omega
                  case pb4 => omega
                  case pb5 => simp; omega
                  intro v' w6 hown' hgrow _
                  have R := push_to HM.out HO.out HB'.out hbs hgrow hown'
                  have HR1 : Hid (w6.ownsRow w4.heap.size 9 1 v' (LS ++ [[10]]).length ((LS ++ [[10]]).map sv)) := R.1
                  have HR2 : Hid (Below w4.heap.size w4 w6) := R.2
                  clear R hown' hgrow HM HO HB'
                  go_wp2_with fail
                  go_meet
                  case rel => exact ⟨by rw [HA.out]; exact HR1.out, HR2.out⟩
            case rest =>
              obtain ⟨ho, hb⟩ := hcut
              have HY : Hid (SRow wc wc.heap.size u11 (lines (grown l p))) := SRow.of_own ho
              have HX : Hid (SRow wc wc.heap.size vB (lines (grown l p))) := HC.out.step hb
              have HZ : Hid (Below wz.heap.size wz wc) := below_step HB.out hb
              clear ho hb
              go_wp2_with fail
              refine (eq_any vB u11 (lines (grown l p)) wc.heap.size wc (by have := lines_length_le (grown l p); omega) HX.out HY.out).mono ?_
              rintro e w9 ⟨rfl, n, rfl⟩
              go_wp2_with fail
              go_ret
              exact ⟨rfl, below_drewN HZ.out n⟩
end Go.Proofs.Qxb6609021a
