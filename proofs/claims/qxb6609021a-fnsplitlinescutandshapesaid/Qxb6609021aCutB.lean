/-
  'FnSplitLinesCutAndShape': its walk.
-/
import Derived.Test.Qxb6609021aCutA
namespace Go.Proofs.Qxb6609021a
open Go.RowKit
set_option linter.unusedVariables false

set_option maxHeartbeats 4000000 in
set_option maxRecDepth 1000000 in
theorem cut_walk (a : Option Addr) (l : List UInt8) (cap : Nat) (c : Nat) (w : World) (hl : l.length ≤ 65536) (hc : c ≤ l.length) (h : CameIn w a l cap) :
    Calls Try.prog 3 #[.slice a l.length cap, .int .i64 c] w fun e w' => e = .returned (.bool true) ∧ Below w.heap.size w w' := by
  obtain ⟨h1, h2, h3, h4⟩ := h
  obtain ⟨i5, hi5, hz50, hz51, hz52⟩ := info_parts info5
  obtain ⟨i0, hi, hz0, hz1, hz2⟩ := info_parts info9
  have hne := fun w => run_neq_slice_nil_any (P := Try.prog) w 22 5 a l.length cap 0 0 Try.underlying22
  have H3 : Hid (a = none → l = [] ∧ cap = 0) := h3
  have H4 : Hid (∀ x, a = some x → ∀ i (h : i < l.length), w.cell? (x.add i) = some (.int .u8 (l[i].toNat : Int))) := h4
  clear h3 h4
  go_enter Try.func3, Try.ntmps3
  go_upto_if 30 with (go_at_call 9; refine (zzBytes_ok 9 (Or.inl rfl) a l.length cap _ w (by omega)).mono ?_; rintro e wz ⟨rfl, hz⟩; subst hz)
  go_cut [0, 5] (fun t z wc => ∃ ao cap', t = .slice ao l.length cap' ∧ Text wz wc ao l cap')
  case first =>
    cases a with
    | none =>
      obtain ⟨rfl, rfl⟩ := H3.out rfl
      go_wp2_with fail
      go_meet
      case rel => exact ⟨none, 0, rfl, rfl, fun _ => rfl, Or.inl rfl, fun h => absurd rfl h, Below.refl _ _⟩
    | some x =>
      have HS : Hid (∀ j v, (bcells l)[j]? = some v → wz.cell? (x.add j) = some v) := bcells_src (H4.out x rfl)
      go_wp2_with (at_make; refine wpList_make_full _ rfl _ _ 22 rfl wz.heap.size 5 i5 (.int .u8 0) 1 Try.underlying22 hi5 hz50 hz51 _ _ _ _ l.length rfl rfl rfl rfl (by rw [hz52]; omega) (by unfold maxLen; omega) (Nat.le_refl _) ?_)
      intro w1 hown hgrow
      obtain ⟨cur, hcur, hcs, _⟩ := heap_of_own hown
      have hb1 : Below wz.heap.size wz w1 := (Below.refl _ _).grown hgrow (Nat.le_refl _) (fun k h => nomatch h)
      have HB1 : Hid (Below wz.heap.size wz w1) := hb1
      have HCU : Hid (w1.heap[wz.heap.size]? = some (.cells cur 5 (0, 0))) := hcur
      have HCS : Hid (cur.size = l.length) := hcs
      clear hown hgrow hcur hcs hb1
      go_wp2_with (refine wpList_copy_splice rfl (.tmp 34) (.tmp 35) 22 22 rfl 5 Try.underlying22 info5s _ _ _ _ _ _ rfl rfl wz.heap.size 0 cur.toList 5 (by simpa using HCU.out) (bcells l) ?k1 ?k2 ?k3 (bcells_one l) wz.heap.size wz HB1.out (Nat.le_refl _) ?k4)
      case k1 => rw [bcells_length]; exact (Nat.min_self _).symm
      case k2 => exact fun _ j v hj => cell_later HB1.out (HS.out j v hj)
      case k3 => have := HCS.out; rw [bcells_length]; simp; omega
      case k4 =>
        intro w2 hw2 hb2
        have HB2 : Hid (Below wz.heap.size wz w2) := hb2
        clear hb2
        go_wp2_with fail
        go_meet
        case rel => exact ⟨_, _, rfl, text_copied hw2.out HCS.out HB2.out⟩
  case rest =>
    obtain ⟨ao, cap', rfl, ht⟩ := hcut
    have HT : Hid (Text wz wc ao l cap') := ht
    obtain ⟨ht1, ht2, ht3, ht4, ht5⟩ := ht
    have hnn : ao = none → cap' = 0 := fun e => by rw [ht1, ht2 e]; rfl
    have HN : Hid (ao = none → cap' = 0) := hnn
    have HR : Hid (Reads wc wc.heap.size ao l) := ht4
    have hcl : l.length ≤ cap' := by omega
    have hcm : cap' ≤ 65536 := by omega
    clear ht1 ht2 ht3 ht4 ht5 hnn hne H3 H4
    obtain ⟨ao2, hsf, hn2, hr2⟩ := slice_from HT.out c hc
    have hst := slice_to HT.out c hc
    have HN2 : Hid (ao2 = none → cap' - c = 0) := hn2
    have HR2 : Hid (∀ w B, Reads w B ao l → Reads w B ao2 (l.drop c)) := hr2
    clear hn2 hr2
    go_wp2_with fail
    refine (split_all (by omega) hcl (by omega) HR.out HN.out).mono ?_
    rintro e w1 ⟨v, rfl, hrow, hbel⟩
    have HW1 : Hid (SRow w1 w1.heap.size v (lines l)) := hrow
    have HB1 : Hid (Below wc.heap.size wc w1) := hbel
    have HR1 : Hid (Reads w1 w1.heap.size ao l) := HR.out.step hbel
    clear hrow hbel
    go_wp2_with fail
    refine (isLines_lines v l ao cap' w1.heap.size w1 (by omega) HW1.out HR1.out).mono ?_
    rintro e w2 ⟨rfl, n2, hw2⟩
    have HB2 : Hid (Below w1.heap.size w1 w2) := by rw [hw2]; exact below_draws _ _
    have HR2' : Hid (Reads w2 w2.heap.size ao l) := HR1.out.step HB2.out
    clear hw2
    go_wp2_with fail
    refine (split_take hl hc hcl hcm HR2'.out HN.out).mono ?_
    rintro e w3 ⟨vL, rfl, hrow, hbel⟩
    have HB3 : Hid (Below w2.heap.size w2 w3) := hbel
    have HR3 : Hid (Reads w3 w3.heap.size ao l) := HR2'.out.step hbel
    have HL3 : Hid (SRow w3 w3.heap.size vL (lines (l.take c))) := hrow
    clear hrow hbel
    go_wp2_with fail
    refine (split_drop hl hc hcl hcm (HR2.out _ _ HR3.out) HN2.out).mono ?_
    rintro e w4 ⟨vR, rfl, hrow, hbel⟩
    have HB4 : Hid (Below w3.heap.size w3 w4) := hbel
    have HR4 : Hid (Reads w4 w4.heap.size ao l) := HR3.out.step hbel
    have hrowL := HL3.out.step hbel
    have HB : Hid (Below wz.heap.size wz w4) := below_step (below_step (below_step (below_step HT.out.2.2.2.2 HB1.out) HB2.out) HB3.out) HB4.out
    have HW : Hid (SRow w4 w4.heap.size v (lines l)) := ((HW1.out.step HB2.out).step HB3.out).step HB4.out
    obtain ⟨LL, hLL⟩ : ∃ LL, lines (l.take c) = LL := ⟨_, rfl⟩
    obtain ⟨RR, hRR⟩ : ∃ RR, lines (l.drop c) = RR := ⟨_, rfl⟩
    have nL : LL.length ≤ 65536 := by
      have := lines_length_le (l.take c)
      rw [hLL, List.length_take] at this
      omega
    have nR : RR.length ≤ 65536 := by
      have := lines_length_le (l.drop c)
      rw [hRR, List.length_drop] at this
      omega
    rw [hLL] at hrowL
    rw [hRR] at hrow
    have HLL : Hid (lines (l.take c) = LL) := hLL
    have HRR : Hid (lines (l.drop c) = RR) := hRR
    obtain ⟨aL, cL, rfl, hcL, hrL⟩ := hrowL
    obtain ⟨aR, cR, rfl, hcR, hrR⟩ := hrow
    have HL : Hid (∀ i (h : i < LL.length), ∃ g, aL = some ⟨g, 0, none⟩ ∧ g < w4.heap.size ∧ w4.cell? ⟨g, i, none⟩ = some (.string (str LL[i]))) := hrL
    have HRr : Hid (∀ i (h : i < RR.length), ∃ g, aR = some ⟨g, 0, none⟩ ∧ g < w4.heap.size ∧ w4.cell? ⟨g, i, none⟩ = some (.string (str RR[i]))) := hrR
    clear hbel hLL hRR hrL hrR HL3 HR3 HB4 HB3 HB2 HB1 HW1 HR1 HR2' HR HN HN2 HR2 hsf hst HT
    go_wp2_with (at_make; refine wpList_make_own _ rfl _ _ 24 rfl w4.heap.size 9 i0 (.string ByteArray.empty) 1 Try.underlying24 hi hz0 hz1 _ _ _ (LL.length + RR.length) rfl rfl (by omega) (by rw [hz2]; omega) (by unfold maxLen; omega) (Nat.le_refl _) ?_)
    intro w5 hown5 hgrow5
    have HO5 : Hid (w5.ownsRow w4.heap.size 9 1 (.slice (some ⟨w4.heap.size, 0, none⟩) 0 (LL.length + RR.length)) 0 []) := hown5
    have HB5 : Hid (Below w4.heap.size w4 w5) := (Below.refl _ _).grown hgrow5 (Nat.le_refl _) (fun k h => nomatch h)
    clear hown5 hgrow5
    go_upto_region 17 with fail
    go_cut [73] (fun s wx => s = .bool (isEnd l c) ∧ wx = w5)
    case first =>
      by_cases c0 : c = 0
      · have hE : isEnd l c = true := decide_eq_true (Or.inl c0)
        have HE : Hid (isEnd l c = true) := hE
        have b0 : ((c : Int) == 0) = true := beq_iff_eq.2 (by omega)
        clear hE c0
        go_wp2_with fail
        go_meet
        case rel => exact ⟨by rw [HE.out], rfl⟩
      · have b0 : ((c : Int) == 0) = false := beq_eq_false_iff_ne.2 (by omega)
        by_cases c1 : c = l.length
        · have hE : isEnd l c = true := decide_eq_true (Or.inr (Or.inl c1))
          have HE : Hid (isEnd l c = true) := hE
          have b1 : ((c : Int) == (l.length : Int)) = true := beq_iff_eq.2 (by omega)
          clear hE c1 c0
          go_wp2_with fail
          go_meet
          case rel => exact ⟨by rw [HE.out], rfl⟩
        · have b1 : ((c : Int) == (l.length : Int)) = false := beq_eq_false_iff_ne.2 (by omega)
          have hlne : l ≠ [] := fun e => c0 (by rw [e] at hc; simpa using hc)
          obtain ⟨b, o, rfl, hlt, hcell⟩ := HR4.out hlne
          have hc1 : c - 1 < l.length := by omega
          have k0 : w5.cell? ⟨b, o + (c - 1), none⟩ = some (.int .u8 (l[c - 1].toNat : Int)) := (HB5.out.cell (p := ⟨b, o + (c - 1), none⟩) hlt).trans (hcell (c - 1) hc1)
          have k1 : (0 : Int) ≤ (c : Int) - 1 := by omega
          have k2 : (c : Int) - 1 < (l.length : Int) := by omega
          have k3 : ((c : Int) - 1).toNat = c - 1 := by omega
          have HE : Hid (isEnd l c = (((l[c - 1].toNat : Nat) : Int) == 10)) := by
            show isEnd l c = _
            unfold isEnd
            rw [Bool.eq_iff_iff, decide_eq_true_iff, beq_iff_eq, List.getElem?_eq_getElem hc1]
            constructor
            · rintro (h | h | h)
              · exact absurd h c0
              · exact absurd h c1
              · rw [Option.some.inj h]; rfl
            · intro h
              exact Or.inr (Or.inr (congrArg some (UInt8.toNat_inj.1 (by simpa using Int.ofNat.inj h))))
          clear hcell c1 c0 hlne
          go_wp2_with fail
          go_meet
          case rel => exact ⟨by rw [HE.out], rfl⟩
    case rest =>
      obtain ⟨rfl, hwx⟩ := hcut
      subst hwx
      go_upto_if 73 with fail
      go_cut [9] (fun vW wx => wx.ownsRow w4.heap.size 9 1 vW (lines l).length ((lines l).map sv) ∧ Below w4.heap.size w4 wx)
      case first =>
        obtain ⟨q, hq⟩ : ∃ q, isEnd l c = q := ⟨_, rfl⟩
        rw [hq]
        have HQ : Hid (isEnd l c = q) := hq
        clear hq
        cases q
        · obtain ⟨da, x, y, tb, e1, e2, e3⟩ := end_false hc HQ.out
          rw [HLL.out] at e1
          rw [HRR.out] at e2
          have HA : Hid (lines l = da ++ (x ++ y) :: tb) := e3
          have hnL : da.length + 1 = LL.length := by rw [e1, List.length_append]; rfl
          have hnR : tb.length + 1 = RR.length := by rw [e2, List.length_cons]
          obtain ⟨gL, rfl, hgL, cx⟩ := HL.out da.length (by omega)
          obtain ⟨gR, rfl, hgR, cy⟩ := HRr.out 0 (by omega)
          have hda : ∀ i (h : i < da.length), w4.cell? ⟨gL, i, none⟩ = some (.string (str da[i])) := by
            intro i h
            obtain ⟨g', hg', _, cc⟩ := HL.out i (by omega)
            cases hg'
            subst e1
            rw [List.getElem_append_left h] at cc
            exact cc
          have htb : ∀ i (h : i < tb.length), w4.cell? ⟨gR, i + 1, none⟩ = some (.string (str tb[i])) := by
            intro i h
            obtain ⟨g', hg', _, cc⟩ := HRr.out (i + 1) (by omega)
            cases hg'
            subst e2
            rw [List.getElem_cons_succ] at cc
            exact cc
          have cx' : w4.cell? ⟨gL, da.length, none⟩ = some (.string (str x)) := by
            subst e1
            rw [cx]
            simp
          have cy' : w4.cell? ⟨gR, 0, none⟩ = some (.string (str y)) := by
            subst e2
            rw [cy]
            simp
          have hxy : x.length + y.length ≤ 200000 := by
            have h1 : (da ++ (x ++ y) :: tb).flatten.length = l.length := by rw [← e3, lines_flatten]
            rw [List.flatten_append, List.flatten_cons, List.length_append, List.length_append, List.length_append] at h1
            omega
          have hadd := str_add x y hxy
          have HDA : Hid (∀ i (h : i < da.length), w4.cell? ⟨gL, i, none⟩ = some (.string (str da[i]))) := hda
          have HTB : Hid (∀ i (h : i < tb.length), w4.cell? ⟨gR, i + 1, none⟩ = some (.string (str tb[i]))) := htb
          have HCX : Hid (w4.cell? ⟨gL, da.length, none⟩ = some (.string (str x))) := cx'
          have HCY : Hid (w4.cell? ⟨gR, 0, none⟩ = some (.string (str y))) := cy'
          have z1 : ((LL.length : Int) == 0) = false := beq_eq_false_iff_ne.2 (by omega)
          have z2 : ((RR.length : Int) == 0) = false := beq_eq_false_iff_ne.2 (by omega)
          clear e1 e2 e3 cx cy hda htb cx' cy' HLL HRR HL HRr
          go_wp2_with fail
          go_loopg [9, 12] da.length (fun k vW t wx => ∃ j : Nat, t = .int .i64 j ∧ j ≤ da.length ∧ da.length - j ≤ k ∧ wx.ownsRow w4.heap.size 9 1 vW (da.take j).length ((da.take j).map sv) ∧ Below w4.heap.size w4 wx)
          case atStart => exact ⟨0, rfl, Nat.zero_le _, Nat.le_refl _, HO5.out, HB5.out⟩
          case round =>
            obtain ⟨j, rfl, hj, hk, ho, hb⟩ := hrel
            by_cases hlt : j < da.length
            · have c2 : wr.cell? ⟨gL, j, none⟩ = some (.string (str da[j])) := (hb.cell (p := ⟨gL, j, none⟩) hgL).trans (HDA.out j hlt)
              obtain ⟨M, hM⟩ : ∃ M, da.take j = M := ⟨_, rfl⟩
              have hml : M.length ≤ 200000 := by rw [← hM, List.length_take]; omega
              rw [hM] at ho
              have HM : Hid (M ++ [da[j]] = da.take (j + 1)) := by
                show M ++ [da[j]] = da.take (j + 1)
                rw [← hM]
                exact (take_next da j hlt)
              clear hM
              have HO : Hid (wr.ownsRow w4.heap.size 9 1 u9 M.length (M.map sv)) := ho
              have HB' : Hid (Below w4.heap.size w4 wr) := hb
              have hbs := hb.size
              clear ho hb
              go_wp2_with (at_builtin; refine wpList_append_own _ rfl _ _ 24 rfl w4.heap.size 9 i0 (.string ByteArray.empty) 1 16 Try.underlying24 hi hz0 hz1 hz2 rfl (by decide) _ _ _ rfl (HO.out.alloc _) ⟨wr.heap.size, 0, none⟩ 1 1 [.string (str da[j])] rfl rfl ?g1 ?g2 ?g3 ?g4 ?g5 ?_)
              case g1 => exact one_cell wr (.string (str da[j])) 9
              case g2 => intro u hu; simp at hu; subst hu; rfl
              case g3 => unfold maxLen; omega
              case g4 => omega
              case g5 => simp; omega
              intro v' w6 hown' hgrow _
              have R := push_to HM.out HO.out HB'.out hbs hgrow hown'
              have HR1 : Hid (w6.ownsRow w4.heap.size 9 1 v' (da.take (j + 1)).length ((da.take (j + 1)).map sv)) := R.1
              have HR2 : Hid (Below w4.heap.size w4 w6) := R.2
              clear R hown' hgrow HM
              go_wp2_with fail
              go_roundg (da.length - (j + 1))
              case measure => omega
              case rel => exact ⟨j + 1, by go_num, by omega, by omega, HR1.out, HR2.out⟩
            · obtain rfl : j = da.length := by omega
              rw [List.take_length] at ho
              have HO2 : Hid (wr.ownsRow w4.heap.size 9 1 u9 da.length (da.map sv)) := ho
              have HB2 : Hid (Below w4.heap.size w4 wr) := hb
              have hbs := hb.size
              have cx2 : wr.cell? ⟨gL, da.length, none⟩ = some (.string (str x)) := (hb.cell (p := ⟨gL, da.length, none⟩) hgL).trans HCX.out
              have cy2 : wr.cell? ⟨gR, 0, none⟩ = some (.string (str y)) := (hb.cell (p := ⟨gR, 0, none⟩) hgR).trans HCY.out
              clear ho hb
              go_upto_region 32 with fail
              go_cut [9] (fun vW wx => wx.ownsRow w4.heap.size 9 1 vW (da ++ [x ++ y]).length ((da ++ [x ++ y]).map sv) ∧ Below w4.heap.size w4 wx)
              case first =>
                have k1 : IntKind.i64.wrap ((LL.length : Int) - 1) = (da.length : Int) := by rw [wrap_small _ (by omega) (by omega)]; omega
                have k2 : (da.length : Int) < (LL.length : Int) := by omega
                have k3 : (0 : Int) < (RR.length : Int) := by omega
                have k4 : da.length < LL.length := by omega
                have k5 : 0 < RR.length := by omega
                go_region_law (refine step_append_own rfl (.tmp 122) (.tmp 133) 24 rfl w4.heap.size 9 i0 (.string ByteArray.empty) 1 16 Try.underlying24 hi hz0 hz1 hz2 rfl (by decide) u9 da.length (da.map sv) (by simp [Act.eval]) (by exact HO2.out.alloc _) ⟨wr.heap.size, 0, none⟩ 1 1 [.string (str (x ++ y))] (by simp [Act.eval]) rfl (by exact one_cell wr (.string (str (x ++ y))) 9) (by intro u hu; simp at hu; subst hu; rfl) (by unfold maxLen; omega) (by omega) (by simp; omega) ?_; intro v' w6 hown' hgrow)
                all_goals
                  have R := push_to (ms' := da ++ [x ++ y]) rfl HO2.out HB2.out hbs (grown_drew hgrow) hown'
                  have HR1 : Hid (w6.ownsRow w4.heap.size 9 1 v' (da ++ [x ++ y]).length ((da ++ [x ++ y]).map sv)) := R.1
                  have HR2 : Hid (Below w4.heap.size w4 w6) := R.2
                  clear R hown' hgrow
                  go_wp2_with fail
                  go_meet
                  case rel => exact ⟨HR1.out, HR2.out⟩
              case rest =>
                obtain ⟨ho0, hb0⟩ := hcut
                have HO4 : Hid (wc.ownsRow w4.heap.size 9 1 u9 (da ++ [x ++ y]).length ((da ++ [x ++ y]).map sv)) := ho0
                have HB4 : Hid (Below w4.heap.size w4 wc) := hb0
                clear ho0 hb0 HO2 HB2 cx2 cy2 hadd hbs
                go_wp2_with fail
                go_loopg [9, 13] tb.length (fun k vW t wx => ∃ j : Nat, t = .int .i64 ((j : Int) + 1) ∧ j ≤ tb.length ∧ tb.length - j ≤ k ∧ wx.ownsRow w4.heap.size 9 1 vW (da ++ [x ++ y] ++ tb.take j).length ((da ++ [x ++ y] ++ tb.take j).map sv) ∧ Below w4.heap.size w4 wx)
                case atStart => exact ⟨0, rfl, Nat.zero_le _, Nat.le_refl _, by rw [List.take_zero, List.append_nil]; exact HO4.out, HB4.out⟩
                case round =>
                  obtain ⟨j, rfl, hj, hk, ho, hb⟩ := hrel
                  by_cases hlt : j < tb.length
                  · have c2 : wr.cell? ⟨gR, j + 1, none⟩ = some (.string (str tb[j])) := (hb.cell (p := ⟨gR, j + 1, none⟩) hgR).trans (HTB.out j hlt)
                    obtain ⟨M, hM⟩ : ∃ M, da ++ [x ++ y] ++ tb.take j = M := ⟨_, rfl⟩
                    have hml : M.length ≤ 200000 := by rw [← hM, List.length_append, List.length_append, List.length_take]; simp; omega
                    rw [hM] at ho
                    have HM : Hid (M ++ [tb[j]] = da ++ [x ++ y] ++ tb.take (j + 1)) := by
                      show M ++ [tb[j]] = da ++ [x ++ y] ++ tb.take (j + 1)
                      rw [← hM]
                      exact (by rw [List.append_assoc (da ++ [x ++ y]), take_next tb j hlt])
                    clear hM
                    have HO : Hid (wr.ownsRow w4.heap.size 9 1 u9 M.length (M.map sv)) := ho
                    have HB' : Hid (Below w4.heap.size w4 wr) := hb
                    have hbs := hb.size
                    clear ho hb
                    go_wp2_with (at_builtin; refine wpList_append_own _ rfl _ _ 24 rfl w4.heap.size 9 i0 (.string ByteArray.empty) 1 16 Try.underlying24 hi hz0 hz1 hz2 rfl (by decide) _ _ _ rfl (HO.out.alloc _) ⟨wr.heap.size, 0, none⟩ 1 1 [.string (str tb[j])] rfl rfl ?k1 ?k2 ?k3 ?k4 ?k5 ?_)
                    case k1 => exact one_cell wr (.string (str tb[j])) 9
                    case k2 => intro u hu; simp at hu; subst hu; rfl
                    case k3 => unfold maxLen; omega
                    case k4 => omega
                    case k5 => simp; omega
                    intro v' w6 hown' hgrow _
                    have R := push_to HM.out HO.out HB'.out hbs hgrow hown'
                    have HR1 : Hid (w6.ownsRow w4.heap.size 9 1 v' (da ++ [x ++ y] ++ tb.take (j + 1)).length ((da ++ [x ++ y] ++ tb.take (j + 1)).map sv)) := R.1
                    have HR2 : Hid (Below w4.heap.size w4 w6) := R.2
                    clear R hown' hgrow HM
                    go_wp2_with fail
                    go_roundg (tb.length - (j + 1))
                    case measure => omega
                    case rel => exact ⟨j + 1, by go_num, by omega, by omega, HR1.out, HR2.out⟩
                  · obtain rfl : j = tb.length := by omega
                    rw [List.take_length] at ho
                    have HO6 : Hid (wr.ownsRow w4.heap.size 9 1 u9 (da ++ [x ++ y] ++ tb).length ((da ++ [x ++ y] ++ tb).map sv)) := ho
                    have HB6 : Hid (Below w4.heap.size w4 wr) := hb
                    clear ho hb
                    go_wp2_with fail
                    go_meet
                    case rel => exact ⟨by rw [HA.out, show da ++ (x ++ y) :: tb = da ++ [x ++ y] ++ tb by simp]; exact HO6.out, HB6.out⟩
        · have HA : Hid (lines l = LL ++ RR) := by
            have := end_true hc HQ.out
            rwa [HLL.out, HRR.out] at this
          go_wp2_with fail
          go_loopg [9, 10] LL.length (fun k vW t wx => ∃ j : Nat, t = .int .i64 j ∧ j ≤ LL.length ∧ LL.length - j ≤ k ∧ wx.ownsRow w4.heap.size 9 1 vW (LL.take j).length ((LL.take j).map sv) ∧ Below w4.heap.size w4 wx)
          case atStart => exact ⟨0, rfl, Nat.zero_le _, Nat.le_refl _, HO5.out, HB5.out⟩
          case round =>
            obtain ⟨j, rfl, hj, hk, ho, hb⟩ := hrel
            by_cases hlt : j < LL.length
            · obtain ⟨g, rfl, hg, c1⟩ := HL.out j hlt
              have c2 : wr.cell? ⟨g, j, none⟩ = some (.string (str LL[j])) := (hb.cell (p := ⟨g, j, none⟩) hg).trans c1
              clear c1
              obtain ⟨M, hM⟩ : ∃ M, LL.take j = M := ⟨_, rfl⟩
              have hml : M.length ≤ 200000 := by rw [← hM, List.length_take]; omega
              rw [hM] at ho
              have HM : Hid (M ++ [LL[j]] = LL.take (j + 1)) := by
                show M ++ [LL[j]] = LL.take (j + 1)
                rw [← hM]
                exact (take_next LL j hlt)
              clear hM
              have HO : Hid (wr.ownsRow w4.heap.size 9 1 u9 M.length (M.map sv)) := ho
              have HB' : Hid (Below w4.heap.size w4 wr) := hb
              have hbs := hb.size
              clear ho hb
              go_wp2_with (at_builtin; refine wpList_append_own _ rfl _ _ 24 rfl w4.heap.size 9 i0 (.string ByteArray.empty) 1 16 Try.underlying24 hi hz0 hz1 hz2 rfl (by decide) _ _ _ rfl (HO.out.alloc _) ⟨wr.heap.size, 0, none⟩ 1 1 [.string (str LL[j])] rfl rfl ?e1 ?e2 ?e3 ?e4 ?e5 ?_)
              case e1 => exact one_cell wr (.string (str LL[j])) 9
              case e2 => intro u hu; simp at hu; subst hu; rfl
              case e3 => unfold maxLen; omega
              case e4 => omega
              case e5 => simp; omega
              intro v' w6 hown' hgrow _
              have R := push_to HM.out HO.out HB'.out hbs hgrow hown'
              have HR1 : Hid (w6.ownsRow w4.heap.size 9 1 v' (LL.take (j + 1)).length ((LL.take (j + 1)).map sv)) := R.1
              have HR2 : Hid (Below w4.heap.size w4 w6) := R.2
              clear R hown' hgrow HM
              go_wp2_with fail
              go_roundg (LL.length - (j + 1))
              case measure => omega
              case rel => exact ⟨j + 1, by go_num, by omega, by omega, HR1.out, HR2.out⟩
            · obtain rfl : j = LL.length := by omega
              rw [List.take_length] at ho
              have HO2 : Hid (wr.ownsRow w4.heap.size 9 1 u9 LL.length (LL.map sv)) := ho
              have HB2 : Hid (Below w4.heap.size w4 wr) := hb
              clear ho hb
              go_wp2_with fail
              go_loopg [9, 11] RR.length (fun k vW t wx => ∃ j : Nat, t = .int .i64 j ∧ j ≤ RR.length ∧ RR.length - j ≤ k ∧ wx.ownsRow w4.heap.size 9 1 vW (LL ++ RR.take j).length ((LL ++ RR.take j).map sv) ∧ Below w4.heap.size w4 wx)
              case atStart => exact ⟨0, rfl, Nat.zero_le _, Nat.le_refl _, by rw [List.take_zero, List.append_nil]; exact HO2.out, HB2.out⟩
              case round =>
                obtain ⟨j, rfl, hj, hk, ho, hb⟩ := hrel
                by_cases hlt : j < RR.length
                · obtain ⟨g, rfl, hg, c1⟩ := HRr.out j hlt
                  have c2 : wr.cell? ⟨g, j, none⟩ = some (.string (str RR[j])) := (hb.cell (p := ⟨g, j, none⟩) hg).trans c1
                  clear c1
                  obtain ⟨M, hM⟩ : ∃ M, LL ++ RR.take j = M := ⟨_, rfl⟩
                  have hml : M.length ≤ 200000 := by rw [← hM, List.length_append, List.length_take]; omega
                  rw [hM] at ho
                  have HM : Hid (M ++ [RR[j]] = LL ++ RR.take (j + 1)) := by
                    show M ++ [RR[j]] = LL ++ RR.take (j + 1)
                    rw [← hM]
                    exact (by rw [List.append_assoc, take_next RR j hlt])
                  clear hM
                  have HO : Hid (wr.ownsRow w4.heap.size 9 1 u9 M.length (M.map sv)) := ho
                  have HB' : Hid (Below w4.heap.size w4 wr) := hb
                  have hbs := hb.size
                  clear ho hb
                  go_wp2_with (at_builtin; refine wpList_append_own _ rfl _ _ 24 rfl w4.heap.size 9 i0 (.string ByteArray.empty) 1 16 Try.underlying24 hi hz0 hz1 hz2 rfl (by decide) _ _ _ rfl (HO.out.alloc _) ⟨wr.heap.size, 0, none⟩ 1 1 [.string (str RR[j])] rfl rfl ?f1 ?f2 ?f3 ?f4 ?f5 ?_)
                  case f1 => exact one_cell wr (.string (str RR[j])) 9
                  case f2 => intro u hu; simp at hu; subst hu; rfl
                  case f3 => unfold maxLen; omega
                  case f4 => omega
                  case f5 => simp; omega
                  intro v' w6 hown' hgrow _
                  have R := push_to HM.out HO.out HB'.out hbs hgrow hown'
                  have HR1 : Hid (w6.ownsRow w4.heap.size 9 1 v' (LL ++ RR.take (j + 1)).length ((LL ++ RR.take (j + 1)).map sv)) := R.1
                  have HR2 : Hid (Below w4.heap.size w4 w6) := R.2
                  clear R hown' hgrow HM
                  go_wp2_with fail
                  go_roundg (RR.length - (j + 1))
                  case measure => omega
                  case rel => exact ⟨j + 1, by go_num, by omega, by omega, HR1.out, HR2.out⟩
                · obtain rfl : j = RR.length := by omega
                  rw [List.take_length] at ho
                  have HO3 : Hid (wr.ownsRow w4.heap.size 9 1 u9 (LL ++ RR).length ((LL ++ RR).map sv)) := ho
                  have HB3 : Hid (Below w4.heap.size w4 wr) := hb
                  clear ho hb
                  go_wp2_with fail
                  go_meet
                  case rel => exact ⟨by rw [HA.out]; exact HO3.out, HB3.out⟩
      case rest =>
        obtain ⟨ho, hb⟩ := hcut
        have HY : Hid (SRow wc wc.heap.size u9 (lines l)) := SRow.of_own ho
        have HX : Hid (SRow wc wc.heap.size v (lines l)) := HW.out.step hb
        have HZ : Hid (Below wz.heap.size wz wc) := below_step HB.out hb
        clear ho hb
        go_wp2_with fail
        refine (eq_any v u9 (lines l) wc.heap.size wc (by have := lines_length_le l; omega) HX.out HY.out).mono ?_
        rintro e w9 ⟨rfl, n, rfl⟩
        go_wp2_with fail
        go_ret
        exact ⟨rfl, below_drewN HZ.out n⟩
end Go.Proofs.Qxb6609021a
