/-
  (math/big.nat).scan at forty hexadecimal digits.
-/
import Derived.Test.Qxb6608999aFmtNat
import Derived.LaidEql
import Derived.OwnWalk
namespace Go.Proofs.Qxb6608999aFmt
open Go.RowKit
set_option linter.unusedVariables false

/-- Below B all is as it was, but for block g. -/
structure But (B g : Nat) (w w' : World) : Prop where
  os : w'.os = w.os
  tape : w'.tape = w.tape
  output : w'.output = w.output
  size : w.heap.size ≤ w'.heap.size
  block : ∀ k, k < B → k ≠ g → w'.heap[k]? = w.heap[k]?

theorem But.refl (B g : Nat) (w : World) : But B g w w := ⟨rfl, rfl, rfl, Nat.le_refl _, fun _ _ _ => rfl⟩
theorem But.trans {B g : Nat} {a b c : World} (h : But B g a b) (k : But B g b c) : But B g a c := ⟨k.os.trans h.os, k.tape.trans h.tape, k.output.trans h.output, Nat.le_trans h.size k.size, fun i h1 h2 => (k.block i h1 h2).trans (h.block i h1 h2)⟩
theorem Only.but {g : Nat} {a b : World} (h : Only g a b) (B : Nat) : But B g a b := ⟨h.os, h.tape, h.output, by rw [h.size]; exact Nat.le_refl _, fun k _ hk => h.block k hk⟩
theorem Below.but {B g : Nat} {a b : World} (h : Below B a b) : But B g a b := ⟨h.os, h.tape, h.output, h.size, fun k hk _ => h.block k hk⟩
theorem But.cell {B g : Nat} {w w' : World} (h : But B g w w') {p : Addr} (hp : p.block < B) (hq : p.block ≠ g) : w'.cell? p = w.cell? p := World.cell?_of_block (w := w) (h.block p.block hp hq)
theorem But.below {B g A : Nat} {w w' : World} (h : But B g w w') (h1 : A ≤ B) (h2 : A ≤ g) : Below A w w' := ⟨h.os, h.tape, h.output, h.size, fun k hk => h.block k (by omega) (by omega)⟩

/-- The number of the n hexadecimal digits from place a on. -/
def hv (f : Nat → Nat) (a : Nat) : Nat → Nat
  | 0 => 0
  | n + 1 => hv f a n * 16 + f (a + n)

theorem hv_lt (f : Nat → Nat) (a : Nat) (hf : ∀ i, f i < 16) : ∀ n, hv f a n < 16 ^ n
  | 0 => by simp [hv]
  | n + 1 => by
    have h1 := hv_lt f a hf n
    have h2 := hf (a + n)
    simp only [hv, Nat.pow_succ]
    omega

/-- A hexadecimal digit's number. -/
def dv (c : Nat) : Nat := if c ≤ 57 then c - 48 else c - 87

/-- The forty digits. -/
def Hex (s : ByteArray) (f : Nat → Nat) : Prop := s.size = 40 ∧ (∀ i, f i < 16) ∧ ∀ i (h : i < s.size), (48 ≤ s[i].toNat ∧ s[i].toNat ≤ 57 ∧ f i = s[i].toNat - 48) ∨ (97 ≤ s[i].toNat ∧ s[i].toNat ≤ 102 ∧ f i = s[i].toNat - 87)

theorem info82 : (Tryf.prog.info? 82).map (fun i => (i.zero, i.size, i.bytes)) = some (some (.int .u64 0), 1, 8) := by kernel_rfl

/-- Where the scan stands when k digits are taken. -/
def Stand (g : Nat) (s : ByteArray) (e : Addr) (k : Nat) (ch err : Value) (wr : World) : Prop :=
  (∃ h : k < s.size, ch = .int .u8 (s[k].toNat : Int) ∧ err = .nilIface ∧ RAt g s (k + 1) wr) ∨ (k = s.size ∧ ch = .int .u8 0 ∧ err = .iface 79 (.pointer (some e)) ∧ RAt g s k wr)

/-- The words that are laid when k digits are taken. -/
def laidWords (f : Nat → Nat) (q : Nat) : List Value := (List.range q).map fun t => word (hv f (16 * t) 16)

theorem hv_add (f : Nat → Nat) (a n : Nat) : ∀ k, hv f a (n + k) = hv f a n * 16 ^ k + hv f (a + n) k
  | 0 => by simp [hv]
  | k + 1 => by
    show hv f a (n + k) * 16 + f (a + (n + k)) = hv f a n * 16 ^ (k + 1) + (hv f (a + n) k * 16 + f (a + n + k))
    rw [hv_add f a n k, Nat.pow_succ, Nat.add_assoc a n k, Nat.add_mul, Nat.mul_assoc]
    omega

/-- The number's word at place i. -/
def wd (T i : Nat) : Nat := T / 18446744073709551616 ^ i % 18446744073709551616

theorem wd_lt (T i : Nat) : wd T i < 18446744073709551616 := Nat.mod_lt _ (by decide)

/-- A number below 2^160 as a nat in block b: m words. -/
structure NatAt (w : World) (b cap m T : Nat) : Prop where
  row : ∃ A, Row w b cap A ∧ ∀ i, i < m → A i = .int .u64 (wd T i : Int)
  le : m ≤ cap
  le3 : m ≤ 3
  cmax : cap ≤ 9223372036854775807
  high : ∀ i, m ≤ i → wd T i = 0
  top : m = 0 ∨ wd T (m - 1) ≠ 0
  lt : T < 1461501637330902918203684832716283019655932542976
  pos : 1 ≤ cap

/-- The three words, shifted down, are the number's. -/
theorem shW_wd (N : Nat → Nat) (n a c d T : Nat) (hn : n ≤ 3) (h0 : N 0 = d * 4294967296) (h1 : N 1 = c) (h2 : N 2 = a) (hz : ∀ i, n ≤ i → i < 3 → N i = 0) (ha : a < 18446744073709551616) (hc : c < 18446744073709551616) (hd : d < 4294967296)
    (hT : T = a * 79228162514264337593543950336 + c * 4294967296 + d) : (∀ i, i < n → shW N n i = wd T i) ∧ (∀ i, n ≤ i → wd T i = 0) := by
  have e0 : wd T 0 = T % 18446744073709551616 := by simp [wd]
  have e1 : wd T 1 = T / 18446744073709551616 % 18446744073709551616 := by simp [wd]
  have e2 : wd T 2 = T / 340282366920938463463374607431768211456 % 18446744073709551616 := by simp [wd]
  have e3 : ∀ i, 3 ≤ i → wd T i = 0 := by
    intro i hi
    unfold wd
    have h3 : 18446744073709551616 ^ 3 ≤ 18446744073709551616 ^ i := Nat.pow_le_pow_right (by decide) hi
    have h4 : T < 18446744073709551616 ^ 3 := by
      have : 18446744073709551616 ^ 3 = 6277101735386680763835789423207666416102355444464034512896 := by decide
      omega
    rw [Nat.div_eq_of_lt (by omega)]
  have z0 := hz 0
  have z1 := hz 1
  have z2 := hz 2
  rw [h0] at z0
  rw [h1] at z1
  rw [h2] at z2
  clear hz
  obtain rfl | rfl | rfl | rfl : n = 0 ∨ n = 1 ∨ n = 2 ∨ n = 3 := by omega
  · refine ⟨fun i hi => by omega, fun i _ => ?_⟩
    by_cases h3 : 3 ≤ i
    · exact e3 i h3
    · obtain rfl | rfl | rfl : i = 0 ∨ i = 1 ∨ i = 2 := by omega
      · rw [e0]; omega
      · rw [e1]; omega
      · rw [e2]; omega
  · refine ⟨fun i hi => ?_, fun i h => ?_⟩
    · obtain rfl : i = 0 := by omega
      rw [e0]; simp [shW, h0]; omega
    · by_cases h3 : 3 ≤ i
      · exact e3 i h3
      · obtain rfl | rfl : i = 1 ∨ i = 2 := by omega
        · rw [e1]; omega
        · rw [e2]; omega
  · refine ⟨fun i hi => ?_, fun i h => ?_⟩
    · obtain rfl | rfl : i = 0 ∨ i = 1 := by omega
      · rw [e0]; simp [shW, lowW, h0, h1]; omega
      · rw [e1]; simp [shW, h1]; omega
    · by_cases h3 : 3 ≤ i
      · exact e3 i h3
      · obtain rfl : i = 2 := by omega
        rw [e2]; omega
  · refine ⟨fun i hi => ?_, fun i h => e3 i h⟩
    obtain rfl | rfl | rfl : i = 0 ∨ i = 1 ∨ i = 2 := by omega
    · rw [e0]; simp [shW, lowW, h0, h1]; omega
    · rw [e1]; simp [shW, lowW, h1, h2]; omega
    · rw [e2]; simp [shW, h2]; omega

theorem hv_40 (f : Nat → Nat) : hv f 0 40 = hv f 0 16 * 79228162514264337593543950336 + hv f 16 16 * 4294967296 + hv f 32 8 := by
  have h1 : hv f 0 (32 + 8) = _ := hv_add f 0 32 8
  have h2 : hv f 0 (16 + 16) = _ := hv_add f 0 16 16
  rw [show (16 : Nat) ^ 8 = 4294967296 from by decide, Nat.zero_add] at h1
  rw [show (16 : Nat) ^ 16 = 18446744073709551616 from by decide, Nat.zero_add] at h2
  rw [show (16 : Nat) + 16 = 32 from rfl] at h2
  rw [show (32 : Nat) + 8 = 40 from rfl] at h1
  rw [h1, h2]
  generalize hv f 0 16 = a
  generalize hv f 16 16 = c
  generalize hv f 32 8 = d
  omega

/-- What was appended, as a row. -/
theorem own_row {w : World} {B : Nat} {v : Value} {l : List Value} (h : w.ownsRow B 82 1 v 3 l) :
    ∃ b cap A, v = .slice (some ⟨b, 0, none⟩) 3 cap ∧ B ≤ b ∧ b < w.heap.size ∧ 3 ≤ cap ∧ cap ≤ 9223372036854775807 ∧ Row w b cap A ∧ ∀ i (hi : i < l.length), A i = l[i] := by
  obtain ⟨h1, ⟨h2, h0⟩ | ⟨b, cap, cur, rfl, hb, hh, hc, hm, hs, ht⟩⟩ := h
  · omega
  · unfold maxLen at hm
    have hlt : b < w.heap.size := by
      by_cases h : b < w.heap.size
      · exact h
      · rw [Array.getElem?_eq_none (by omega)] at hh
        cases hh
    refine ⟨b, cap, fun i => cur.getD i .nilIface, rfl, hb, hlt, hc, hm, ⟨fun i hi => ?_, fun i => ?_⟩, fun i hi => ?_⟩
    · have : i < cur.size := by omega
      simp [World.cell?, hh, this]
    · simp [World.frozen?, hh]
    · have h3 : i < cur.size := by rw [← ht] at hi; simp at hi; omega
      subst ht
      simp [h3]

theorem results_tmp4 {fn : Func} {t u v x : Tmp} (h : fn.results = #[.tmp t, .tmp u, .tmp v, .tmp x]) (tmps : Array Value) (P : Program) (w : World) :
    (results fn tmps).run P w = .ok (.tuple #[tmps.getD t undef, tmps.getD u undef, tmps.getD v undef, tmps.getD x undef]) w := by
  simp [results, h]

theorem comp79 : (Tryf.prog.info? 79).map (fun i => i.comparable) = some true := by kernel_rfl
theorem there81 : (Tryf.prog.info? 81).map (fun _ => true) = some true := by kernel_rfl

/-- The error that io.EOF holds is itself. -/
theorem eq_eof (e : Addr) (w : World) : (binOp .eql 28 (.iface 79 (.pointer (some e))) (.iface 79 (.pointer (some e)))).run Tryf.prog w = .ok (.bool true) w := by
  obtain ⟨i, h1, h2⟩ := Option.map_eq_some_iff.1 comp79
  obtain ⟨j, h3, _⟩ := Option.map_eq_some_iff.1 there81
  exact run_eql_iface_ptr_same w e Tryf.underlying28 Tryf.underlying79 h1 h2 h3

theorem own_only {B g n : Nat} {z : Value} {l : List Value} {wr w2 : World} (h : wr.ownsRow B 82 1 z n l) (o : Only g wr w2) (hg : g < B) : w2.ownsRow B 82 1 z n l := by
  obtain ⟨h1, h | ⟨b, cap, cur, rfl, hb, hh, rest⟩⟩ := h
  · exact ⟨h1, Or.inl h⟩
  · exact ⟨h1, Or.inr ⟨b, cap, cur, rfl, hb, (o.block b (by omega)).trans hh, rest⟩⟩

theorem RAt.same {g : Nat} {s : ByteArray} {i : Nat} {w w' : World} (r : RAt g s i w) (hb : w'.heap[g]? = w.heap[g]?) : RAt g s i w' := by
  obtain ⟨c0, c1, ⟨r, c2⟩, f1, f2⟩ := r
  exact ⟨(World.cell?_of_block (a := ⟨g, 0, none⟩) hb).trans c0, (World.cell?_of_block (a := ⟨g, 1, none⟩) hb).trans c1, ⟨r, (World.cell?_of_block (a := ⟨g, 2, none⟩) hb).trans c2⟩, (World.frozen?_of_block (a := ⟨g, 1, none⟩) hb).trans f1, (World.frozen?_of_block (a := ⟨g, 2, none⟩) hb).trans f2⟩

/-- One word more is appended. -/
theorem push_word {w W w1 : World} {B g q k : Nat} {s : ByteArray} {z z' : Value} {l l' : List Value} {x : Value} {o : Obj} (he : l ++ [x] = l') (hown : W.ownsRow B 82 1 z q l) (hbut : But B g w W) (hgB : g < B) (hB : B ≤ w.heap.size)
    (hr : RAt g s k W) (hg : (W.alloc o).grownBy w1 z.ownBlock) (hown' : w1.ownsRow B 82 1 z' (q + 1) (l ++ [x])) :
    w1.ownsRow B 82 1 z' (q + 1) l' ∧ But B g w w1 ∧ RAt g s k w1 := by
  subst he
  have hs := hbut.size
  have hs2 := hg.size
  have hz : (W.alloc o).heap.size = W.heap.size + 1 := by simp
  have hb : ∀ j, j < B → w1.heap[j]? = W.heap[j]? := fun j hj => by
    rw [hg.block j (by omega) (fun e => by have := (hown.lt j e.symm).1; omega)]
    exact Below.heap_alloc _ _ _ (by omega)
  refine ⟨hown', ⟨?_, ?_, ?_, by omega, fun j hj hne => (hb j hj).trans (hbut.block j hj hne)⟩, hr.same (hb g hgB)⟩
  · rw [hg.os]; exact hbut.os
  · rw [hg.tape]; exact hbut.tape
  · rw [hg.output]; exact hbut.output

theorem laidWords_succ (f : Nat → Nat) (q : Nat) : laidWords f (q + 1) = laidWords f q ++ [word (hv f (16 * q) 16)] := by simp [laidWords, List.range_succ]

theorem one_cell82 (w : World) (v : Value) : ∀ (j : Nat) u, [v][j]? = some u → (w.alloc (.cells #[v] 82 (0, 0))).cell? ((⟨w.heap.size, 0, none⟩ : Addr).add j) = some u := by
  intro j u h
  match j, h with
  | 0, h =>
    simp at h
    subst h
    simp [Addr.add]

set_option maxHeartbeats 4000000 in
set_option maxRecDepth 1000000 in
theorem scan_any (g : Nat) (s : ByteArray) (f : Nat → Nat) (e : Addr) (w : World) (hx : Hex s f) (h : RAt g s 0 w) (hE : EofIs e w) (hg : 0 < g) (hgB : g < w.heap.size) :
    Calls Tryf.prog 49 #[.slice none 0 0, .iface 54 (.pointer (some ⟨g, 0, none⟩)), .int .i64 16, .bool false] w fun e' w' => ∃ b cap m, e' = .returned (.tuple #[.slice (some ⟨b, 0, none⟩) m cap, .int .i64 16, .int .i64 40, .nilIface]) ∧ w.heap.size ≤ b ∧ b < w'.heap.size ∧ NatAt w' b cap m (hv f 0 40) ∧ RAt g s 40 w' ∧ But w.heap.size g w w' := by
  obtain ⟨i0, hi, hz0, hz1, hz2⟩ := info_parts info82
  have H : Hid (RAt g s 0 w) := h
  have HX : Hid (Hex s f) := hx
  have hs : s.size ≤ 1000 := by have := hx.1; omega
  have hs0 : 0 < s.size := by have := hx.1; omega
  have HE : Hid (EofIs e w) := hE
  have m1 := meth_read ⟨g, 0, none⟩
  clear h hx hE
  go_enter Tryf.func49, Tryf.ntmps49
  go_wp2_with fail
  refine (readByte_any g s 0 w hs hs0 H.out).mono ?_
  rintro e' w1 ⟨rfl, hr, ho⟩
  have HR : Hid (RAt g s (0 + 1) w1) := hr
  have HO : Hid (Only g w w1) := ho
  clear hr ho
  go_wp2_with fail
  go_loopg [0, 3, 10, 11, 13, 14, 15, 20, 21, 22] 40 (fun n z fr ct er pv iv ch di ii dp wr => ∃ q i : Nat, i < 16 ∧ 16 * q + i ≤ 40 ∧ 40 - (16 * q + i) ≤ n ∧ fr = .bool false ∧ ct = .int .i64 ((16 * q + i : Nat) : Int) ∧ (pv = .int .i32 46 ∨ pv = .int .i32 48) ∧ iv = .bool false ∧ di = .int .u64 (hv f (16 * q) i : Int) ∧ ii = .int .i64 (i : Int) ∧ dp = .int .i64 (-1) ∧
    Stand g s e (16 * q + i) ch er wr ∧ wr.ownsRow w.heap.size 82 1 z q (laidWords f q) ∧ But w.heap.size g w wr)
  case atStart => exact ⟨0, 0, by omega, by omega, by omega, rfl, rfl, Or.inl rfl, rfl, rfl, rfl, rfl, Or.inl ⟨hs0, rfl, rfl, HR.out⟩, World.ownsRow_nil _ _ _ _, HO.out.but _⟩
  case round =>
    clear HR HO
    obtain ⟨q, i, hi16, hk40, hn, rfl, rfl, hpv, rfl, rfl, rfl, rfl, hst, hown, hbut⟩ := hrel
    obtain ⟨k, hk⟩ : ∃ k, 16 * q + i = k := ⟨_, rfl⟩
    have hq2 : q ≤ 2 := by omega
    obtain ⟨hsz, hf, hdig⟩ := HX.out
    rw [hk] at hst hk40 hn ⊢
    rcases hst with ⟨hks, rfl, rfl, hr⟩ | ⟨hks, rfl, rfl, hr⟩
    · have hd := hdig k hks
      have hlt := hv_lt f (16 * q) hf i
      have hpow : 16 ^ i ≤ 1152921504606846976 := by
        calc 16 ^ i ≤ 16 ^ 15 := Nat.pow_le_pow_right (by omega) (by omega)
          _ = 1152921504606846976 := by decide
      obtain ⟨D, hD⟩ : ∃ D, hv f (16 * q) i = D := ⟨_, rfl⟩
      rw [hD] at hlt ⊢
      have hDb : D < 1152921504606846976 := by omega
      obtain ⟨F, hF⟩ : ∃ F, f k = F := ⟨_, rfl⟩
      rw [hF] at hd
      have hnext : hv f (16 * q) (i + 1) = D * 16 + F := by
        show hv f (16 * q) i * 16 + f (16 * q + i) = _
        rw [hD, hk, hF]
      have HNX : Hid (hv f (16 * q) (i + 1) = D * 16 + F) := hnext
      have HK : Hid (16 * q + i = k) := hk
      have HR : Hid (RAt g s (k + 1) wr) := hr
      have HO : Hid (wr.ownsRow w.heap.size 82 1 u0 q (laidWords f q)) := hown
      have HB : Hid (But w.heap.size g w wr) := hbut
      have HSZ : Hid (s.size = 40) := hsz
      have hBs : w.heap.size ≤ wr.heap.size := hbut.size
      clear hlt hD hF hnext hk hr hown hbut hsz hpow hdig hf
      obtain ⟨c, hc⟩ : ∃ c : Nat, s[k].toNat = c := ⟨_, rfl⟩
      rw [hc] at hd ⊢
      have HC : Hid (s[k].toNat = c) := hc
      clear hc
      rcases hd with ⟨d1, d2, d3⟩ | ⟨d1, d2, d3⟩
      · by_cases h15 : i < 15
        · go_wp2_with fail
          by_cases hlast : k + 1 < s.size
          · refine (readByte_any g s (k + 1) wr hs hlast HR.out).mono ?_
            rintro e' w2 ⟨rfl, hr, ho⟩
            have HR2 : Hid (RAt g s (k + 1 + 1) w2) := hr
            have HO2 : Hid (Only g wr w2) := ho
            clear hr ho
            go_wp2_with fail
            go_roundg (39 - k)
            case measure => have := HK.out; have := HSZ.out; omega
            case rel =>
              have hk := HK.out
              have hsz := HSZ.out
              have hnx := HNX.out
              subst hk
              refine ⟨q, i + 1, by omega, by omega, by omega, rfl, rfl, Or.inr rfl, rfl, congrArg _ ?_, rfl, rfl, Or.inl ⟨by omega, rfl, rfl, HR2.out⟩, own_only HO.out HO2.out hgB, HB.out.trans (HO2.out.but _)⟩
              omega
          · refine (readByte_end g s (k + 1) e wr hs (by omega) (by omega) HR.out (((HB.out.cell (p := ⟨0, 0, none⟩) (by show 0 < _; omega) (by show 0 ≠ g; omega)).trans HE.out)) hg).mono ?_
            rintro e' w2 ⟨rfl, hr, ho⟩
            have HR2 : Hid (RAt g s (k + 1) w2) := hr
            have HO2 : Hid (Only g wr w2) := ho
            clear hr ho
            go_wp2_with fail
            go_roundg (39 - k)
            case measure => have := HK.out; have := HSZ.out; omega
            case rel =>
              have hk := HK.out
              have hsz := HSZ.out
              have hnx := HNX.out
              subst hk
              refine ⟨q, i + 1, by omega, by omega, by omega, rfl, rfl, Or.inr rfl, rfl, congrArg _ ?_, rfl, rfl, Or.inr ⟨by omega, rfl, rfl, HR2.out⟩, own_only HO.out HO2.out hgB, HB.out.trans (HO2.out.but _)⟩
              omega
        · obtain rfl : i = 15 := by omega
          have hlast : k + 1 < s.size := by have := HK.out; have := HSZ.out; omega
          go_wp2_with (at_builtin; refine wpList_append_own _ rfl _ _ 40 rfl w.heap.size 82 i0 (.int .u64 0) 1 8 Tryf.underlying40 hi hz0 hz1 hz2 rfl (by decide) _ _ _ rfl (HO.out.alloc _) ⟨wr.heap.size, 0, none⟩ 1 1 [.int .u64 ((D : Int) * 16 + ((c : Int) - 48))] rfl rfl ?c1 ?c2 ?c3 ?c4 ?c5 ?_)
          case c1 => exact one_cell82 wr _
          case c2 => intro u hu; simp at hu; subst hu; rfl
          case c3 => unfold maxLen; omega
          case c4 => omega
          case c5 => simp; omega
          intro v' w1 hown' hgrow _
          have R := push_word (l' := laidWords f (q + 1)) (by
            have hnx := HNX.out
            rw [laidWords_succ]
            congr 3
            show _ = ((hv f (16 * q) (15 + 1) : Nat) : Int)
            omega) HO.out HB.out hgB (Nat.le_refl _) HR.out hgrow hown'
          have HO1 : Hid (w1.ownsRow w.heap.size 82 1 v' (q + 1) (laidWords f (q + 1))) := R.1
          have HB1 : Hid (But w.heap.size g w w1) := R.2.1
          have HR1 : Hid (RAt g s (k + 1) w1) := R.2.2
          clear R hown' hgrow
          go_wp2_with fail
          refine (readByte_any g s (k + 1) w1 hs hlast HR1.out).mono ?_
          rintro e' w2 ⟨rfl, hr, ho⟩
          have HR2 : Hid (RAt g s (k + 1 + 1) w2) := hr
          have HO2 : Hid (Only g w1 w2) := ho
          clear hr ho
          go_wp2_with fail
          go_roundg (39 - k)
          case measure => have := HK.out; have := HSZ.out; omega
          case rel =>
            have hk := HK.out
            have hsz := HSZ.out
            subst hk
            exact ⟨q + 1, 0, by omega, by omega, by omega, rfl, rfl, Or.inr rfl, rfl, rfl, rfl, rfl, Or.inl ⟨by omega, rfl, rfl, HR2.out⟩, own_only HO1.out HO2.out hgB, HB1.out.trans (HO2.out.but _)⟩
      · by_cases h15 : i < 15
        · go_wp2_with fail
          by_cases hlast : k + 1 < s.size
          · refine (readByte_any g s (k + 1) wr hs hlast HR.out).mono ?_
            rintro e' w2 ⟨rfl, hr, ho⟩
            have HR2 : Hid (RAt g s (k + 1 + 1) w2) := hr
            have HO2 : Hid (Only g wr w2) := ho
            clear hr ho
            go_wp2_with fail
            go_roundg (39 - k)
            case measure => have := HK.out; have := HSZ.out; omega
            case rel =>
              have hk := HK.out
              have hsz := HSZ.out
              have hnx := HNX.out
              subst hk
              refine ⟨q, i + 1, by omega, by omega, by omega, rfl, rfl, Or.inr rfl, rfl, congrArg _ ?_, rfl, rfl, Or.inl ⟨by omega, rfl, rfl, HR2.out⟩, own_only HO.out HO2.out hgB, HB.out.trans (HO2.out.but _)⟩
              omega
          · refine (readByte_end g s (k + 1) e wr hs (by omega) (by omega) HR.out (((HB.out.cell (p := ⟨0, 0, none⟩) (by show 0 < _; omega) (by show 0 ≠ g; omega)).trans HE.out)) hg).mono ?_
            rintro e' w2 ⟨rfl, hr, ho⟩
            have HR2 : Hid (RAt g s (k + 1) w2) := hr
            have HO2 : Hid (Only g wr w2) := ho
            clear hr ho
            go_wp2_with fail
            go_roundg (39 - k)
            case measure => have := HK.out; have := HSZ.out; omega
            case rel =>
              have hk := HK.out
              have hsz := HSZ.out
              have hnx := HNX.out
              subst hk
              refine ⟨q, i + 1, by omega, by omega, by omega, rfl, rfl, Or.inr rfl, rfl, congrArg _ ?_, rfl, rfl, Or.inr ⟨by omega, rfl, rfl, HR2.out⟩, own_only HO.out HO2.out hgB, HB.out.trans (HO2.out.but _)⟩
              omega
        · obtain rfl : i = 15 := by omega
          have hlast : k + 1 < s.size := by have := HK.out; have := HSZ.out; omega
          go_wp2_with (at_builtin; refine wpList_append_own _ rfl _ _ 40 rfl w.heap.size 82 i0 (.int .u64 0) 1 8 Tryf.underlying40 hi hz0 hz1 hz2 rfl (by decide) _ _ _ rfl (HO.out.alloc _) ⟨wr.heap.size, 0, none⟩ 1 1 [.int .u64 ((D : Int) * 16 + ((c : Int) - 97 + 10))] rfl rfl ?c1 ?c2 ?c3 ?c4 ?c5 ?_)
          case c1 => exact one_cell82 wr _
          case c2 => intro u hu; simp at hu; subst hu; rfl
          case c3 => unfold maxLen; omega
          case c4 => omega
          case c5 => simp; omega
          intro v' w1 hown' hgrow _
          have R := push_word (l' := laidWords f (q + 1)) (by
            have hnx := HNX.out
            rw [laidWords_succ]
            congr 3
            show _ = ((hv f (16 * q) (15 + 1) : Nat) : Int)
            omega) HO.out HB.out hgB (Nat.le_refl _) HR.out hgrow hown'
          have HO1 : Hid (w1.ownsRow w.heap.size 82 1 v' (q + 1) (laidWords f (q + 1))) := R.1
          have HB1 : Hid (But w.heap.size g w w1) := R.2.1
          have HR1 : Hid (RAt g s (k + 1) w1) := R.2.2
          clear R hown' hgrow
          go_wp2_with fail
          refine (readByte_any g s (k + 1) w1 hs hlast HR1.out).mono ?_
          rintro e' w2 ⟨rfl, hr, ho⟩
          have HR2 : Hid (RAt g s (k + 1 + 1) w2) := hr
          have HO2 : Hid (Only g w1 w2) := ho
          clear hr ho
          go_wp2_with fail
          go_roundg (39 - k)
          case measure => have := HK.out; have := HSZ.out; omega
          case rel =>
            have hk := HK.out
            have hsz := HSZ.out
            subst hk
            exact ⟨q + 1, 0, by omega, by omega, by omega, rfl, rfl, Or.inr rfl, rfl, rfl, rfl, rfl, Or.inl ⟨by omega, rfl, rfl, HR2.out⟩, own_only HO1.out HO2.out hgB, HB1.out.trans (HO2.out.but _)⟩
    · obtain ⟨rfl, rfl⟩ : q = 2 ∧ i = 8 := by omega
      obtain rfl : k = 40 := by omega
      have HR : Hid (RAt g s 40 wr) := hr
      have HO : Hid (wr.ownsRow w.heap.size 82 1 u0 2 (laidWords f 2)) := hown
      have HB : Hid (But w.heap.size g w wr) := hbut
      have hBs : w.heap.size ≤ wr.heap.size := hbut.size
      have cE : wr.cell? ⟨0, 0, none⟩ = some (.iface 79 (.pointer (some e))) := (hbut.cell (p := ⟨0, 0, none⟩) (by show 0 < _; omega) (by show 0 ≠ g; omega)).trans HE.out
      obtain ⟨D, hD⟩ : ∃ D, hv f (16 * 2) 8 = D := ⟨_, rfl⟩
      have hDb : D < 4294967296 := by rw [← hD]; exact hv_lt f _ hf 8
      rw [hD]
      have HD : Hid (hv f (16 * 2) 8 = D) := hD
      have HF : Hid (∀ i, f i < 16) := hf
      clear hr hown hbut hsz hdig hD hks hk40 hn hk hq2 hi16 hf
      have q1 := eq_eof e
      obtain ⟨p, rfl, hp⟩ : ∃ p : Int, u13 = .int .i32 p ∧ (p == 95) = false := by rcases hpv with rfl | rfl <;> exact ⟨_, rfl, rfl⟩
      clear hpv
      go_wp2_with fail
      refine (pow_any wr).mono ?_
      rintro e' w' ⟨rfl, rfl⟩
      go_wp2_with (at_builtin; refine wpList_append_own _ rfl _ _ 40 rfl w.heap.size 82 i0 (.int .u64 0) 1 8 Tryf.underlying40 hi hz0 hz1 hz2 rfl (by decide) _ _ _ rfl (HO.out.alloc _) ⟨w'.heap.size, 0, none⟩ 1 1 [.int .u64 ((D : Int) * 4294967296)] rfl rfl ?c1 ?c2 ?c3 ?c4 ?c5 ?_)
      case c1 => exact one_cell82 w' _
      case c2 => intro u hu; simp at hu; subst hu; rfl
      case c3 => unfold maxLen; omega
      case c4 => omega
      case c5 => simp; omega
      intro v' w2 hown' hgrow _
      have R := push_word (l' := [word (hv f 0 16), word (hv f 16 16), word (D * 4294967296)]) (by
        have e1 : word (D * 4294967296) = .int .u64 ((D : Int) * 4294967296) := by unfold word; congr 1
        rw [e1]
        rfl) HO.out HB.out hgB (Nat.le_refl _) HR.out hgrow hown'
      obtain ⟨b, cap, A, rfl, hbB, hbs, hc3, hcm, hrow, hA⟩ := own_row R.1
      have a0 : A 0 = .int .u64 (hv f 0 16 : Int) := hA 0 (by simp)
      have a1 : A 1 = .int .u64 (hv f 16 16 : Int) := hA 1 (by simp)
      have a2 : A 2 = .int .u64 ((D * 4294967296 : Nat) : Int) := hA 2 (by simp)
      have HRow : Hid (Row w2 b cap A) := hrow
      have HB2 : Hid (But w.heap.size g w w2) := R.2.1
      have HR2 : Hid (RAt g s 40 w2) := R.2.2
      have HA : Hid (A 0 = .int .u64 (hv f 0 16 : Int) ∧ A 1 = .int .u64 (hv f 16 16 : Int) ∧ A 2 = .int .u64 ((D * 4294967296 : Nat) : Int)) := ⟨a0, a1, a2⟩
      clear R hown' hgrow hA hrow a0 a1 a2
      go_wp2_with fail
      refine (reverse_three b cap _ _ _ A w2 HRow.out hc3 hcm HA.out.1 HA.out.2.1 HA.out.2.2).mono ?_
      rintro e' w3 ⟨rfl, hr3, ho3⟩
      obtain ⟨N, hN⟩ : ∃ N : Nat → Nat, N = fun i => if i = 0 then D * 4294967296 else if i = 1 then hv f 16 16 else if i = 2 then hv f 0 16 else 0 := ⟨_, rfl⟩
      obtain ⟨A3, hA3⟩ : ∃ A3, A3 = upd (upd A 0 (.int .u64 ((D * 4294967296 : Nat) : Int))) 2 (.int .u64 (hv f 0 16 : Int)) := ⟨_, rfl⟩
      rw [← hA3] at hr3
      have n0 : N 0 = D * 4294967296 := by rw [hN]; rfl
      have n1 : N 1 = hv f 16 16 := by rw [hN]; rfl
      have n2 : N 2 = hv f 0 16 := by rw [hN]; rfl
      have b0 : hv f 0 16 < 18446744073709551616 := hv_lt f 0 HF.out 16
      have b1 : hv f 16 16 < 18446744073709551616 := hv_lt f 16 HF.out 16
      have bN : ∀ i, N i < 18446744073709551616 := by
        intro i
        rw [hN]
        show (if i = 0 then D * 4294967296 else if i = 1 then hv f 16 16 else if i = 2 then hv f 0 16 else 0) < _
        split
        · omega
        · split
          · exact b1
          · split
            · exact b0
            · omega
      have hAN : ∀ i, i < 3 → A3 i = .int .u64 (N i : Int) := by
        intro i hi
        obtain rfl | rfl | rfl : i = 0 ∨ i = 1 ∨ i = 2 := by omega
        · rw [n0, hA3]; rfl
        · rw [n1, hA3]; exact HA.out.2.1
        · rw [n2, hA3]; rfl
      have HN : Hid (N 0 = D * 4294967296 ∧ N 1 = hv f 16 16 ∧ N 2 = hv f 0 16 ∧ hv f 0 16 < 18446744073709551616 ∧ hv f 16 16 < 18446744073709551616) := ⟨n0, n1, n2, b0, b1⟩
      have HbN : Hid (∀ i, N i < 18446744073709551616) := bN
      have HAN : Hid (∀ i, i < 3 → A3 i = .int .u64 (N i : Int)) := hAN
      have HR3 : Hid (Row w3 b cap A3) := hr3
      have HO3 : Hid (Only b w2 w3) := ho3
      have hbs3 : b < w3.heap.size := by rw [ho3.size]; exact hbs
      have HC3 : Hid (∀ i, i < 3 → w3.cell? ⟨b, i, none⟩ = some (.int .u64 (N i : Int))) := fun i hi => by rw [← hAN i hi]; exact hr3.read i (by omega)
      clear hr3 ho3 n0 n1 n2 b0 b1 bN hAN hA3 hN
      go_wp2_with fail
      refine (norm_any b cap 3 N w3 HC3.out hc3 hcm).mono ?_
      rintro e' w4 ⟨n, hn3, hnz, hnt, rfl, rfl⟩
      have HNZ : Hid (∀ i, n ≤ i → i < 3 → N i = 0) := hnz
      clear hnz hnt
      obtain ⟨x0, x1, x2, y0, y1⟩ := HN.out
      have W := shW_wd N n (hv f 0 16) (hv f 16 16) D (hv f 0 40) hn3 x0 x1 x2 HNZ.out y0 y1 hDb (by rw [hv_40]; have := HD.out; rw [← this])
      have HW1 : Hid (∀ i, i < n → shW N n i = wd (hv f 0 40) i) := W.1
      have HW2 : Hid (∀ i, n ≤ i → wd (hv f 0 40) i = 0) := W.2
      have HT : Hid (hv f 0 40 < 1461501637330902918203684832716283019655932542976) := hv_lt f 0 HF.out 40
      clear W x0 x1 x2 y0 y1
      rcases Nat.eq_zero_or_pos n with rfl | hn1
      · go_wp2_with fail
        refine (rsh_nil b cap w4 hcm).mono ?_
        rintro e' w5 ⟨rfl, rfl⟩
        go_wp2_with fail
        try simp only [Exit.inBlock, Exit.then]
        refine bodyPost_ret (results_tmp4 rfl _ _ _) rfl ?_
        refine ⟨b, cap, 0, rfl, hbB, hbs3, ⟨⟨A3, HR3.out, fun i hi => by omega⟩, by omega, by omega, hcm, HW2.out, Or.inl rfl, HT.out, by omega⟩, HR2.out.only HO3.out (by omega), HB2.out.trans ⟨HO3.out.os, HO3.out.tape, HO3.out.output, by rw [HO3.out.size]; exact Nat.le_refl _, fun j hj _ => HO3.out.block j (by omega)⟩⟩
      · go_wp2_with fail
        refine (rsh_any b cap n N A3 w4 HR3.out (fun i hi => HAN.out i (by omega)) HbN.out hn1 (by omega) hcm).mono ?_
        rintro e' w5 ⟨m, A5, m1, m2, m3, rfl, ho5, hr5, ha5⟩
        have HO5 : Hid (Only b w4 w5) := ho5
        have HR5 : Hid (Row w5 b cap A5) := hr5
        have hbs5 : b < w5.heap.size := by rw [ho5.size]; exact hbs3
        have HM : Hid ((∀ i, m ≤ i → i < n → shW N n i = 0) ∧ (m = 0 ∨ shW N n (m - 1) ≠ 0) ∧ ∀ i, i < n → A5 i = .int .u64 (shW N n i : Int)) := ⟨m2, m3, ha5⟩
        clear ho5 hr5 m2 m3 ha5
        go_wp2_with fail
        try simp only [Exit.inBlock, Exit.then]
        refine bodyPost_ret (results_tmp4 rfl _ _ _) rfl ?_
        obtain ⟨m2, m3, ha5⟩ := HM.out
        have HOO := HO3.out.trans HO5.out
        refine ⟨b, cap, m, rfl, hbB, hbs5, ⟨⟨A5, HR5.out, fun i hi => by rw [ha5 i (by omega), HW1.out i (by omega)]⟩, by omega, by omega, hcm, fun i hi => ?_, ?_, HT.out, by omega⟩, HR2.out.only HOO (by omega), HB2.out.trans ⟨HOO.os, HOO.tape, HOO.output, by rw [HOO.size]; exact Nat.le_refl _, fun j hj _ => HOO.block j (by omega)⟩⟩
        · by_cases h : i < n
          · rw [← HW1.out i h]; exact m2 i hi h
          · exact HW2.out i (by omega)
        · rcases m3 with h | h
          · exact Or.inl h
          · by_cases h0 : m = 0
            · exact Or.inl h0
            · exact Or.inr (by rw [← HW1.out (m - 1) (by omega)]; exact h)
end Go.Proofs.Qxb6608999aFmt
