/-
  THE WALK OF FnLackedByDropsExactlyWhatTheReportReceived (3).
-/
import Derived.Test.Qxb6604164aSizes
import Derived.Test.Qxb6604164aSbm
namespace Go.Proofs.Qxb6604164a
open Go.RowKit Go.Maps
set_option linter.unusedVariables false

/-- What is known of the eleven arguments. -/
structure Args (w : World) (ma a1 a2 a3 a4 a5 a a9 a10 : Option Addr) (ml l1 l2 l3 l4 l5 len l9 l10 : Nat) (I N : Nat → Int) (A : Nat → ByteArray) (K1 V1 K2 V2 OI ON : Nat → Int) (V S Q T : Nat → Int) (PA : Nat → Option Addr) (PL PC : Nat → Nat) (K3 V3 : Nat → Int) : Prop where
  hP : Peers w ma ml I N A
  hA : ∀ i, i < ml → (A i).size ≤ maxLen
  h1 : Ints .u32 w a1 l1 K1
  h2 : Ints .u64 w a2 l2 V1
  h3 : Ints .u32 w a3 l3 K2
  h4 : Ints .u64 w a4 l4 V2
  hO : Runs w a5 l5 OI ON
  hM : Msgs w a len V S Q T PA PL PC
  hPL : ∀ i, i < len → PL i ≤ maxLen
  hPay : ∀ i, i < len → Pay w (PA i) (PL i)
  hS : ∀ i, i < len → (Lit.int .u32 (S i)).wf = true
  h9 : Ints .u32 w a9 l9 K3
  h10 : Ints .u64 w a10 l10 V3
  n1 : a1 = none → l1 = 0
  n3 : a3 = none → l3 = 0
  n9 : a9 = none → l9 = 0
  b0 : ml ≤ maxLen
  b1 : l1 ≤ maxLen
  b2 : l2 ≤ maxLen
  b3 : l3 ≤ maxLen
  b4 : l4 ≤ maxLen
  b5 : l5 ≤ maxLen
  b6 : len ≤ maxLen
  b9 : l9 ≤ maxLen
  b10 : l10 ≤ maxLen

theorem Try.info42 : (Try.prog.info? 42).map (·.size) = some 6 := by kernel_rfl
theorem eql_inst (w : World) (a : Nat) : (binOp .eql 32 (.pointer (some ⟨a, 0, none⟩)) (.pointer (some ⟨a, 0, none⟩))).run Try.prog w = .ok (.bool true) w := by
  obtain ⟨i, hi, hs⟩ := Option.map_eq_some_iff.1 Try.info42
  exact run_eql_ptr_same w _ Try.underlying32 hi

theorem Try.info3 : (Try.prog.info? 3).map (fun i => (i.zero, i.size, i.bytes)) = some (some (.int .i64 0), 1, 8) := by kernel_rfl
theorem make_keep (n : Nat) (hn : n ≤ 65536) (w : World) : (Instr.makeSlice 45 (.int .i64 0) (.int .i64 (n : Int))).run Try.prog w = .ok (.slice (some ⟨w.heap.size, 0, none⟩) 0 n) (w.alloc (.cells (madeCells #[.int .i64 0] n) 3)) := by
  obtain ⟨i0, hi, hz0, hz1, hz2⟩ := info_parts Try.info3
  have hr := run_make (P := Try.prog) w 45 3 i0 _ Try.underlying45 hi hz0 .i64 .i64 0 n (by omega) (by omega) (by rw [hz2]; omega) (by omega)
  simp only [show (0 : Int).toNat = 0 from rfl, Int.toNat_natCast, hz1, Nat.mul_one] at hr
  exact hr

theorem eql_two {w : World} {a b : Nat} {v v' : Int} {pa pa' : Option Addr} {pl pl' : Nat} {c c' l l' : Option Nat} {da da' : Option Addr} {dl dl' dc dc' : Nat} {ra ra' : Option Addr} {rl rl' : Nat} (ha : Inst w a v pa pl c l da dl dc ra rl) (hb : Inst w b v' pa' pl' c' l' da' dl' dc' ra' rl') (hne : b ≠ a) :
    (binOp .eql 32 (.pointer (some ⟨a, 0, none⟩)) (.pointer (some ⟨b, 0, none⟩))).run Try.prog w = .ok (.bool false) w := by
  obtain ⟨i, hi, hs⟩ := Option.map_eq_some_iff.1 Try.info42
  exact run_eql_ptr_other w Try.underlying32 hi (by omega) (by intro e; exact hne (congrArg Addr.block e).symm) ha.blk hb.blk

theorem keep_cell {w : World} {g n cap : Nat} {f : Nat → Bool} (hown : w.ownsRow g 3 1 (.slice (some ⟨g, 0, none⟩) (kp f n).length cap) (kp f n).length ((kp f n).map fun i : Nat => Value.int .i64 (i : Int))) {t : Nat} (ht : t < (kp f n).length) :
    w.cell? ⟨g, t, none⟩ = some (.int .i64 ((kp f n).getD t 0 : Nat)) ∧ (kp f n).getD t 0 < n := by
  rcases hown.2 with ⟨h, _⟩ | ⟨g', cap', cur, h, h1, h2, h3, h4, h5, h6⟩
  · cases h
  · cases h
    constructor
    · have hc : cur.toList[t]? = some (.int .i64 ((kp f n).getD t 0 : Nat)) := by
        have : (cur.toList.take ((kp f n).length * 1))[t]? = ((kp f n).map fun i : Nat => Value.int .i64 (i : Int))[t]? := by rw [h6]
        rw [List.getElem?_take_of_lt (by omega)] at this
        rw [this]
        simp [List.getD_eq_getElem?_getD, ht]
      have hc' : cur[t]? = some (.int .i64 ((kp f n).getD t 0 : Nat)) := by simpa using hc
      simp [World.cell?, h2, hc']
    · have hm : (kp f n).getD t 0 ∈ kp f n := by
        rw [List.getD_eq_getElem?_getD, List.getElem?_eq_getElem ht]
        simp
      have := (List.mem_filter.1 hm).1
      simpa using this

theorem small (l : Nat) (h : ¬ 65536 < l) : decide ((65536 : Int) < (l : Int)) = false := by simp; omega
theorem big (l : Nat) (h : 65536 < l) : (65536 : Int) < (l : Int) := by omega

set_option maxRecDepth 100000 in
set_option maxHeartbeats 4000000 in
theorem law3 (v : Int) (nr : Bool) (ma a1 a2 a3 a4 a5 a a9 a10 : Option Addr) (ml mc l1 c1 l2 c2 l3 c3 l4 c4 l5 c5 len cap l9 c9 l10 c10 : Nat) (I N : Nat → Int) (A : Nat → ByteArray) (K1 V1 K2 V2 OI ON : Nat → Int) (V S Q T : Nat → Int) (PA : Nat → Option Addr) (PL PC : Nat → Nat) (K3 V3 : Nat → Int) (w : World)
    (hX : Args w ma a1 a2 a3 a4 a5 a a9 a10 ml l1 l2 l3 l4 l5 len l9 l10 I N A K1 V1 K2 V2 OI ON V S Q T PA PL PC K3 V3) :
    Calls Try.prog 3 #[.int .u64 v, .slice ma ml mc, .slice a1 l1 c1, .slice a2 l2 c2, .slice a3 l3 c3, .slice a4 l4 c4, .slice a5 l5 c5, .slice a len cap, .bool nr, .slice a9 l9 c9, .slice a10 l10 c10] w (Truly w) := by
  have X : Hid (Args w ma a1 a2 a3 a4 a5 a a9 a10 ml l1 l2 l3 l4 l5 len l9 l10 I N A K1 V1 K2 V2 OI ON V S Q T PA PL PC K3 V3) := hX
  clear hX
  go_enter Try.func3, Try.ntmps3
  go_wp2_with fail
  refine (zz7 v nr ma a1 a2 a3 a4 a5 a a9 a10 ml mc l1 c1 l2 c2 l3 c3 l4 c4 l5 c5 len cap l9 c9 l10 c10 I N A V S Q T PA PL PC _ X.out.hP X.out.hA X.out.hM X.out.hPL X.out.b0 X.out.b1 X.out.b2 X.out.b3 X.out.b4 X.out.b5 X.out.b6 X.out.b9 X.out.b10).mono ?_
  rintro e w1 ⟨bb, rfl, rfl, hR⟩
  cases bb
  · go_wp2
    go_ret
    exact ⟨rfl, Below.refl _ _⟩
  have HPL : Hid (∀ i, i < len → PL i ≤ 1048576) := hR rfl
  clear hR
  have fin : ∀ l, 65536 < l → True := fun _ _ => trivial
  clear fin
  by_cases g0 : 65536 < ml
  · have g0 := big _ g0
    go_wp2_with fail
    go_ret
    exact ⟨rfl, Below.refl _ _⟩
  have e0 := small _ g0
  by_cases g1 : 65536 < l1
  · have g1 := big _ g1
    go_wp2_with fail
    go_ret
    exact ⟨rfl, Below.refl _ _⟩
  have e1 := small _ g1
  by_cases g2 : 65536 < l2
  · have g2 := big _ g2
    go_wp2_with fail
    go_ret
    exact ⟨rfl, Below.refl _ _⟩
  have e2 := small _ g2
  by_cases g3 : 65536 < l3
  · have g3 := big _ g3
    go_wp2_with fail
    go_ret
    exact ⟨rfl, Below.refl _ _⟩
  have e3 := small _ g3
  by_cases g4 : 65536 < l4
  · have g4 := big _ g4
    go_wp2_with fail
    go_ret
    exact ⟨rfl, Below.refl _ _⟩
  have e4 := small _ g4
  by_cases g5 : 65536 < l5
  · have g5 := big _ g5
    go_wp2_with fail
    go_ret
    exact ⟨rfl, Below.refl _ _⟩
  have e5 := small _ g5
  by_cases g6 : 65536 < len
  · have g6 := big _ g6
    go_wp2_with fail
    go_ret
    exact ⟨rfl, Below.refl _ _⟩
  have e6 := small _ g6
  by_cases g9 : 65536 < l9
  · have g9 := big _ g9
    go_wp2_with fail
    go_ret
    exact ⟨rfl, Below.refl _ _⟩
  have e9 := small _ g9
  by_cases g10 : 65536 < l10
  · have g10 := big _ g10
    go_wp2_with fail
    go_ret
    exact ⟨rfl, Below.refl _ _⟩
  have e10 := small _ g10
  have f0 : ml ≤ 65536 := by omega
  have f1 : l1 ≤ 65536 := by omega
  have f2 : l2 ≤ 65536 := by omega
  have f3 : l3 ≤ 65536 := by omega
  have f4 : l4 ≤ 65536 := by omega
  have f5 : l5 ≤ 65536 := by omega
  have f6 : len ≤ 65536 := by omega
  have f9 : l9 ≤ 65536 := by omega
  have f10 : l10 ≤ 65536 := by omega
  clear g0 g1 g2 g3 g4 g5 g6 g9 g10
  go_wp2_with fail
  refine (budget8 ma a1 a2 a3 a4 a5 a a9 a10 ml mc l1 c1 l2 c2 l3 c3 l4 c4 l5 c5 len cap l9 c9 l10 c10 I N A V S Q T PA PL PC _ X.out.hP X.out.hA X.out.hM X.out.hPL f0 f1 f2 f3 f4 f5 f6 f9 f10).mono ?_
  rintro e w1 ⟨r, rfl, rfl⟩
  clear e0 e1 e2 e3 e4 e5 e6 e9 e10
  by_cases hr : r < 0
  · go_wp2_with fail
    go_ret
    exact ⟨rfl, Below.refl _ _⟩
  have hr' : decide (r < 0) = false := by simpa using hr
  go_wp2_with fail
  refine (map9 a1 a2 l1 c1 l2 c2 K1 V1 _ X.out.h1 X.out.h2 f1 f2 X.out.n1).mono ?_
  rintro e w1 ⟨m1, D1, rfl, ho1, hb1⟩
  go_wp2_with fail
  refine (map9 a3 a4 l3 c3 l4 c4 K2 V2 _ (X.out.h3.below hb1) (X.out.h4.below hb1) f3 f4 X.out.n3).mono ?_
  rintro e w2 ⟨m2, D2, rfl, ho2, hb2'⟩
  have hb2 : Below w.heap.size w w2 := hb1.trans (hb2'.mono hb1.size)
  go_wp2_with fail
  refine (map9 a9 a10 l9 c9 l10 c10 K3 V3 _ (X.out.h9.below hb2) (X.out.h10.below hb2) f9 f10 X.out.n9).mono ?_
  rintro e w3 ⟨m3, D3, rfl, ho3, hb3'⟩
  have hb3 : Below w.heap.size w w3 := hb2.trans (hb3'.mono hb2.size)
  go_wp2_with fail
  refine (inst10 v ma ml mc I N A m1 m2 a5 l5 c5 OI ON a len cap V S Q T PA PL PC _ (X.out.hP.below hb3) f0 (X.out.hO.below hb3) f5 (X.out.hM.below hb3) f6 HPL.out (fun i hi => (X.out.hPay i hi).below hb3)).mono ?_
  rintro e w4 ⟨ib, pa, da, ra, B, rfl, hI, hps, hkp, hrs, hb4'⟩
  have hb4 : Below w.heap.size w w4 := hb3.trans (hb4'.mono hb3.size)
  have HO1 : Hid (MapOwn w4 m1 D1) := ((ho1.below hb2').below hb3').below hb4'
  have HO2 : Hid (MapOwn w4 m2 D2) := (ho2.below hb3').below hb4'
  have HO3 : Hid (MapOwn w4 m3 D3) := ho3.below hb4'
  have HK1 : Hid (Ints .u32 w4 a1 l1 K1) := X.out.h1.below hb4
  have HK2 : Hid (Ints .u32 w4 a3 l3 K2) := X.out.h3.below hb4
  have HS : Hid (∀ i, i < len → (Lit.int .u32 (S i)).wf = true) := X.out.hS
  have HI : Hid (Inst w4 ib v pa ml m1 m2 da len len ra l5) := hI
  have HPS : Hid (PSl w4 pa ml) := hps
  have HKP : Hid (Kept w4 da len S Q B) := hkp
  have HRS : Hid (RSl w4 ra l5) := hrs
  clear X HPL ho1 ho2 ho3 hb1 hb2 hb2' hb3 hb3' hb4' hI hps hkp hrs hr
  have hmk := fun wx => run_make_row' (P := Try.prog) 39 43 (.pointer none) 8 Try.underlying39 Try.info43 rfl .i64 .i64 len (by omega) (by omega) wx
  have hll : ((len : Int) != (len : Int)) = false := by simp
  cases nr
  · go_wp2_with fail
    refine (rep11_no m3 _).mono ?_
    rintro e w5 ⟨fb, rfl, hfl, hb5⟩
    have HI5 : Hid (Inst w5 ib v pa ml m1 m2 da len len ra l5) := HI.out.below hb5
    have HK5 : Hid (Kept w5 da len S Q B) := HKP.out.below hb5
    have HF5 : Hid (Flu w5 fb m3) := hfl
    have HM5 : Hid (MapOwn w5 m3 D3) := HO3.out.below hb5
    have HPS5 : Hid (PSl w5 pa ml) := HPS.out.below hb5
    have HRS5 : Hid (RSl w5 ra l5) := HRS.out.below hb5
    have HO15 : Hid (MapOwn w5 m1 D1) := HO1.out.below hb5
    have HO25 : Hid (MapOwn w5 m2 D2) := HO2.out.below hb5
    have HK15 : Hid (Ints .u32 w5 a1 l1 K1) := HK1.out.below hb5
    have HK25 : Hid (Ints .u32 w5 a3 l3 K2) := HK2.out.below hb5
    have hbw5 : Below w.heap.size w w5 := hb4.trans (hb5.mono hb4.size)
    clear hfl HI HKP HO3 HPS HRS HO1 HO2 HK1 HK2 hb4 hb5
    have c4 := HI5.out.c4
    have hlt := HI5.out.lt
    have hne : ib ≠ w5.heap.size := by omega
    go_wp2_with fail
    go_loopw [30] (fun i wr => ∃ k : Nat, k ≤ len ∧ i = .int .i64 k ∧ Below w5.heap.size w5 wr ∧ wr.rowIs w5.heap.size 43 len (fun j => .pointer (if j < k then some ⟨B j, 0, none⟩ else none))) (fun i _ => len - (intOf i).toNat)
    case atStart => exact ⟨0, Nat.zero_le _, rfl, (Below.refl _ _).alloc (Nat.le_refl _) _, World.rowIs_made _ _ _ _⟩
    case round =>
      obtain ⟨k, hk, rfl, hbel, hrow⟩ := hrel
      have c4' : wr.cell? ⟨ib, 4, none⟩ = some (.slice da len len) := (hbel.cell (by exact hlt)).trans c4
      by_cases hlt' : k < len
      · rcases HK5.out with h0 | ⟨g0, hda, hg0, hp, hB⟩
        · omega
        subst hda
        have hpk : wr.cell? ⟨g0, k, none⟩ = some (.pointer (some ⟨B k, 0, none⟩)) := (hbel.cell (by exact hg0)).trans (hp k hlt')
        have hst : wr.cell? ⟨w5.heap.size, k, none⟩ = some (.pointer none) := by simpa using hrow.cell hlt'
        have hsf := hrow.frozen k
        have hi : (k : Int) < (len : Int) := by omega
        clear hp hB
        go_wp2_with fail
        go_roundw
        case rel =>
          refine ⟨k + 1, by omega, by go_num, hbel.setCell (Nat.le_refl _) _, (hrow.set k _).congr fun j hj => ?_⟩
          by_cases e : j = k
          · subst e; simp
          · rw [if_neg e]
            by_cases e2 : j < k
            · rw [if_pos e2, if_pos (by omega)]
            · rw [if_neg e2, if_neg (by omega)]
        case measure => simp [intOf]; omega
      · have hkl : len = k := by omega
        subst hkl
        clear hlt'
        have hlk := lack24 ib fb v pa ml m1 m2 da len ra l5 m3 D3 S Q B wr (HI5.out.below hbel) (HF5.out.below hbel) (HM5.out.below hbel) f6 (HK5.out.below hbel) HS.out
        have HLK : Hid (Calls Try.prog 24 #[.pointer (some ⟨ib, 0, none⟩), .pointer (some ⟨fb, 0, none⟩)] wr (Ptr (Lacked wr ib v pa ml m1 m2 len ra l5 B (dl m3 D3 S Q)))) := hlk.mono fun e w' h => by
          rcases h.2 with ⟨_, he⟩ | ⟨_, nb, g, cap', he, _⟩
          · exact ⟨_, he, h⟩
          · exact ⟨_, he, h⟩
        clear hlk
        go_wp2_with fail
        refine (zz12 (some ⟨ib, 0, none⟩) (some ⟨fb, 0, none⟩) _ _ HLK.out).mono ?_
        rintro e w6 ⟨u, he, hb6, hcase⟩
        subst he
        have hbe : Below w5.heap.size w5 w6 := hbel.trans (hb6.mono hbel.size)
        have c46 : w6.cell? ⟨ib, 4, none⟩ = some (.slice da len len) := (hbe.cell (by exact hlt)).trans c4
        have HBR : Hid (∀ j, j < len → w6.cell? ⟨w5.heap.size, j, none⟩ = some (.pointer (some ⟨B j, 0, none⟩))) := fun j hj => (hb6.cell (by exact hrow.lt)).trans (by simpa [hj] using hrow.cell hj)
        have HGB : Hid (w5.heap.size < w6.heap.size) := Nat.lt_of_lt_of_le hrow.lt hb6.size
        have HG : Hid (∀ g0, da = some ⟨g0, 0, none⟩ → ∀ j, j < len → w6.cell? ⟨g0, j, none⟩ = some (.pointer (some ⟨B j, 0, none⟩))) := fun g0 e j hj => by
          rcases HK5.out with h0 | ⟨g1, hda, hg1, hp, hB⟩
          · omega
          · rw [hda] at e
            cases e
            exact (hbe.cell (by exact hg1)).trans (hp j hj)
        have HDA : Hid (0 < len → ∃ g0, da = some ⟨g0, 0, none⟩) := fun h => by
          rcases HK5.out with h0 | ⟨g1, hda, _⟩
          · omega
          · exact ⟨g1, hda⟩
        have HBX : Hid (∀ j, j < len → Box w6 (B j) (S j) (Q j)) := fun j hj => by
          rcases HK5.out with h0 | ⟨g1, hda, hg1, hp, hB⟩
          · omega
          · exact (hB j hj).below hbe (hB j hj).lt
        have HM6 : Hid (MapOwn w6 m3 D3) := HM5.out.below hbe
        have HPS6 : Hid (PSl w6 pa ml) := HPS5.out.below hbe
        have HRS6 : Hid (RSl w6 ra l5) := HRS5.out.below hbe
        have HO16 : Hid (MapOwn w6 m1 D1) := HO15.out.below hbe
        have HO26 : Hid (MapOwn w6 m2 D2) := HO25.out.below hbe
        have HK16 : Hid (Ints .u32 w6 a1 l1 K1) := HK15.out.below hbe
        have HK26 : Hid (Ints .u32 w6 a3 l3 K2) := HK25.out.below hbe
        have HI6 : Hid (Inst w6 ib v pa ml m1 m2 da len len ra l5) := HI5.out.below hbe
        have hbf : Below w.heap.size w w6 := hbw5.trans (hbe.mono hbw5.size)
        have HU : Hid (((kp (dl m3 D3 S Q) len).length = len ∧ u = ⟨ib, 0, none⟩) ∨ ((kp (dl m3 D3 S Q) len).length ≠ len ∧ ∃ nb g cap', u = ⟨nb, 0, none⟩ ∧ ib ≠ nb ∧ Inst w6 nb v pa ml m1 m2 (some ⟨g, 0, none⟩) (kp (dl m3 D3 S Q) len).length cap' ra l5 ∧ g < w6.heap.size ∧
            ∀ t, t < (kp (dl m3 D3 S Q) len).length → w6.cell? ⟨g, t, none⟩ = some (.pointer (some ⟨B ((kp (dl m3 D3 S Q) len).getD t 0), 0, none⟩)))) := by
          rcases hcase with ⟨h1, h2⟩ | ⟨h1, nb, g, cap', h2, h3, h4, h5, h6⟩
          · exact .inl ⟨h1, by cases h2; rfl⟩
          · exact .inr ⟨h1, nb, g, cap', by cases h2; rfl, by have := hbel.size; omega, h4, h5, h6⟩
        clear hcase hb6 hbel hrow c4' hbe HI5 HK5 HF5 HM5 HPS5 HRS5 HO15 HO25 HK15 HK25 hbw5 HLK
        go_wp2_with fail
        go_loopw [32] (fun i wr => ∃ k : Nat, k ≤ len ∧ i = .int .i64 k ∧ ∃ d, wr = w6.drewN d) (fun i _ => len - (intOf i).toNat)
        case atStart => exact ⟨0, Nat.zero_le _, rfl, 0, rfl⟩
        case round =>
          obtain ⟨k, hk', rfl, d, rfl⟩ := hrel
          by_cases hlt' : k < len
          · obtain ⟨g0, hda⟩ := HDA.out (by omega)
            subst hda
            have h1 := HG.out g0 rfl k hlt'
            have h2 := HBR.out k hlt'
            have hi : (k : Int) < (len : Int) := by omega
            have hneq := fun wx => neq_box wx (B k)
            go_wp2_with fail
            go_quiet (fail)
            go_wp2_with fail
            go_roundw
            case rel => exact ⟨k + 1, by omega, by go_num, _, rfl⟩
            case measure => simp [intOf]; omega
          · have hnil := fun wx => run_eql_pointer_nil (P := Try.prog) (w := wx) 34 (some ⟨fb, 0, none⟩) (by kernel_rfl)
            have hmk2 := make_keep len f6
            go_wp2_with fail
            obtain ⟨i0, hi0, hz0, hz1, hz2⟩ := info_parts Try.info3
            go_loopw [33, 34] (fun x y wr => ∃ j : Nat, j ≤ len ∧ y = .int .i64 j ∧ x = .slice (some ⟨w6.heap.size, 0, none⟩) (kp (dl m3 D3 S Q) j).length len ∧ Below w6.heap.size w6 wr ∧ wr.ownsRow w6.heap.size 3 1 (.slice (some ⟨w6.heap.size, 0, none⟩) (kp (dl m3 D3 S Q) j).length len) (kp (dl m3 D3 S Q) j).length ((kp (dl m3 D3 S Q) j).map fun i : Nat => Value.int .i64 (i : Int))) (fun _ y _ => len - (intOf y).toNat)
            case atStart =>
              refine ⟨0, Nat.zero_le _, rfl, rfl, ?_, ?_⟩
              · first | exact (below_drewN (Below.refl _ _) d).alloc (Nat.le_refl _) _ | exact below_drewN ((Below.refl _ _).alloc (Nat.le_refl _) _) d
              · exact World.ownsRow_made w6 (madeCells #[.int .i64 0] len) len (Nat.le_refl _) (by unfold maxLen; omega) (by rw [size_madeCells, Nat.mul_one])
            case round =>
              obtain ⟨j, hj, rfl, rfl, hbel, hown⟩ := hrel
              by_cases hlt3 : j < len
              · have hr1 : wr.cell? ⟨w5.heap.size, j, none⟩ = some (.pointer (some ⟨B j, 0, none⟩)) := (hbel.cell (by exact HGB.out)).trans (HBR.out j hlt3)
                have hbx := (HBX.out j hlt3).below hbel (HBX.out j hlt3).lt
                have q1 := hbx.c1
                have q2 := hbx.c2
                have hlook : ∀ n, (Instr.lookup 30 (.map m3) (.int .u32 (S j)) false).run Try.prog (wr.drewN n) = .ok (.int .u64 (lk m3 D3 (S j))) (wr.drewN n) := fun n => ((HM6.out.below hbel).below (below_drewN (Below.refl _ _) n)).look (HS.out j hlt3)
                have hi : (j : Int) < (len : Int) := by omega
                have hle := kp_le (dl m3 D3 S Q) j
                have HDL : Hid (dl m3 D3 S Q j = decide (Q j ≤ lk m3 D3 (S j))) := rfl
                clear hbx
                generalize lk m3 D3 (S j) = c at *
                by_cases hkeep : c < Q j
                · have hkp : Hid (kp (dl m3 D3 S Q) (j + 1) = kp (dl m3 D3 S Q) j ++ [j]) := by
                    have e : dl m3 D3 S Q j = false := by rw [HDL.out]; simp; omega
                    show kp (dl m3 D3 S Q) (j + 1) = _
                    rw [kp_succ, e]; simp
                  go_wp2_with fail
                  go_quiet (fail)
                  go_wp2_with (at_builtin; refine wpList_append_fits _ rfl _ _ 45 rfl w6.heap.size 3 i0 1 Try.underlying45 hi0 hz1 w6.heap.size _ len _ rfl (by exact hown.alloc _) ⟨wr.heap.size, 0, none⟩ 1 1 [.int .i64 (j : Int)] rfl rfl ?c1 ?c2 ?c3 ?_)
                  case c1 => exact cell_one_new (wr.drewN nq) _ _
                  case c2 => intro u hu; simp at hu; subst hu; rfl
                  case c3 => omega
                  · intro w7 hown7 hgrow7
                    have hb7 : Below w6.heap.size w6 w7 := ((below_drewN hbel nq).alloc hbel.size _).grown hgrow7 (by have := hbel.size; simp; omega) (fun t ht => by cases ht; exact Nat.le_refl _)
                    clear hgrow7 hown hlook hr1 q1 q2
                    go_wp2_with fail
                    go_roundw
                    case rel =>
                      refine ⟨j + 1, by omega, by go_num, ?_, hb7, ?_⟩
                      · rw [hkp.out]; simp
                      · rw [hkp.out]; simpa using hown7
                    case measure => simp [intOf]; omega
                · have hkp : Hid (kp (dl m3 D3 S Q) (j + 1) = kp (dl m3 D3 S Q) j) := by
                    have e : dl m3 D3 S Q j = true := by rw [HDL.out]; simp; omega
                    show kp (dl m3 D3 S Q) (j + 1) = _
                    rw [kp_succ, e]; simp
                  have hkeep' : decide (c < Q j) = false := by simpa using hkeep
                  go_wp2_with fail
                  go_quiet (fail)
                  go_wp2_with fail
                  go_roundw
                  case rel => exact ⟨j + 1, by omega, by go_num, by rw [hkp.out], below_drewN hbel _, by rw [hkp.out]; exact hown⟩
                  case measure => simp [intOf]; omega
              · have hjl : len = j := by omega
                subst hjl
                clear hlt3
                rcases HU.out with ⟨hcl, hu⟩ | ⟨hcl, nb, g, cap', hu, hnb, hIn, hg, hcells⟩
                · subst hu
                  have heq := fun wx => eql_inst wx ib
                  have hce : (((kp (dl m3 D3 S Q) len).length : Int) == (len : Int)) = true := by rw [beq_iff_eq]; omega
                  clear hcl
                  go_wp2_with fail
                  go_ret
                  exact ⟨rfl, hbf.trans (hbel.mono hbf.size)⟩
                · subst hu
                  have hle := kp_le (dl m3 D3 S Q) len
                  have hce : (((kp (dl m3 D3 S Q) len).length : Int) == (len : Int)) = false := by rw [beq_eq_false_iff_ne]; omega
                  have hcc : (((kp (dl m3 D3 S Q) len).length : Int) != ((kp (dl m3 D3 S Q) len).length : Int)) = false := by simp
                  have HIn : Hid (Inst wr nb v pa ml m1 m2 (some ⟨g, 0, none⟩) (kp (dl m3 D3 S Q) len).length cap' ra l5) := hIn.below hbel
                  have HIb : Hid (Inst wr ib v pa ml m1 m2 da len len ra l5) := HI6.out.below hbel
                  have hnil2 := fun wx => run_eql_pointer_nil (P := Try.prog) (w := wx) 32 (some ⟨nb, 0, none⟩) (by kernel_rfl)
                  have hoth := eql_two HIn.out HIb.out hnb
                  have r4 := HIn.out.c4
                  have HCL : Hid (∀ t, t < (kp (dl m3 D3 S Q) len).length → wr.cell? ⟨g, t, none⟩ = some (.pointer (some ⟨B ((kp (dl m3 D3 S Q) len).getD t 0), 0, none⟩))) := fun t ht => (hbel.cell (by exact hg)).trans (hcells t ht)
                  have HBR3 : Hid (∀ j, j < len → wr.cell? ⟨w5.heap.size, j, none⟩ = some (.pointer (some ⟨B j, 0, none⟩))) := fun j hj => (hbel.cell (by exact HGB.out)).trans (HBR.out j hj)
                  have HKE : Hid (∀ t, t < (kp (dl m3 D3 S Q) len).length → wr.cell? ⟨w6.heap.size, t, none⟩ = some (.int .i64 ((kp (dl m3 D3 S Q) len).getD t 0 : Nat)) ∧ (kp (dl m3 D3 S Q) len).getD t 0 < len) := fun t ht => keep_cell hown ht
                  have hS13 := sbm13 nb ib v pa ml m1 m2 D1 D2 (some ⟨g, 0, none⟩) da (kp (dl m3 D3 S Q) len).length cap' len len ra l5 a1 a3 l1 c1 l3 c3 K1 K2
                  have HB13 : Hid (∀ d, Calls Try.prog 13 #[.pointer (some ⟨nb, 0, none⟩), .pointer (some ⟨ib, 0, none⟩), .slice a1 l1 c1, .slice a3 l3 c3] (wr.drewN d) (Yes (wr.drewN d))) := fun d => by
                    have hbd : Below wr.heap.size wr (wr.drewN d) := below_drewN (Below.refl _ _) d
                    exact hS13 _ (HIn.out.below hbd) (HIb.out.below hbd) ((HPS6.out.below hbel).below hbd) f0 ((HO16.out.below hbel).below hbd) ((HO26.out.below hbel).below hbd) ((HRS6.out.below hbel).below hbd) f5 ((HK16.out.below hbel).below hbd) f1 ((HK26.out.below hbel).below hbd) f3
                  have hbz : Below w.heap.size w wr := hbf.trans (hbel.mono hbf.size)
                  clear hS13 hcl hIn hcells hown HPS6 HO16 HO26 HRS6 HK16 HK26 HI6 HBR HBX HM6 HG HDA HU
                  generalize hL : kp (dl m3 D3 S Q) len = L at *
                  clear hL
                  go_wp2_with fail
                  go_loopw [35] (fun i wx => ∃ t : Nat, t ≤ L.length ∧ i = .int .i64 t ∧ ∃ d, wx = wr.drewN d) (fun i _ => L.length - (intOf i).toNat)
                  case atStart => exact ⟨0, Nat.zero_le _, rfl, 0, rfl⟩
                  case round =>
                    obtain ⟨t, ht, rfl, d4, hd4⟩ := hrel
                    subst hd4
                    by_cases hlt4 : t < L.length
                    · have x1 := HCL.out t hlt4
                      obtain ⟨x2, hx2⟩ := HKE.out t hlt4
                      have x3 := HBR3.out (L.getD t 0) hx2
                      have hi4 : (t : Int) < (L.length : Int) := by omega
                      generalize L.getD t 0 = s at *
                      have hi5 : (s : Int) < (len : Int) := by omega
                      have hneq := fun wx => neq_box wx (B s)
                      go_wp2_with fail
                      go_quiet (fail)
                      go_wp2_with fail
                      go_roundw
                      case rel => exact ⟨t + 1, by omega, by go_num, _, rfl⟩
                      case measure => simp [intOf]; omega
                    · go_wp2_with fail
                      refine (HB13.out d4).mono ?_
                      rintro e wz ⟨rfl, d5, rfl⟩
                      go_wp2_with fail
                      go_ret
                      exact ⟨rfl, below_drewN hbz _⟩
  · go_wp2_with fail
    refine (rep11_yes m3 _).mono ?_
    rintro e w5 ⟨rfl, rfl⟩
    have c4 := HI.out.c4
    have hlt := HI.out.lt
    have hne : ib ≠ w4.heap.size := by omega
    go_wp2_with fail
    go_loopw [30] (fun i wr => ∃ k : Nat, k ≤ len ∧ i = .int .i64 k ∧ Below w4.heap.size w4 wr ∧ wr.rowIs w4.heap.size 43 len (fun j => .pointer (if j < k then some ⟨B j, 0, none⟩ else none))) (fun i _ => len - (intOf i).toNat)
    case atStart => exact ⟨0, Nat.zero_le _, rfl, (Below.refl _ _).alloc (Nat.le_refl _) _, World.rowIs_made _ _ _ _⟩
    case round =>
      obtain ⟨k, hk, rfl, hbel, hrow⟩ := hrel
      have c4' : wr.cell? ⟨ib, 4, none⟩ = some (.slice da len len) := (hbel.cell (by exact hlt)).trans c4
      by_cases hlt' : k < len
      · rcases HKP.out with h0 | ⟨g0, hda, hg0, hp, hB⟩
        · omega
        subst hda
        have hpk : wr.cell? ⟨g0, k, none⟩ = some (.pointer (some ⟨B k, 0, none⟩)) := (hbel.cell (by exact hg0)).trans (hp k hlt')
        have hst : wr.cell? ⟨w4.heap.size, k, none⟩ = some (.pointer none) := by simpa using hrow.cell hlt'
        have hsf := hrow.frozen k
        have hi : (k : Int) < (len : Int) := by omega
        clear hp hB
        go_wp2_with fail
        go_roundw
        case rel =>
          refine ⟨k + 1, by omega, by go_num, hbel.setCell (Nat.le_refl _) _, (hrow.set k _).congr fun j hj => ?_⟩
          by_cases e : j = k
          · subst e; simp
          · rw [if_neg e]
            by_cases e2 : j < k
            · rw [if_pos e2, if_pos (by omega)]
            · rw [if_neg e2, if_neg (by omega)]
        case measure => simp [intOf]; omega
      · have hkl : len = k := by omega
        subst hkl
        clear hlt'
        go_wp2_with fail
        refine (zz12 (some ⟨ib, 0, none⟩) none _ (fun e w' => e = .returned (.pointer (some ⟨ib, 0, none⟩)) ∧ Below wr.heap.size wr w') ((lack24_nil ib _).mono fun e w' h => ⟨_, h.1, h⟩)).mono ?_
        rintro e w6 ⟨u, hu, he, hb6⟩
        subst he
        clear hu
        have hbe : Below w4.heap.size w4 w6 := hbel.trans (hb6.mono hbel.size)
        have c46 : w6.cell? ⟨ib, 4, none⟩ = some (.slice da len len) := (hbe.cell (by exact hlt)).trans c4
        have HBR : Hid (∀ j, j < len → w6.cell? ⟨w4.heap.size, j, none⟩ = some (.pointer (some ⟨B j, 0, none⟩))) := fun j hj => (hb6.cell (by exact hrow.lt)).trans (by simpa [hj] using hrow.cell hj)
        have HG : Hid (∀ g0, da = some ⟨g0, 0, none⟩ → ∀ j, j < len → w6.cell? ⟨g0, j, none⟩ = some (.pointer (some ⟨B j, 0, none⟩))) := fun g0 e j hj => by
          rcases HKP.out with h0 | ⟨g1, hda, hg1, hp, hB⟩
          · omega
          · rw [hda] at e
            cases e
            exact (hbe.cell (by exact hg1)).trans (hp j hj)
        have HDA : Hid (0 < len → ∃ g0, da = some ⟨g0, 0, none⟩) := fun h => by
          rcases HKP.out with h0 | ⟨g1, hda, _⟩
          · omega
          · exact ⟨g1, hda⟩
        have hbf : Below w.heap.size w w6 := hb4.trans (hbe.mono hb4.size)
        clear hb6 hbel hrow c4' hbe
        go_wp2_with fail
        go_loopw [32] (fun i wr => ∃ k : Nat, k ≤ len ∧ i = .int .i64 k ∧ ∃ d, wr = w6.drewN d) (fun i _ => len - (intOf i).toNat)
        case atStart => exact ⟨0, Nat.zero_le _, rfl, 0, rfl⟩
        case round =>
          obtain ⟨k, hk', rfl, d, rfl⟩ := hrel
          by_cases hlt' : k < len
          · obtain ⟨g0, hda⟩ := HDA.out (by omega)
            subst hda
            have h1 := HG.out g0 rfl k hlt'
            have h2 := HBR.out k hlt'
            have hi : (k : Int) < (len : Int) := by omega
            have hneq := fun wx => neq_box wx (B k)
            go_wp2_with fail
            go_quiet (fail)
            go_wp2_with fail
            go_roundw
            case rel => exact ⟨k + 1, by omega, by go_num, _, rfl⟩
            case measure => simp [intOf]; omega
          · have hnil := fun wx => run_eql_pointer_nil (P := Try.prog) (w := wx) 34 none (by kernel_rfl)
            have heq := fun wx => eql_inst wx ib
            go_wp2_with fail
            go_ret
            exact ⟨rfl, below_drewN hbf _⟩

end Go.Proofs.Qxb6604164a
