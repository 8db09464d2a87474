/-
  THE WALK OF FnCheckCRLNumberFirstDecides (4).
-/
import Derived.Test.Qxb6604502aDoorFill
import Derived.Test.Qxb6604502aDoorLawS
namespace Go.Proofs.Qxb6604502aDoor
open Go.RowKit Go.Maps
set_option linter.unusedVariables false

theorem cell_one_at (w : World) (g : Nat) (hg : w.heap.size = g) (x : Value) (t : TypeId) : ∀ j u, [x][j]? = some u → (w.alloc (.cells #[x] t)).cell? ((⟨g, 0, none⟩ : Addr).add j) = some u := by
  subst hg
  exact cell_one_new w x t

/-- Behind the first rows: two of them, and the identifier's block. -/
structure St1 (w0 wr : World) (n k1 k2 : Nat) (L1 L2 : List Value) : Prop where
  below : Below w0.heap.size w0 wr
  r1 : wr.ownsRow w0.heap.size 28 1 (.slice (some ⟨w0.heap.size, 0, none⟩) k1 (n + 1)) k1 L1
  r2 : wr.ownsRow w0.heap.size 4 1 (.slice (some ⟨w0.heap.size + 1, 0, none⟩) k2 (n + 1)) k2 L2
  oid : Ints wr (some ⟨w0.heap.size + 1 + 1, 0, none⟩) 4 oidZ
  lt : w0.heap.size + 1 + 1 < wr.heap.size

theorem own1 (w : World) (n : Nat) (hn : n ≤ 65536) (x y : Obj) (z : Obj) : ((((w.alloc (.cells (madeCells #[.slice none 0 0] (n + 1)) 28)).alloc x).alloc y).alloc z).ownsRow w.heap.size 28 1 (.slice (some ⟨w.heap.size, 0, none⟩) 0 (n + 1)) 0 [] :=
  (((World.ownsRow_made w (madeCells #[.slice none 0 0] (n + 1)) (n + 1) (Nat.le_refl _) (by unfold maxLen; omega) (by rw [size_madeCells, Nat.mul_one])).alloc _).alloc _).alloc _

theorem own2 (w : World) (n : Nat) (hn : n ≤ 65536) (x y z : Obj) : ((((w.alloc x).alloc (.cells (madeCells #[.bool false] (n + 1)) 4)).alloc y).alloc z).ownsRow w.heap.size 4 1 (.slice (some ⟨w.heap.size + 1, 0, none⟩) 0 (n + 1)) 0 [] := by
  have h := World.ownsRow_made (base := w.heap.size) (e := 4) (size := 1) (w.alloc x) (madeCells #[.bool false] (n + 1)) (n + 1) (by simp) (by unfold maxLen; omega) (by rw [size_madeCells, Nat.mul_one])
  have e : (w.alloc x).heap.size = w.heap.size + 1 := by simp
  rw [e] at h
  exact (h.alloc _).alloc _

theorem oidThere (w : World) (g : Nat) (hg : w.heap.size = g) : Ints (w.alloc (.cells #[.int .i64 2, .int .i64 5, .int .i64 29, .int .i64 20] 3)) (some ⟨g, 0, none⟩) 4 oidZ := by
  subst hg
  refine .inr ⟨_, 0, rfl, by simp, fun i hi => ?_⟩
  rcases (show i = 0 ∨ i = 1 ∨ i = 2 ∨ i = 3 by omega) with rfl | rfl | rfl | rfl <;> (show World.cell? _ _ = _) <;> unfold World.cell? <;> rw [Go.Deep.blk_alloc_new] <;> rfl

theorem four_new (w : World) (x y z u : Obj) : Below w.heap.size w ((((w.alloc x).alloc y).alloc z).alloc u) := (((Below.refl _ _).alloc (Nat.le_refl _) _).alloc (by simp) _).alloc (by simp; omega) _ |>.alloc (by simp; omega) _

theorem St1.start {w w' : World} {n : Nat} {L : List Value} (hn : n ≤ 65536) {u : Obj} (hr : w'.ownsRow w.heap.size 28 1 (.slice (some ⟨w.heap.size, 0, none⟩) (0 + 1) (n + 1)) (0 + 1) L)
    (hg : World.grownBy ((((w.alloc (.cells (madeCells #[.slice none 0 0] (n + 1)) 28)).alloc (.cells (madeCells #[.bool false] (n + 1)) 4)).alloc (.cells #[.int .i64 2, .int .i64 5, .int .i64 29, .int .i64 20] 3)).alloc u) w' (some w.heap.size)) : St1 w w' n (0 + 1) 0 L [] := by
  refine ⟨(four_new _ _ _ _ _).grown hg (by simp; omega) (fun t ht => by cases ht; exact Nat.le_refl _), hr, kept' (own2 w n hn _ _ _) hg (by omega), ?_, ?_⟩
  · exact ((oidThere _ (w.heap.size + 1 + 1) (by simp)).below ((Below.refl _ _).alloc (Nat.le_refl _) _)).grown hg (by intro e; have e := Option.some.inj e; omega)
  · have := hg.size
    simp at this
    omega

theorem St1.next {w wr w' : World} {n k1 k : Nat} {L1 L L' : List Value} {u : Obj} (h : St1 w wr n k1 0 L1 L') (hr : w'.ownsRow w.heap.size 4 1 (.slice (some ⟨w.heap.size + 1, 0, none⟩) k (n + 1)) k L) (hg : World.grownBy (wr.alloc u) w' (some (w.heap.size + 1))) : St1 w w' n k1 k L1 L := by
  have hs := h.lt
  refine ⟨(h.below.alloc h.below.size _).grown hg (by simp; omega) (fun t ht => by cases ht; omega), kept' (h.r1.alloc _) hg (by omega), hr, ?_, ?_⟩
  · exact (h.oid.below ((Below.refl _ _).alloc (Nat.le_refl _) _)).grown hg (by intro e; have e := Option.some.inj e; omega)
  · have := hg.size
    simp at this
    omega

theorem St1.full {w wr : World} {n k1 k2 : Nat} {L1 L2 : List Value} (hn : n ≤ 65536) (h : St1 w wr n k1 k2 L1 L2) :
    St w ((wr.alloc (.cells (madeCells #[.slice none 0 0] n) 28)).alloc (.cells (madeCells #[.bool false] n) 4)) w.heap.size (w.heap.size + 1) wr.heap.size (wr.heap.size + 1) (w.heap.size + 1 + 1) n k1 k2 0 0 L1 L2 [] [] := by
  have hs := h.lt
  have h3 := World.ownsRow_made (base := w.heap.size) (e := 28) (size := 1) wr (madeCells #[.slice none 0 0] n) n (by omega) (by unfold maxLen; omega) (by rw [size_madeCells, Nat.mul_one])
  have h4 := World.ownsRow_made (base := w.heap.size) (e := 4) (size := 1) (wr.alloc (.cells (madeCells #[.slice none 0 0] n) 28)) (madeCells #[.bool false] n) n (by simp; omega) (by unfold maxLen; omega) (by rw [size_madeCells, Nat.mul_one])
  have e : (wr.alloc (.cells (madeCells #[.slice none 0 0] n) 28)).heap.size = wr.heap.size + 1 := by simp
  rw [e] at h4
  exact ⟨(h.below.alloc h.below.size _).alloc (by simp; omega) _, (h.r1.alloc _).alloc _, (h.r2.alloc _).alloc _, h3.alloc _, h4, (h.oid.below ((Below.refl _ _).alloc (Nat.le_refl _) _)).below ((Below.refl _ _).alloc (Nat.le_refl _) _),
    Nat.le_refl _, by omega, by omega, by omega, ⟨by omega, by omega, by omega, by omega⟩, ⟨by omega, by omega, by omega⟩, ⟨by omega, by omega⟩, by omega⟩

set_option maxHeartbeats 4000000 in
theorem law4 (a b o : Option Addr) (n c m c' oc : Nat) (cr : Bool) (IA : Nat → Option Addr) (IL IC : Nat → Nat) (Z : Nat → Nat → Int) (C : Nat → Bool) (w : World) (hn : n ≤ maxLen) (hm : m ≤ maxLen) (hI : Ids w a n IA IL IC Z) (hL : ∀ i, i < n → IL i ≤ maxLen)
    (h0 : a = none → n = 0) (hN : ∀ i, i < n → IA i = none → IL i = 0) (hB : Bools w b m C) (hb0 : b = none → m = 0) (hO : Oid w o oc) :
    Calls Tryd.prog 4 #[.slice a n c, .slice b m c', .bool cr] w (Truly w) := by
  go_enter Tryd.func4, Tryd.ntmps4
  go_wp2_with fail
  refine (zz11 a b n c m c' cr IA IL IC Z _ hn hm hI hL).mono ?_
  rintro e w1 ⟨bb, rfl, rfl, hR⟩
  cases bb
  · go_wp2
    go_ret
    exact ⟨rfl, Below.refl _ _⟩
  have HL : Hid (∀ i, i < n → IL i ≤ 1048576) := hR rfl
  clear hR hL
  go_wp2_with fail
  refine (size6 a b n c m c' IA IL IC Z _ hn hm hI HL.out).mono ?_
  rintro e w1 ⟨bb, rfl, rfl, hR⟩
  cases bb
  · go_wp2
    go_ret
    exact ⟨rfl, Below.refl _ _⟩
  obtain ⟨hn6, hm6⟩ := hR rfl
  clear hR hn hm
  by_cases hmn : m ≠ n
  · have hd : ((m : Int) != (n : Int)) = true := by rw [bne_iff_ne]; omega
    go_wp2_with fail
    go_ret
    exact ⟨rfl, Below.refl _ _⟩
  obtain rfl : m = n := by omega
  clear hmn
  have hd : ((m : Int) != (m : Int)) = false := by simp
  have HO : Hid (Oid w o oc) := hO
  have HB : Hid (Bools w b m C) := hB
  clear hO hB
  go_wp2_with fail
  refine (clone7 a m c IA IL IC Z _ hn6 hI HL.out h0 hN).mono ?_
  rintro e w1 ⟨a1, A1, K1, rfl, hI1, hb1⟩
  clear hI h0 hN
  go_wp2_with fail
  refine (clone8 b m c' C _ hn6 (HB.out.below hb1) hb0).mono ?_
  rintro e w2 ⟨b1, rfl, hB2, hb2⟩
  have hbb : Below w.heap.size w w2 := hb1.trans (hb2.mono hb1.size)
  have HI2 : Hid (Ids w2 a1 m A1 IL K1 Z) := hI1.below hb2
  have HB2 : Hid (Bools w2 b1 m C) := hB2
  have HO2 : Hid (Oid w2 o oc) := HO.out.below hbb
  clear hI1 hB2 hb1 hb2 HB HO hb0
  have hmk1 : ∀ wx, (Instr.makeSlice 22 (.int .i64 0) (.int .i64 ((m : Int) + 1))).run Tryd.prog wx = _ := fun wx => mk22 (m + 1) (by omega) wx
  have hmk2 : ∀ wx, (Instr.makeSlice 23 (.int .i64 0) (.int .i64 ((m : Int) + 1))).run Tryd.prog wx = _ := fun wx => mk23 (m + 1) (by omega) wx
  have hmk3 := fun wx => mk22 m (by omega) wx
  have hmk4 := fun wx => mk23 m (by omega) wx
  obtain ⟨i28, hi28, hy0, hy1, hy2⟩ := info_parts Tryd.info28
  obtain ⟨i4, hi4, hz0, hz1, hz2⟩ := info_parts Tryd.info4
  go_wp2_with (at_builtin; refine wpList_append_fits _ rfl _ _ 22 rfl w2.heap.size 28 i28 1 Tryd.underlying22 hi28 hy1 w2.heap.size 0 (m + 1) [] rfl (by exact own1 w2 m hn6 _ _ _) ⟨w2.heap.size + 1 + 1 + 1, 0, none⟩ 1 1 [.slice (some ⟨w2.heap.size + 1 + 1, 0, none⟩) 4 4] rfl rfl ?c1 ?c2 ?c3 ?_)
  case c1 => exact cell_one_at _ _ (by simp) _ _
  case c2 => intro u hu; simp at hu; subst hu; rfl
  case c3 => omega
  intro w3 hown3 hgrow3
  have H1 : Hid (St1 w2 w3 m (0 + 1) 0 _ _) := St1.start hn6 hown3 hgrow3
  clear hown3 hgrow3
  go_wp2_with (at_builtin; refine wpList_append_fits _ rfl _ _ 23 rfl w2.heap.size 4 i4 1 Tryd.underlying23 hi4 hz1 (w2.heap.size + 1) 0 (m + 1) [] rfl (by exact H1.out.r2.alloc _) ⟨w3.heap.size, 0, none⟩ 1 1 [.bool cr] rfl rfl ?c1 ?c2 ?c3 ?_)
  case c1 => exact cell_one_new _ _ _
  case c2 => intro u hu; simp at hu; subst hu; rfl
  case c3 => omega
  intro w4 hown4 hgrow4
  have hS := (H1.out.next hown4 hgrow4).full hn6
  clear hown4 hgrow4 H1
  go_wp2_with fail
  go_loopw [7, 8, 9, 10, 11] (fun x7 x8 x9 x10 i wr => ∃ k : Nat, k ≤ m ∧ i = .int .i64 k ∧ x7 = .slice (some ⟨w2.heap.size, 0, none⟩) (k + 1) (m + 1) ∧ x8 = .slice (some ⟨w2.heap.size + 1, 0, none⟩) (k + 1) (m + 1) ∧ x9 = .slice (some ⟨w4.heap.size, 0, none⟩) (kp (fun i => crlB (IL i) (Z i)) k).length m ∧ x10 = .slice (some ⟨w4.heap.size + 1, 0, none⟩) (kp (fun i => crlB (IL i) (Z i)) k).length m ∧
      St w2 wr w2.heap.size (w2.heap.size + 1) w4.heap.size (w4.heap.size + 1) (w2.heap.size + 1 + 1) m (k + 1) (k + 1) (kp (fun i => crlB (IL i) (Z i)) k).length (kp (fun i => crlB (IL i) (Z i)) k).length
        (.slice (some ⟨w2.heap.size + 1 + 1, 0, none⟩) 4 4 :: idsL A1 IL K1 (List.range k)) (.bool cr :: boolsL C (List.range k)) (idsL A1 IL K1 (kp (fun i => crlB (IL i) (Z i)) k)) (boolsL C (kp (fun i => crlB (IL i) (Z i)) k))) (fun _ _ _ _ i _ => m - (intOf i).toNat)
  case atStart => exact ⟨0, Nat.zero_le _, rfl, rfl, rfl, rfl, rfl, hS⟩
  case round =>
    obtain ⟨k, hk, rfl, rfl, rfl, rfl, rfl, hst⟩ := hrel
    clear hS
    have hkl := kp_le (fun i => crlB (IL i) (Z i)) k
    by_cases hlt : k < m
    · rcases HI2.out.out with h | ⟨ib, io, ha, hib, hic⟩
      · omega
      rcases HB2.out with h | ⟨bb, bo, hb', hbl, hbc⟩
      · omega
      subst ha
      subst hb'
      have h1 : wr.cell? ⟨ib, io + k, none⟩ = some (.slice (A1 k) (IL k) (K1 k)) := (hst.below.cell (by exact hib)).trans (hic k hlt)
      have hi : (k : Int) < (m : Int) := by omega
      have HC1 : Hid (∀ wx, Below w2.heap.size w2 wx → wx.cell? ⟨ib, io + k, none⟩ = some (.slice (A1 k) (IL k) (K1 k))) := fun wx hw => (hw.cell (by exact hib)).trans (hic k hlt)
      have HC2 : Hid (∀ wx, Below w2.heap.size w2 wx → wx.cell? ⟨bb, bo + k, none⟩ = some (.bool (C k))) := fun wx hw => (hw.cell (by exact hbl)).trans (hbc k hlt)
      have HC9 : Hid (∀ wx, Below w2.heap.size w2 wx → Calls Tryd.prog 9 #[.slice (A1 k) (IL k) (K1 k)] wx fun e w' => e = .returned (.bool (crlB (IL k) (Z k))) ∧ wx = w') := fun wx hw => is9 (A1 k) (IL k) (K1 k) (Z k) wx (HL.out k (by omega)) ((HI2.out.rows k (by omega)).below hw)
      clear hic hbc
      go_wp2_with (at_builtin; refine wpList_append_fits _ rfl _ _ 22 rfl w2.heap.size 28 i28 1 Tryd.underlying22 hi28 hy1 w2.heap.size (k + 1) (m + 1) _ rfl (by exact hst.r1.alloc _) ⟨wr.heap.size, 0, none⟩ 1 1 [.slice (A1 k) (IL k) (K1 k)] rfl rfl ?c1 ?c2 ?c3 ?_)
      case c1 => exact cell_one_new _ _ _
      case c2 => intro u hu; simp at hu; subst hu; rfl
      case c3 => omega
      intro w5 hown5 hgrow5
      have hs5 := hst.put1 hgrow5 hown5
      clear hown5 hgrow5 hst h1
      have h2 := HC2.out _ hs5.below
      go_wp2_with (at_builtin; refine wpList_append_fits _ rfl _ _ 23 rfl w2.heap.size 4 i4 1 Tryd.underlying23 hi4 hz1 (w2.heap.size + 1) (k + 1) (m + 1) _ rfl (by exact hs5.r2.alloc _) ⟨w5.heap.size, 0, none⟩ 1 1 [.bool (C k)] rfl rfl ?c1 ?c2 ?c3 ?_)
      case c1 => exact cell_one_new _ _ _
      case c2 => intro u hu; simp at hu; subst hu; rfl
      case c3 => omega
      intro w6 hown6 hgrow6
      have hs6 := hs5.put2 hgrow6 hown6
      clear hown6 hgrow6 hs5 h2
      have h1 := HC1.out _ hs6.below
      have H9 := HC9.out _ hs6.below
      cases hcb : crlB (IL k) (Z k)
      · rw [hcb] at H9
        have HK9 : Hid (Calls Tryd.prog 9 #[.slice (A1 k) (IL k) (K1 k)] w6 fun e w' => e = .returned (.bool false) ∧ w6 = w') := H9
        have HX : Hid (kp (fun i => crlB (IL i) (Z i)) (k + 1) = kp (fun i => crlB (IL i) (Z i)) k ++ [k]) := by
          show kp (fun i => crlB (IL i) (Z i)) (k + 1) = _
          rw [kp_succ]; simp [hcb]
        clear hcb H9
        go_wp2_with fail
        refine (HK9.out).mono ?_
        rintro e wz ⟨rfl, rfl⟩
        go_wp2_with (at_builtin; refine wpList_append_fits _ rfl _ _ 22 rfl w2.heap.size 28 i28 1 Tryd.underlying22 hi28 hy1 w4.heap.size _ m _ rfl (by exact hs6.r3.alloc _) ⟨w6.heap.size, 0, none⟩ 1 1 [.slice (A1 k) (IL k) (K1 k)] rfl rfl ?c1 ?c2 ?c3 ?_)
        case c1 => exact cell_one_new _ _ _
        case c2 => intro u hu; simp at hu; subst hu; rfl
        case c3 => omega
        intro w7 hown7 hgrow7
        have hs7 := hs6.put3 hgrow7 hown7
        clear hown7 hgrow7 hs6 h1 HK9
        have h2 := HC2.out _ hs7.below
        go_wp2_with (at_builtin; refine wpList_append_fits _ rfl _ _ 23 rfl w2.heap.size 4 i4 1 Tryd.underlying23 hi4 hz1 (w4.heap.size + 1) _ m _ rfl (by exact hs7.r4.alloc _) ⟨w7.heap.size, 0, none⟩ 1 1 [.bool (C k)] rfl rfl ?c1 ?c2 ?c3 ?_)
        case c1 => exact cell_one_new _ _ _
        case c2 => intro u hu; simp at hu; subst hu; rfl
        case c3 => omega
        intro w8 hown8 hgrow8
        have hs8 := hs7.put4 hgrow8 hown8
        clear hown8 hgrow8 hs7 h2
        go_wp2_with fail
        go_roundw
        case rel =>
          refine ⟨k + 1, by omega, by go_num, rfl, rfl, ?_, ?_, ?_⟩
          · rw [HX.out]; simp
          · rw [HX.out]; simp
          · rw [HX.out, List.range_succ]
            simpa [idsL, boolsL] using hs8
        case measure => simp [intOf]; omega
      · rw [hcb] at H9
        have HK9 : Hid (Calls Tryd.prog 9 #[.slice (A1 k) (IL k) (K1 k)] w6 fun e w' => e = .returned (.bool true) ∧ w6 = w') := H9
        have HX : Hid (kp (fun i => crlB (IL i) (Z i)) (k + 1) = kp (fun i => crlB (IL i) (Z i)) k) := by
          show kp (fun i => crlB (IL i) (Z i)) (k + 1) = _
          rw [kp_succ]; simp [hcb]
        clear hcb H9
        go_wp2_with fail
        refine (HK9.out).mono ?_
        rintro e wz ⟨rfl, rfl⟩
        go_wp2_with fail
        go_roundw
        case rel =>
          refine ⟨k + 1, by omega, by go_num, rfl, rfl, ?_, ?_, ?_⟩
          · rw [HX.out]
          · rw [HX.out]
          · rw [HX.out, List.range_succ]
            simpa [idsL, boolsL] using hs6
        case measure => simp [intOf]; omega
    · obtain rfl : m = k := by omega
      clear hlt
      have HP1 : Hid (Ids wr (some ⟨w2.heap.size, 0, none⟩) (m + 1) _ _ _ _) := hst.preIds HI2.out
      have HP2 : Hid (Bools wr (some ⟨w2.heap.size + 1, 0, none⟩) (m + 1) _) := hst.preBools
      have HP3 : Hid (Ids wr (some ⟨w4.heap.size, 0, none⟩) (kp (fun i => crlB (IL i) (Z i)) m).length _ _ _ _) := hst.stripIds HI2.out
      have HP4 : Hid (Bools wr (some ⟨w4.heap.size + 1, 0, none⟩) (kp (fun i => crlB (IL i) (Z i)) m).length _) := hst.stripBools
      have HO3 : Hid (Oid wr o oc) := HO2.out.below hst.below
      have HBB : Hid (Below w.heap.size w wr) := hbb.trans (hst.below.mono hbb.size)
      clear hst hbb HI2 HB2 HO2
      go_wp2_with fail
      refine (zz10 _ _ o (m + 1) (m + 1) (m + 1) oc _ _ _ _ _ _ (by omega) HP1.out ?_ HP2.out HO3.out).mono ?_
      · intro i hi
        cases i with
        | zero => show 4 ≤ 1048576; omega
        | succ i => exact HL.out i (by omega)
      rintro e w9 ⟨hb9, hc⟩
      have HQ3 : Hid (Ids w9 (some ⟨w4.heap.size, 0, none⟩) (kp (fun i => crlB (IL i) (Z i)) m).length _ _ _ _) := HP3.out.below hb9
      have HQ4 : Hid (Bools w9 (some ⟨w4.heap.size + 1, 0, none⟩) (kp (fun i => crlB (IL i) (Z i)) m).length _) := HP4.out.below hb9
      have HO9 : Hid (Oid w9 o oc) := HO3.out.below hb9
      have HB9 : Hid (Below w.heap.size w w9) := HBB.out.trans (hb9.mono HBB.out.size)
      clear HP1 HP2 HP3 HP4 HO3 HBB hb9
      have HZ := zz10 (some ⟨w4.heap.size, 0, none⟩) (some ⟨w4.heap.size + 1, 0, none⟩) o (kp (fun i => crlB (IL i) (Z i)) m).length m m oc _ _ _ _ _ w9 (by omega) HQ3.out (fun i hi => HL.out _ (kp_mem hi).1) HQ4.out HO9.out
      have HZ' : Hid (Calls Tryd.prog 10 #[.slice (some ⟨w4.heap.size, 0, none⟩) (kp (fun i => crlB (IL i) (Z i)) m).length m, .slice (some ⟨w4.heap.size + 1, 0, none⟩) (kp (fun i => crlB (IL i) (Z i)) m).length m] w9 (fun e w' => ∃ b', e = .returned (.iface 71 (.pointer (some ⟨b', 0, none⟩))) ∧ Below w9.heap.size w9 w')) := HZ.mono fun e w' ⟨h1, h2⟩ => by
        rcases h2 with ⟨_, h⟩ | ⟨b', he, _⟩
        · exact absurd h strip_acc
        · exact ⟨b', he, h1⟩
      clear HZ HQ3 HQ4 HO9
      rcases hc with ⟨rfl, hr⟩ | ⟨b', rfl, hr⟩
      · obtain rfl := pre_acc.1 hr
        clear hr
        go_wp2_with fail
        refine (HZ'.out).mono ?_
        rintro e wa ⟨b2, rfl, hba⟩
        have HBA : Hid (Below w.heap.size w wa) := HB9.out.trans (hba.mono HB9.out.size)
        clear hba
        go_wp2
        go_ret
        exact ⟨rfl, HBA.out⟩
      · have hcr : cr = true := by
          cases cr
          · exact absurd (pre_acc.2 rfl) hr
          · rfl
        clear hr
        subst hcr
        go_wp2_with fail
        refine (HZ'.out).mono ?_
        rintro e wa ⟨b2, rfl, hba⟩
        have HBA : Hid (Below w.heap.size w wa) := HB9.out.trans (hba.mono HB9.out.size)
        clear hba
        go_wp2
        go_ret
        exact ⟨rfl, HBA.out⟩

end Go.Proofs.Qxb6604502aDoor
