/-
  THE WALKS OF lawInstall (10), lawReport (11), the closure of lackedBy (31), slices.IndexFunc (32), slices.Clone (30).
-/
import Derived.Test.Qxb6604164aRuns
import Derived.Test.Qxb6604164aMaps
import Derived.Test.Qxb6604164aNext
namespace Go.Proofs.Qxb6604164a
open Go.RowKit Go.Maps
set_option linter.unusedVariables false

/-- An Install of the call's own in block b. -/
structure Inst (w : World) (b : Nat) (v : Int) (pa : Option Addr) (pl : Nat) (cut least : Option Nat) (da : Option Addr) (dl dc : Nat) (ra : Option Addr) (rl : Nat) : Prop where
  blk : w.heap[b]? = some (.cells #[.int .u64 v, .slice pa pl pl, .map cut, .map least, .slice da dl dc, .slice ra rl rl] 42 (0, 0))

theorem Inst.lt {w : World} {b : Nat} {v : Int} {pa : Option Addr} {pl : Nat} {cut least : Option Nat} {da : Option Addr} {dl dc : Nat} {ra : Option Addr} {rl : Nat} (h : Inst w b v pa pl cut least da dl dc ra rl) : b < w.heap.size :=
  (Array.getElem?_eq_some_iff.1 h.blk).1
theorem Inst.below {w w' : World} {b : Nat} {v : Int} {pa : Option Addr} {pl : Nat} {cut least : Option Nat} {da : Option Addr} {dl dc : Nat} {ra : Option Addr} {rl : Nat} (h : Inst w b v pa pl cut least da dl dc ra rl) (hb : Below w.heap.size w w') : Inst w' b v pa pl cut least da dl dc ra rl :=
  ⟨(hb.block _ h.lt).trans h.blk⟩

section
variable {w : World} {b : Nat} {v : Int} {pa : Option Addr} {pl : Nat} {cut least : Option Nat} {da : Option Addr} {dl dc : Nat} {ra : Option Addr} {rl : Nat}
theorem Inst.c0 (h : Inst w b v pa pl cut least da dl dc ra rl) : w.cell? ⟨b, 0, none⟩ = some (.int .u64 v) := by simp [World.cell?, h.blk]
theorem Inst.c1 (h : Inst w b v pa pl cut least da dl dc ra rl) : w.cell? ⟨b, 1, none⟩ = some (.slice pa pl pl) := by simp [World.cell?, h.blk]
theorem Inst.c2 (h : Inst w b v pa pl cut least da dl dc ra rl) : w.cell? ⟨b, 2, none⟩ = some (.map cut) := by simp [World.cell?, h.blk]
theorem Inst.c3 (h : Inst w b v pa pl cut least da dl dc ra rl) : w.cell? ⟨b, 3, none⟩ = some (.map least) := by simp [World.cell?, h.blk]
theorem Inst.c4 (h : Inst w b v pa pl cut least da dl dc ra rl) : w.cell? ⟨b, 4, none⟩ = some (.slice da dl dc) := by simp [World.cell?, h.blk]
theorem Inst.c5 (h : Inst w b v pa pl cut least da dl dc ra rl) : w.cell? ⟨b, 5, none⟩ = some (.slice ra rl rl) := by simp [World.cell?, h.blk]
end

def MadeI (w : World) (v : Int) (ml : Nat) (cut least : Option Nat) (dl ol : Nat) (S Q : Nat → Int) (e : Ending) (w' : World) : Prop :=
  ∃ b pa da ra B, e = .returned (.pointer (some ⟨b, 0, none⟩)) ∧ Inst w' b v pa ml cut least da dl dl ra ol ∧ PSl w' pa ml ∧ Kept w' da dl S Q B ∧ RSl w' ra ol ∧ Below w.heap.size w w'

set_option maxHeartbeats 400000 in
theorem inst10 (v : Int) (ma : Option Addr) (ml mc : Nat) (I N : Nat → Int) (A : Nat → ByteArray) (cut least : Option Nat) (oa : Option Addr) (ol oc : Nat) (OI ON : Nat → Int)
    (a : Option Addr) (len cap : Nat) (V S Q T : Nat → Int) (PA : Nat → Option Addr) (PL PC : Nat → Nat) (w : World)
    (hP : Peers w ma ml I N A) (hml : ml ≤ 65536) (hO : Runs w oa ol OI ON) (hol : ol ≤ 65536)
    (hM : Msgs w a len V S Q T PA PL PC) (hlen : len ≤ 65536) (hPL : ∀ i, i < len → PL i ≤ 1048576) (hPay : ∀ i, i < len → Pay w (PA i) (PL i)) :
    Calls Try.prog 10 #[.int .u64 v, .slice ma ml mc, .map cut, .map least, .slice oa ol oc, .slice a len cap] w (MadeI w v ml cut least len ol S Q) := by
  go_enter Try.func10, Try.ntmps10
  go_wp2_with fail
  refine (peers22 ma ml mc I N A _ hP hml).mono ?_
  rintro e w1 ⟨pa, rfl, hps, hb1⟩
  go_wp2_with fail
  refine (data17 a len cap V S Q T PA PL PC _ (hM.below hb1) (by omega) hPL (fun i hi => (hPay i hi).below hb1)).mono ?_
  rintro e w2 ⟨da, B, rfl, hk, hb2⟩
  have hb12 : Below w.heap.size w w2 := hb1.trans (hb2.mono hb1.size)
  go_wp2_with fail
  refine (runs23 oa ol oc OI ON _ (hO.below hb12) hol).mono ?_
  rintro e w3 ⟨ra, rfl, hrs, hb3⟩
  have hb13 : Below w.heap.size w w3 := hb12.trans (hb3.mono hb12.size)
  go_wp2
  go_ret
  have ha := (Below.refl w3.heap.size w3).alloc (Nat.le_refl _) (.cells #[.int .u64 v, .slice pa ml ml, .map cut, .map least, .slice da len len, .slice ra ol ol] 42)
  exact ⟨w3.heap.size, pa, da, ra, B, rfl, ⟨Go.Deep.blk_alloc_new _ _⟩, ((hps.below hb2).below hb3).below ha, (hk.below hb3).below ha, hrs.below ha, hb13.trans (ha.mono hb13.size)⟩

/-- What the closure reads: the captured variable's block rb, the report's block fb, its map. -/
structure Rep (w : World) (rb fb : Nat) (m : Option Nat) (D : DataW Unit) : Prop where
  rlt : rb < w.heap.size
  flt : fb < w.heap.size
  c0 : w.cell? ⟨rb, 0, none⟩ = some (.pointer (some ⟨fb, 0, none⟩))
  c2 : w.cell? ⟨fb, 2, none⟩ = some (.map m)
  own : MapOwn w m D

def Flu (w : World) (fb : Nat) (m : Option Nat) : Prop := fb < w.heap.size ∧ w.cell? ⟨fb, 2, none⟩ = some (.map m)
theorem Flu.below {w w' : World} {fb : Nat} {m : Option Nat} (h : Flu w fb m) (hb : Below w.heap.size w w') : Flu w' fb m :=
  ⟨Nat.lt_of_lt_of_le h.1 hb.size, (hb.cell (by exact h.1)).trans h.2⟩

set_option maxHeartbeats 400000 in
theorem rep11_yes (m : Option Nat) (w : World) : Calls Try.prog 11 #[.bool true, .map m] w fun e w' => e = .returned (.pointer none) ∧ w = w' := by
  go_enter Try.func11, Try.ntmps11
  go_wp2
  go_ret
  exact ⟨rfl, rfl⟩

set_option maxHeartbeats 400000 in
theorem rep11_no (m : Option Nat) (w : World) : Calls Try.prog 11 #[.bool false, .map m] w fun e w' => ∃ fb, e = .returned (.pointer (some ⟨fb, 0, none⟩)) ∧ Flu w' fb m ∧ Below w.heap.size w w' := by
  go_enter Try.func11, Try.ntmps11
  go_wp2
  go_ret
  exact ⟨w.heap.size, rfl, ⟨by simp, by simp⟩, (Below.refl _ _).alloc (Nat.le_refl _) _⟩

/-- What the closure answers. -/
def dB (q c : Int) : Bool := decide (q ≤ c)

def Ans (w : World) (b : Bool) (e : Ending) (w' : World) : Prop := e = .returned (.bool b) ∧ ∃ n, w' = w.drewN n

set_option maxHeartbeats 400000 in
theorem clo31 (rb fb b : Nat) (m : Option Nat) (D : DataW Unit) (s q : Int) (w : World) (hR : Rep w rb fb m D) (hB : Box w b s q) (hw : (Lit.int .u32 s).wf = true) :
    Calls Try.prog 31 #[.pointer (some ⟨b, 0, none⟩), .pointer (some ⟨rb, 0, none⟩)] w (Ans w (dB q (lk m D s))) := by
  have h0 := hR.c0
  have h2 := hR.c2
  have c1 := hB.c1
  have c2 := hB.c2
  have hlook : ∀ n, (Instr.lookup 30 (.map m) (.int .u32 s) false).run Try.prog (w.drewN n) = .ok (.int .u64 (lk m D s)) (w.drewN n) := fun n => (hR.own.below (below_drewN (Below.refl _ _) n)).look hw
  clear hR hB
  generalize lk m D s = c at *
  go_enter Try.func31, Try.ntmps31
  go_wp2
  go_quiet (fail)
  go_wp2
  go_ret
  exact ⟨rfl, _, rfl⟩

end Go.Proofs.Qxb6604164a
