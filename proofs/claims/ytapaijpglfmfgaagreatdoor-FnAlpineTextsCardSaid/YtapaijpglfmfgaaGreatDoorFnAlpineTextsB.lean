/- Proved here, for the row of the law FnAlpineTexts: contracts of the Go functions that it reaches, each as its theorem 'calls' says, and the words and plain laws that they need (K12, K13, K14, K15, KN, A2, A3, A4, A5, WTab, WApart, WFoot, WShare, WN, WRepsOne, WGuard, WMore, Sx0, HC, HD, Sx1, Sx2, Sx3, A6, B, M). -/
import Derived.Test.YtapaijpglfmfgaaGreatDoorFnAlpineTextsA
import Derived.Below
import Derived.Deep.Draws
import Derived.Deep.AppendLies
import Derived.Maps.AppendAt
import Derived.OwnWalk
import Derived.Laws.BytesArg
import Derived.Laws.MakeOwn
import Derived.Laws.OwnMore
import Derived.Deep.OwnRows
import Derived.Tactics
import Derived.Lib.ConvBytes
import Derived.Laws.Slices
import Derived.WalkKit
import Derived.KernelRfl
import Derived.RowKit3
import Derived.Deep.LoopGhost
import Derived.Deep.QuietTactic
import Derived.BigQuiet
import Derived.WideLaws
import Derived.Deep.DeepCutAuto
import Derived.Deep.CutBlock
import Derived.Deep.RegionHeld3
import Derived.Laws.Rows
import Derived.Lib.AppendStr
import Derived.ArgAppend
import Derived.Laws.IdiomCopy
import Derived.RowKit
import Derived.Test.YtapaijpglfmfgaaGreatDoorProg
import Derived.Laws.Runes
import Derived.Lib.Strings
import Derived.Lib.Bytealg
import Derived.OrdersHeld
import Derived.Laws.BitsLemmas
import Derived.LaidEqlPtr
import Derived.StillTailTactics
import Derived.Deep.RegionWith
import Derived.Laws.Strings
set_option linter.unusedVariables false
set_option linter.unusedSimpArgs false
set_option maxHeartbeats 8000000
set_option maxRecDepth 100000
section
namespace Go.Proofs.YtapaijpglfmfgaaGreatDoorG
open Go.RowKit YtapaijpglfmfgaaGreatDoorW.PrintWords YtapaijpglfmfgaaGreatDoorW.PrintLast
def CmpAt (lx ly : List Nat) (r : Int) : Prop :=
 (lx.length < ly.length ∧ r = -1) ∨ (ly.length < lx.length ∧ r = 1) ∨ (lx.length = ly.length ∧ lx.length = 0 ∧ r = 0) ∨
 (lx.length = ly.length ∧ ∃ i, i < lx.length ∧ (∀ j, i < j → j < lx.length → lx.getD j 0 = ly.getD j 0) ∧ (i = 0 ∨ lx.getD i 0 ≠ ly.getD i 0) ∧ r = (if lx.getD i 0 < ly.getD i 0 then -1 else if ly.getD i 0 < lx.getD i 0 then 1 else 0))
theorem zn.trans {w w1 w2 : World} (h : zn w w1) (k : zn w1 w2) : zn w w2 := by
 obtain ⟨n, hn⟩ := h.out
 obtain ⟨m, hm⟩ := k.out
 exact ⟨⟨n + m, by rw [hm, hn, World.drewN_drewN]⟩⟩
theorem meas_plain (m k : Nat) (h : m < k) : (intOf (.int .i64 (m : Int))).toNat < (intOf (.int .i64 (k : Int))).toNat := by
 simp only [intOf]
 omega
theorem meas_wrap (m k : Nat) (h : m < k) (e : wrap64 (m : Int) = (m : Int)) : (intOf (.int .i64 (wrap64 (m : Int)))).toNat < (intOf (.int .i64 (k : Int))).toNat := by
 rw [e]
 exact meas_plain m k h
theorem NatS.reads {w : World} {B : Nat} {v : Value} {l : List Nat} (h : NatS w B v l) : ∃ (g c : Nat) (p : Option Addr), v = .slice p l.length c ∧ (l.length ≠ 0 → p = some ⟨g, 0, none⟩ ∧ ∀ i, i < l.length → w.cell? ⟨g, i, none⟩ = some (.int .u64 (l.getD i 0 : Nat))) := by
 rcases h with ⟨rfl, rfl⟩ | ⟨g, full, rfl, h1, h2, h3, h4, h5, h6⟩
 ·exact ⟨0, 0, none, rfl, fun h => absurd rfl h⟩
 ·refine ⟨g, full.length, _, rfl, fun _ => ⟨rfl, fun i hi => ?_⟩⟩
  have h7 := h2.cell i (by omega)
  have e : (full.take l.length).getD i 0 = full.getD i 0 := by rw [List.getD_eq_getElem?_getD, List.getD_eq_getElem?_getD, List.getElem?_take_of_lt hi]
  rw [h3] at e
  rw [h7, e]
theorem natCmp_ (w : World) (Bx By : Nat) (vx vy : Value) (lx ly : List Nat) (hx : NatS w Bx vx lx) (hy : NatS w By vy ly) (hlx : lx.length ≤ 1000000) (hly : ly.length ≤ 1000000) :
  Calls Tryz.prog 99 #[vx, vy] w fun e w' => ∃ r, e = .returned (.int .i64 r) ∧ CmpAt lx ly r ∧ zn w w' := by
 obtain ⟨gx, cx, px, rfl, rx⟩ := hx.reads
 obtain ⟨gy, cy, py, rfl, ry⟩ := hy.reads
 have HW := za.mk (zn.refl w)
 clear hx hy
 by_cases hlen : lx.length = ly.length
 ·by_cases h0 : lx.length = 0
  ·have c1 : ((lx.length : Int) == 0) = true := by rw [beq_iff_eq]; omega
   have h0y : ly.length = 0 := by omega
   have F := za.mk (And.intro hlen h0)
   clear rx ry hlx hly hlen
   go_enter Tryz.func99, Tryz.ntmps99
   go_wp2
   go_ret
   exact ⟨0, rfl, .inr (.inr (.inl ⟨F.out.1, F.out.2, rfl⟩)), HW.out⟩
  ·obtain ⟨rfl, rx2⟩ := rx h0
   obtain ⟨rfl, ry2⟩ := ry (by omega)
   obtain ⟨n, hn⟩ : ∃ n, n = lx.length := ⟨_, rfl⟩
   have hny : ly.length = n := by omega
   have F := za.mk (And.intro hn (And.intro hny hlx))
   rw [← hn] at rx2 h0 hlx ⊢
   rw [hny] at ry2 ⊢
   have RX := za.mk rx2
   have RY := za.mk ry2
   have N0 := za.mk h0
   have N1 : za (n - 1 < n ∧ (Value.int .i64 ((n : Int) - 1) : Value) = Value.int .i64 ((n - 1 : Nat) : Int) ∧ ∀ j, n - 1 < j → j < n → lx.getD j 0 = ly.getD j 0) := ⟨⟨by omega, by congr 1; omega, fun j h1 h2 => by omega⟩⟩
   have c1 : ((n : Int) == 0) = false := by rw [beq_eq_false_iff_ne]; omega
   have c2 : ¬ ((n : Int) = 0) := by omega
   clear rx ry rx2 ry2 hly hlen hn hny h0
   go_enter Tryz.func99, Tryz.ntmps99
   go_wp2
   go_loopw [7] (fun i wr => ∃ k : Nat, k < n ∧ i = .int .i64 k ∧ za (∀ j, k < j → j < n → lx.getD j 0 = ly.getD j 0) ∧ za (zn w wr)) (fun i _ => (intOf i).toNat)
   case atStart => exact ⟨n - 1, N1.out.1, by first | exact N1.out.2.1 | rfl, ⟨N1.out.2.2⟩, HW⟩
   case round =>
    obtain ⟨k, hk, rfl, hj, hw⟩ := hrel
    have old : ∀ (g : Nat) (x : Value), w.cell? ⟨g, k, none⟩ = some x → wr.cell? ⟨g, k, none⟩ = some x := by
     intro g x h
     obtain ⟨m, hm⟩ := hw.out.out
     rw [hm]
     exact h
    have a1 := old gx _ (RX.out k hk)
    have a2 := old gy _ (RY.out k hk)
    clear old
    obtain ⟨x, hx⟩ : ∃ x, x = lx.getD k 0 := ⟨_, rfl⟩
    obtain ⟨y, hy⟩ : ∃ y, y = ly.getD k 0 := ⟨_, rfl⟩
    rw [← hx] at a1
    rw [← hy] at a2
    have XY := za.mk (And.intro hx hy)
    have K := za.mk hk
    have KI : ((k : Int) < (n : Int)) = True := eq_true (by omega)
    have KD : decide ((k : Int) < (n : Int)) = true := decide_eq_true (by omega)
    have K0 : (0 ≤ (k : Int)) = True := eq_true (by omega)
    clear hx hy
    have fin : ∀ wz, zn wr wz → (k = 0 ∨ x ≠ y) → ∀ r : Int, r = (if x < y then -1 else if y < x then 1 else 0) → ∃ r', (Ending.returned (.int .i64 r) : Ending) = .returned (.int .i64 r') ∧ CmpAt lx ly r' ∧ zn w wz := by
     intro wz hz h1 r hr
     obtain ⟨f1, f2, f3⟩ := F.out
     refine ⟨r, rfl, .inr (.inr (.inr ⟨by omega, k, by omega, fun j h1 h2 => hj.out j h1 (by omega), ?_, ?_⟩)), zn.trans hw.out hz⟩
     ·rw [← XY.out.1, ← XY.out.2]; exact h1
     ·rw [← XY.out.1, ← XY.out.2]; exact hr
    have FIN := za.mk fin
    clear fin
    have go : (k = 0 ∨ x ≠ y) → za ((k = 0 ∨ x ≠ y)) := fun h => ⟨h⟩
    by_cases hxy : x = y
    ·by_cases hk0 : k = 0
     ·have G := go (.inl hk0)
      have d0 : decide (0 < (k : Int)) = false := decide_eq_false (by omega)
      have d0n : decide (0 < k) = false := decide_eq_false (by omega)
      have d1 : decide ((x : Int) < (y : Int)) = false := decide_eq_false (by omega)
      have d1n : decide (x < y) = false := decide_eq_false (by omega)
      have d2 : decide ((y : Int) < (x : Int)) = false := decide_eq_false (by omega)
      have d2n : decide (y < x) = false := decide_eq_false (by omega)
      have d3 : ((x : Int) == (y : Int)) = true := by rw [beq_iff_eq]; omega
      have d3n : (x == y) = true := by rw [beq_iff_eq]; omega
      have d3m : decide (x = y) = true := decide_eq_true (by omega)
      have R : za ((0 : Int) = (if x < y then -1 else if y < x then 1 else 0)) := ⟨by rw [if_neg (by omega), if_neg (by omega)]⟩
      clear hk0 hk hxy go
      go_wp2
      go_quiet (fail)
      go_wp2
      (try go_quiet (fail))
      go_wp2
      (try go_quiet (fail))
      go_wp2
      go_ret
      refine FIN.out _ ?_ G.out _ R.out
      (repeat (first | exact zn.refl _ | apply zn.step))
     ·obtain ⟨m, hm⟩ : ∃ m, m = k - 1 := ⟨_, rfl⟩
      have d0 : decide (0 < (k : Int)) = true := decide_eq_true (by omega)
      have d0n : decide (0 < k) = true := decide_eq_true (by omega)
      have d0m : (0 < k) = True := eq_true (by omega)
      have d3 : ((x : Int) == (y : Int)) = true := by rw [beq_iff_eq]; omega
      have d3n : (x == y) = true := by rw [beq_iff_eq]; omega
      have d3m : decide (x = y) = true := decide_eq_true (by omega)
      have e2 : (k : Int) - 1 = (m : Int) := by omega
      have e1 : wrap64 (m : Int) = (m : Int) := by unfold wrap64; have := F.out.2.2; have := F.out.1; omega
      have HXY := za.mk hxy
      have HM := za.mk (And.intro hm hk0)
      have MES : za (m < k) := ⟨by omega⟩
      have STEP : za (∀ j, m < j → j ≠ k → k < j) := ⟨fun j h1 h2 => by omega⟩
      clear hk0 hk hxy go hm
      go_wp2
      go_quiet (fail)
      go_wp2
      go_roundw
      case rel =>
       refine ⟨m, Nat.lt_trans MES.out K.out, by first | rfl | go_num, ⟨fun j h1 h2 => ?_⟩, ⟨zn.trans hw.out (by (repeat (first | exact zn.refl _ | apply zn.step)))⟩⟩
       by_cases ej : j = k
       ·rw [ej, ← XY.out.1, ← XY.out.2]; exact HXY.out
       ·exact hj.out j (STEP.out j h1 ej) h2
      case measure => first | exact meas_wrap m k MES.out e1 | exact meas_plain m k MES.out
    ·have G := go (.inr hxy)
     by_cases hk0 : k = 0
     ·have d0 : decide (0 < (k : Int)) = false := decide_eq_false (by omega)
      have d0n : decide (0 < k) = false := decide_eq_false (by omega)
      have d3 : ((x : Int) == (y : Int)) = false := by rw [beq_eq_false_iff_ne]; omega
      have d3n : (x == y) = false := by rw [beq_eq_false_iff_ne]; omega
      have d3m : decide (x = y) = false := decide_eq_false (by omega)
      by_cases hlt : x < y
      ·have d1 : decide ((x : Int) < (y : Int)) = true := decide_eq_true (by omega)
       have d1n : decide (x < y) = true := decide_eq_true (by omega)
       have R : za ((-1 : Int) = (if x < y then -1 else if y < x then 1 else 0)) := ⟨by rw [if_pos hlt]⟩
       clear hk0 hk hxy go hlt
       go_wp2
       go_quiet (fail)
       go_wp2
       (try go_quiet (fail))
       go_wp2
       (try go_quiet (fail))
       go_wp2
       go_ret
       refine FIN.out _ ?_ G.out _ R.out
       (repeat (first | exact zn.refl _ | apply zn.step))
      ·have d1 : decide ((x : Int) < (y : Int)) = false := decide_eq_false (by omega)
       have d1n : decide (x < y) = false := decide_eq_false (by omega)
       have d2 : decide ((y : Int) < (x : Int)) = true := decide_eq_true (by omega)
       have d2n : decide (y < x) = true := decide_eq_true (by omega)
       have R : za ((1 : Int) = (if x < y then -1 else if y < x then 1 else 0)) := ⟨by rw [if_neg hlt, if_pos (by omega)]⟩
       clear hk0 hk hxy go hlt
       go_wp2
       go_quiet (fail)
       go_wp2
       (try go_quiet (fail))
       go_wp2
       (try go_quiet (fail))
       go_wp2
       go_ret
       refine FIN.out _ ?_ G.out _ R.out
       (repeat (first | exact zn.refl _ | apply zn.step))
     ·have d0 : decide (0 < (k : Int)) = true := decide_eq_true (by omega)
      have d0n : decide (0 < k) = true := decide_eq_true (by omega)
      have d3 : ((x : Int) == (y : Int)) = false := by rw [beq_eq_false_iff_ne]; omega
      have d3n : (x == y) = false := by rw [beq_eq_false_iff_ne]; omega
      have d3m : decide (x = y) = false := decide_eq_false (by omega)
      by_cases hlt : x < y
      ·have d1 : decide ((x : Int) < (y : Int)) = true := decide_eq_true (by omega)
       have d1n : decide (x < y) = true := decide_eq_true (by omega)
       have R : za ((-1 : Int) = (if x < y then -1 else if y < x then 1 else 0)) := ⟨by rw [if_pos hlt]⟩
       clear hk0 hk hxy go hlt
       go_wp2
       go_quiet (fail)
       go_wp2
       (try go_quiet (fail))
       go_wp2
       (try go_quiet (fail))
       go_wp2
       go_ret
       refine FIN.out _ ?_ G.out _ R.out
       (repeat (first | exact zn.refl _ | apply zn.step))
      ·have d1 : decide ((x : Int) < (y : Int)) = false := decide_eq_false (by omega)
       have d1n : decide (x < y) = false := decide_eq_false (by omega)
       have d2 : decide ((y : Int) < (x : Int)) = true := decide_eq_true (by omega)
       have d2n : decide (y < x) = true := decide_eq_true (by omega)
       have R : za ((1 : Int) = (if x < y then -1 else if y < x then 1 else 0)) := ⟨by rw [if_neg hlt, if_pos (by omega)]⟩
       clear hk0 hk hxy go hlt
       go_wp2
       go_quiet (fail)
       go_wp2
       (try go_quiet (fail))
       go_wp2
       (try go_quiet (fail))
       go_wp2
       go_ret
       refine FIN.out _ ?_ G.out _ R.out
       (repeat (first | exact zn.refl _ | apply zn.step))
 ·have F := za.mk hlen
  have c1 : ((lx.length : Int) == (ly.length : Int)) = false := by rw [beq_eq_false_iff_ne]; omega
  have c2 : ¬ ((lx.length : Int) = (ly.length : Int)) := by omega
  have c1n : (lx.length == ly.length) = false := by rw [beq_eq_false_iff_ne]; omega
  have c1m : decide (lx.length = ly.length) = false := decide_eq_false (by omega)
  by_cases hlt : lx.length < ly.length
  ·have d1 : decide ((lx.length : Int) < (ly.length : Int)) = true := decide_eq_true (by omega)
   have d1n : decide (lx.length < ly.length) = true := decide_eq_true (by omega)
   have L := za.mk hlt
   clear rx ry hlx hly hlen hlt
   go_enter Tryz.func99, Tryz.ntmps99
   go_wp2
   go_ret
   exact ⟨-1, rfl, .inl ⟨L.out, rfl⟩, HW.out⟩
  ·have d1 : decide ((lx.length : Int) < (ly.length : Int)) = false := decide_eq_false (by omega)
   have d1n : decide (lx.length < ly.length) = false := decide_eq_false (by omega)
   have d2n : decide (ly.length < lx.length) = true := decide_eq_true (by omega)
   have d2 : decide ((ly.length : Int) < (lx.length : Int)) = true := decide_eq_true (by omega)
   have L : za (ly.length < lx.length) := ⟨by omega⟩
   clear rx ry hlx hly hlen hlt
   go_enter Tryz.func99, Tryz.ntmps99
   go_wp2
   go_ret
   exact ⟨1, rfl, .inr (.inl ⟨L.out, rfl⟩), HW.out⟩
end Go.Proofs.YtapaijpglfmfgaaGreatDoorG
end
section
namespace Go.Proofs.YtapaijpglfmfgaaGreatDoorG
open Go.RowKit YtapaijpglfmfgaaGreatDoorW.PrintWords YtapaijpglfmfgaaGreatDoorW.PrintLast
theorem scanSign_e (w : World) (b : Nat) (s : ByteArray) (p : Int) (EP : Addr) (h : Rd w b s 0 p) (h0 : s.size = 0) (hE : w.cell? ⟨2, 0, none⟩ = some (ErrV EP)) (hbg : 2 < b) :
  Calls Tryz.prog 107 #[.iface 144 (.pointer (some ⟨b, 0, none⟩))] w fun e w' => e = .returned (.tuple #[.bool false, ErrV EP]) ∧ w.grownBy w' (some b) := by
 have hr := zij w b s p (ErrV EP) (by rw [h0]; exact h) hE (by omega) (by omega)
 simp only [ErrV] at hr ⊢
 have HR := za.mk hr
 have i1 := zdg (some ⟨b, 0, none⟩)
 have i3 := zcg
 clear h h0 hE hbg hr
 go_enter Tryz.func107, Tryz.ntmps107
 go_wp2_with (first
  | (go_at_call 149; refine HR.out.mono ?_; rintro e' w1 ⟨rfl, r1, g1⟩; have G1 := za.mk g1; clear r1 g1))
 go_ret2
 exact ⟨rfl, G1.out⟩
theorem intScan_e (w : World) (a b : Nat) (s : ByteArray) (p : Int) (EP : Addr) (h : Rd w b s 0 p) (h0 : s.size = 0) (hE : w.cell? ⟨2, 0, none⟩ = some (ErrV EP)) (hbg : 2 < b) :
  Calls Tryz.prog 102 #[.pointer (some ⟨a, 0, none⟩), .iface 144 (.pointer (some ⟨b, 0, none⟩)), .int .i64 10] w fun e w' => e = .returned (.tuple #[.pointer none, .int .i64 0, ErrV EP]) ∧ w.grownBy w' (some b) := by
 have hr := scanSign_e w b s p EP h h0 hE hbg
 simp only [ErrV] at hr ⊢
 have HR := za.mk hr
 clear h h0 hE hbg hr
 go_enter Tryz.func102, Tryz.ntmps102
 go_wp2_with (first
  | (go_at_call 107; refine HR.out.mono ?_; rintro e' w1 ⟨rfl, g1⟩; have G1 := za.mk g1; clear g1))
 go_ret3
 exact ⟨rfl, G1.out⟩
theorem zqj (w : World) (a b : Nat) (s : ByteArray) (p : Int) (EP : Addr) (h : Rd w b s 0 p) (h0 : s.size = 0) (hE : w.cell? ⟨2, 0, none⟩ = some (ErrV EP)) (hbg : 2 < b) :
  Calls Tryz.prog 94 #[.pointer (some ⟨a, 0, none⟩), .iface 144 (.pointer (some ⟨b, 0, none⟩)), .int .i64 10] w fun e w' => e = .returned (.tuple #[.pointer none, .bool false]) ∧ w.grownBy w' (some b) := by
 have hr := intScan_e w a b s p EP h h0 hE hbg
 simp only [ErrV] at hr
 have HR := za.mk hr
 clear h h0 hE hbg hr
 go_enter Tryz.func94, Tryz.ntmps94
 go_wp2_with (first
  | (go_at_call 102; refine HR.out.mono ?_; rintro e' w1 ⟨rfl, g1⟩; have G1 := za.mk g1; clear g1))
 go_ret2
 exact ⟨rfl, G1.out⟩
theorem setString_e (w : World) (a : Nat) (s : ByteArray) (EP : Addr) (h0 : s.size = 0) (hE : w.cell? ⟨2, 0, none⟩ = some (ErrV EP)) (hg0 : 2 < w.heap.size) :
  Calls Tryz.prog 81 #[.pointer (some ⟨a, 0, none⟩), .string s, .int .i64 10] w fun e w' => e = .returned (.tuple #[.pointer none, .bool false]) ∧ Below w.heap.size w w' := by
 obtain ⟨w1, hw1⟩ : ∃ w1, w1 = w.alloc (.cells #[.string s, .int .i64 0, .int .i64 (-1)] 158) := ⟨_, rfl⟩
 have hold : ∀ k, k < w.heap.size → w1.heap[k]? = w.heap[k]? := fun k hk => by rw [hw1]; exact alloc_old _ _ hk
 have hrd : Rd w1 w.heap.size s 0 (-1) := by unfold Rd; rw [hw1]; exact alloc_at _ _
 have hcon := zqj w1 a w.heap.size s (-1) EP hrd h0 ((World.cell?_of_block (hold _ (by show 2 < _; omega))).trans hE) hg0
 have HB : za (∀ w2, w1.grownBy w2 (some w.heap.size) → Below w.heap.size w w2) := ⟨fun w2 g => by
  have hb : Below w.heap.size w w1 := by rw [hw1]; exact zye _ (Nat.le_refl _)
  have hsz : w1.heap.size = w.heap.size + 1 := by rw [hw1]; exact zsb _ _
  exact hb.grown g (by omega) (fun k hk => by cases hk; exact Nat.le_refl _)⟩
 have HCON := za.mk hcon
 have HNEW := za.mk (newReader_ w s)
 have HW1 := za.mk hw1
 clear h0 hE hg0 hold hrd hcon hw1
 go_enter Tryz.func81, Tryz.ntmps81
 go_wp2_with (first
  | (go_at_call 95; refine HNEW.out.mono ?_; rintro e' w2 ⟨rfl, hw2⟩; have hw3 := hw2.trans HW1.out.symm; clear hw2; subst hw3)
  | (go_at_call 94; refine HCON.out.mono ?_; rintro e' w3 ⟨rfl, hst⟩; have ST := za.mk hst; clear hst))
 go_ret2
 exact ⟨rfl, HB.out _ ST.out⟩
theorem convert_e (w : World) (s : ByteArray) (EV EP : Addr) (h0 : s.size = 0)
  (hV : w.cell? ⟨0, 0, none⟩ = some (ErrV EV)) (hE : w.cell? ⟨2, 0, none⟩ = some (ErrV EP)) (hg0 : 2 < w.heap.size) :
  Calls Tryz.prog 62 #[.string s] w fun e w' => e = .returned (.tuple #[.pointer none, ErrV EV]) ∧ Below w.heap.size w w' := by
 obtain ⟨w1, hw1⟩ : ∃ w1, w1 = w.alloc (.cells #[.bool false, .slice none 0 0] 100) := ⟨_, rfl⟩
 have hsz : w1.heap.size = w.heap.size + 1 := by rw [hw1]; exact zsb _ _
 have hold : ∀ k, k < w.heap.size → w1.heap[k]? = w.heap[k]? := fun k hk => by rw [hw1]; exact alloc_old _ _ hk
 have hcon := setString_e w1 w.heap.size s EP h0 ((World.cell?_of_block (hold _ (by show 2 < _; omega))).trans hE) (by omega)
 have hbel : Below w.heap.size w w1 := by rw [hw1]; exact zye _ (Nat.le_refl _)
 have HB : za (∀ w2, Below w1.heap.size w1 w2 → Below w.heap.size w w2) := ⟨fun w2 h => hbel.trans ⟨h.os, h.tape, h.output, h.size, fun k hk => h.block k (by omega)⟩⟩
 have hV2 : ∀ w2, Below w1.heap.size w1 w2 → w2.cell? ⟨0, 0, none⟩ = some (ErrV EV) := fun w2 h => ((World.cell?_of_block (h.block 0 (by omega))).trans (World.cell?_of_block (hold _ (by show 0 < _; omega)))).trans hV
 simp only [ErrV] at hV2 ⊢
 rw [hw1] at hcon HB hV2
 have HCON := za.mk hcon
 have HV := za.mk hV2
 clear h0 hV hE hg0 hsz hold hcon hbel hw1 hV2
 go_enter Tryz.func62, Tryz.ntmps62
 go_wp2_with (first
  | (go_at_call 81; refine HCON.out.mono ?_; rintro e' w3 ⟨rfl, hst⟩; have ST := za.mk hst; have cv := HV.out w3 hst; clear hst))
 go_quiet (fail)
 go_wp2
 go_ret2
 exact ⟨rfl, by first | exact HB.out _ ST.out | (apply zd; exact HB.out _ ST.out)⟩
def Plain (s : ByteArray) : Prop := s.size ≤ 1000000 ∧ bt s 0 ≠ 45 ∧ bt s 0 ≠ 43
instance (s : ByteArray) : Decidable (Plain s) := inferInstanceAs (Decidable (_ ∧ _ ∧ _))
def GLe (w : World) : Prop := 4 < w.heap.size ∧ (∃ a, w.cell? ⟨0, 0, none⟩ = some (ErrV a)) ∧ (∃ a, w.cell? ⟨2, 0, none⟩ = some (ErrV a)) ∧ ∃ a, w.cell? ⟨4, 0, none⟩ = some (ErrV a)
theorem GLe.below {w w' : World} {B : Nat} (h : GLe w) (hb : Below B w w') (hB : w.heap.size ≤ B) : GLe w' := by
 obtain ⟨h1, ⟨a1, h2⟩, ⟨a2, h3⟩, a3, h4⟩ := h
 have ge : ∀ g : Nat, g ≤ 4 → w'.heap[g]? = w.heap[g]? := fun g hg => hb.block g (by omega)
 have hs := hb.size
 exact ⟨by omega, ⟨a1, (World.cell?_of_block (ge _ (by decide))).trans h2⟩, ⟨a2, (World.cell?_of_block (ge _ (by decide))).trans h3⟩, a3, (World.cell?_of_block (ge _ (by decide))).trans h4⟩
theorem convert_all (w : World) (s : ByteArray) (hp : Plain s) (hG : GLe w) : ∃ EV, Calls Tryz.prog 62 #[.string s] w (fun e w' => Conv s EV w w' e) := by
 obtain ⟨hs, h1, h2⟩ := hp
 obtain ⟨g1, ⟨EV, hV⟩, ⟨EP, hE⟩, NP, hN⟩ := hG
 refine ⟨EV, ?_⟩
 by_cases h0 : s.size = 0
 ·refine (convert_e w s EV EP h0 hV hE (by omega)).mono ?_
  rintro e w' ⟨rfl, hb⟩
  exact ⟨fun h => absurd h.1 (by omega), fun _ => rfl, hb⟩
 ·exact convert_ w s EV EP NP (by omega) hs h1 h2 hV hE hN g1
end Go.Proofs.YtapaijpglfmfgaaGreatDoorG
end
section
namespace Go.Proofs.YtapaijpglfmfgaaGreatDoorG
open Go.RowKit YtapaijpglfmfgaaGreatDoorW.PrintWords YtapaijpglfmfgaaGreatDoorW.PrintLast
theorem W64_pos : 0 < W64 := by unfold W64; omega
theorem step_lt {x y a b : Nat} (hx : x < W64) (h : a < b) : x + W64 * a < y + W64 * b := by
 have h2 : W64 * (a + 1) ≤ W64 * b := Nat.mul_le_mul (Nat.le_refl _) h
 have h1 : W64 * (a + 1) = W64 * a + W64 := Nat.mul_succ _ _
 generalize W64 * a = p at *
 generalize W64 * b = q at *
 generalize W64 * (a + 1) = r at *
 omega
theorem zsd (x : Nat) (l : List Nat) (i : Nat) : (x :: l).getD (i + 1) 0 = l.getD i 0 := by simp [List.getD_eq_getElem?_getD]
theorem zof (x : Nat) (l : List Nat) : (x :: l).getD 0 0 = x := by simp [List.getD_eq_getElem?_getD]
theorem rows_eq : ∀ (lx ly : List Nat), lx.length = ly.length → (∀ j, j < lx.length → lx.getD j 0 = ly.getD j 0) → lx = ly
 | [], [], _, _ => rfl
 | [], _ :: _, h, _ => by simp at h
 | _ :: _, [], h, _ => by simp at h
 | x :: l, y :: m, h, hj => by
  have h0 := hj 0 (by simp)
  rw [zof, zof] at h0
  rw [h0, rows_eq l m (by simpa using h) (fun j hl => by have := hj (j + 1) (by simpa using hl); rw [zsd, zsd] at this; exact this)]
theorem num_lt : ∀ (lx ly : List Nat), lx.length = ly.length → (∀ x ∈ lx, IsW x) → ∀ i, i < lx.length → (∀ j, i < j → j < lx.length → lx.getD j 0 = ly.getD j 0) → lx.getD i 0 < ly.getD i 0 → num lx < num ly
 | [], _, _, _, i, hi, _, _ => by simp at hi
 | _ :: _, [], h, _, _, _, _, _ => by simp at h
 | x :: l, y :: m, h, hw, 0, hi, hj, hlt => by
  rw [zof, zof] at hlt
  have e : l = m := rows_eq l m (by simpa using h) (fun j hl => by have := hj (j + 1) (by omega) (by simpa using hl); rw [zsd, zsd] at this; exact this)
  simp only [num, e]
  omega
 | x :: l, y :: m, h, hw, i + 1, hi, hj, hlt => by
  rw [zsd, zsd] at hlt
  have ih := num_lt l m (by simpa using h) (fun z hz => hw z (by simp [hz])) i (by simpa using hi) (fun j h1 h2 => by have := hj (j + 1) (by omega) (by simpa using h2); rw [zsd, zsd] at this; exact this) hlt
  simp only [num]
  exact step_lt (hw x (by simp)) ih
theorem num_bound : ∀ (l : List Nat), (∀ x ∈ l, IsW x) → num l < W64 ^ l.length
 | [], _ => by simp [num]
 | x :: l, hw => by
  have ih := num_bound l (fun z hz => hw z (by simp [hz]))
  simp only [num, List.length_cons, Nat.pow_succ]
  have h := step_lt (y := 0) (hw x (by simp)) ih
  rw [Nat.mul_comm (W64 ^ l.length) W64]
  omega
theorem num_snoc : ∀ (l : List Nat) (x : Nat), num (l ++ [x]) = num l + W64 ^ l.length * x
 | [], x => by simp [num]
 | y :: l, x => by
  simp only [List.cons_append, num, num_snoc l x, List.length_cons, Nat.pow_succ, Nat.mul_add]
  rw [← Nat.mul_assoc, Nat.mul_comm W64 (W64 ^ l.length), Nat.add_assoc]
theorem trimW_le (l : List Nat) : (trimW l).length ≤ l.length := by
 unfold trimW
 have h := (List.dropWhile_sublist (fun x => decide (x = 0)) (l := l.reverse)).length_le
 rw [List.length_reverse] at h ⊢
 exact h
theorem num_low (l : List Nat) (h : l = trimW l) (h0 : 0 < l.length) : W64 ^ (l.length - 1) ≤ num l := by
 obtain ⟨m, x, rfl⟩ : ∃ m x, l = m ++ [x] := by
  rcases List.eq_nil_or_concat l with e | ⟨m, x, e⟩
  ·rw [e] at h0; simp at h0
  ·exact ⟨m, x, by simpa using e⟩
 have hx : x ≠ 0 := by
  intro e
  subst e
  rw [zcf] at h
  have := trimW_le m
  have h2 := congrArg List.length h
  simp at h2
  omega
 rw [num_snoc]
 have e : (m ++ [x]).length - 1 = m.length := by simp
 rw [e]
 have : W64 ^ m.length * 1 ≤ W64 ^ m.length * x := Nat.mul_le_mul (Nat.le_refl _) (Nat.pos_of_ne_zero hx)
 omega
theorem num_shorter {lx ly : List Nat} (hw : ∀ x ∈ lx, IsW x) (hy : ly = trimW ly) (h : lx.length < ly.length) : num lx < num ly := by
 have h1 := num_bound lx hw
 have h2 := num_low ly hy (by omega)
 have h3 : W64 ^ lx.length ≤ W64 ^ (ly.length - 1) := Nat.pow_le_pow_right W64_pos (by omega)
 omega
def cmpN (a b : Nat) : Int := if a < b then -1 else if b < a then 1 else 0
theorem cmpAt_num {lx ly : List Nat} {r : Int} (h : CmpAt lx ly r) (hx : lx = trimW lx) (hy : ly = trimW ly) (wx : ∀ x ∈ lx, IsW x) (wy : ∀ x ∈ ly, IsW x) : r = cmpN (num lx) (num ly) := by
 unfold cmpN
 rcases h with ⟨h, rfl⟩ | ⟨h, rfl⟩ | ⟨h, h0, rfl⟩ | ⟨h, i, hi, hj, h0, rfl⟩
 ·rw [if_pos (num_shorter wx hy h)]
 ·have := num_shorter wy hx h
  rw [if_neg (by omega), if_pos this]
 ·have e1 : lx = [] := List.length_eq_zero_iff.1 h0
  have e2 : ly = [] := List.length_eq_zero_iff.1 (by omega)
  rw [e1, e2]
  simp
 ·by_cases h1 : lx.getD i 0 < ly.getD i 0
  ·rw [if_pos h1, if_pos (num_lt lx ly h wx i hi hj h1)]
  ·by_cases h2 : ly.getD i 0 < lx.getD i 0
   ·have := num_lt ly lx h.symm wy i (by omega) (fun j k1 k2 => (hj j k1 (by omega)).symm) h2
    rw [if_neg h1, if_pos h2, if_neg (by omega), if_pos this]
   ·have he : lx.getD i 0 = ly.getD i 0 := by omega
    rcases h0 with h0 | h0
    ·have e : lx = ly := rows_eq lx ly h (fun j k => by
      rcases Nat.eq_or_lt_of_le (Nat.zero_le j) with e | e
      ·have e0 : j = i := by omega
       rw [e0]; exact he
      ·exact hj j (by omega) k)
     rw [if_neg h1, if_neg h2, e]
     simp
    ·exact absurd he h0
theorem NatS.words {w : World} {B : Nat} {v : Value} {l : List Nat} (h : NatS w B v l) : ∀ x ∈ l, IsW x := by
 rcases h with ⟨rfl, rfl⟩ | ⟨g, full, h1, h2, h3, h4, h5, h6, h7⟩
 ·intro x hx; simp at hx
 ·intro x hx
  rw [← h4] at hx
  exact h7 x (List.mem_of_mem_take hx)
theorem dv_lt (s : ByteArray) : ∀ k : Nat, (∀ j : Nat, j < k → Dig (bt s j)) → dv s k < 10 ^ k
 | 0, _ => by simp [dv]
 | k + 1, h => by
  have ih := dv_lt s k (fun j hj => h j (by omega))
  have hd := h k (by omega)
  have h1 := hd.1
  have h2 := hd.2
  simp only [dv, Nat.pow_succ]
  omega
theorem num_len {l : List Nat} {s : ByteArray} (h : l = trimW l) (hd : zae s) (e : num l = dv s s.size) : l.length ≤ s.size := by
 by_cases h0 : l.length = 0
 ·omega
 ·have h1 := num_low l h (by omega)
  have h2 := dv_lt s s.size hd.2
  have h3 : 10 ^ s.size ≤ W64 ^ s.size := Nat.pow_le_pow_left (by unfold W64; omega) _
  rcases Nat.lt_or_ge s.size l.length with h4 | h4
  ·have h5 : W64 ^ s.size ≤ W64 ^ (l.length - 1) := Nat.pow_le_pow_right W64_pos (by omega)
   omega
  ·exact h4
end Go.Proofs.YtapaijpglfmfgaaGreatDoorG
end
section
namespace Go.Proofs.YtapaijpglfmfgaaGreatDoorG
open Go.RowKit YtapaijpglfmfgaaGreatDoorW.PrintWords YtapaijpglfmfgaaGreatDoorW.PrintLast
theorem natCmpN (w : World) (Bx By : Nat) (vx vy : Value) (lx ly : List Nat) (hx : NatS w Bx vx lx) (hy : NatS w By vy ly) (tx : lx = trimW lx) (ty : ly = trimW ly) (hlx : lx.length ≤ 1000000) (hly : ly.length ≤ 1000000) :
  Calls Tryz.prog 99 #[vx, vy] w fun e w' => e = .returned (.int .i64 (cmpN (num lx) (num ly))) ∧ zn w w' := by
 refine (natCmp_ w Bx By vx vy lx ly hx hy hlx hly).mono ?_
 rintro e w' ⟨r, rfl, h, hd⟩
 exact ⟨by rw [cmpAt_num h tx ty hx.words hy.words], hd⟩
theorem intPointee : ∃ j, Tryz.prog.info? 100 = some j ∧ j.size ≠ 0 := by
 have h : (Tryz.prog.info? 100).map (fun i => i.size != 0) = some true := by kernel_rfl
 obtain ⟨j, hj, hz⟩ := Option.map_eq_some_iff.1 h
 exact ⟨j, hj, by simpa using hz⟩
theorem eq_ints {w : World} {a b : Nat} {va vb : Value} (ha : Bg w a false va) (hb : Bg w b false vb) (hab : a ≠ b) : (binOp .eql 69 (.pointer (some ⟨a, 0, none⟩)) (.pointer (some ⟨b, 0, none⟩))).run Tryz.prog w = .ok (.bool false) w := by
 obtain ⟨j, hj, hz⟩ := intPointee
 exact run_eql_ptr_other w Tryz.underlying69 hj hz (fun e => hab (by simpa using congrArg Addr.block e)) ha hb
theorem intCmp_ (w : World) (a b Bx By : Nat) (vx vy : Value) (lx ly : List Nat) (ha : Bg w a false vx) (hb : Bg w b false vy) (hab : a ≠ b) (hx : NatS w Bx vx lx) (hy : NatS w By vy ly) (tx : lx = trimW lx) (ty : ly = trimW ly) (hlx : lx.length ≤ 1000000) (hly : ly.length ≤ 1000000) :
  Calls Tryz.prog 90 #[.pointer (some ⟨a, 0, none⟩), .pointer (some ⟨b, 0, none⟩)] w fun e w' => e = .returned (.int .i64 (cmpN (num lx) (num ly))) ∧ zn w w' := by
 have e1 := eq_ints ha hb hab
 have a0 := ha.c0
 have a1 := ha.c1
 have b0 := hb.c0
 have b1 := hb.c1
 have HC := za.mk (fun (W : World) (hW : W.heap = w.heap) => natCmpN W Bx By vx vy lx ly (hx.other (fun k _ _ => by rw [hW])) (hy.other (fun k _ _ => by rw [hW])) tx ty hlx hly)
 obtain ⟨px, cx, rfl⟩ := hx.shape
 obtain ⟨py, cy, rfl⟩ := hy.shape
 have HA := za.mk (And.intro ha hb)
 clear ha hb hab hx hy hlx hly tx ty
 go_enter Tryz.func90, Tryz.ntmps90
 go_wp2
 go_quiet (fail)
 go_wp2
 go_quiet (first | (go_at_call 99; (refine (HC.out _ (by rfl)).mono ?_); rintro e w' ⟨rfl, ⟨nd, rfl⟩⟩; (try first | exact ⟨rfl, _, World.drewN_drewN _ _ _⟩ | exact ⟨rfl, _, Eq.trans (World.drewN_drewN _ _ _) (congrArg (World.drewN _) (Nat.add_assoc _ _ _))⟩)))
 go_wp2
 go_ret
 exact ⟨rfl, by repeat (first | exact zn.refl _ | apply zn.step)⟩
end Go.Proofs.YtapaijpglfmfgaaGreatDoorG
end
section
namespace Go.Proofs.YtapaijpglfmfgaaGreatDoorG
open Go.RowKit YtapaijpglfmfgaaGreatDoorW.PrintWords YtapaijpglfmfgaaGreatDoorW.PrintLast
instance (s : ByteArray) : Decidable (zae s) := by
 unfold zae
 exact inferInstanceAs (Decidable (_ ∧ _))
def BigAt (w : World) (a n : Nat) : Prop := ∃ v l, Bg w a false v ∧ NatS w a v l ∧ num l = n ∧ l = trimW l ∧ l.length ≤ 1000000
theorem NatS.lt {w : World} {B : Nat} {v : Value} {l : List Nat} (h : NatS w B v l) {w' : World} (hb : Below w.heap.size w w') : NatS w' B v l := by
 refine h.other (fun k _ hk => hb.block k hk)
theorem BigAt.below {w w' : World} {a n : Nat} (h : BigAt w a n) (hb : Below w.heap.size w w') : BigAt w' a n := by
 obtain ⟨v, l, h1, h2, h3⟩ := h
 exact ⟨v, l, h1.same (hb.block a h1.lt), h2.lt hb, h3⟩
theorem conv_yes (w : World) (s : ByteArray) (hp : Plain s) (hG : GLe w) (hd : zae s) :
  Calls Tryz.prog 62 #[.string s] w fun e w' => e = .returned (.tuple #[.pointer (some ⟨w.heap.size, 0, none⟩), .nilIface]) ∧ BigAt w' w.heap.size (dv s s.size) ∧ Below w.heap.size w w' := by
 obtain ⟨EV, h⟩ := convert_all w s hp hG
 refine h.mono ?_
 rintro e w' ⟨h1, _, hb⟩
 obtain ⟨v, l, rfl, k1, k2, k3, k4⟩ := h1 hd
 exact ⟨rfl, ⟨v, l, k1, k2, k3, k4, Nat.le_trans (num_len k4 hd k3) hp.1⟩, hb⟩
theorem cmp_big_ne (w : World) (a b n m : Nat) (ha : BigAt w a n) (hb : BigAt w b m) (hab : a ≠ b) :
  Calls Tryz.prog 90 #[.pointer (some ⟨a, 0, none⟩), .pointer (some ⟨b, 0, none⟩)] w fun e w' => e = .returned (.int .i64 (cmpN n m)) ∧ Below w.heap.size w w' := by
 obtain ⟨vx, lx, a1, a2, a3, a4, a5⟩ := ha
 obtain ⟨vy, ly, b1, b2, b3, b4, b5⟩ := hb
 refine (intCmp_ w a b a b vx vy lx ly a1 b1 hab a2 b2 a4 b4 a5 b5).mono ?_
 rintro e w' ⟨rfl, hd⟩
 exact ⟨by rw [a3, b3], hd.below⟩
theorem NatS.same_row {w : World} {B B' : Nat} {v : Value} {l l2 : List Nat} (h : NatS w B v l) (k : NatS w B' v l2) : l = l2 := by
 rcases h with ⟨e1, e2⟩ | ⟨g, full, e1, _, e3, e4, _⟩
 ·rcases k with ⟨_, f2⟩ | ⟨g2, full2, f1, _⟩
  ·rw [e2, f2]
  ·rw [e1] at f1; simp at f1
 ·rcases k with ⟨f1, _⟩ | ⟨g2, full2, f1, _, f3, f4, _⟩
  ·rw [e1] at f1; simp at f1
  ·rw [e1] at f1
   simp at f1
   obtain ⟨hg, hl, hc⟩ := f1
   subst hg
   unfold Ws at e3 f3
   rw [e3] at f3
   have h5 : (full.map NumC).toArray = (full2.map NumC).toArray := by
    have h6 := Option.some.inj f3
    injection h6
   have h7 : full.map NumC = full2.map NumC := by simpa using h5
   have inj : ∀ (x y : List Nat), x.map NumC = y.map NumC → x = y := by
    intro x
    induction x with
    | nil => intro y hy; cases y with
     | nil => rfl
     | cons b y => simp at hy
    | cons c x ih => intro y hy; cases y with
     | nil => simp at hy
     | cons b y =>
      simp only [List.map_cons, List.cons.injEq] at hy
      have h8 : c = b := by
       have h9 := hy.1
       unfold NumC at h9
       injection h9 with _ h9
       omega
      rw [h8, ih y hy.2]
   have h10 := inj _ _ h7
   rw [← e4, ← f4, h10, hl]
theorem BigAt.one {w : World} {a n m : Nat} (h : BigAt w a n) (k : BigAt w a m) : n = m := by
 obtain ⟨v, l, a1, a2, a3, _⟩ := h
 obtain ⟨v2, l2, b1, b2, b3, _⟩ := k
 have e : v = v2 := by
  unfold Bg at a1 b1
  rw [a1] at b1
  simpa using b1
 subst e
 rw [← a3, ← b3, a2.same_row b2]
theorem cmp_big_eq (w : World) (a : Nat) : Calls Tryz.prog 90 #[.pointer (some ⟨a, 0, none⟩), .pointer (some ⟨a, 0, none⟩)] w fun e w' => e = .returned (.int .i64 0) ∧ Below w.heap.size w w' := by
 obtain ⟨j, hj, hz⟩ := intPointee
 have e1 := fun W : World => run_eql_ptr_same (P := Tryz.prog) W ⟨a, 0, none⟩ Tryz.underlying69 hj
 have HB := za.mk (Below.refl w.heap.size w)
 clear hj hz
 go_enter Tryz.func90, Tryz.ntmps90
 go_wp2
 go_ret
 exact ⟨rfl, HB.out⟩
theorem cmp_big (w : World) (a b n m : Nat) (ha : BigAt w a n) (hb : BigAt w b m) :
  Calls Tryz.prog 90 #[.pointer (some ⟨a, 0, none⟩), .pointer (some ⟨b, 0, none⟩)] w fun e w' => e = .returned (.int .i64 (cmpN n m)) ∧ Below w.heap.size w w' := by
 by_cases h : a = b
 ·subst h
  have e := ha.one hb
  subst e
  refine (cmp_big_eq w a).mono ?_
  rintro e w' ⟨rfl, h⟩
  refine ⟨?_, h⟩
  unfold cmpN
  rw [if_neg (by omega), if_neg (by omega)]
 ·exact cmp_big_ne w a b n m ha hb h
theorem big_zero (w : World) : BigAt (w.alloc (.cells #[.bool false, .slice none 0 0] 100)) w.heap.size 0 := by
 refine ⟨.slice none 0 0, [], ?_, .inl ⟨rfl, rfl⟩, rfl, rfl, by simp⟩
 unfold Bg
 exact alloc_at w _
theorem zlc {w w' : World} {p : Addr} {v : Value} (hb : Below w.heap.size w w') (h : w.cell? p = some v) : w'.cell? p = some v := by
 rw [← h]
 refine World.cell?_of_block (hb.block _ ?_)
 rcases Nat.lt_or_ge p.block w.heap.size with hl | hl
 ·exact hl
 ·unfold World.cell? at h
  rw [Array.getElem?_eq_none hl] at h
  cases h
def KeptT (p : TypeId → Bool) (w w' : World) : Prop := ∀ (k : Nat) (cs : Array Value) (t : TypeId) (fr : Nat × Nat), w.heap[k]? = some (Obj.cells cs t fr) → p t = true → w'.heap[k]? = w.heap[k]?
theorem KeptT.trans {p : TypeId → Bool} {w w1 w2 : World} (h : KeptT p w w1) (k : KeptT p w1 w2) : KeptT p w w2 := fun b cs t fr hb ht => by
 have h1 := h b cs t fr hb ht
 rw [k b cs t fr (by rw [h1]; exact hb) ht, h1]
theorem KeptT.below {p : TypeId → Bool} {w w' : World} (h : Below w.heap.size w w') : KeptT p w w' := fun b cs t fr hb _ => h.block b (by
 rcases Nat.lt_or_ge b w.heap.size with hl | hl
 ·exact hl
 ·rw [Array.getElem?_eq_none hl] at hb; cases hb)
theorem KeptT.grown {p : TypeId → Bool} {w w' : World} {g : Nat} {cs : Array Value} {t : TypeId} {fr : Nat × Nat} (hg : w.heap[g]? = some (.cells cs t fr)) (ht : p t = false) (h : w.grownBy w' (some g)) : KeptT p w w' := fun b cs2 t2 fr2 hb hp => h.block b (by
 rcases Nat.lt_or_ge b w.heap.size with hl | hl
 ·exact hl
 ·rw [Array.getElem?_eq_none hl] at hb; cases hb) (fun e => by
 have e2 := Option.some.inj e
 subst e2
 rw [hg] at hb
 cases hb
 rw [ht] at hp
 cases hp)
def numT (t : TypeId) : Bool := t == 100 || t == 149
theorem BigAt.kept {w w' : World} {a n : Nat} (h : BigAt w a n) (k : KeptT numT w w') : BigAt w' a n := by
 obtain ⟨v, l, h1, h2, h3⟩ := h
 refine ⟨v, l, h1.same (k a _ _ _ h1 (by decide)), ?_, h3⟩
 rcases h2 with h2 | ⟨g, full, e1, e2, e3, e4⟩
 ·exact .inl h2
 ·exact .inr ⟨g, full, e1, e2, e3.same (k g _ _ _ e3 (by decide)), e4⟩
end Go.Proofs.YtapaijpglfmfgaaGreatDoorG
end
section
namespace Go.Proofs.YtapaijpglfmfgaaGreatDoorG
open Go.RowKit YtapaijpglfmfgaaGreatDoorH YtapaijpglfmfgaaGreatDoorW.PrintWords YtapaijpglfmfgaaGreatDoorW.PrintLast
theorem cmp_later {w : World} {a b n m : Nat} (ha : BigAt w a n) (hb : BigAt w b m) (W : World) (hW : Below w.heap.size w W) :
  Calls Tryz.prog 90 #[.pointer (some ⟨a, 0, none⟩), .pointer (some ⟨b, 0, none⟩)] W fun e w' => e = .returned (.int .i64 (cmpN n m)) ∧ Below w.heap.size w w' := by
 refine (cmp_big W a b n m (ha.below hW) (hb.below hW)).mono ?_
 rintro e w' ⟨rfl, h⟩
 exact ⟨rfl, zib hW h⟩
def numC (o1 : ByteArray) (i1 n1 : Nat) (o2 : ByteArray) (i2 n2 : Nat) : Int := if i1 ≠ 0 ∧ i2 ≠ 0 ∧ (bt o1 0 = 48 ∨ bt o2 0 = 48) then ztf o1 o2 else cmpN n1 n2
def NCv (o : ByteArray) (a i : Nat) : Value := .agg #[.string o, .pointer (some ⟨a, 0, none⟩), .int .i64 (i : Int)]
theorem numCmp_ (w : World) (o1 o2 : ByteArray) (a1 a2 i1 i2 n1 n2 : Nat) (h1 : BigAt w a1 n1) (h2 : BigAt w a2 n2) (z1 : 0 < o1.size) (z2 : 0 < o2.size) :
  Calls Tryz.prog 87 #[NCv o1 a1 i1, NCv o2 a2 i2] w fun e w' => e = .returned (.int .i64 (numC o1 i1 n1 o2 i2 n2)) ∧ Below w.heap.size w w' := by
 unfold NCv
 have HC := za.mk (cmp_later h1 h2)
 have HS := za.mk (fun W : World => zke.calls o1 o2 _ W rfl)
 have HB := za.mk (Below.refl w.heap.size w)
 obtain ⟨r, hr⟩ : ∃ r, r = numC o1 i1 n1 o2 i2 n2 := ⟨_, rfl⟩
 rw [← hr]
 clear h1 h2
 have q1 : (0 < (o1.size : Int)) = True := eq_true (by omega)
 have q2 : (0 < (o2.size : Int)) = True := eq_true (by omega)
 have q3 : (0 < o1.size) = True := eq_true z1
 have q4 : (0 < o2.size) = True := eq_true z2
 have x1 : ∀ h : 0 < o1.size, ((o1[0]'h).toNat : Int) = bt o1 0 := fun h => bt_at o1 0 h
 have x2 : ∀ h : 0 < o2.size, ((o2[0]'h).toNat : Int) = bt o2 0 := fun h => bt_at o2 0 h
 have fin : numC o1 i1 n1 o2 i2 n2 = cmpN n1 n2 → za (r = cmpN n1 n2) := fun h => ⟨by rw [hr, h]⟩
 have fin2 : numC o1 i1 n1 o2 i2 n2 = ztf o1 o2 → za (r = ztf o1 o2) := fun h => ⟨by rw [hr, h]⟩
 clear z1 z2
 by_cases e1 : i1 = 0
 ·have HR := fin (by unfold numC; rw [if_neg (fun h => h.1 e1)])
  have b1 : ((i1 : Int) != 0) = false := by simp [e1]
  have b2 : ((i1 : Int) == 0) = true := by simp [e1]
  clear fin fin2 hr e1
  go_enter Tryz.func87, Tryz.ntmps87
  go_wp2_with (first | (go_at_call 90; refine (HC.out _ (by repeat (first | exact HB.out | apply zj | apply zd))).mono ?_; rintro e' w1 ⟨rfl, hb⟩; have HB1 := za.mk hb; clear hb))
  go_ret
  exact ⟨by rw [HR.out]; rfl, HB1.out⟩
 ·have b1 : ((i1 : Int) != 0) = true := by simp [e1]
  have b2 : ((i1 : Int) == 0) = false := by simp [e1]
  by_cases e2 : i2 = 0
  ·have HR := fin (by unfold numC; rw [if_neg (fun h => h.2.1 e2)])
   have b3 : ((i2 : Int) != 0) = false := by simp [e2]
   have b4 : ((i2 : Int) == 0) = true := by simp [e2]
   clear fin fin2 hr e1 e2
   go_enter Tryz.func87, Tryz.ntmps87
   go_wp2_with (first | (go_at_call 90; refine (HC.out _ (by repeat (first | exact HB.out | apply zj | apply zd))).mono ?_; rintro e' w1 ⟨rfl, hb⟩; have HB1 := za.mk hb; clear hb))
   go_ret
   exact ⟨by rw [HR.out]; rfl, HB1.out⟩
  ·have b3 : ((i2 : Int) != 0) = true := by simp [e2]
   have b4 : ((i2 : Int) == 0) = false := by simp [e2]
   by_cases e3 : bt o1 0 = 48
   ·have HR := fin2 (by unfold numC; rw [if_pos ⟨e1, e2, .inl e3⟩])
    have b5 : (bt o1 0 == 48) = true := by simp [e3]
    clear fin fin2 hr e1 e2 e3
    go_enter Tryz.func87, Tryz.ntmps87
    go_wp2_with (first | (go_at_call 69; (with_reducible refine (HS.out _).mono ?_); rintro e w' ⟨rfl, ⟨nd, rfl⟩⟩))
    go_ret
    exact ⟨by rw [HR.out]; rfl, by repeat (first | exact HB.out | apply zj | apply zd)⟩
   ·have b5 : (bt o1 0 == 48) = false := by simp [e3]
    by_cases e4 : bt o2 0 = 48
    ·have HR := fin2 (by unfold numC; rw [if_pos ⟨e1, e2, .inr e4⟩])
     have b6 : (bt o2 0 == 48) = true := by simp [e4]
     clear fin fin2 hr e1 e2 e3 e4
     go_enter Tryz.func87, Tryz.ntmps87
     go_wp2_with (first | (go_at_call 69; (with_reducible refine (HS.out _).mono ?_); rintro e w' ⟨rfl, ⟨nd, rfl⟩⟩))
     go_ret
     exact ⟨by rw [HR.out]; rfl, by repeat (first | exact HB.out | apply zj | apply zd)⟩
    ·have HR := fin (by unfold numC; rw [if_neg (fun h => h.2.2.elim e3 e4)])
     have b6 : (bt o2 0 == 48) = false := by simp [e4]
     clear fin fin2 hr e1 e2 e3 e4
     go_enter Tryz.func87, Tryz.ntmps87
     go_wp2_with (first | (go_at_call 90; refine (HC.out _ (by repeat (first | exact HB.out | apply zj | apply zd))).mono ?_; rintro e' w1 ⟨rfl, hb⟩; have HB1 := za.mk hb; clear hb))
     go_ret
     exact ⟨by rw [HR.out]; rfl, HB1.out⟩
def sufC (w1 : Int) (n1 : Nat) (w2 : Int) (n2 : Nat) : Int := if w1 > w2 then 1 else if w1 < w2 then -1 else cmpN n1 n2
def SFv (wt : Int) (a : Nat) : Value := .agg #[.int .i64 wt, .pointer (some ⟨a, 0, none⟩)]
theorem sufCmp_ (w : World) (w1 w2 : Int) (a1 a2 n1 n2 : Nat) (h1 : BigAt w a1 n1) (h2 : BigAt w a2 n2) :
  Calls Tryz.prog 89 #[SFv w1 a1, SFv w2 a2] w fun e w' => e = .returned (.int .i64 (sufC w1 n1 w2 n2)) ∧ Below w.heap.size w w' := by
 unfold SFv
 have HC := za.mk (cmp_later h1 h2)
 have HB := za.mk (Below.refl w.heap.size w)
 obtain ⟨r, hr⟩ : ∃ r, r = sufC w1 n1 w2 n2 := ⟨_, rfl⟩
 rw [← hr]
 clear h1 h2
 have fin : ∀ q, sufC w1 n1 w2 n2 = q → za (r = q) := fun q h => ⟨by rw [hr, h]⟩
 by_cases e1 : w1 > w2
 ·have HR := fin 1 (by unfold sufC; rw [if_pos e1])
  have b1 : decide (w2 < w1) = true := decide_eq_true e1
  clear fin hr e1
  go_enter Tryz.func89, Tryz.ntmps89
  go_wp2
  go_ret
  exact ⟨by rw [HR.out]; rfl, by repeat (first | exact HB.out | apply zj | apply zd)⟩
 ·have b1 : decide (w2 < w1) = false := decide_eq_false e1
  by_cases e2 : w1 < w2
  ·have HR := fin (-1) (by unfold sufC; rw [if_neg e1, if_pos e2])
   have b2 : decide (w1 < w2) = true := decide_eq_true e2
   clear fin hr e1 e2
   go_enter Tryz.func89, Tryz.ntmps89
   go_wp2
   go_ret
   exact ⟨by rw [HR.out]; rfl, by repeat (first | exact HB.out | apply zj | apply zd)⟩
  ·have HR := fin (cmpN n1 n2) (by unfold sufC; rw [if_neg e1, if_neg e2])
   have b2 : decide (w1 < w2) = false := decide_eq_false e2
   clear fin hr e1 e2
   go_enter Tryz.func89, Tryz.ntmps89
   go_wp2_with (first | (go_at_call 90; refine (HC.out _ (by repeat (first | exact HB.out | apply zj | apply zd))).mono ?_; rintro e' w1 ⟨rfl, hb⟩; have HB1 := za.mk hb; clear hb))
   go_ret
   exact ⟨by rw [HR.out]; rfl, HB1.out⟩
theorem zcj (a : Nat) : ∀ W : World, (binOp .neq 69 (.pointer (some ⟨a, 0, none⟩)) (.pointer none)).run Tryz.prog W = .ok (.bool true) W := by
 intro W
 have h : ∀ d : Nat, (Op.equalIn (d + 1) 69 (.pointer (some ⟨a, 0, none⟩)) (.pointer none)).run Tryz.prog W = .ok false W := fun d => by
  simp [Op.equalIn, run_underlying Tryz.underlying69]
 simp only [binOp]
 simp [Op.equal, Op.maxDepth, h 9999]
theorem zmi (w : World) (o1 o2 r1 r2 l1 l2 h1 h2 : ByteArray) (i1 i2 : Bool) (c1 c2 s1 s2 : Value) (a1 a2 n1 n2 : Nat) (k1 : BigAt w a1 n1) (k2 : BigAt w a2 n2) :
  Calls Tryz.prog 73 #[AVv o1 i1 r1 c1 l1 s1 h1 (.pointer (some ⟨a1, 0, none⟩)), AVv o2 i2 r2 c2 l2 s2 h2 (.pointer (some ⟨a2, 0, none⟩))] w fun e w' => e = .returned (.int .i64 (cmpN n1 n2)) ∧ Below w.heap.size w w' := by
 unfold AVv
 have HC := za.mk (cmp_later k1 k2)
 have HB := za.mk (Below.refl w.heap.size w)
 have p1 := zcj a1
 have p2 := zcj a2
 obtain ⟨r, hr⟩ : ∃ r, r = cmpN n1 n2 := ⟨_, rfl⟩
 rw [← hr] at HC ⊢
 clear k1 k2 hr
 by_cases e : r = 0
 ·subst e
  go_enter Tryz.func73, Tryz.ntmps73
  go_wp2_with (first | (go_at_call 90; refine (HC.out _ (by repeat (first | exact HB.out | apply zj | apply zd))).mono ?_; rintro e' w1 ⟨rfl, hb⟩; have HB1 := za.mk hb; clear hb))
  go_ret
  exact ⟨rfl, HB1.out⟩
 ·have b1 : (r != 0) = true := by simpa using e
  have b2 : (r == 0) = false := by simpa using e
  clear e
  go_enter Tryz.func73, Tryz.ntmps73
  go_wp2_with (first | (go_at_call 90; refine (HC.out _ (by repeat (first | exact HB.out | apply zj | apply zd))).mono ?_; rintro e' w1 ⟨rfl, hb⟩; have HB1 := za.mk hb; clear hb))
  go_ret
  exact ⟨rfl, HB1.out⟩
end Go.Proofs.YtapaijpglfmfgaaGreatDoorG
end
section
namespace Go.Proofs.YtapaijpglfmfgaaGreatDoorG
open Go.RowKit YtapaijpglfmfgaaGreatDoorH YtapaijpglfmfgaaGreatDoorW.PrintWords YtapaijpglfmfgaaGreatDoorW.PrintLast
structure Nm where
 o : ByteArray
 a : Nat
 n : Nat
def CRow (w : World) (v : Value) (l : List Nm) : Prop := ∃ (p : Option Addr) (c : Nat), v = .slice p l.length c ∧ l.length ≤ 1000000 ∧
 ∀ (i : Nat) (x : Nm), l[i]? = some x → ∃ b : Nat, p = some ⟨b, 0, none⟩ ∧ w.cell? ⟨b, i * 3, none⟩ = some (.string x.o) ∧ w.cell? ⟨b, i * 3 + 1, none⟩ = some (.pointer (some ⟨x.a, 0, none⟩)) ∧ w.cell? ⟨b, i * 3 + 2, none⟩ = some (.int .i64 (i : Int)) ∧ BigAt w x.a x.n ∧ 0 < x.o.size
theorem CRow.below {w w' : World} {v : Value} {l : List Nm} (h : CRow w v l) (hb : Below w.heap.size w w') : CRow w' v l := by
 obtain ⟨p, c, h1, h2, h3⟩ := h
 refine ⟨p, c, h1, h2, fun i x hx => ?_⟩
 obtain ⟨ad, e, k1, k2, k3, k4, k5⟩ := h3 i x hx
 exact ⟨ad, e, zlc hb k1, zlc hb k2, zlc hb k3, k4.below hb, k5⟩
def nmO (l : List Nm) (k : Nat) : ByteArray := match l[k]? with
 | some x => x.o
 | none => ⟨#[48]⟩
def nmN (l : List Nm) (k : Nat) : Nat := match l[k]? with
 | some x => x.n
 | none => 0
def nmI (l : List Nm) (k : Nat) : Nat := match l[k]? with
 | some _ => k
 | none => 0
theorem fetch_ (w : World) (g k : Nat) (v : Value) (l : List Nm) (hc : w.cell? ⟨g, 3, none⟩ = some v) (hr : CRow w v l) (hk : k ≤ 1000000) :
  Calls Tryz.prog 86 #[.pointer (some ⟨g, 3, none⟩), .int .i64 (k : Int)] w fun e w' => ∃ a, e = .returned (NCv (nmO l k) a (nmI l k)) ∧ BigAt w' a (nmN l k) ∧ Below w.heap.size w w' := by
 unfold NCv
 obtain ⟨p, c, rfl, hl, hx⟩ := hr
 have HB := za.mk (Below.refl w.heap.size w)
 by_cases h : k < l.length
 ·have e : l[k]? = some l[k] := List.getElem?_eq_getElem h
  obtain ⟨ad, rfl, k1, k2, k3, k4, k5⟩ := hx k _ e
  have eO : nmO l k = l[k].o := by unfold nmO; rw [e]
  have eN : nmN l k = l[k].n := by unfold nmN; rw [e]
  have eI : nmI l k = k := by unfold nmI; rw [e]
  rw [eO, eN, eI]
  obtain ⟨x, hx0⟩ : ∃ x, x = l[k] := ⟨_, rfl⟩
  rw [← hx0] at k1 k2 k4 ⊢
  have K4 := za.mk k4
  have b1 : decide ((l.length : Int) ≤ (k : Int)) = false := decide_eq_false (by omega)
  have b1n : decide (l.length ≤ k) = false := decide_eq_false (by omega)
  have b2 : (0 ≤ (k : Int)) = True := eq_true (by omega)
  have b3 : ((k : Int) < (l.length : Int)) = True := eq_true (by omega)
  have hb1 := zj HB.out (.cells #[.string ⟨#[]⟩, .pointer none, .int .i64 0] 114)
  replace hc := zlc hb1 hc
  replace k1 := zlc hb1 k1
  replace k2 := zlc hb1 k2
  replace k3 := zlc hb1 k3
  clear hx e eO eN eI hx0 k4 k5 hl h hb1
  go_enter Tryz.func86, Tryz.ntmps86
  go_wp2
  (try simp only [Exit.inBlock, Exit.then])
  refine bodyPost_ret (results_cell_row rfl _ _ w.heap.size 114 #[.string x.o, .pointer (some ⟨x.a, 0, none⟩), .int .i64 (k : Int)] (0, 0) _ rfl (alloc_at _ _) Tryz.underlying114 rfl (by kernel_rfl)) rfl ?_
  exact ⟨x.a, rfl, K4.out.below (zj HB.out _), zj HB.out _⟩
 ·have e : l[k]? = none := List.getElem?_eq_none (by omega)
  have eO : nmO l k = ⟨#[48]⟩ := by unfold nmO; rw [e]
  have eN : nmN l k = 0 := by unfold nmN; rw [e]
  have eI : nmI l k = 0 := by unfold nmI; rw [e]
  rw [eO, eN, eI]
  have b1 : decide ((l.length : Int) ≤ (k : Int)) = true := decide_eq_true (by omega)
  have b1n : decide (l.length ≤ k) = true := decide_eq_true (by omega)
  have hb1 := zj HB.out (.cells #[.string ⟨#[]⟩, .pointer none, .int .i64 0] 114)
  replace hc := zlc hb1 hc
  clear hx e eO eN eI hl h hb1
  go_enter Tryz.func86, Tryz.ntmps86
  go_wp2
  (try simp only [Exit.inBlock, Exit.then])
  refine bodyPost_ret (results_cell_row rfl _ _ w.heap.size 114 #[.string ⟨#[48]⟩, .pointer (some ⟨w.heap.size + 1, 0, none⟩), .int .i64 0] (0, 0) _ rfl ((alloc_old _ _ (by rw [zsb]; omega)).trans (alloc_at _ _)) Tryz.underlying114 rfl (by kernel_rfl)) rfl ?_
  have hz := big_zero (w.alloc (.cells #[.string ⟨#[48]⟩, .pointer (some ⟨w.heap.size + 1, 0, none⟩), .int .i64 0] 114))
  rw [zsb] at hz
  exact ⟨w.heap.size + 1, rfl, hz, zj (zj HB.out _) _⟩
structure Sx where
 wt : Int
 a : Nat
 n : Nat
def SRow (w : World) (v : Value) (l : List Sx) : Prop := ∃ (p : Option Addr) (c : Nat), v = .slice p l.length c ∧ l.length ≤ 1000000 ∧
 ∀ (i : Nat) (x : Sx), l[i]? = some x → ∃ b : Nat, p = some ⟨b, 0, none⟩ ∧ w.cell? ⟨b, i * 2, none⟩ = some (.int .i64 x.wt) ∧ w.cell? ⟨b, i * 2 + 1, none⟩ = some (.pointer (some ⟨x.a, 0, none⟩)) ∧ BigAt w x.a x.n
theorem SRow.below {w w' : World} {v : Value} {l : List Sx} (h : SRow w v l) (hb : Below w.heap.size w w') : SRow w' v l := by
 obtain ⟨p, c, h1, h2, h3⟩ := h
 refine ⟨p, c, h1, h2, fun i x hx => ?_⟩
 obtain ⟨ad, e, k1, k2, k4⟩ := h3 i x hx
 exact ⟨ad, e, zlc hb k1, zlc hb k2, k4.below hb⟩
def sxW (l : List Sx) (k : Nat) : Int := match l[k]? with
 | some x => x.wt
 | none => 5
def sxN (l : List Sx) (k : Nat) : Nat := match l[k]? with
 | some x => x.n
 | none => 0
theorem KeptT.set {p : TypeId → Bool} {w : World} {g : Nat} {cs : Array Value} {t : TypeId} {fr : Nat × Nat} (hg : w.heap[g]? = some (.cells cs t fr)) (ht : p t = false) (i : Nat) (u : Value) : KeptT p w (w.setCell ⟨g, i, none⟩ u) := fun b cs2 t2 fr2 hb hp => by
 have hne : g ≠ b := by
  rintro rfl
  rw [hg] at hb
  cases hb
  rw [ht] at hp
  cases hp
 simp [World.setCell, Array.getElem?_modify, hne]
theorem newInt_zero (w : World) : Calls Tryz.prog 98 #[.int .i64 0] w fun e w' => e = .returned (.pointer (some ⟨w.heap.size, 0, none⟩)) ∧ BigAt w' w.heap.size 0 ∧ Below w.heap.size w w' := by
 have HB := za.mk (Below.refl w.heap.size w)
 have HZ := za.mk (big_zero w)
 go_enter Tryz.func98, Tryz.ntmps98
 go_wp2
 go_ret
 exact ⟨rfl, HZ.out, zj HB.out _⟩
theorem zgj (w : World) (k : Nat) (l : List Sx) (o1 r1 l1 h1 : ByteArray) (i1 : Bool) (c1 s1 b1 : Value) (hr : SRow w s1 l) (hk : k ≤ 1000000) :
  Calls Tryz.prog 88 #[AVv o1 i1 r1 c1 l1 s1 h1 b1, .int .i64 (k : Int)] w fun e w' => ∃ a, e = .returned (SFv (sxW l k) a) ∧ BigAt w' a (sxN l k) ∧ Below w.heap.size w w' := by
 unfold AVv SFv
 obtain ⟨p, c, rfl, hl, hx⟩ := hr
 have HB := za.mk (Below.refl w.heap.size w)
 have hb1 := zj (zj HB.out (.cells #[.string o1, .bool i1, .string r1, c1, .string l1, .slice p l.length c, .string h1, b1] 71)) (.cells #[.int .i64 0, .pointer none] 117)
 by_cases h : k < l.length
 ·have e : l[k]? = some l[k] := List.getElem?_eq_getElem h
  obtain ⟨b, rfl, k1, k2, k4⟩ := hx k _ e
  have eO : sxW l k = l[k].wt := by unfold sxW; rw [e]
  have eN : sxN l k = l[k].n := by unfold sxN; rw [e]
  rw [eO, eN]
  obtain ⟨x, hx0⟩ : ∃ x, x = l[k] := ⟨_, rfl⟩
  rw [← hx0] at k1 k2 k4 ⊢
  have K4 := za.mk k4
  have q1 : decide ((l.length : Int) ≤ (k : Int)) = false := decide_eq_false (by omega)
  have q1n : decide (l.length ≤ k) = false := decide_eq_false (by omega)
  have q2 : (0 ≤ (k : Int)) = True := eq_true (by omega)
  have q3 : ((k : Int) < (l.length : Int)) = True := eq_true (by omega)
  replace k1 := zlc hb1 k1
  replace k2 := zlc hb1 k2
  clear hx e eO eN hx0 k4 hl h hb1
  go_enter Tryz.func88, Tryz.ntmps88
  go_wp2
  (try simp only [Exit.inBlock, Exit.then])
  refine bodyPost_ret (results_cell_row rfl _ _ (w.heap.size + 1) 117 #[.int .i64 x.wt, .pointer (some ⟨x.a, 0, none⟩)] (0, 0) _ rfl (by rw [← zsb w (.cells #[.string o1, .bool i1, .string r1, c1, .string l1, .slice (some ⟨b, 0, none⟩) l.length c, .string h1, b1] 71)]; exact alloc_at _ _) Tryz.underlying117 rfl (by kernel_rfl)) rfl ?_
  exact ⟨x.a, rfl, K4.out.below (zj (zj HB.out _) _), zj (zj HB.out _) _⟩
 ·have e : l[k]? = none := List.getElem?_eq_none (by omega)
  have eO : sxW l k = 5 := by unfold sxW; rw [e]
  have eN : sxN l k = 0 := by unfold sxN; rw [e]
  rw [eO, eN]
  have q1 : decide ((l.length : Int) ≤ (k : Int)) = true := decide_eq_true (by omega)
  have q1n : decide (l.length ≤ k) = true := decide_eq_true (by omega)
  have HBK : za ((((w.alloc (.cells #[.string o1, .bool i1, .string r1, c1, .string l1, .slice p l.length c, .string h1, b1] 71)).alloc (.cells #[.int .i64 0, .pointer none] 117)).heap[w.heap.size + 1]? = some (.cells #[.int .i64 0, .pointer none] 117 (0, 0)))) := ⟨by
   rw [← zsb w (.cells #[.string o1, .bool i1, .string r1, c1, .string l1, .slice p l.length c, .string h1, b1] 71)]; exact alloc_at _ _⟩
  clear hx e eO eN hl h
  have HB1 := za.mk hb1
  clear hb1
  go_enter Tryz.func88, Tryz.ntmps88
  go_wp2_with (first | (go_at_call 98; (with_reducible refine (newInt_zero _).mono ?_); rintro e' w3 ⟨rfl, hz, hb⟩; have HZ := za.mk hz; have HB3 := za.mk (zib HB1.out hb); have g0 := zc HBK.out hb; clear hz hb; have x0 := (zb g0 0).trans rfl; have f0 := zz g0 0; have g1 := zq (cs' := #[.int .i64 5, .pointer none]) g0 0 (.int .i64 5) rfl; have x1 := (zb g1 1).trans rfl; have f1 := zz g1 1; have G0 := za.mk g0; have G1 := za.mk g1; clear g0 g1))
  (try simp only [Exit.inBlock, Exit.then])
  refine bodyPost_ret (results_cell_row rfl _ _ (w.heap.size + 1) 117 #[.int .i64 5, .pointer (some ⟨w.heap.size + 1 + 1, 0, none⟩)] (0, 0) _ rfl (zq G1.out 1 _ rfl) Tryz.underlying117 rfl (by kernel_rfl)) rfl ?_
  have hz := HZ.out
  rw [zsb, zsb] at hz
  refine ⟨w.heap.size + 1 + 1, rfl, (hz.kept (KeptT.set G0.out (by decide) 0 _)).kept (KeptT.set G1.out (by decide) 1 _), ?_⟩
  exact (HB3.out.setCell (by show w.heap.size ≤ w.heap.size + 1; omega) _).setCell (by show w.heap.size ≤ w.heap.size + 1; omega) _
end Go.Proofs.YtapaijpglfmfgaaGreatDoorG
end
section
namespace Go.Proofs.YtapaijpglfmfgaaGreatDoorG
open Go.RowKit YtapaijpglfmfgaaGreatDoorH YtapaijpglfmfgaaGreatDoorW.PrintWords YtapaijpglfmfgaaGreatDoorW.PrintLast
def fromC (d : Nat → Int) : Nat → Nat → Int
 | 0, _ => 0
 | n + 1, k => if d k = 0 then fromC d n (k + 1) else d k
theorem zge (n k : Nat) (h : k < n) : n - (intOf (.int .i64 ((k + 1 : Nat) : Int))).toNat < n - (intOf (.int .i64 (k : Int))).toNat := by
 simp only [intOf]
 omega
theorem zre (n k : Nat) (h : k < n) (e : wrap64 ((k : Int) + 1) = ((k + 1 : Nat) : Int)) : n - (intOf (.int .i64 (wrap64 ((k : Int) + 1)))).toNat < n - (intOf (.int .i64 (k : Int))).toNat := by
 rw [e]
 exact zge n k h
def numD (l m : List Nm) (k : Nat) : Int := numC (nmO l k) (nmI l k) (nmN l k) (nmO m k) (nmI m k) (nmN m k)
def zee (l m : List Nm) : Int := fromC (numD l m) (max l.length m.length) 0
def sufD (l m : List Sx) (k : Nat) : Int := sufC (sxW l k) (sxN l k) (sxW m k) (sxN m k)
def sufsC (l m : List Sx) : Int := fromC (sufD l m) (max l.length m.length) 0
theorem nmO_pos {w : World} {v : Value} {l : List Nm} (h : CRow w v l) (k : Nat) : 0 < (nmO l k).size := by
 obtain ⟨p, c, _, _, h3⟩ := h
 unfold nmO
 cases e : l[k]? with
 | none => decide
 | some x =>
  obtain ⟨b, _, _, _, _, _, h4⟩ := h3 k x e
  exact h4
theorem CRow.len {w : World} {v : Value} {l : List Nm} (h : CRow w v l) : ∃ p c, v = .slice p l.length c := by
 obtain ⟨p, c, h1, _⟩ := h
 exact ⟨p, c, h1⟩
theorem SRow.len {w : World} {v : Value} {l : List Sx} (h : SRow w v l) : ∃ p c, v = .slice p l.length c := by
 obtain ⟨p, c, h1, _⟩ := h
 exact ⟨p, c, h1⟩
theorem zeg (w : World) (l m : List Nm) (o1 o2 r1 r2 l1 l2 h1 h2 : ByteArray) (i1 i2 : Bool) (c1 c2 s1 s2 b1 b2 : Value) (k1 : CRow w c1 l) (k2 : CRow w c2 m) :
  Calls Tryz.prog 70 #[AVv o1 i1 r1 c1 l1 s1 h1 b1, AVv o2 i2 r2 c2 l2 s2 h2 b2] w fun e w' => e = .returned (.int .i64 (zee l m)) ∧ Below w.heap.size w w' := by
 unfold AVv
 have hl1 : l.length ≤ 1000000 := by obtain ⟨_, _, _, h, _⟩ := k1; exact h
 have hl2 : m.length ≤ 1000000 := by obtain ⟨_, _, _, h, _⟩ := k2; exact h
 obtain ⟨p1, q1, e1⟩ := k1.len
 obtain ⟨p2, q2, e2⟩ := k2.len
 subst e1
 subst e2
 have HB := za.mk (Below.refl w.heap.size w)
 obtain ⟨W2, hW2⟩ : ∃ W2, W2 = ((w.alloc (.cells #[.string o1, .bool i1, .string r1, .slice p1 l.length q1, .string l1, s1, .string h1, b1] 71)).alloc (.cells #[.string o2, .bool i2, .string r2, .slice p2 m.length q2, .string l2, s2, .string h2, b2] 71)) := ⟨_, rfl⟩
 have HW2 := za.mk hW2
 have hb2 : Below w.heap.size w W2 := by rw [hW2]; exact zj (zj HB.out _) _
 have HB2 := za.mk hb2
 have ga : W2.heap[w.heap.size]? = some (.cells #[.string o1, .bool i1, .string r1, .slice p1 l.length q1, .string l1, s1, .string h1, b1] 71 (0, 0)) := by rw [hW2]; exact zvb (zvc w _) _
 have gb : W2.heap[w.heap.size + 1]? = some (.cells #[.string o2, .bool i2, .string r2, .slice p2 m.length q2, .string l2, s2, .string h2, b2] 71 (0, 0)) := by
  rw [hW2, ← zsb w (.cells #[.string o1, .bool i1, .string r1, .slice p1 l.length q1, .string l1, s1, .string h1, b1] 71)]; exact alloc_at _ _
 have GA := za.mk ga
 have GB := za.mk gb
 have K1 := za.mk (k1.below hb2)
 have K2 := za.mk (k2.below hb2)
 obtain ⟨n, hn⟩ : ∃ n, n = max l.length m.length := ⟨_, rfl⟩
 have HN := za.mk hn
 have M1 : (max (l.length : Int) (m.length : Int)) = (n : Int) := by omega
 have HL := za.mk (show n ≤ 1000000 by omega)
 have H0 : za (zee l m = fromC (numD l m) (n - 0) 0) := ⟨by rw [hn]; rfl⟩
 obtain ⟨r, hr⟩ : ∃ r, r = zee l m := ⟨_, rfl⟩
 rw [← hr] at H0 ⊢
 clear hW2 hb2 ga gb k1 k2 hn hl1 hl2 hr
 have F1 : za (∀ (W : World) (k : Nat), Below W2.heap.size W2 W → k ≤ 1000000 → Calls Tryz.prog 86 #[.pointer (some ⟨w.heap.size, 3, none⟩), .int .i64 (k : Int)] W fun e w' => ∃ a, e = .returned (NCv (nmO l k) a (nmI l k)) ∧ BigAt w' a (nmN l k) ∧ Below W.heap.size W w') :=
  ⟨fun W k hb hk => fetch_ W w.heap.size k _ l ((zb (zc GA.out hb) 3).trans rfl) (K1.out.below hb) hk⟩
 have F2 : za (∀ (W : World) (k : Nat), Below W2.heap.size W2 W → k ≤ 1000000 → Calls Tryz.prog 86 #[.pointer (some ⟨w.heap.size + 1, 3, none⟩), .int .i64 (k : Int)] W fun e w' => ∃ a, e = .returned (NCv (nmO m k) a (nmI m k)) ∧ BigAt w' a (nmN m k) ∧ Below W.heap.size W w') :=
  ⟨fun W k hb hk => fetch_ W (w.heap.size + 1) k _ m ((zb (zc GB.out hb) 3).trans rfl) (K2.out.below hb) hk⟩
 have Z1 := za.mk (nmO_pos K1.out)
 have Z2 := za.mk (nmO_pos K2.out)
 go_enter Tryz.func70, Tryz.ntmps70
 go_wp2
 go_loopw [16] (fun i wr => ∃ k : Nat, k ≤ n ∧ i = .int .i64 k ∧ za (r = fromC (numD l m) (n - k) k) ∧ za (Below W2.heap.size W2 wr)) (fun i _ => n - (intOf i).toNat)
 case atStart => exact ⟨0, Nat.zero_le _, rfl, H0, by rw [← HW2.out]; exact ⟨Below.refl _ _⟩⟩
 case round =>
  obtain ⟨k, hk, rfl, hp, HWR⟩ := hrel
  by_cases hlt : k < n
  ·obtain ⟨d, hd⟩ : ∃ d, d = numD l m k := ⟨_, rfl⟩
   have HD : za (numC (nmO l k) (nmI l k) (nmN l k) (nmO m k) (nmI m k) (nmN m k) = d) := ⟨hd.symm⟩
   have HK := za.mk (show k ≤ 1000000 by have := HL.out; omega)
   have LT := za.mk hlt
   have ga := zc GA.out HWR.out
   have gb := zc GB.out HWR.out
   have i3 : decide ((k : Int) < (n : Int)) = true := decide_eq_true (by omega)
   have i4 : ((k : Int) < (n : Int)) = True := eq_true (by omega)
   have hst : r = if d = 0 then fromC (numD l m) (n - (k + 1)) (k + 1) else d := by
    rw [hp.out, show n - k = (n - (k + 1)) + 1 by omega]
    simp only [fromC, ← hd]
   have NS : za (k + 1 ≤ n) := ⟨by omega⟩
   have WR : wrap64 ((k : Int) + 1) = ((k + 1 : Nat) : Int) := by have := HL.out; unfold wrap64; omega
   clear hd hlt hk
   by_cases h0 : d = 0
   ·rw [if_pos h0] at hst
    have HS := za.mk hst
    subst h0
    clear hst
    go_wp2_with (first | (go_at_call 86; (with_reducible refine (F1.out wr k HWR.out HK.out).mono ?_); rintro e' w1 ⟨a1, rfl, g1, bb1⟩; have BG1 := za.mk g1; have BB1 := za.mk (zfb HWR.out HWR.out.size bb1); clear g1 bb1) | (go_at_call 86; (with_reducible refine (F2.out w1 k BB1.out HK.out).mono ?_); rintro e' w2 ⟨a2, rfl, g2, bb2⟩; have BG2 := za.mk g2; have BG1' := za.mk (BG1.out.below bb2); have BB2 := za.mk (zfb BB1.out BB1.out.size bb2); clear g2 bb2) | (go_at_call 87; (with_reducible refine (numCmp_ w2 _ _ a1 a2 _ _ _ _ BG1'.out BG2.out (Z1.out k) (Z2.out k)).mono ?_); rintro e' w3 ⟨he, bb3⟩; rw [HD.out] at he; subst he; have BB3 := za.mk (zfb BB2.out BB2.out.size bb3); clear bb3))
    all_goals go_roundw
    all_goals first | exact ⟨k + 1, NS.out, by first | rfl | go_num, HS, BB3⟩ | exact zge n k LT.out | exact meas_up1 n k LT.out | exact zre n k LT.out WR
   ·rw [if_neg h0] at hst
    have HS := za.mk hst
    have z1 : (d != 0) = true := by simpa using h0
    have z2 : (d == 0) = false := by simpa using h0
    clear hst h0
    go_wp2_with (first | (go_at_call 86; (with_reducible refine (F1.out wr k HWR.out HK.out).mono ?_); rintro e' w1 ⟨a1, rfl, g1, bb1⟩; have BG1 := za.mk g1; have BB1 := za.mk (zfb HWR.out HWR.out.size bb1); clear g1 bb1) | (go_at_call 86; (with_reducible refine (F2.out w1 k BB1.out HK.out).mono ?_); rintro e' w2 ⟨a2, rfl, g2, bb2⟩; have BG2 := za.mk g2; have BG1' := za.mk (BG1.out.below bb2); have BB2 := za.mk (zfb BB1.out BB1.out.size bb2); clear g2 bb2) | (go_at_call 87; (with_reducible refine (numCmp_ w2 _ _ a1 a2 _ _ _ _ BG1'.out BG2.out (Z1.out k) (Z2.out k)).mono ?_); rintro e' w3 ⟨he, bb3⟩; rw [HD.out] at he; subst he; have BB3 := za.mk (zfb BB2.out BB2.out.size bb3); clear bb3))
    all_goals (go_ret; exact ⟨by rw [HS.out]; rfl, zfb HB2.out HB2.out.size BB3.out⟩)
  ·obtain rfl : k = n := by omega
   have i3 : decide ((k : Int) < (k : Int)) = false := decide_eq_false (by omega)
   have i4 : ((k : Int) < (k : Int)) = False := eq_false (by omega)
   have HS : za (r = 0) := ⟨by rw [hp.out, Nat.sub_self]; rfl⟩
   clear hlt hk
   go_wp2
   go_ret
   exact ⟨by rw [HS.out]; rfl, zfb HB2.out HB2.out.size HWR.out⟩
theorem zzg (w : World) (l m : List Sx) (o1 o2 r1 r2 l1 l2 h1 h2 : ByteArray) (i1 i2 : Bool) (c1 c2 s1 s2 b1 b2 : Value) (k1 : SRow w s1 l) (k2 : SRow w s2 m) :
  Calls Tryz.prog 72 #[AVv o1 i1 r1 c1 l1 s1 h1 b1, AVv o2 i2 r2 c2 l2 s2 h2 b2] w fun e w' => e = .returned (.int .i64 (sufsC l m)) ∧ Below w.heap.size w w' := by
 unfold AVv
 have hl1 : l.length ≤ 1000000 := by obtain ⟨_, _, _, h, _⟩ := k1; exact h
 have hl2 : m.length ≤ 1000000 := by obtain ⟨_, _, _, h, _⟩ := k2; exact h
 obtain ⟨p1, q1, e1⟩ := k1.len
 obtain ⟨p2, q2, e2⟩ := k2.len
 subst e1
 subst e2
 have HB := za.mk (Below.refl w.heap.size w)
 obtain ⟨W2, hW2⟩ : ∃ W2, W2 = ((w.alloc (.cells #[.string o1, .bool i1, .string r1, c1, .string l1, .slice p1 l.length q1, .string h1, b1] 71)).alloc (.cells #[.string o2, .bool i2, .string r2, c2, .string l2, .slice p2 m.length q2, .string h2, b2] 71)) := ⟨_, rfl⟩
 have HW2 := za.mk hW2
 have hb2 : Below w.heap.size w W2 := by rw [hW2]; exact zj (zj HB.out _) _
 have HB2 := za.mk hb2
 have ga : W2.heap[w.heap.size]? = some (.cells #[.string o1, .bool i1, .string r1, c1, .string l1, .slice p1 l.length q1, .string h1, b1] 71 (0, 0)) := by rw [hW2]; exact zvb (zvc w _) _
 have gb : W2.heap[w.heap.size + 1]? = some (.cells #[.string o2, .bool i2, .string r2, c2, .string l2, .slice p2 m.length q2, .string h2, b2] 71 (0, 0)) := by
  rw [hW2, ← zsb w (.cells #[.string o1, .bool i1, .string r1, c1, .string l1, .slice p1 l.length q1, .string h1, b1] 71)]; exact alloc_at _ _
 have GA := za.mk ga
 have GB := za.mk gb
 have K1 := za.mk (k1.below hb2)
 have K2 := za.mk (k2.below hb2)
 obtain ⟨n, hn⟩ : ∃ n, n = max l.length m.length := ⟨_, rfl⟩
 have HN := za.mk hn
 have M1 : (max (l.length : Int) (m.length : Int)) = (n : Int) := by omega
 have HL := za.mk (show n ≤ 1000000 by omega)
 have H0 : za (sufsC l m = fromC (sufD l m) (n - 0) 0) := ⟨by rw [hn]; rfl⟩
 obtain ⟨r, hr⟩ : ∃ r, r = sufsC l m := ⟨_, rfl⟩
 rw [← hr] at H0 ⊢
 clear hW2 hb2 ga gb k1 k2 hn hl1 hl2 hr
 have F1 : za (∀ (W : World) (k : Nat), Below W2.heap.size W2 W → k ≤ 1000000 → Calls Tryz.prog 88 #[.agg #[.string o1, .bool i1, .string r1, c1, .string l1, .slice p1 l.length q1, .string h1, b1], .int .i64 (k : Int)] W fun e w' => ∃ a, e = .returned (SFv (sxW l k) a) ∧ BigAt w' a (sxN l k) ∧ Below W.heap.size W w') :=
  ⟨fun W k hb hk => zgj W k l o1 r1 l1 h1 i1 c1 _ b1 (K1.out.below hb) hk⟩
 have F2 : za (∀ (W : World) (k : Nat), Below W2.heap.size W2 W → k ≤ 1000000 → Calls Tryz.prog 88 #[.agg #[.string o2, .bool i2, .string r2, c2, .string l2, .slice p2 m.length q2, .string h2, b2], .int .i64 (k : Int)] W fun e w' => ∃ a, e = .returned (SFv (sxW m k) a) ∧ BigAt w' a (sxN m k) ∧ Below W.heap.size W w') :=
  ⟨fun W k hb hk => zgj W k m o2 r2 l2 h2 i2 c2 _ b2 (K2.out.below hb) hk⟩
 go_enter Tryz.func72, Tryz.ntmps72
 go_wp2
 go_loopw [16] (fun i wr => ∃ k : Nat, k ≤ n ∧ i = .int .i64 k ∧ za (r = fromC (sufD l m) (n - k) k) ∧ za (Below W2.heap.size W2 wr)) (fun i _ => n - (intOf i).toNat)
 case atStart => exact ⟨0, Nat.zero_le _, rfl, H0, by rw [← HW2.out]; exact ⟨Below.refl _ _⟩⟩
 case round =>
  obtain ⟨k, hk, rfl, hp, HWR⟩ := hrel
  by_cases hlt : k < n
  ·obtain ⟨d, hd⟩ : ∃ d, d = sufD l m k := ⟨_, rfl⟩
   have HD : za (sufC (sxW l k) (sxN l k) (sxW m k) (sxN m k) = d) := ⟨hd.symm⟩
   have HK := za.mk (show k ≤ 1000000 by have := HL.out; omega)
   have LT := za.mk hlt
   have ga := zc GA.out HWR.out
   have gb := zc GB.out HWR.out
   have i3 : decide ((k : Int) < (n : Int)) = true := decide_eq_true (by omega)
   have i4 : ((k : Int) < (n : Int)) = True := eq_true (by omega)
   have hst : r = if d = 0 then fromC (sufD l m) (n - (k + 1)) (k + 1) else d := by
    rw [hp.out, show n - k = (n - (k + 1)) + 1 by omega]
    simp only [fromC, ← hd]
   have NS : za (k + 1 ≤ n) := ⟨by omega⟩
   have WR : wrap64 ((k : Int) + 1) = ((k + 1 : Nat) : Int) := by have := HL.out; unfold wrap64; omega
   clear hd hlt hk
   have HWD := za.mk (zab HWR.out)
   have ga := zc GA.out HWD.out
   have gb := zc GB.out HWD.out
   have x1 := fun j : Nat => zb ga j
   have y1 := fun j : Nat => zb gb j
   by_cases h0 : d = 0
   ·rw [if_pos h0] at hst
    have HS := za.mk hst
    subst h0
    clear hst
    go_upto_region 5 with (fail)
    go_region_with (first | (go_at_call 88; (with_reducible refine (F1.out wr.drew k HWD.out HK.out).mono ?_); rintro e' w1 ⟨a1, rfl, g1, bb1⟩; have BG1 := za.mk g1; have BB1 := za.mk (zfb HWD.out HWD.out.size bb1); have y2 := fun j : Nat => zb (zc gb bb1) j; clear g1 bb1) | (go_at_call 88; (with_reducible refine (F1.out w2 k BB2.out HK.out).mono ?_); rintro e' w1 ⟨a1, rfl, g1, bb1⟩; have BG1 := za.mk g1; have BG2' := za.mk (BG2.out.below bb1); have BB1 := za.mk (zfb BB2.out BB2.out.size bb1); clear g1 bb1) | (go_at_call 88; (with_reducible refine (F2.out w1 k BB1.out HK.out).mono ?_); rintro e' w2 ⟨a2, rfl, g2, bb2⟩; have BG2 := za.mk g2; have BG1' := za.mk (BG1.out.below bb2); have BB2 := za.mk (zfb BB1.out BB1.out.size bb2); clear g2 bb2) | (go_at_call 88; (with_reducible refine (F2.out wr.drew k HWD.out HK.out).mono ?_); rintro e' w2 ⟨a2, rfl, g2, bb2⟩; have BG2 := za.mk g2; have BB2 := za.mk (zfb HWD.out HWD.out.size bb2); have x2 := fun j : Nat => zb (zc ga bb2) j; clear g2 bb2) | (go_at_call 89; (with_reducible refine (sufCmp_ w2 _ _ a1 a2 _ _ BG1'.out BG2.out).mono ?_); rintro e' w3 ⟨he, bb3⟩; rw [HD.out] at he; subst he; have BB3 := za.mk (zfb BB2.out BB2.out.size bb3); clear bb3) | (go_at_call 89; (with_reducible refine (sufCmp_ w1 _ _ a1 a2 _ _ BG1.out BG2'.out).mono ?_); rintro e' w3 ⟨he, bb3⟩; rw [HD.out] at he; subst he; have BB3 := za.mk (zfb BB1.out BB1.out.size bb3); clear bb3))
    all_goals (try go_wp2)
    all_goals go_roundw
    all_goals first | exact ⟨k + 1, NS.out, by first | rfl | go_num, HS, BB3⟩ | exact zge n k LT.out | exact meas_up1 n k LT.out | exact zre n k LT.out WR
   ·rw [if_neg h0] at hst
    have HS := za.mk hst
    have z1 : (d != 0) = true := by simpa using h0
    have z2 : (d == 0) = false := by simpa using h0
    clear hst h0
    go_upto_region 5 with (fail)
    go_region_with (first | (go_at_call 88; (with_reducible refine (F1.out wr.drew k HWD.out HK.out).mono ?_); rintro e' w1 ⟨a1, rfl, g1, bb1⟩; have BG1 := za.mk g1; have BB1 := za.mk (zfb HWD.out HWD.out.size bb1); have y2 := fun j : Nat => zb (zc gb bb1) j; clear g1 bb1) | (go_at_call 88; (with_reducible refine (F1.out w2 k BB2.out HK.out).mono ?_); rintro e' w1 ⟨a1, rfl, g1, bb1⟩; have BG1 := za.mk g1; have BG2' := za.mk (BG2.out.below bb1); have BB1 := za.mk (zfb BB2.out BB2.out.size bb1); clear g1 bb1) | (go_at_call 88; (with_reducible refine (F2.out w1 k BB1.out HK.out).mono ?_); rintro e' w2 ⟨a2, rfl, g2, bb2⟩; have BG2 := za.mk g2; have BG1' := za.mk (BG1.out.below bb2); have BB2 := za.mk (zfb BB1.out BB1.out.size bb2); clear g2 bb2) | (go_at_call 88; (with_reducible refine (F2.out wr.drew k HWD.out HK.out).mono ?_); rintro e' w2 ⟨a2, rfl, g2, bb2⟩; have BG2 := za.mk g2; have BB2 := za.mk (zfb HWD.out HWD.out.size bb2); have x2 := fun j : Nat => zb (zc ga bb2) j; clear g2 bb2) | (go_at_call 89; (with_reducible refine (sufCmp_ w2 _ _ a1 a2 _ _ BG1'.out BG2.out).mono ?_); rintro e' w3 ⟨he, bb3⟩; rw [HD.out] at he; subst he; have BB3 := za.mk (zfb BB2.out BB2.out.size bb3); clear bb3) | (go_at_call 89; (with_reducible refine (sufCmp_ w1 _ _ a1 a2 _ _ BG1.out BG2'.out).mono ?_); rintro e' w3 ⟨he, bb3⟩; rw [HD.out] at he; subst he; have BB3 := za.mk (zfb BB1.out BB1.out.size bb3); clear bb3))
    all_goals (try go_wp2)
    all_goals (go_ret; exact ⟨by rw [HS.out]; rfl, zfb HB2.out HB2.out.size BB3.out⟩)
  ·obtain rfl : k = n := by omega
   have i3 : decide ((k : Int) < (k : Int)) = false := decide_eq_false (by omega)
   have i4 : ((k : Int) < (k : Int)) = False := eq_false (by omega)
   have HS : za (r = 0) := ⟨by rw [hp.out, Nat.sub_self]; rfl⟩
   clear hlt hk
   go_wp2
   go_ret
   exact ⟨by rw [HS.out]; rfl, zfb HB2.out HB2.out.size HWR.out⟩
end Go.Proofs.YtapaijpglfmfgaaGreatDoorG
end
section
namespace Go.Proofs.YtapaijpglfmfgaaGreatDoorG
open Go.RowKit YtapaijpglfmfgaaGreatDoorH YtapaijpglfmfgaaGreatDoorW.PrintWords YtapaijpglfmfgaaGreatDoorW.PrintLast
def zkb (a b : Int) : Int := if a = 0 then b else a
structure AV where
 o : ByteArray
 i : Bool
 r : ByteArray
 c : List Nm
 l : ByteArray
 s : List Sx
 h : ByteArray
 b : Nat
def AVAt (w : World) (v : Value) (x : AV) : Prop := ∃ cv sv a, v = AVv x.o x.i x.r cv x.l sv x.h (.pointer (some ⟨a, 0, none⟩)) ∧ CRow w cv x.c ∧ SRow w sv x.s ∧ BigAt w a x.b
theorem AVAt.below {w w' : World} {v : Value} {x : AV} (h : AVAt w v x) (hb : Below w.heap.size w w') : AVAt w' v x := by
 obtain ⟨cv, sv, a, e, h1, h2, h3⟩ := h
 exact ⟨cv, sv, a, e, h1.below hb, h2.below hb, h3.below hb⟩
def avC (x y : AV) : Int := if x.i = true ∧ y.i = true then ztf x.o y.o else
 zkb (zee x.c y.c) (zkb (zpc x.l y.l) (zkb (sufsC x.s y.s) (zkb (cmpN x.b y.b) (zkb (zod x.r y.r) 0))))
theorem compare_fx (w : World) (l m : List Nm) (sl sm : List Sx) (o1 o2 r1 r2 l1 l2 h1 h2 : ByteArray) (i2 : Bool) (c1 c2 s1 s2 : Value) (a1 a2 n1 n2 : Nat) (kc1 : CRow w c1 l) (kc2 : CRow w c2 m) (ks1 : SRow w s1 sl) (ks2 : SRow w s2 sm) (kb1 : BigAt w a1 n1) (kb2 : BigAt w a2 n2) :
  Calls Tryz.prog 53 #[.agg #[.string o1, .bool false, .string r1, c1, .string l1, s1, .string h1, .pointer (some ⟨a1, 0, none⟩)], .agg #[.string o2, .bool i2, .string r2, c2, .string l2, s2, .string h2, .pointer (some ⟨a2, 0, none⟩)]] w fun e w' => e = .returned (.int .i64 (zkb (zee l m) (zkb (zpc l1 l2) (zkb (sufsC sl sm) (zkb (cmpN n1 n2) (zkb (zod r1 r2) 0)))))) ∧ Below w.heap.size w w' := by
 have HB := za.mk (Below.refl w.heap.size w)
 obtain ⟨W2, hW2⟩ : ∃ W2, W2 = ((w.alloc (.cells #[.string o1, .bool false, .string r1, c1, .string l1, s1, .string h1, .pointer (some ⟨a1, 0, none⟩)] 71)).alloc (.cells #[.string o2, .bool i2, .string r2, c2, .string l2, s2, .string h2, .pointer (some ⟨a2, 0, none⟩)] 71)) := ⟨_, rfl⟩
 have HW2 := za.mk hW2
 have hb2 : Below w.heap.size w W2 := by rw [hW2]; exact zj (zj HB.out _) _
 have HB2 := za.mk hb2
 have ga : W2.heap[w.heap.size]? = some (.cells #[.string o1, .bool false, .string r1, c1, .string l1, s1, .string h1, .pointer (some ⟨a1, 0, none⟩)] 71 (0, 0)) := by rw [hW2]; exact zvb (zvc w _) _
 have gb : W2.heap[w.heap.size + 1]? = some (.cells #[.string o2, .bool i2, .string r2, c2, .string l2, s2, .string h2, .pointer (some ⟨a2, 0, none⟩)] 71 (0, 0)) := by
  rw [hW2, ← zsb w (.cells #[.string o1, .bool false, .string r1, c1, .string l1, s1, .string h1, .pointer (some ⟨a1, 0, none⟩)] 71)]; exact alloc_at _ _
 have GA := za.mk ga
 have GB := za.mk gb
 have KC1 := za.mk (kc1.below hb2)
 have KC2 := za.mk (kc2.below hb2)
 have KS1 := za.mk (ks1.below hb2)
 have KS2 := za.mk (ks2.below hb2)
 have KB1 := za.mk (kb1.below hb2)
 have KB2 := za.mk (kb2.below hb2)
 have BB0 : za (Below W2.heap.size W2 ((w.alloc (.cells #[.string o1, .bool false, .string r1, c1, .string l1, s1, .string h1, .pointer (some ⟨a1, 0, none⟩)] 71)).alloc (.cells #[.string o2, .bool i2, .string r2, c2, .string l2, s2, .string h2, .pointer (some ⟨a2, 0, none⟩)] 71))) := ⟨by rw [← hW2]; exact Below.refl _ _⟩
 clear hb2 kc1 kc2 ks1 ks2 kb1 kb2
 obtain ⟨r, hr⟩ : ∃ r, r = zkb (zee l m) (zkb (zpc l1 l2) (zkb (sufsC sl sm) (zkb (cmpN n1 n2) (zkb (zod r1 r2) 0)))) := ⟨_, rfl⟩
 rw [← hr]
 have C1 : za (∀ W : World, Below W2.heap.size W2 W → Calls Tryz.prog 70 #[.agg #[.string o1, .bool false, .string r1, c1, .string l1, s1, .string h1, .pointer (some ⟨a1, 0, none⟩)], .agg #[.string o2, .bool i2, .string r2, c2, .string l2, s2, .string h2, .pointer (some ⟨a2, 0, none⟩)]] W fun e w' => e = .returned (.int .i64 (zee l m)) ∧ Below W2.heap.size W2 w') :=
  ⟨fun W hb => (zeg W l m o1 o2 r1 r2 l1 l2 h1 h2 false i2 c1 c2 s1 s2 _ _ (KC1.out.below hb) (KC2.out.below hb)).mono (by rintro e w' ⟨rfl, h⟩; exact ⟨rfl, zfb hb hb.size h⟩)⟩
 obtain ⟨d1, hd1⟩ : ∃ d, d = zee l m := ⟨_, rfl⟩
 rw [← hd1] at C1 hr
 clear hd1
 have C2 : za (∀ W : World, Below W2.heap.size W2 W → Calls Tryz.prog 71 #[.agg #[.string o1, .bool false, .string r1, c1, .string l1, s1, .string h1, .pointer (some ⟨a1, 0, none⟩)], .agg #[.string o2, .bool i2, .string r2, c2, .string l2, s2, .string h2, .pointer (some ⟨a2, 0, none⟩)]] W fun e w' => e = .returned (.int .i64 (zpc l1 l2)) ∧ Below W2.heap.size W2 w') :=
  ⟨fun W hb => (zdh W o1 o2 r1 r2 l1 l2 h1 h2 false i2 c1 c2 s1 s2 _ _).mono (by rintro e w' ⟨rfl, h⟩; exact ⟨rfl, zfb hb hb.size h⟩)⟩
 obtain ⟨d2, hd2⟩ : ∃ d, d = zpc l1 l2 := ⟨_, rfl⟩
 rw [← hd2] at C2 hr
 clear hd2
 have C3 : za (∀ W : World, Below W2.heap.size W2 W → Calls Tryz.prog 72 #[.agg #[.string o1, .bool false, .string r1, c1, .string l1, s1, .string h1, .pointer (some ⟨a1, 0, none⟩)], .agg #[.string o2, .bool i2, .string r2, c2, .string l2, s2, .string h2, .pointer (some ⟨a2, 0, none⟩)]] W fun e w' => e = .returned (.int .i64 (sufsC sl sm)) ∧ Below W2.heap.size W2 w') :=
  ⟨fun W hb => (zzg W sl sm o1 o2 r1 r2 l1 l2 h1 h2 false i2 c1 c2 s1 s2 _ _ (KS1.out.below hb) (KS2.out.below hb)).mono (by rintro e w' ⟨rfl, h⟩; exact ⟨rfl, zfb hb hb.size h⟩)⟩
 obtain ⟨d3, hd3⟩ : ∃ d, d = sufsC sl sm := ⟨_, rfl⟩
 rw [← hd3] at C3 hr
 clear hd3
 have C4 : za (∀ W : World, Below W2.heap.size W2 W → Calls Tryz.prog 73 #[.agg #[.string o1, .bool false, .string r1, c1, .string l1, s1, .string h1, .pointer (some ⟨a1, 0, none⟩)], .agg #[.string o2, .bool i2, .string r2, c2, .string l2, s2, .string h2, .pointer (some ⟨a2, 0, none⟩)]] W fun e w' => e = .returned (.int .i64 (cmpN n1 n2)) ∧ Below W2.heap.size W2 w') :=
  ⟨fun W hb => (zmi W o1 o2 r1 r2 l1 l2 h1 h2 false i2 c1 c2 s1 s2 a1 a2 n1 n2 (KB1.out.below hb) (KB2.out.below hb)).mono (by rintro e w' ⟨rfl, h⟩; exact ⟨rfl, zfb hb hb.size h⟩)⟩
 obtain ⟨d4, hd4⟩ : ∃ d, d = cmpN n1 n2 := ⟨_, rfl⟩
 rw [← hd4] at C4 hr
 clear hd4
 have C5 : za (∀ W : World, Below W2.heap.size W2 W → Calls Tryz.prog 74 #[.agg #[.string o1, .bool false, .string r1, c1, .string l1, s1, .string h1, .pointer (some ⟨a1, 0, none⟩)], .agg #[.string o2, .bool i2, .string r2, c2, .string l2, s2, .string h2, .pointer (some ⟨a2, 0, none⟩)]] W fun e w' => e = .returned (.int .i64 (zod r1 r2)) ∧ Below W2.heap.size W2 w') :=
  ⟨fun W hb => (zog W o1 o2 r1 r2 l1 l2 h1 h2 false i2 c1 c2 s1 s2 _ _).mono (by rintro e w' ⟨rfl, h⟩; exact ⟨rfl, zfb hb hb.size h⟩)⟩
 obtain ⟨d5, hd5⟩ : ∃ d, d = zod r1 r2 := ⟨_, rfl⟩
 rw [← hd5] at C5 hr
 clear hd5
 have ga0 := GA.out
 have gb0 := GB.out
 have x0 := fun j : Nat => zb ga0 j
 have y0 := fun j : Nat => zb gb0 j
 rw [hW2] at x0 y0
 clear ga0 gb0 ga gb hW2
 by_cases e1 : d1 ≠ 0
 ·have HS : za (r = d1) := ⟨by rw [hr]; simp only [zkb, if_true, if_neg e1]⟩
  have z1 : (d1 != 0) = true := by simpa using e1
  have zz1 : (d1 == 0) = false := by simpa using e1
  clear hr e1
  go_enter Tryz.func53, Tryz.ntmps53
  try rw [← HW2.out]
  go_wp2_with (first | (go_at_call 70; (with_reducible refine (C1.out _ (by first | exact BB0.out)).mono ?_); rintro e' w1 ⟨rfl, bb1⟩; have BB1 := za.mk bb1; have ga1 := zc GA.out bb1; have gb1 := zc GB.out bb1; have x1 := fun j : Nat => zb ga1 j; have y1 := fun j : Nat => zb gb1 j; clear bb1 ga1 gb1))
  go_ret
  exact ⟨by rw [HS.out]; rfl, zfb HB2.out HB2.out.size BB1.out⟩
 ·obtain rfl : d1 = 0 := by simpa using e1
  clear e1
  by_cases e2 : d2 ≠ 0
  ·have HS : za (r = d2) := ⟨by rw [hr]; simp only [zkb, if_true, if_neg e2]⟩
   have z2 : (d2 != 0) = true := by simpa using e2
   have zz2 : (d2 == 0) = false := by simpa using e2
   clear hr e2
   go_enter Tryz.func53, Tryz.ntmps53
   try rw [← HW2.out]
   go_wp2_with (first | (go_at_call 70; (with_reducible refine (C1.out _ (by first | exact BB0.out)).mono ?_); rintro e' w1 ⟨rfl, bb1⟩; have BB1 := za.mk bb1; have ga1 := zc GA.out bb1; have gb1 := zc GB.out bb1; have x1 := fun j : Nat => zb ga1 j; have y1 := fun j : Nat => zb gb1 j; clear bb1 ga1 gb1) | (go_at_call 71; (with_reducible refine (C2.out _ (by first | exact BB1.out | exact BB0.out)).mono ?_); rintro e' w2 ⟨rfl, bb2⟩; have BB2 := za.mk bb2; have ga2 := zc GA.out bb2; have gb2 := zc GB.out bb2; have x2 := fun j : Nat => zb ga2 j; have y2 := fun j : Nat => zb gb2 j; clear bb2 ga2 gb2))
   go_ret
   exact ⟨by rw [HS.out]; rfl, zfb HB2.out HB2.out.size BB2.out⟩
  ·obtain rfl : d2 = 0 := by simpa using e2
   clear e2
   by_cases e3 : d3 ≠ 0
   ·have HS : za (r = d3) := ⟨by rw [hr]; simp only [zkb, if_true, if_neg e3]⟩
    have z3 : (d3 != 0) = true := by simpa using e3
    have zz3 : (d3 == 0) = false := by simpa using e3
    clear hr e3
    go_enter Tryz.func53, Tryz.ntmps53
    try rw [← HW2.out]
    go_wp2_with (first | (go_at_call 70; (with_reducible refine (C1.out _ (by first | exact BB0.out)).mono ?_); rintro e' w1 ⟨rfl, bb1⟩; have BB1 := za.mk bb1; have ga1 := zc GA.out bb1; have gb1 := zc GB.out bb1; have x1 := fun j : Nat => zb ga1 j; have y1 := fun j : Nat => zb gb1 j; clear bb1 ga1 gb1) | (go_at_call 71; (with_reducible refine (C2.out _ (by first | exact BB1.out | exact BB0.out)).mono ?_); rintro e' w2 ⟨rfl, bb2⟩; have BB2 := za.mk bb2; have ga2 := zc GA.out bb2; have gb2 := zc GB.out bb2; have x2 := fun j : Nat => zb ga2 j; have y2 := fun j : Nat => zb gb2 j; clear bb2 ga2 gb2) | (go_at_call 72; (with_reducible refine (C3.out _ (by first | exact BB2.out | exact BB1.out | exact BB0.out)).mono ?_); rintro e' w3 ⟨rfl, bb3⟩; have BB3 := za.mk bb3; have ga3 := zc GA.out bb3; have gb3 := zc GB.out bb3; have x3 := fun j : Nat => zb ga3 j; have y3 := fun j : Nat => zb gb3 j; clear bb3 ga3 gb3))
    go_ret
    exact ⟨by rw [HS.out]; rfl, zfb HB2.out HB2.out.size BB3.out⟩
   ·obtain rfl : d3 = 0 := by simpa using e3
    clear e3
    by_cases e4 : d4 ≠ 0
    ·have HS : za (r = d4) := ⟨by rw [hr]; simp only [zkb, if_true, if_neg e4]⟩
     have z4 : (d4 != 0) = true := by simpa using e4
     have zz4 : (d4 == 0) = false := by simpa using e4
     clear hr e4
     go_enter Tryz.func53, Tryz.ntmps53
     try rw [← HW2.out]
     go_wp2_with (first | (go_at_call 70; (with_reducible refine (C1.out _ (by first | exact BB0.out)).mono ?_); rintro e' w1 ⟨rfl, bb1⟩; have BB1 := za.mk bb1; have ga1 := zc GA.out bb1; have gb1 := zc GB.out bb1; have x1 := fun j : Nat => zb ga1 j; have y1 := fun j : Nat => zb gb1 j; clear bb1 ga1 gb1) | (go_at_call 71; (with_reducible refine (C2.out _ (by first | exact BB1.out | exact BB0.out)).mono ?_); rintro e' w2 ⟨rfl, bb2⟩; have BB2 := za.mk bb2; have ga2 := zc GA.out bb2; have gb2 := zc GB.out bb2; have x2 := fun j : Nat => zb ga2 j; have y2 := fun j : Nat => zb gb2 j; clear bb2 ga2 gb2) | (go_at_call 72; (with_reducible refine (C3.out _ (by first | exact BB2.out | exact BB1.out | exact BB0.out)).mono ?_); rintro e' w3 ⟨rfl, bb3⟩; have BB3 := za.mk bb3; have ga3 := zc GA.out bb3; have gb3 := zc GB.out bb3; have x3 := fun j : Nat => zb ga3 j; have y3 := fun j : Nat => zb gb3 j; clear bb3 ga3 gb3) | (go_at_call 73; (with_reducible refine (C4.out _ (by first | exact BB3.out | exact BB2.out | exact BB1.out | exact BB0.out)).mono ?_); rintro e' w4 ⟨rfl, bb4⟩; have BB4 := za.mk bb4; have ga4 := zc GA.out bb4; have gb4 := zc GB.out bb4; have x4 := fun j : Nat => zb ga4 j; have y4 := fun j : Nat => zb gb4 j; clear bb4 ga4 gb4))
     go_ret
     exact ⟨by rw [HS.out]; rfl, zfb HB2.out HB2.out.size BB4.out⟩
    ·obtain rfl : d4 = 0 := by simpa using e4
     clear e4
     by_cases e5 : d5 ≠ 0
     ·have HS : za (r = d5) := ⟨by rw [hr]; simp only [zkb, if_true, if_neg e5]⟩
      have z5 : (d5 != 0) = true := by simpa using e5
      have zz5 : (d5 == 0) = false := by simpa using e5
      clear hr e5
      go_enter Tryz.func53, Tryz.ntmps53
      try rw [← HW2.out]
      go_wp2_with (first | (go_at_call 70; (with_reducible refine (C1.out _ (by first | exact BB0.out)).mono ?_); rintro e' w1 ⟨rfl, bb1⟩; have BB1 := za.mk bb1; have ga1 := zc GA.out bb1; have gb1 := zc GB.out bb1; have x1 := fun j : Nat => zb ga1 j; have y1 := fun j : Nat => zb gb1 j; clear bb1 ga1 gb1) | (go_at_call 71; (with_reducible refine (C2.out _ (by first | exact BB1.out | exact BB0.out)).mono ?_); rintro e' w2 ⟨rfl, bb2⟩; have BB2 := za.mk bb2; have ga2 := zc GA.out bb2; have gb2 := zc GB.out bb2; have x2 := fun j : Nat => zb ga2 j; have y2 := fun j : Nat => zb gb2 j; clear bb2 ga2 gb2) | (go_at_call 72; (with_reducible refine (C3.out _ (by first | exact BB2.out | exact BB1.out | exact BB0.out)).mono ?_); rintro e' w3 ⟨rfl, bb3⟩; have BB3 := za.mk bb3; have ga3 := zc GA.out bb3; have gb3 := zc GB.out bb3; have x3 := fun j : Nat => zb ga3 j; have y3 := fun j : Nat => zb gb3 j; clear bb3 ga3 gb3) | (go_at_call 73; (with_reducible refine (C4.out _ (by first | exact BB3.out | exact BB2.out | exact BB1.out | exact BB0.out)).mono ?_); rintro e' w4 ⟨rfl, bb4⟩; have BB4 := za.mk bb4; have ga4 := zc GA.out bb4; have gb4 := zc GB.out bb4; have x4 := fun j : Nat => zb ga4 j; have y4 := fun j : Nat => zb gb4 j; clear bb4 ga4 gb4) | (go_at_call 74; (with_reducible refine (C5.out _ (by first | exact BB4.out | exact BB3.out | exact BB2.out | exact BB1.out | exact BB0.out)).mono ?_); rintro e' w5 ⟨rfl, bb5⟩; have BB5 := za.mk bb5; have ga5 := zc GA.out bb5; have gb5 := zc GB.out bb5; have x5 := fun j : Nat => zb ga5 j; have y5 := fun j : Nat => zb gb5 j; clear bb5 ga5 gb5))
      go_ret
      exact ⟨by rw [HS.out]; rfl, zfb HB2.out HB2.out.size BB5.out⟩
     ·obtain rfl : d5 = 0 := by simpa using e5
      clear e5
      have HS : za (r = 0) := ⟨by rw [hr]; simp only [zkb, if_true]⟩
      clear hr
      go_enter Tryz.func53, Tryz.ntmps53
      try rw [← HW2.out]
      go_wp2_with (first | (go_at_call 70; (with_reducible refine (C1.out _ (by first | exact BB0.out)).mono ?_); rintro e' w1 ⟨rfl, bb1⟩; have BB1 := za.mk bb1; have ga1 := zc GA.out bb1; have gb1 := zc GB.out bb1; have x1 := fun j : Nat => zb ga1 j; have y1 := fun j : Nat => zb gb1 j; clear bb1 ga1 gb1) | (go_at_call 71; (with_reducible refine (C2.out _ (by first | exact BB1.out | exact BB0.out)).mono ?_); rintro e' w2 ⟨rfl, bb2⟩; have BB2 := za.mk bb2; have ga2 := zc GA.out bb2; have gb2 := zc GB.out bb2; have x2 := fun j : Nat => zb ga2 j; have y2 := fun j : Nat => zb gb2 j; clear bb2 ga2 gb2) | (go_at_call 72; (with_reducible refine (C3.out _ (by first | exact BB2.out | exact BB1.out | exact BB0.out)).mono ?_); rintro e' w3 ⟨rfl, bb3⟩; have BB3 := za.mk bb3; have ga3 := zc GA.out bb3; have gb3 := zc GB.out bb3; have x3 := fun j : Nat => zb ga3 j; have y3 := fun j : Nat => zb gb3 j; clear bb3 ga3 gb3) | (go_at_call 73; (with_reducible refine (C4.out _ (by first | exact BB3.out | exact BB2.out | exact BB1.out | exact BB0.out)).mono ?_); rintro e' w4 ⟨rfl, bb4⟩; have BB4 := za.mk bb4; have ga4 := zc GA.out bb4; have gb4 := zc GB.out bb4; have x4 := fun j : Nat => zb ga4 j; have y4 := fun j : Nat => zb gb4 j; clear bb4 ga4 gb4) | (go_at_call 74; (with_reducible refine (C5.out _ (by first | exact BB4.out | exact BB3.out | exact BB2.out | exact BB1.out | exact BB0.out)).mono ?_); rintro e' w5 ⟨rfl, bb5⟩; have BB5 := za.mk bb5; have ga5 := zc GA.out bb5; have gb5 := zc GB.out bb5; have x5 := fun j : Nat => zb ga5 j; have y5 := fun j : Nat => zb gb5 j; clear bb5 ga5 gb5))
      go_ret
      exact ⟨by rw [HS.out]; rfl, zfb HB2.out HB2.out.size BB5.out⟩
theorem compare_tf (w : World) (l m : List Nm) (sl sm : List Sx) (o1 o2 r1 r2 l1 l2 h1 h2 : ByteArray) (c1 c2 s1 s2 : Value) (a1 a2 n1 n2 : Nat) (kc1 : CRow w c1 l) (kc2 : CRow w c2 m) (ks1 : SRow w s1 sl) (ks2 : SRow w s2 sm) (kb1 : BigAt w a1 n1) (kb2 : BigAt w a2 n2) :
  Calls Tryz.prog 53 #[.agg #[.string o1, .bool true, .string r1, c1, .string l1, s1, .string h1, .pointer (some ⟨a1, 0, none⟩)], .agg #[.string o2, .bool false, .string r2, c2, .string l2, s2, .string h2, .pointer (some ⟨a2, 0, none⟩)]] w fun e w' => e = .returned (.int .i64 (zkb (zee l m) (zkb (zpc l1 l2) (zkb (sufsC sl sm) (zkb (cmpN n1 n2) (zkb (zod r1 r2) 0)))))) ∧ Below w.heap.size w w' := by
 have HB := za.mk (Below.refl w.heap.size w)
 obtain ⟨W2, hW2⟩ : ∃ W2, W2 = ((w.alloc (.cells #[.string o1, .bool true, .string r1, c1, .string l1, s1, .string h1, .pointer (some ⟨a1, 0, none⟩)] 71)).alloc (.cells #[.string o2, .bool false, .string r2, c2, .string l2, s2, .string h2, .pointer (some ⟨a2, 0, none⟩)] 71)) := ⟨_, rfl⟩
 have HW2 := za.mk hW2
 have hb2 : Below w.heap.size w W2 := by rw [hW2]; exact zj (zj HB.out _) _
 have HB2 := za.mk hb2
 have ga : W2.heap[w.heap.size]? = some (.cells #[.string o1, .bool true, .string r1, c1, .string l1, s1, .string h1, .pointer (some ⟨a1, 0, none⟩)] 71 (0, 0)) := by rw [hW2]; exact zvb (zvc w _) _
 have gb : W2.heap[w.heap.size + 1]? = some (.cells #[.string o2, .bool false, .string r2, c2, .string l2, s2, .string h2, .pointer (some ⟨a2, 0, none⟩)] 71 (0, 0)) := by
  rw [hW2, ← zsb w (.cells #[.string o1, .bool true, .string r1, c1, .string l1, s1, .string h1, .pointer (some ⟨a1, 0, none⟩)] 71)]; exact alloc_at _ _
 have GA := za.mk ga
 have GB := za.mk gb
 have KC1 := za.mk (kc1.below hb2)
 have KC2 := za.mk (kc2.below hb2)
 have KS1 := za.mk (ks1.below hb2)
 have KS2 := za.mk (ks2.below hb2)
 have KB1 := za.mk (kb1.below hb2)
 have KB2 := za.mk (kb2.below hb2)
 have BB0 : za (Below W2.heap.size W2 ((w.alloc (.cells #[.string o1, .bool true, .string r1, c1, .string l1, s1, .string h1, .pointer (some ⟨a1, 0, none⟩)] 71)).alloc (.cells #[.string o2, .bool false, .string r2, c2, .string l2, s2, .string h2, .pointer (some ⟨a2, 0, none⟩)] 71))) := ⟨by rw [← hW2]; exact Below.refl _ _⟩
 clear hb2 kc1 kc2 ks1 ks2 kb1 kb2
 obtain ⟨r, hr⟩ : ∃ r, r = zkb (zee l m) (zkb (zpc l1 l2) (zkb (sufsC sl sm) (zkb (cmpN n1 n2) (zkb (zod r1 r2) 0)))) := ⟨_, rfl⟩
 rw [← hr]
 have C1 : za (∀ W : World, Below W2.heap.size W2 W → Calls Tryz.prog 70 #[.agg #[.string o1, .bool true, .string r1, c1, .string l1, s1, .string h1, .pointer (some ⟨a1, 0, none⟩)], .agg #[.string o2, .bool false, .string r2, c2, .string l2, s2, .string h2, .pointer (some ⟨a2, 0, none⟩)]] W fun e w' => e = .returned (.int .i64 (zee l m)) ∧ Below W2.heap.size W2 w') :=
  ⟨fun W hb => (zeg W l m o1 o2 r1 r2 l1 l2 h1 h2 true false c1 c2 s1 s2 _ _ (KC1.out.below hb) (KC2.out.below hb)).mono (by rintro e w' ⟨rfl, h⟩; exact ⟨rfl, zfb hb hb.size h⟩)⟩
 obtain ⟨d1, hd1⟩ : ∃ d, d = zee l m := ⟨_, rfl⟩
 rw [← hd1] at C1 hr
 clear hd1
 have C2 : za (∀ W : World, Below W2.heap.size W2 W → Calls Tryz.prog 71 #[.agg #[.string o1, .bool true, .string r1, c1, .string l1, s1, .string h1, .pointer (some ⟨a1, 0, none⟩)], .agg #[.string o2, .bool false, .string r2, c2, .string l2, s2, .string h2, .pointer (some ⟨a2, 0, none⟩)]] W fun e w' => e = .returned (.int .i64 (zpc l1 l2)) ∧ Below W2.heap.size W2 w') :=
  ⟨fun W hb => (zdh W o1 o2 r1 r2 l1 l2 h1 h2 true false c1 c2 s1 s2 _ _).mono (by rintro e w' ⟨rfl, h⟩; exact ⟨rfl, zfb hb hb.size h⟩)⟩
 obtain ⟨d2, hd2⟩ : ∃ d, d = zpc l1 l2 := ⟨_, rfl⟩
 rw [← hd2] at C2 hr
 clear hd2
 have C3 : za (∀ W : World, Below W2.heap.size W2 W → Calls Tryz.prog 72 #[.agg #[.string o1, .bool true, .string r1, c1, .string l1, s1, .string h1, .pointer (some ⟨a1, 0, none⟩)], .agg #[.string o2, .bool false, .string r2, c2, .string l2, s2, .string h2, .pointer (some ⟨a2, 0, none⟩)]] W fun e w' => e = .returned (.int .i64 (sufsC sl sm)) ∧ Below W2.heap.size W2 w') :=
  ⟨fun W hb => (zzg W sl sm o1 o2 r1 r2 l1 l2 h1 h2 true false c1 c2 s1 s2 _ _ (KS1.out.below hb) (KS2.out.below hb)).mono (by rintro e w' ⟨rfl, h⟩; exact ⟨rfl, zfb hb hb.size h⟩)⟩
 obtain ⟨d3, hd3⟩ : ∃ d, d = sufsC sl sm := ⟨_, rfl⟩
 rw [← hd3] at C3 hr
 clear hd3
 have C4 : za (∀ W : World, Below W2.heap.size W2 W → Calls Tryz.prog 73 #[.agg #[.string o1, .bool true, .string r1, c1, .string l1, s1, .string h1, .pointer (some ⟨a1, 0, none⟩)], .agg #[.string o2, .bool false, .string r2, c2, .string l2, s2, .string h2, .pointer (some ⟨a2, 0, none⟩)]] W fun e w' => e = .returned (.int .i64 (cmpN n1 n2)) ∧ Below W2.heap.size W2 w') :=
  ⟨fun W hb => (zmi W o1 o2 r1 r2 l1 l2 h1 h2 true false c1 c2 s1 s2 a1 a2 n1 n2 (KB1.out.below hb) (KB2.out.below hb)).mono (by rintro e w' ⟨rfl, h⟩; exact ⟨rfl, zfb hb hb.size h⟩)⟩
 obtain ⟨d4, hd4⟩ : ∃ d, d = cmpN n1 n2 := ⟨_, rfl⟩
 rw [← hd4] at C4 hr
 clear hd4
 have C5 : za (∀ W : World, Below W2.heap.size W2 W → Calls Tryz.prog 74 #[.agg #[.string o1, .bool true, .string r1, c1, .string l1, s1, .string h1, .pointer (some ⟨a1, 0, none⟩)], .agg #[.string o2, .bool false, .string r2, c2, .string l2, s2, .string h2, .pointer (some ⟨a2, 0, none⟩)]] W fun e w' => e = .returned (.int .i64 (zod r1 r2)) ∧ Below W2.heap.size W2 w') :=
  ⟨fun W hb => (zog W o1 o2 r1 r2 l1 l2 h1 h2 true false c1 c2 s1 s2 _ _).mono (by rintro e w' ⟨rfl, h⟩; exact ⟨rfl, zfb hb hb.size h⟩)⟩
 obtain ⟨d5, hd5⟩ : ∃ d, d = zod r1 r2 := ⟨_, rfl⟩
 rw [← hd5] at C5 hr
 clear hd5
 have ga0 := GA.out
 have gb0 := GB.out
 have x0 := fun j : Nat => zb ga0 j
 have y0 := fun j : Nat => zb gb0 j
 rw [hW2] at x0 y0
 clear ga0 gb0 ga gb hW2
 by_cases e1 : d1 ≠ 0
 ·have HS : za (r = d1) := ⟨by rw [hr]; simp only [zkb, if_true, if_neg e1]⟩
  have z1 : (d1 != 0) = true := by simpa using e1
  have zz1 : (d1 == 0) = false := by simpa using e1
  clear hr e1
  go_enter Tryz.func53, Tryz.ntmps53
  try rw [← HW2.out]
  go_wp2_with (first | (go_at_call 70; (with_reducible refine (C1.out _ (by first | exact BB0.out)).mono ?_); rintro e' w1 ⟨rfl, bb1⟩; have BB1 := za.mk bb1; have ga1 := zc GA.out bb1; have gb1 := zc GB.out bb1; have x1 := fun j : Nat => zb ga1 j; have y1 := fun j : Nat => zb gb1 j; clear bb1 ga1 gb1))
  go_ret
  exact ⟨by rw [HS.out]; rfl, zfb HB2.out HB2.out.size BB1.out⟩
 ·obtain rfl : d1 = 0 := by simpa using e1
  clear e1
  by_cases e2 : d2 ≠ 0
  ·have HS : za (r = d2) := ⟨by rw [hr]; simp only [zkb, if_true, if_neg e2]⟩
   have z2 : (d2 != 0) = true := by simpa using e2
   have zz2 : (d2 == 0) = false := by simpa using e2
   clear hr e2
   go_enter Tryz.func53, Tryz.ntmps53
   try rw [← HW2.out]
   go_wp2_with (first | (go_at_call 70; (with_reducible refine (C1.out _ (by first | exact BB0.out)).mono ?_); rintro e' w1 ⟨rfl, bb1⟩; have BB1 := za.mk bb1; have ga1 := zc GA.out bb1; have gb1 := zc GB.out bb1; have x1 := fun j : Nat => zb ga1 j; have y1 := fun j : Nat => zb gb1 j; clear bb1 ga1 gb1) | (go_at_call 71; (with_reducible refine (C2.out _ (by first | exact BB1.out | exact BB0.out)).mono ?_); rintro e' w2 ⟨rfl, bb2⟩; have BB2 := za.mk bb2; have ga2 := zc GA.out bb2; have gb2 := zc GB.out bb2; have x2 := fun j : Nat => zb ga2 j; have y2 := fun j : Nat => zb gb2 j; clear bb2 ga2 gb2))
   go_ret
   exact ⟨by rw [HS.out]; rfl, zfb HB2.out HB2.out.size BB2.out⟩
  ·obtain rfl : d2 = 0 := by simpa using e2
   clear e2
   by_cases e3 : d3 ≠ 0
   ·have HS : za (r = d3) := ⟨by rw [hr]; simp only [zkb, if_true, if_neg e3]⟩
    have z3 : (d3 != 0) = true := by simpa using e3
    have zz3 : (d3 == 0) = false := by simpa using e3
    clear hr e3
    go_enter Tryz.func53, Tryz.ntmps53
    try rw [← HW2.out]
    go_wp2_with (first | (go_at_call 70; (with_reducible refine (C1.out _ (by first | exact BB0.out)).mono ?_); rintro e' w1 ⟨rfl, bb1⟩; have BB1 := za.mk bb1; have ga1 := zc GA.out bb1; have gb1 := zc GB.out bb1; have x1 := fun j : Nat => zb ga1 j; have y1 := fun j : Nat => zb gb1 j; clear bb1 ga1 gb1) | (go_at_call 71; (with_reducible refine (C2.out _ (by first | exact BB1.out | exact BB0.out)).mono ?_); rintro e' w2 ⟨rfl, bb2⟩; have BB2 := za.mk bb2; have ga2 := zc GA.out bb2; have gb2 := zc GB.out bb2; have x2 := fun j : Nat => zb ga2 j; have y2 := fun j : Nat => zb gb2 j; clear bb2 ga2 gb2) | (go_at_call 72; (with_reducible refine (C3.out _ (by first | exact BB2.out | exact BB1.out | exact BB0.out)).mono ?_); rintro e' w3 ⟨rfl, bb3⟩; have BB3 := za.mk bb3; have ga3 := zc GA.out bb3; have gb3 := zc GB.out bb3; have x3 := fun j : Nat => zb ga3 j; have y3 := fun j : Nat => zb gb3 j; clear bb3 ga3 gb3))
    go_ret
    exact ⟨by rw [HS.out]; rfl, zfb HB2.out HB2.out.size BB3.out⟩
   ·obtain rfl : d3 = 0 := by simpa using e3
    clear e3
    by_cases e4 : d4 ≠ 0
    ·have HS : za (r = d4) := ⟨by rw [hr]; simp only [zkb, if_true, if_neg e4]⟩
     have z4 : (d4 != 0) = true := by simpa using e4
     have zz4 : (d4 == 0) = false := by simpa using e4
     clear hr e4
     go_enter Tryz.func53, Tryz.ntmps53
     try rw [← HW2.out]
     go_wp2_with (first | (go_at_call 70; (with_reducible refine (C1.out _ (by first | exact BB0.out)).mono ?_); rintro e' w1 ⟨rfl, bb1⟩; have BB1 := za.mk bb1; have ga1 := zc GA.out bb1; have gb1 := zc GB.out bb1; have x1 := fun j : Nat => zb ga1 j; have y1 := fun j : Nat => zb gb1 j; clear bb1 ga1 gb1) | (go_at_call 71; (with_reducible refine (C2.out _ (by first | exact BB1.out | exact BB0.out)).mono ?_); rintro e' w2 ⟨rfl, bb2⟩; have BB2 := za.mk bb2; have ga2 := zc GA.out bb2; have gb2 := zc GB.out bb2; have x2 := fun j : Nat => zb ga2 j; have y2 := fun j : Nat => zb gb2 j; clear bb2 ga2 gb2) | (go_at_call 72; (with_reducible refine (C3.out _ (by first | exact BB2.out | exact BB1.out | exact BB0.out)).mono ?_); rintro e' w3 ⟨rfl, bb3⟩; have BB3 := za.mk bb3; have ga3 := zc GA.out bb3; have gb3 := zc GB.out bb3; have x3 := fun j : Nat => zb ga3 j; have y3 := fun j : Nat => zb gb3 j; clear bb3 ga3 gb3) | (go_at_call 73; (with_reducible refine (C4.out _ (by first | exact BB3.out | exact BB2.out | exact BB1.out | exact BB0.out)).mono ?_); rintro e' w4 ⟨rfl, bb4⟩; have BB4 := za.mk bb4; have ga4 := zc GA.out bb4; have gb4 := zc GB.out bb4; have x4 := fun j : Nat => zb ga4 j; have y4 := fun j : Nat => zb gb4 j; clear bb4 ga4 gb4))
     go_ret
     exact ⟨by rw [HS.out]; rfl, zfb HB2.out HB2.out.size BB4.out⟩
    ·obtain rfl : d4 = 0 := by simpa using e4
     clear e4
     by_cases e5 : d5 ≠ 0
     ·have HS : za (r = d5) := ⟨by rw [hr]; simp only [zkb, if_true, if_neg e5]⟩
      have z5 : (d5 != 0) = true := by simpa using e5
      have zz5 : (d5 == 0) = false := by simpa using e5
      clear hr e5
      go_enter Tryz.func53, Tryz.ntmps53
      try rw [← HW2.out]
      go_wp2_with (first | (go_at_call 70; (with_reducible refine (C1.out _ (by first | exact BB0.out)).mono ?_); rintro e' w1 ⟨rfl, bb1⟩; have BB1 := za.mk bb1; have ga1 := zc GA.out bb1; have gb1 := zc GB.out bb1; have x1 := fun j : Nat => zb ga1 j; have y1 := fun j : Nat => zb gb1 j; clear bb1 ga1 gb1) | (go_at_call 71; (with_reducible refine (C2.out _ (by first | exact BB1.out | exact BB0.out)).mono ?_); rintro e' w2 ⟨rfl, bb2⟩; have BB2 := za.mk bb2; have ga2 := zc GA.out bb2; have gb2 := zc GB.out bb2; have x2 := fun j : Nat => zb ga2 j; have y2 := fun j : Nat => zb gb2 j; clear bb2 ga2 gb2) | (go_at_call 72; (with_reducible refine (C3.out _ (by first | exact BB2.out | exact BB1.out | exact BB0.out)).mono ?_); rintro e' w3 ⟨rfl, bb3⟩; have BB3 := za.mk bb3; have ga3 := zc GA.out bb3; have gb3 := zc GB.out bb3; have x3 := fun j : Nat => zb ga3 j; have y3 := fun j : Nat => zb gb3 j; clear bb3 ga3 gb3) | (go_at_call 73; (with_reducible refine (C4.out _ (by first | exact BB3.out | exact BB2.out | exact BB1.out | exact BB0.out)).mono ?_); rintro e' w4 ⟨rfl, bb4⟩; have BB4 := za.mk bb4; have ga4 := zc GA.out bb4; have gb4 := zc GB.out bb4; have x4 := fun j : Nat => zb ga4 j; have y4 := fun j : Nat => zb gb4 j; clear bb4 ga4 gb4) | (go_at_call 74; (with_reducible refine (C5.out _ (by first | exact BB4.out | exact BB3.out | exact BB2.out | exact BB1.out | exact BB0.out)).mono ?_); rintro e' w5 ⟨rfl, bb5⟩; have BB5 := za.mk bb5; have ga5 := zc GA.out bb5; have gb5 := zc GB.out bb5; have x5 := fun j : Nat => zb ga5 j; have y5 := fun j : Nat => zb gb5 j; clear bb5 ga5 gb5))
      go_ret
      exact ⟨by rw [HS.out]; rfl, zfb HB2.out HB2.out.size BB5.out⟩
     ·obtain rfl : d5 = 0 := by simpa using e5
      clear e5
      have HS : za (r = 0) := ⟨by rw [hr]; simp only [zkb, if_true]⟩
      clear hr
      go_enter Tryz.func53, Tryz.ntmps53
      try rw [← HW2.out]
      go_wp2_with (first | (go_at_call 70; (with_reducible refine (C1.out _ (by first | exact BB0.out)).mono ?_); rintro e' w1 ⟨rfl, bb1⟩; have BB1 := za.mk bb1; have ga1 := zc GA.out bb1; have gb1 := zc GB.out bb1; have x1 := fun j : Nat => zb ga1 j; have y1 := fun j : Nat => zb gb1 j; clear bb1 ga1 gb1) | (go_at_call 71; (with_reducible refine (C2.out _ (by first | exact BB1.out | exact BB0.out)).mono ?_); rintro e' w2 ⟨rfl, bb2⟩; have BB2 := za.mk bb2; have ga2 := zc GA.out bb2; have gb2 := zc GB.out bb2; have x2 := fun j : Nat => zb ga2 j; have y2 := fun j : Nat => zb gb2 j; clear bb2 ga2 gb2) | (go_at_call 72; (with_reducible refine (C3.out _ (by first | exact BB2.out | exact BB1.out | exact BB0.out)).mono ?_); rintro e' w3 ⟨rfl, bb3⟩; have BB3 := za.mk bb3; have ga3 := zc GA.out bb3; have gb3 := zc GB.out bb3; have x3 := fun j : Nat => zb ga3 j; have y3 := fun j : Nat => zb gb3 j; clear bb3 ga3 gb3) | (go_at_call 73; (with_reducible refine (C4.out _ (by first | exact BB3.out | exact BB2.out | exact BB1.out | exact BB0.out)).mono ?_); rintro e' w4 ⟨rfl, bb4⟩; have BB4 := za.mk bb4; have ga4 := zc GA.out bb4; have gb4 := zc GB.out bb4; have x4 := fun j : Nat => zb ga4 j; have y4 := fun j : Nat => zb gb4 j; clear bb4 ga4 gb4) | (go_at_call 74; (with_reducible refine (C5.out _ (by first | exact BB4.out | exact BB3.out | exact BB2.out | exact BB1.out | exact BB0.out)).mono ?_); rintro e' w5 ⟨rfl, bb5⟩; have BB5 := za.mk bb5; have ga5 := zc GA.out bb5; have gb5 := zc GB.out bb5; have x5 := fun j : Nat => zb ga5 j; have y5 := fun j : Nat => zb gb5 j; clear bb5 ga5 gb5))
      go_ret
      exact ⟨by rw [HS.out]; rfl, zfb HB2.out HB2.out.size BB5.out⟩
theorem compare_tt (w : World) (o1 o2 r1 r2 l1 l2 h1 h2 : ByteArray) (c1 c2 s1 s2 : Value) (a1 a2 : Nat) :
  Calls Tryz.prog 53 #[.agg #[.string o1, .bool true, .string r1, c1, .string l1, s1, .string h1, .pointer (some ⟨a1, 0, none⟩)], .agg #[.string o2, .bool true, .string r2, c2, .string l2, s2, .string h2, .pointer (some ⟨a2, 0, none⟩)]] w fun e w' => e = .returned (.int .i64 (ztf o1 o2)) ∧ Below w.heap.size w w' := by
 have HS := za.mk (fun W : World => zke.calls o1 o2 _ W rfl)
 have HB := za.mk (Below.refl w.heap.size w)
 obtain ⟨r, hr⟩ : ∃ r, r = ztf o1 o2 := ⟨_, rfl⟩
 have HR := za.mk hr
 rw [← hr]
 clear hr
 go_enter Tryz.func53, Tryz.ntmps53
 go_wp2_with (first | (go_at_call 69; (with_reducible refine (HS.out _).mono ?_); rintro e w' ⟨rfl, ⟨nd, rfl⟩⟩))
 go_ret
 exact ⟨by rw [HR.out]; rfl, by repeat (first | exact HB.out | apply zj | apply zd)⟩
theorem compare_ (w : World) (v1 v2 : Value) (x y : AV) (h1 : AVAt w v1 x) (h2 : AVAt w v2 y) :
  Calls Tryz.prog 53 #[v1, v2] w fun e w' => e = .returned (.int .i64 (avC x y)) ∧ Below w.heap.size w w' := by
 obtain ⟨o1, i1, r1, l, l1, sl, h1', b1⟩ := x
 obtain ⟨o2, i2, r2, m, l2, sm, h2', b2⟩ := y
 obtain ⟨c1, s1, a1, rfl, kc1, ks1, kb1⟩ := h1
 obtain ⟨c2, s2, a2, rfl, kc2, ks2, kb2⟩ := h2
 cases i1 with
 | false => exact compare_fx w l m sl sm o1 o2 r1 r2 l1 l2 _ _ i2 c1 c2 s1 s2 a1 a2 b1 b2 kc1 kc2 ks1 ks2 kb1 kb2
 | true => cases i2 with
  | false => exact compare_tf w l m sl sm o1 o2 r1 r2 l1 l2 _ _ c1 c2 s1 s2 a1 a2 b1 b2 kc1 kc2 ks1 ks2 kb1 kb2
  | true => exact compare_tt w o1 o2 r1 r2 l1 l2 _ _ c1 c2 s1 s2 a1 a2
end Go.Proofs.YtapaijpglfmfgaaGreatDoorG
end
section
namespace Go.Proofs.YtapaijpglfmfgaaGreatDoorW.PrintLast
open Go.Proofs.YtapaijpglfmfgaaGreatDoorW.PrintWords (za)
def needsOf (md : Region.Mode) (o : Oper) : List Nat := (o.after.toList.filter (fun e => Region.binds md e)).map (fun e => e.on)
def clashOf (md : Region.Mode) (ops : Array Oper) (i : Nat) (oi : Oper) : List Nat := (List.range ops.size).filter fun j => !(j == i) && match ops[j]? with
 | some oj => !(oj.after.any (fun e => Region.binds md e && e.on == i) || oi.apart ops oj)
 | none => false
def rtab (md : Region.Mode) (ops : Array Oper) : Bool × List (List Nat × List Nat) := (Region.noSelect ops, (List.range ops.size).map fun i => match ops[i]? with
 | some o => (needsOf md o, clashOf md ops i o)
 | none => ([], []))
def readyAt (T : List (List Nat × List Nat)) (l : List Bool) (i : Nat) : Bool := !l.getD i true && match T[i]? with
 | some r => r.1.all (fun j => l.getD j false)
 | none => false
def readyT (T : List (List Nat × List Nat)) (l : List Bool) : List Nat := (List.range T.length).filter (readyAt T l)
def freeT (T : List (List Nat × List Nat)) (l : List Bool) (i : Nat) : Bool := match T[i]? with
 | some r => r.2.all (fun j => l.getD j true)
 | none => false
section
variable {md : Region.Mode} {ops : Array Oper} {T : Bool × List (List Nat × List Nat)} {l l' li lj lk : Array Bool} {ds : List Nat} {i j k : Nat}
theorem gd (l : Array Bool) (j : Nat) (b : Bool) : l.getD j b = l.toList.getD j b := by simp [Array.getD_eq_getD_getElem?, List.getD_eq_getElem?_getD]
theorem needs_all (o : Oper) (p : Nat → Bool) : o.after.all (fun e => !Region.binds md e || p e.on) = (needsOf md o).all p := by
 unfold needsOf
 rw [← Array.all_toList]
 induction o.after.toList with
 | nil => rfl
 | cons e r ih =>
  rw [List.all_cons, ih, List.filter_cons]
  cases h : Region.binds md e <;> simp
theorem rtab_length : (rtab md ops).2.length = ops.size := by simp [rtab]
theorem rtab_some {o : Oper} (h : ops[i]? = some o) : (rtab md ops).2[i]? = some (needsOf md o, clashOf md ops i o) := by
 have hi := (Array.getElem?_eq_some_iff.1 h).1
 unfold rtab
 rw [List.getElem?_map, List.getElem?_range hi, Option.map_some, h]
theorem rtab_none (h : ops[i]? = none) : (rtab md ops).2[i]? = none := by
 have hi : ops.size ≤ i := Array.getElem?_eq_none_iff.1 h
 exact List.getElem?_eq_none (by rw [rtab_length]; exact hi)
theorem readyAt_eq : readyAt (rtab md ops).2 l.toList i = (!l.getD i true && ((ops[i]?).map (·.after.all fun e => !Region.binds md e || l.getD e.on false)).getD false) := by
  unfold readyAt
  rw [gd]
  cases h : ops[i]? with
  | none => rw [rtab_none h]; rfl
  | some o =>
    rw [rtab_some h]
    simp only [Option.map_some, Option.getD_some]
    rw [← needs_all]
    simp only [gd]
theorem ready_eq : Region.ready md ops l = readyT (rtab md ops).2 l.toList := by
 unfold Region.ready readyT
 rw [rtab_length]
 refine List.filter_congr (fun i _ => ?_)
 rw [readyAt_eq]
theorem free_eq : Region.free md ops l i = freeT (rtab md ops).2 l.toList i := by
 unfold Region.free freeT
 cases h : ops[i]? with
 | none => rw [rtab_none h]
 | some oi =>
  rw [rtab_some h]
  simp only [clashOf]
  rw [List.all_filter]
  congr 1
  funext j
  rw [gd]
  cases hj : ops[j]? with
  | none => cases (j == i) <;> cases (l.toList.getD j true) <;> simp
  | some oj =>
   cases (j == i) <;> cases (l.toList.getD j true) <;> cases (oj.after.any (fun e => Region.binds md e && e.on == i) || oi.apart ops oj) <;> simp_all
theorem readyAt_mem (h : readyAt T.2 l.toList i = true) (hT : rtab md ops = T) : (Region.ready md ops l).contains i = true := by
 subst hT
 rw [ready_eq]
 unfold readyT
 rw [List.contains_iff_mem, List.mem_filter, List.mem_range]
 refine ⟨?_, h⟩
 unfold readyAt at h
 rw [Bool.and_eq_true] at h
 cases hq : (rtab md ops).2[i]? with
 | none => rw [hq] at h; simp at h
 | some r => exact (List.getElem?_eq_some_iff.1 hq).1
theorem set_of (h : (l.toList.set i true == l'.toList) = true) : (l.setIfInBounds i true == l') = true := by
 rw [beq_iff_eq] at h ⊢
 apply Array.ext'
 rw [Array.toList_setIfInBounds]
 exact h
def anyT (T : Bool × List (List Nat × List Nat)) (l l' : List Bool) (i : Nat) : Bool := T.1 && freeT T.2 l i && readyAt T.2 l i && (l.set i true == l')
theorem zdc (hT : rtab md ops = T) (h : anyT T l.toList l'.toList i = true) : anyB md ops l l' i = true := by
 simp only [anyT, Bool.and_eq_true] at h
 obtain ⟨⟨⟨h1, h2⟩, h3⟩, h4⟩ := h
 have h5 := readyAt_mem h3 hT
 have h6 := set_of h4
 subst hT
 simp only [anyB, Bool.and_eq_true]
 exact ⟨⟨⟨h1, by rw [free_eq]; exact h2⟩, h5⟩, h6⟩
theorem zxe (hT : rtab md ops = T) (h : (readyT T.2 l.toList == [i] && l.toList.set i true == l'.toList) = true) : readyB md ops l l' i = true := by
 simp only [Bool.and_eq_true] at h
 obtain ⟨h1, h2⟩ := h
 subst hT
 simp only [readyB, Bool.and_eq_true]
 exact ⟨by rw [ready_eq]; exact h1, set_of h2⟩
theorem zdi (hT : rtab md ops = T) (h : (readyT T.2 l.toList == []) = true) : (Region.ready md ops l == []) = true := by
 subst hT
 rw [ready_eq]
 exact h
def upM (B : List Nat) (d : Nat) : List Nat → Nat
 | [] => 0
 | n :: r => (2 ^ n ||| (if n < d then B.getD n 0 else 0)) ||| upM B d r
def zfi (T : List (List Nat × List Nat)) (B : List Nat) : Bool := (List.range T.length).all fun d => match T[d]? with
 | some r => (B.getD d 0 ||| upM B d r.1) == upM B d r.1
 | none => false
theorem zxf {P : Program} {Q : Exit → Act → World → Prop} {S : World → Prop} {n : Nat} {a : Act} {w : World} {B : List Nat} (hT : rtab md ops = T) (hB : zfi T.2 B = true) (h : za (rtab md ops = T) → za (zfi T.2 B = true) → zhc P md ops Q S ds n l a w) : zhc P md ops Q S ds n l a w := h ⟨hT⟩ ⟨hB⟩
end
def opsIn : Code → Nat → Option (Array Oper)
 | .region id ops _, k => if id == k then some ops else none
 | .seq a b, k => match opsIn a k with
  | some o => some o
  | none => opsIn b k
 | .cond _ a b, k => match opsIn a k with
  | some o => some o
  | none => opsIn b k
 | .block _ c, k => opsIn c k
 | .loop c, k => opsIn c k
 | .scope c, k => opsIn c k
 | .rangeFunc _ _ a b, k => match opsIn a k with
  | some o => some o
  | none => opsIn b k
 | _, _ => none
def opsOf (f : Func) (k : Nat) : Array Oper := ((f.body.bind fun c => opsIn c k)).getD #[]
end Go.Proofs.YtapaijpglfmfgaaGreatDoorW.PrintLast
end
section
namespace Go.Proofs.YtapaijpglfmfgaaGreatDoorW.PrintWords
open Go.RowKit
namespace Kd
def tag {α : Type} (f : Nat → Nat) (d : Kd α) : Kd (α × Nat) where
 sz := d.sz
 E := d.E
 K := fun w x cs => d.K w x.1 cs
 M := fun w base ok x cs => d.M w base (fun k => ok k ∧ f k = x.2) x.1 cs
 K_len := fun h => d.K_len h
 K_one := fun h => d.K_one h
 K_below := fun hb h => d.K_below hb h
 K_of_M := fun h => d.K_of_M h
 M_mono := fun hok h => d.M_mono (fun k hk => ⟨hok k hk.1, hk.2⟩) h
 M_bound := fun h => d.M_mono (fun _ hk => ⟨⟨hk.1.1, hk.2⟩, hk.1.2⟩) (d.M_bound h)
 M_move := fun hm h => d.M_move (fun k hk => hm k hk.1) h
 M_lower := fun hb h => d.M_lower hb h
def raw (sz : Nat) : Kd (List Value) where
 sz := sz
 E := []
 K := fun _ x cs => cs = x ∧ cs.length = sz ∧ ∀ u ∈ cs, u.oneCell' = true
 M := fun _ _ _ x cs => cs = x ∧ cs.length = sz ∧ ∀ u ∈ cs, u.oneCell' = true
 K_len := fun h => h.2.1
 K_one := fun h => h.2.2
 K_below := fun _ h => h
 K_of_M := fun h => h
 M_mono := fun _ h => h
 M_bound := fun h => h
 M_move := fun _ h => h
 M_lower := fun _ h => h
def S {α : Type} (d : Kd α) (e : Nat) (w : World) (base : Nat) (ok : Nat → Prop) (v : Value) (xs : List α) : Prop := ∃ f, (tag f d).R e w base ok v xs.zipIdx
section
variable {α β : Type} {d : Kd α} {d' : Kd β} {e e' : Nat} {w w1 W : World} {base b : Nat} {ok ok' okv oku : Nat → Prop} {u v : Value} {xs : List α} {ys : List β}
theorem zip_at {xs : List α} {j : Nat} {p : α} (h : xs[j]? = some p) : xs.zipIdx[j]? = some (p, j) := by rw [List.getElem?_zipIdx, h, Nat.zero_add]; rfl
theorem S_R (h : S d e w base ok v xs) : d.R e w base ok v xs := by
 obtain ⟨f, h0, inner, ho, hr⟩ := h
 rw [List.length_zipIdx] at ho
 exact ⟨h0, inner, ho, by have := hr.1; rw [List.length_zipIdx] at this; exact this, fun j p hj => d.M_mono (fun _ hk => hk.1) (hr.2 j (p, j) (zip_at hj))⟩
theorem R_tight (hE : d.E = []) (h : d.R e w base ok v xs) : d.R e w base (fun k => some k = v.ownBlock) v xs := by
 obtain ⟨h0, inner, ho, hr⟩ := h
 refine ⟨fun k hk => hk.symm, inner, ho, hr.imp_ (fun p c hp => d.M_mono (fun k hk => ?_) (d.M_bound hp))⟩
 obtain ⟨_, _, _, q, hq, _⟩ := hk
 rw [hE] at hq
 cases hq
theorem S_nil (d : Kd α) (e : Nat) (w : World) (base : Nat) (ok : Nat → Prop) : S d e w base ok (.slice none 0 0) [] := ⟨fun _ => 0, R_nil _ _ _ _ _⟩
theorem S_mono (h : S d e w base ok v xs) (hok : ∀ k, ok k → ok' k) : S d e w base ok' v xs := by
 obtain ⟨f, h⟩ := h
 exact ⟨f, R_mono h hok⟩
theorem S_bound (h : S d e w base ok v xs) : S d e w base (fun k => ok k ∧ base ≤ k ∧ k < w.heap.size ∧ ∃ q, q ∈ e :: d.E ∧ ∃ cells, w.heap[k]? = some (.cells cells q (0, 0))) v xs := by
 obtain ⟨f, h⟩ := h
 exact ⟨f, R_bound h⟩
theorem S_move (h : S d e w base ok v xs) (hm : ∀ k, ok k → w1.heap[k]? = w.heap[k]?) : S d e w1 base ok v xs := by
 obtain ⟨f, h⟩ := h
 exact ⟨f, R_move h hm⟩
theorem S_step (h : S d e w base ok v xs) (hm : ∀ k, ok k → k < w.heap.size → w1.heap[k]? = w.heap[k]?) : S d e w1 base ok v xs :=
 S_mono (S_move (S_bound h) (fun k hk => hm k hk.1 hk.2.2.1)) (fun _ hk => hk.1)
theorem S_below (h : S d e w base ok v xs) (hb : Below w.heap.size w w1) : S d e w1 base ok v xs := S_step h (fun k _ hk => hb.block k hk)
theorem S_drew (h : S d e w base ok v xs) : S d e w.drew base ok v xs := S_below h (zed (Below.refl _ _))
theorem S_drewN (h : S d e w base ok v xs) (m : Nat) : S d e (w.drewN m) base ok v xs := S_below h (zd (Below.refl _ _) m)
theorem S_typed (h : S d e w base ok v xs) : ∀ k, v.ownBlock = some k → ∃ cells, w.heap[k]? = some (.cells cells e (0, 0)) := R_typed (S_R h)
theorem S_elder' (h : S d e W base ok u xs) (hbase : ∀ k, v.ownBlock = some k → W.heap.size ≤ k) (hb : Below W.heap.size W w1) : S d e w1 base (fun k => ok k ∧ some k ≠ v.ownBlock) u xs := by
 obtain ⟨f, h⟩ := h
 exact ⟨f, R_elder' h hbase hb⟩
theorem R_tag {f f' : Nat → Nat} {zs : List (α × Nat)} (h : (tag f d).R e w base ok v zs) (hf : ∀ k, ok k → k < w.heap.size → f' k = f k) : (tag f' d).R e w base ok v zs := by
 obtain ⟨h0, inner, ho, hr⟩ := R_bound h
 exact ⟨fun k hk => (h0 k hk).1, inner, ho, hr.1, fun j p hj => d.M_mono (fun k hk => ⟨⟨hk.1.1.1, hk.1.2⟩, (hf k hk.1.1.1 hk.1.1.2.2.1).trans hk.2⟩) (hr.2 j p hj)⟩
end
section
variable {α β : Type} {d : Kd α} {d' : Kd β} {e e' g : Nat} {w w1 W : World} {base b : Nat} {ok ok' okv oku : Nat → Prop} {u v : Value} {xs : List α} {ys : List β}
theorem S_slice (h : S d e w base ok v xs) : ∃ A c, v = .slice A xs.length c := R_slice (S_R h)
theorem zip_snoc (xs : List α) (p : α) : (xs ++ [p]).zipIdx = xs.zipIdx ++ [(p, xs.length)] := by rw [List.zipIdx_append]; simp
end
section
open Classical in
theorem S_tag {α : Type} {d : Kd α} {e base : Nat} {okv : Nat → Prop} {w : World} {v : Value} {xs : List α} (h : S d e w base okv v xs) (m : Nat) (okp : Nat → Prop) (hap : ∀ k, okp k → ¬ okv k) : ∃ f, (∀ k, okp k → f k = m) ∧ (tag f d).R e w base okv v xs.zipIdx := by
 obtain ⟨f, h⟩ := h
 exact ⟨fun k => if okp k then m else f k, fun k hk => if_pos hk, R_tag h (fun k hk _ => if_neg (fun h2 => hap k h2 hk))⟩
variable {P : Program} {ops : Array Oper} {rest : List Oper} {o : Oper} {a : Act} {Q : Exit → Act → World → Prop} {Kc : Act → World → Prop} {α : Type}
theorem S_append_step (d : Kd α) {w0 W : World} (base : Nat) (hw : Region.wanted o (yielded ops a.tmps) = true) (s x : Operand) (t e : TypeId) (z : Value) (bytes : Nat)
  (ho : o.op = .call { callee := .builtin .append, args := #[s, x], argTypes := #[t, t] })
  (ht : P.underlying t = some (.slice e)) (hinfo : (P.info? e).map (fun i => (i.zero, i.size, i.bytes)) = some (some z, d.sz, bytes)) (hz : z.cells.size = d.sz) (hs0 : 0 < d.sz) (hb0 : 0 < bytes)
  (v : Value) (xs : List α) (p : α) (cs : List Value) (ok okp : Nat → Prop) (hs : a.eval s = v) (hx : a.eval x = .slice (some ⟨W.heap.size, 0, none⟩) 1 1) (hp : d.M W base okp p cs) (hokp : ∀ k, okp k → ok k ∧ some k ≠ v.ownBlock) (hfresh : ∀ k, W.heap.size ≤ k → ok k)
  (HO : S d e W base (fun k => ok k ∧ ¬ okp k) v xs) (HB : Below base w0 W) (hbase : base ≤ W.heap.size) (hl : (xs.length + 1) * bytes ≤ 140737488355328)
  (h : ∀ v1 w1, S d e w1 base ok v1 (xs ++ [p]) → Below base w0 w1 → W.grownBy w1 v.ownBlock → (v1.ownBlock = v.ownBlock ∨ ∃ b, v1.ownBlock = some b ∧ W.heap.size ≤ b) → Kc (a.put o.dst v1) w1) :
  if Region.wanted o (yielded ops a.tmps) = true then Oper.wp P o a (W.alloc (.cells cs.toArray e)) Kc Q else Kc (a.put o.dst undef) (W.alloc (.cells cs.toArray e)) := by
 obtain ⟨f, hf, hR⟩ := S_tag HO xs.length okp (fun _ hk h2 => h2.2 hk)
 refine R_append_step (tag f d) base hw s x t e z bytes ho ht hinfo hz hs0 hb0 v xs.zipIdx (p, xs.length) cs ok okp hs hx (d.M_mono (fun k hk => ⟨hk, hf k hk⟩) hp) hokp hfresh (R_mono hR (fun _ hk => hk.1)) HB hbase (by rw [List.length_zipIdx]; exact hl) ?_
 intro v1 w1 hr
 rw [← zip_snoc] at hr
 exact h v1 w1 ⟨f, hr⟩
end
section
variable {α β : Type} {d : Kd α} {e e' g n cap : Nat} {w w1 W : World} {base : Nat} {ok ok' oki okp : Nat → Prop} {u v : Value} {xs : List α} {i : Int} {c : List Value}
end
section
variable {P : Program} {ops : Array Oper} {rest : List Oper} {o : Oper} {a : Act} {Q : Exit → Act → World → Prop} {α : Type}
end
end Kd
end Go.Proofs.YtapaijpglfmfgaaGreatDoorW.PrintWords
end
section
namespace Go.Proofs.YtapaijpglfmfgaaGreatDoorW.PrintWords
open Go.RowKit
namespace Kd
structure Heap {α : Type} (d : Kd α) : Prop where
 K : ∀ {w w1 : World} {x : α} {cs : List Value}, (∀ k, k < w.heap.size → w1.heap[k]? = w.heap[k]?) → d.K w x cs → d.K w1 x cs
theorem cell_heap {w w1 : World} (hb : ∀ k, k < w.heap.size → w1.heap[k]? = w.heap[k]?) {a : Addr} {v : Value} (h : w.cell? a = some v) : w1.cell? a = some v := by
 have := hb a.block (World.block_lt_of_cell? w a h)
 simpa [World.cell?, this] using h
theorem Heap.C {α : Type} {d : Kd α} (hd : Heap d) {w w1 : World} {A : Option Addr} {n : Nat} {xs : List α} (hb : ∀ k, k < w.heap.size → w1.heap[k]? = w.heap[k]?) (h : d.C w A n xs) : d.C w1 A n xs :=
 ⟨h.1, h.2.1, fun hn => by
  obtain ⟨ad, e, hc⟩ := h.2.2 hn
  refine ⟨ad, e, fun j p hj => ?_⟩
  obtain ⟨c, hs, hr, hcell⟩ := hc j p hj
  exact ⟨c, hs, hd.K hb hr, fun i u hu => cell_heap hb (hcell i u hu)⟩⟩
section
variable {α : Type} {d : Kd α} {e base g n c : Nat} {ok : Nat → Prop} {w w0 W : World} {A : Option Addr} {xs : List α}
end
end Kd
end Go.Proofs.YtapaijpglfmfgaaGreatDoorW.PrintWords
end
section
namespace Go.Proofs.YtapaijpglfmfgaaGreatDoorW.PrintWords
open Go.RowKit
def Foot (P : World → Prop) (W : World) (ok : Nat → Prop) : Prop := ∀ W' : World, (∀ k, ok k → k < W.heap.size → W'.heap[k]? = W.heap[k]?) → P W'
namespace Foot
variable {P Q : World → Prop} {W W1 : World} {ok ok' : Nat → Prop}
end Foot
namespace Kd
def F {α : Type} (d : Kd α) (W : World) (ok : Nat → Prop) (A : Option Addr) (n : Nat) (xs : List α) : Prop := Foot (fun W => d.C W A n xs) W ok
def FK {α : Type} (d : Kd α) (W : World) (ok : Nat → Prop) (x : α) (c : List Value) : Prop := Foot (fun W => d.K W x c) W ok
section
variable {α β : Type} {d : Kd α} {e base n n' cc g N : Nat} {ok ok' okp S : Nat → Prop} {w w0 w1 W W1 : World} {A A' : Option Addr} {u v v1 : Value} {xs : List α} {xs' : List β} {d' : Kd β} {x : α} {c : List Value}
end
end Kd
end Go.Proofs.YtapaijpglfmfgaaGreatDoorW.PrintWords
end
section
namespace Go.Proofs.YtapaijpglfmfgaaGreatDoorW.PrintWords
open Go.RowKit
namespace Kd
section
variable {α : Type} {d : Kd α} {e base n cc g : Nat} {ok ok' okp S : Nat → Prop} {w w1 W W1 : World} {A : Option Addr} {u v v1 : Value} {xs : List α} {x : α} {c : List Value}
def N {α : Type} (d : Kd α) (e : Nat) (w : World) (base : Nat) (ok : Nat → Prop) (v : Value) (xs : List α) : Prop :=
 (∀ k, v.ownBlock = some k → ok k) ∧ ∃ rows : List (List Value), rows.length = xs.length ∧ (raw d.sz).R e w base (fun k => some k = v.ownBlock) v rows ∧ ∀ (j : Nat) (x : α) (c : List Value), xs[j]? = some x → rows[j]? = some c → FK d w (fun k => ok k ∧ some k ≠ v.ownBlock) x c
end
end Kd
end Go.Proofs.YtapaijpglfmfgaaGreatDoorW.PrintWords
end
section
namespace Go.Proofs.YtapaijpglfmfgaaGreatDoorW.PrintWords
theorem Reps.one {α : Type} {R : α → List Value → Prop} {ps : List α} {cs : List Value} {p : α} {v : Value} (hp : R p [v]) (h : Reps R 1 ps cs) : Reps R 1 (p :: ps) (v :: cs) := by
 refine ⟨by simp [h.1], fun j q hq => ?_⟩
 cases j with
 | zero =>
  simp only [List.getElem?_cons_zero, Option.some.injEq] at hq
  subst hq
  simpa using hp
 | succ j =>
  simp only [List.getElem?_cons_succ] at hq
  have h1 := h.2 j q hq
  simpa [Nat.mul_one] using h1
theorem Reps.front {α : Type} {R : α → List Value → Prop} {size : Nat} {ps : List α} {cs c all : List Value} {p : α} (hp : R p c) (hc : c.length = size) (h : Reps R size ps cs) (ha : c ++ cs = all) : Reps R size (p :: ps) all := by
 subst ha
 refine ⟨by rw [List.length_append, hc, h.1, List.length_cons, Nat.succ_mul, Nat.add_comm], fun j q hq => ?_⟩
 cases j with
 | zero =>
  simp only [List.getElem?_cons_zero, Option.some.injEq] at hq
  subst hq
  rw [Nat.zero_mul, List.drop_zero, List.take_append_of_le_length (by omega), List.take_of_length_le (by omega)]
  exact hp
 | succ j =>
  simp only [List.getElem?_cons_succ] at hq
  have h1 := h.2 j q hq
  rw [Nat.succ_mul, List.drop_append, List.drop_of_length_le (by rw [hc]; exact Nat.le_add_left _ _), List.nil_append, hc, Nat.add_sub_cancel]
  exact h1
theorem Reps.c2 {α : Type} {R : α → List Value → Prop} {ps : List α} {cs : List Value} {p : α} {va vb : Value} (hp : R p [va, vb]) (h : Reps R 2 ps cs) : Reps R 2 (p :: ps) (va :: vb :: cs) := Reps.front hp rfl h rfl
theorem Reps.c3 {α : Type} {R : α → List Value → Prop} {ps : List α} {cs : List Value} {p : α} {va vb vc : Value} (hp : R p [va, vb, vc]) (h : Reps R 3 ps cs) : Reps R 3 (p :: ps) (va :: vb :: vc :: cs) := Reps.front hp rfl h rfl
theorem Reps.c4 {α : Type} {R : α → List Value → Prop} {ps : List α} {cs : List Value} {p : α} {va vb vc vd : Value} (hp : R p [va, vb, vc, vd]) (h : Reps R 4 ps cs) : Reps R 4 (p :: ps) (va :: vb :: vc :: vd :: cs) := Reps.front hp rfl h rfl
theorem Reps.c5 {α : Type} {R : α → List Value → Prop} {ps : List α} {cs : List Value} {p : α} {va vb vc vd ve : Value} (hp : R p [va, vb, vc, vd, ve]) (h : Reps R 5 ps cs) : Reps R 5 (p :: ps) (va :: vb :: vc :: vd :: ve :: cs) := Reps.front hp rfl h rfl
theorem Reps.c6 {α : Type} {R : α → List Value → Prop} {ps : List α} {cs : List Value} {p : α} {va vb vc vd ve vf : Value} (hp : R p [va, vb, vc, vd, ve, vf]) (h : Reps R 6 ps cs) : Reps R 6 (p :: ps) (va :: vb :: vc :: vd :: ve :: vf :: cs) := Reps.front hp rfl h rfl
theorem Reps.c7 {α : Type} {R : α → List Value → Prop} {ps : List α} {cs : List Value} {p : α} {va vb vc vd ve vf vg : Value} (hp : R p [va, vb, vc, vd, ve, vf, vg]) (h : Reps R 7 ps cs) : Reps R 7 (p :: ps) (va :: vb :: vc :: vd :: ve :: vf :: vg :: cs) := Reps.front hp rfl h rfl
theorem Reps.c8 {α : Type} {R : α → List Value → Prop} {ps : List α} {cs : List Value} {p : α} {va vb vc vd ve vf vg vh : Value} (hp : R p [va, vb, vc, vd, ve, vf, vg, vh]) (h : Reps R 8 ps cs) : Reps R 8 (p :: ps) (va :: vb :: vc :: vd :: ve :: vf :: vg :: vh :: cs) := Reps.front hp rfl h rfl
theorem Reps.c9 {α : Type} {R : α → List Value → Prop} {ps : List α} {cs : List Value} {p : α} {va vb vc vd ve vf vg vh vi : Value} (hp : R p [va, vb, vc, vd, ve, vf, vg, vh, vi]) (h : Reps R 9 ps cs) : Reps R 9 (p :: ps) (va :: vb :: vc :: vd :: ve :: vf :: vg :: vh :: vi :: cs) := Reps.front hp rfl h rfl
theorem Reps.c10 {α : Type} {R : α → List Value → Prop} {ps : List α} {cs : List Value} {p : α} {va vb vc vd ve vf vg vh vi vj : Value} (hp : R p [va, vb, vc, vd, ve, vf, vg, vh, vi, vj]) (h : Reps R 10 ps cs) : Reps R 10 (p :: ps) (va :: vb :: vc :: vd :: ve :: vf :: vg :: vh :: vi :: vj :: cs) := Reps.front hp rfl h rfl
end Go.Proofs.YtapaijpglfmfgaaGreatDoorW.PrintWords
end
section
namespace Go.Proofs.YtapaijpglfmfgaaGreatDoorW.PrintWords
open Go.RowKit
section
variable {P : Program} {ops : Array Oper} {rest : List Oper} {o : Oper} {a : Act} {Q : Exit → Act → World → Prop} {W : World}
theorem zjc (hw : Region.wanted o (yielded ops a.tmps) = true) (h : wpList P ops Q ({ o with guard := none } :: rest) a W) : wpList P ops Q (o :: rest) a W := by
 have h1 : Region.wanted { o with guard := none } (yielded ops a.tmps) = true := rfl
 unfold wpList at h ⊢
 rw [if_pos h1] at h
 rw [if_pos hw]
 exact h
end
end Go.Proofs.YtapaijpglfmfgaaGreatDoorW.PrintWords
end
section
namespace Go.Proofs.YtapaijpglfmfgaaGreatDoorW.PrintMore
open Go.RowKit YtapaijpglfmfgaaGreatDoorW.PrintWords
namespace Kd
open Go.Proofs.YtapaijpglfmfgaaGreatDoorW.PrintWords.Kd
end Kd
namespace Kd
open Go.Proofs.YtapaijpglfmfgaaGreatDoorW.PrintWords.Kd
section
variable {α : Type} {d : Kd α} {e base g N : Nat} {ok : Nat → Prop} {W w1 : World} {u v : Value} {xs : List α}
end
end Kd
theorem zfd (k k' : IntKind) (x y : Int) : Builtin.max2 (.int k x) (.int k' y) = pure (.int k (if x < y then y else x)) := by simp only [Builtin.max2, gt_iff_lt]
theorem zjd (k k' : IntKind) (x y : Int) : Builtin.min2 (.int k x) (.int k' y) = pure (.int k (if y < x then y else x)) := by simp only [Builtin.min2]
theorem ztd (ats : Array TypeId) (ty : TypeId) (a b : Value) : Builtin.max_ ats ty #[a, b] = (Builtin.max2 a b >>= fun s => pure s) := by simp only [Builtin.max_, List.foldlM_cons, List.foldlM_nil]
theorem zud (ats : Array TypeId) (ty : TypeId) (a b : Value) : Builtin.min_ ats ty #[a, b] = (Builtin.min2 a b >>= fun s => pure s) := by simp only [Builtin.min_, List.foldlM_cons, List.foldlM_nil]
theorem zsc (ats : Array TypeId) (ty : TypeId) (a b c : Value) : Builtin.max_ ats ty #[a, b, c] = (Builtin.max2 a b >>= fun s => Builtin.max2 s c >>= fun s => pure s) := by simp only [Builtin.max_, List.foldlM_cons, List.foldlM_nil]
theorem ztc (ats : Array TypeId) (ty : TypeId) (a b c : Value) : Builtin.min_ ats ty #[a, b, c] = (Builtin.min2 a b >>= fun s => Builtin.min2 s c >>= fun s => pure s) := by simp only [Builtin.min_, List.foldlM_cons, List.foldlM_nil]
theorem zgd (ats : Array TypeId) (ty : TypeId) (a b c d : Value) : Builtin.max_ ats ty #[a, b, c, d] = (Builtin.max2 a b >>= fun s => Builtin.max2 s c >>= fun s => Builtin.max2 s d >>= fun s => pure s) := by simp only [Builtin.max_, List.foldlM_cons, List.foldlM_nil]
theorem zkd (ats : Array TypeId) (ty : TypeId) (a b c d : Value) : Builtin.min_ ats ty #[a, b, c, d] = (Builtin.min2 a b >>= fun s => Builtin.min2 s c >>= fun s => Builtin.min2 s d >>= fun s => pure s) := by simp only [Builtin.min_, List.foldlM_cons, List.foldlM_nil]
end Go.Proofs.YtapaijpglfmfgaaGreatDoorW.PrintMore
namespace Go.Proofs.YtapaijpglfmfgaaGreatDoorW.PrintWords
open Go.RowKit
section
variable {P : Program} {ops : Array Oper} {rest : List Oper} {o : Oper} {a : Act} {Q : Exit → Act → World → Prop} {W : World}
theorem zw {f : FuncId} {az : Array Operand} {ts : Array TypeId} (_ho : o.op = .call { callee := .value (.func f), args := az, argTypes := ts }) (h : wpList P ops Q (o :: rest) a W) : wpList P ops Q (o :: rest) a W := h
theorem zyd {b : Builtin} {xs : Array Operand} {ts : Array TypeId} (_ho : o.op = .call { callee := .builtin b, args := xs, argTypes := ts }) (h : wpList P ops Q (o :: rest) a W) : wpList P ops Q (o :: rest) a W := h
end
theorem zmf (w : World) (n : Nat) : w.drewN n = w.drewN n := rfl
namespace Kd
section
variable {α : Type} {d : Kd α} {e base : Nat} {ok : Nat → Prop} {W w1 : World} {v : Value} {xs : List α}
end
section
variable {α : Type} {d : Kd α} {e base g n cap : Nat} {ok oki okp : Nat → Prop} {W : World} {xs : List α} {i : Int} {c : List Value}
end
section
variable {α : Type} {d : Kd α} {e base b b' g N : Nat} {ok ok1 : Nat → Prop} {W W2 w1 : World} {u v : Value} {xs ys : List α} {S : Nat → Prop}
end
end Kd
end Go.Proofs.YtapaijpglfmfgaaGreatDoorW.PrintWords
namespace Go.Proofs.YtapaijpglfmfgaaGreatDoorW.PrintWords
open Go.RowKit
namespace Kd
def V {α : Type} (d : Kd α) (_e : Nat) (W : World) (_base : Nat) (ok : Nat → Prop) (v : Value) (xs : List α) : Prop := ∃ A c, v = .slice A xs.length c ∧ xs.length ≤ c ∧ F d W ok A xs.length xs
section
variable {α β : Type} {d : Kd α} {e base base' n m c g N' lo hi : Nat} {ok ok' S : Nat → Prop} {w W w1 : World} {A : Option Addr} {ad : Addr} {u v v1 : Value} {xs : List α}
end
end Kd
end Go.Proofs.YtapaijpglfmfgaaGreatDoorW.PrintWords
end
section
namespace Go.Proofs.YtapaijpglfmfgaaGreatDoor.S
open Go.RowKit YtapaijpglfmfgaaGreatDoorH YtapaijpglfmfgaaGreatDoorW.PrintWords YtapaijpglfmfgaaGreatDoorW.PrintLast YtapaijpglfmfgaaGreatDoorW.PrintMore
attribute [local go_sem] zfd zjd ztd zud zsc ztc zgd zkd
theorem info9 : (Tryz.prog.info? 9).map (fun i => (i.zero, i.size, i.bytes)) = some (some (.string ⟨#[]⟩), 1, 16) := by kernel_rfl
theorem info57 : (Tryz.prog.info? 57).map (fun i => (i.zero, i.size, i.bytes)) = some (some (.slice none 0 0), 1, 24) := by kernel_rfl
end Go.Proofs.YtapaijpglfmfgaaGreatDoor.S
end
section
namespace Go.Proofs.YtapaijpglfmfgaaGreatDoorC
open Go.RowKit YtapaijpglfmfgaaGreatDoorW.PrintWords
theorem cl2 {w : World} {g : Nat} {t : TypeId} {a0 a1 : Value} (h : w.heap[g]? = some (.cells #[a0, a1] t (0, 0))) : w.cell? ⟨g, 0, none⟩ = some a0 ∧ w.cell? ⟨g, 1, none⟩ = some a1 ∧ w.frozen? ⟨g, 0, none⟩ = false ∧ w.frozen? ⟨g, 1, none⟩ = false :=
 ⟨(zb h 0).trans rfl, (zb h 1).trans rfl, zz h 0, zz h 1⟩
theorem cl3 {w : World} {g : Nat} {t : TypeId} {a0 a1 a2 : Value} (h : w.heap[g]? = some (.cells #[a0, a1, a2] t (0, 0))) : w.cell? ⟨g, 0, none⟩ = some a0 ∧ w.cell? ⟨g, 1, none⟩ = some a1 ∧ w.cell? ⟨g, 2, none⟩ = some a2 ∧ w.frozen? ⟨g, 0, none⟩ = false ∧ w.frozen? ⟨g, 1, none⟩ = false ∧ w.frozen? ⟨g, 2, none⟩ = false :=
 ⟨(zb h 0).trans rfl, (zb h 1).trans rfl, (zb h 2).trans rfl, zz h 0, zz h 1, zz h 2⟩
theorem cl4 {w : World} {g : Nat} {t : TypeId} {a0 a1 a2 a3 : Value} (h : w.heap[g]? = some (.cells #[a0, a1, a2, a3] t (0, 0))) : w.cell? ⟨g, 0, none⟩ = some a0 ∧ w.cell? ⟨g, 1, none⟩ = some a1 ∧ w.cell? ⟨g, 2, none⟩ = some a2 ∧ w.cell? ⟨g, 3, none⟩ = some a3 ∧ w.frozen? ⟨g, 0, none⟩ = false ∧ w.frozen? ⟨g, 1, none⟩ = false ∧ w.frozen? ⟨g, 2, none⟩ = false ∧ w.frozen? ⟨g, 3, none⟩ = false :=
 ⟨(zb h 0).trans rfl, (zb h 1).trans rfl, (zb h 2).trans rfl, (zb h 3).trans rfl, zz h 0, zz h 1, zz h 2, zz h 3⟩
theorem cl7 {w : World} {g : Nat} {t : TypeId} {a0 a1 a2 a3 a4 a5 a6 : Value} (h : w.heap[g]? = some (.cells #[a0, a1, a2, a3, a4, a5, a6] t (0, 0))) : w.cell? ⟨g, 0, none⟩ = some a0 ∧ w.cell? ⟨g, 1, none⟩ = some a1 ∧ w.cell? ⟨g, 2, none⟩ = some a2 ∧ w.cell? ⟨g, 3, none⟩ = some a3 ∧ w.cell? ⟨g, 4, none⟩ = some a4 ∧ w.cell? ⟨g, 5, none⟩ = some a5 ∧ w.cell? ⟨g, 6, none⟩ = some a6 ∧ w.frozen? ⟨g, 0, none⟩ = false ∧ w.frozen? ⟨g, 1, none⟩ = false ∧ w.frozen? ⟨g, 2, none⟩ = false ∧ w.frozen? ⟨g, 3, none⟩ = false ∧ w.frozen? ⟨g, 4, none⟩ = false ∧ w.frozen? ⟨g, 5, none⟩ = false ∧ w.frozen? ⟨g, 6, none⟩ = false :=
 ⟨(zb h 0).trans rfl, (zb h 1).trans rfl, (zb h 2).trans rfl, (zb h 3).trans rfl, (zb h 4).trans rfl, (zb h 5).trans rfl, (zb h 6).trans rfl, zz h 0, zz h 1, zz h 2, zz h 3, zz h 4, zz h 5, zz h 6⟩
theorem cl10 {w : World} {g : Nat} {t : TypeId} {a0 a1 a2 a3 a4 a5 a6 a7 a8 a9 : Value} (h : w.heap[g]? = some (.cells #[a0, a1, a2, a3, a4, a5, a6, a7, a8, a9] t (0, 0))) : w.cell? ⟨g, 0, none⟩ = some a0 ∧ w.cell? ⟨g, 1, none⟩ = some a1 ∧ w.cell? ⟨g, 2, none⟩ = some a2 ∧ w.cell? ⟨g, 3, none⟩ = some a3 ∧ w.cell? ⟨g, 4, none⟩ = some a4 ∧ w.cell? ⟨g, 5, none⟩ = some a5 ∧ w.cell? ⟨g, 6, none⟩ = some a6 ∧ w.cell? ⟨g, 7, none⟩ = some a7 ∧ w.cell? ⟨g, 8, none⟩ = some a8 ∧ w.cell? ⟨g, 9, none⟩ = some a9 ∧ w.frozen? ⟨g, 0, none⟩ = false ∧ w.frozen? ⟨g, 1, none⟩ = false ∧ w.frozen? ⟨g, 2, none⟩ = false ∧ w.frozen? ⟨g, 3, none⟩ = false ∧ w.frozen? ⟨g, 4, none⟩ = false ∧ w.frozen? ⟨g, 5, none⟩ = false ∧ w.frozen? ⟨g, 6, none⟩ = false ∧ w.frozen? ⟨g, 7, none⟩ = false ∧ w.frozen? ⟨g, 8, none⟩ = false ∧ w.frozen? ⟨g, 9, none⟩ = false :=
 ⟨(zb h 0).trans rfl, (zb h 1).trans rfl, (zb h 2).trans rfl, (zb h 3).trans rfl, (zb h 4).trans rfl, (zb h 5).trans rfl, (zb h 6).trans rfl, (zb h 7).trans rfl, (zb h 8).trans rfl, (zb h 9).trans rfl, zz h 0, zz h 1, zz h 2, zz h 3, zz h 4, zz h 5, zz h 6, zz h 7, zz h 8, zz h 9⟩
theorem farC {α : Type} {d : Kd α} {e : TypeId} {w : World} {base : Nat} {ok : Nat → Prop} {v : Value} {xs : List α} {g i : Nat} {u : Value} (h : d.R e w base (fun k => ok k ∧ k ≠ g) v xs) : d.R e (w.setCell ⟨g, i, none⟩ u) base (fun k => ok k ∧ k ≠ g) v xs :=
 Kd.R_far (p := ⟨g, i, none⟩) h (fun _ hk => hk.2) u
theorem put2 {w : World} {g : Nat} {t : TypeId} {a0 a1 b0 b1 : Value} (h : w.heap[g]? = some (.cells #[a0, a1] t (0, 0))) : ((w.setCell ⟨g, 0, none⟩ b0).setCell ⟨g, 1, none⟩ b1).heap[g]? = some (.cells #[b0, b1] t (0, 0)) := by
 replace h := zq (cs' := #[b0, a1]) h 0 b0 rfl
 replace h := zq (cs' := #[b0, b1]) h 1 b1 rfl
 exact h
theorem put3 {w : World} {g : Nat} {t : TypeId} {a0 a1 a2 b0 b1 b2 : Value} (h : w.heap[g]? = some (.cells #[a0, a1, a2] t (0, 0))) : (((w.setCell ⟨g, 0, none⟩ b0).setCell ⟨g, 1, none⟩ b1).setCell ⟨g, 2, none⟩ b2).heap[g]? = some (.cells #[b0, b1, b2] t (0, 0)) := by
 replace h := zq (cs' := #[b0, a1, a2]) h 0 b0 rfl
 replace h := zq (cs' := #[b0, b1, a2]) h 1 b1 rfl
 replace h := zq (cs' := #[b0, b1, b2]) h 2 b2 rfl
 exact h
theorem put4 {w : World} {g : Nat} {t : TypeId} {a0 a1 a2 a3 b0 b1 b2 b3 : Value} (h : w.heap[g]? = some (.cells #[a0, a1, a2, a3] t (0, 0))) : ((((w.setCell ⟨g, 0, none⟩ b0).setCell ⟨g, 1, none⟩ b1).setCell ⟨g, 2, none⟩ b2).setCell ⟨g, 3, none⟩ b3).heap[g]? = some (.cells #[b0, b1, b2, b3] t (0, 0)) := by
 replace h := zq (cs' := #[b0, a1, a2, a3]) h 0 b0 rfl
 replace h := zq (cs' := #[b0, b1, a2, a3]) h 1 b1 rfl
 replace h := zq (cs' := #[b0, b1, b2, a3]) h 2 b2 rfl
 replace h := zq (cs' := #[b0, b1, b2, b3]) h 3 b3 rfl
 exact h
theorem put10 {w : World} {g : Nat} {t : TypeId} {a0 a1 a2 a3 a4 a5 a6 a7 a8 a9 b0 b1 b2 b3 b4 b5 b6 b7 b8 b9 : Value} (h : w.heap[g]? = some (.cells #[a0, a1, a2, a3, a4, a5, a6, a7, a8, a9] t (0, 0))) : ((((((((((w.setCell ⟨g, 0, none⟩ b0).setCell ⟨g, 1, none⟩ b1).setCell ⟨g, 2, none⟩ b2).setCell ⟨g, 3, none⟩ b3).setCell ⟨g, 4, none⟩ b4).setCell ⟨g, 5, none⟩ b5).setCell ⟨g, 6, none⟩ b6).setCell ⟨g, 7, none⟩ b7).setCell ⟨g, 8, none⟩ b8).setCell ⟨g, 9, none⟩ b9).heap[g]? = some (.cells #[b0, b1, b2, b3, b4, b5, b6, b7, b8, b9] t (0, 0)) := by
 replace h := zq (cs' := #[b0, a1, a2, a3, a4, a5, a6, a7, a8, a9]) h 0 b0 rfl
 replace h := zq (cs' := #[b0, b1, a2, a3, a4, a5, a6, a7, a8, a9]) h 1 b1 rfl
 replace h := zq (cs' := #[b0, b1, b2, a3, a4, a5, a6, a7, a8, a9]) h 2 b2 rfl
 replace h := zq (cs' := #[b0, b1, b2, b3, a4, a5, a6, a7, a8, a9]) h 3 b3 rfl
 replace h := zq (cs' := #[b0, b1, b2, b3, b4, a5, a6, a7, a8, a9]) h 4 b4 rfl
 replace h := zq (cs' := #[b0, b1, b2, b3, b4, b5, a6, a7, a8, a9]) h 5 b5 rfl
 replace h := zq (cs' := #[b0, b1, b2, b3, b4, b5, b6, a7, a8, a9]) h 6 b6 rfl
 replace h := zq (cs' := #[b0, b1, b2, b3, b4, b5, b6, b7, a8, a9]) h 7 b7 rfl
 replace h := zq (cs' := #[b0, b1, b2, b3, b4, b5, b6, b7, b8, a9]) h 8 b8 rfl
 replace h := zq (cs' := #[b0, b1, b2, b3, b4, b5, b6, b7, b8, b9]) h 9 b9 rfl
 exact h
theorem farC3 {α : Type} {d : Kd α} {e : TypeId} {w : World} {base : Nat} {ok : Nat → Prop} {v : Value} {xs : List α} {g i0 i1 i2 : Nat} {u0 u1 u2 : Value} (h : d.R e w base (fun k => ok k ∧ k ≠ g) v xs) : d.R e (((w.setCell ⟨g, i0, none⟩ u0).setCell ⟨g, i1, none⟩ u1).setCell ⟨g, i2, none⟩ u2) base (fun k => ok k ∧ k ≠ g) v xs :=
 farC (farC (farC h))
theorem farC4 {α : Type} {d : Kd α} {e : TypeId} {w : World} {base : Nat} {ok : Nat → Prop} {v : Value} {xs : List α} {g i0 i1 i2 i3 : Nat} {u0 u1 u2 u3 : Value} (h : d.R e w base (fun k => ok k ∧ k ≠ g) v xs) : d.R e ((((w.setCell ⟨g, i0, none⟩ u0).setCell ⟨g, i1, none⟩ u1).setCell ⟨g, i2, none⟩ u2).setCell ⟨g, i3, none⟩ u3) base (fun k => ok k ∧ k ≠ g) v xs :=
 farC (farC (farC (farC h)))
theorem zrb {α : Type} {d : Kd α} {e : TypeId} {w : World} {base : Nat} {ok : Nat → Prop} {v : Value} {xs : List α} {g i0 i1 i2 i3 i4 i5 i6 i7 i8 i9 : Nat} {u0 u1 u2 u3 u4 u5 u6 u7 u8 u9 : Value} (h : d.R e w base (fun k => ok k ∧ k ≠ g) v xs) : d.R e ((((((((((w.setCell ⟨g, i0, none⟩ u0).setCell ⟨g, i1, none⟩ u1).setCell ⟨g, i2, none⟩ u2).setCell ⟨g, i3, none⟩ u3).setCell ⟨g, i4, none⟩ u4).setCell ⟨g, i5, none⟩ u5).setCell ⟨g, i6, none⟩ u6).setCell ⟨g, i7, none⟩ u7).setCell ⟨g, i8, none⟩ u8).setCell ⟨g, i9, none⟩ u9) base (fun k => ok k ∧ k ≠ g) v xs :=
 farC (farC (farC (farC (farC (farC (farC (farC (farC (farC h)))))))))
theorem farC12 {α : Type} {d : Kd α} {e : TypeId} {w : World} {base : Nat} {ok : Nat → Prop} {v : Value} {xs : List α} {g i0 i1 i2 i3 i4 i5 i6 i7 i8 i9 i10 i11 : Nat} {u0 u1 u2 u3 u4 u5 u6 u7 u8 u9 u10 u11 : Value} (h : d.R e w base (fun k => ok k ∧ k ≠ g) v xs) : d.R e ((((((((((((w.setCell ⟨g, i0, none⟩ u0).setCell ⟨g, i1, none⟩ u1).setCell ⟨g, i2, none⟩ u2).setCell ⟨g, i3, none⟩ u3).setCell ⟨g, i4, none⟩ u4).setCell ⟨g, i5, none⟩ u5).setCell ⟨g, i6, none⟩ u6).setCell ⟨g, i7, none⟩ u7).setCell ⟨g, i8, none⟩ u8).setCell ⟨g, i9, none⟩ u9).setCell ⟨g, i10, none⟩ u10).setCell ⟨g, i11, none⟩ u11) base (fun k => ok k ∧ k ≠ g) v xs :=
 farC (farC (farC (farC (farC (farC (farC (farC (farC (farC (farC (farC h)))))))))))
end Go.Proofs.YtapaijpglfmfgaaGreatDoorC
end
section
namespace Go.Proofs.YtapaijpglfmfgaaGreatDoorC
open Go.RowKit YtapaijpglfmfgaaGreatDoorW.PrintWords YtapaijpglfmfgaaGreatDoorW.PrintLast YtapaijpglfmfgaaGreatDoorW.PrintMore
theorem RB {α : Type} {d : Kd α} {e : TypeId} {w0 W w' : World} {base : Nat} {ok : Nat → Prop} {v : Value} {xs : List α} (H : za (d.R e w0 base ok v xs)) (hb : Below W.heap.size W w')
 (hw : d.R e w0 base ok v xs → d.R e W base ok v xs := by intro h; (with_reducible repeat (first | apply Kd.R_alloc | apply Kd.R_drewN | apply Kd.R_drew)); exact h) : za (d.R e w' base ok v xs) := ⟨Kd.R_below (hw H.out) hb⟩
theorem RW {α : Type} {d : Kd α} {e : TypeId} {w0 W : World} {base : Nat} {ok : Nat → Prop} {v : Value} {xs : List α} (h : d.R e w0 base ok v xs)
 (hw : d.R e w0 base ok v xs → d.R e W base ok v xs := by intro h; (with_reducible repeat (first | apply Kd.R_alloc | apply Kd.R_drewN | apply Kd.R_drew)); exact h) : d.R e W base ok v xs := hw h
theorem BS {w W0 W w' : World} (H : za (Below w.heap.size w W0)) (hb : Below W.heap.size W w')
 (hw : Below w.heap.size w W0 → Below w.heap.size w W := by intro h; (with_reducible repeat (first | exact h | apply zj | apply zd | apply zed | apply zab))) : za (Below w.heap.size w w') := ⟨zib (hw H.out) hb⟩
theorem CS {α : Type} {d : Kd α} {e : TypeId} {w0 W : World} {base : Nat} {ok : Nat → Prop} {A : Option Addr} {n c : Nat} {xs : List α} (H : za (d.R e w0 base ok (.slice A n c) xs))
 (hw : d.C w0 A xs.length xs → d.C W A xs.length xs := by intro h; (with_reducible repeat (first | exact h | apply Kd.C_alloc | apply Kd.C_drewN | apply Kd.C_drew))) : d.C W A xs.length xs := hw (Kd.R_reads' H.out).2.2
section
variable {P : Program} {ops : Array Oper} {Q : Exit → Act → World → Prop}
theorem goesA {rest : List Oper} {oi : Oper} {a : Act} {w : World} (N : Option Tmp) {f : FuncId} {fn : Func} {az : Array Operand} {ts : Array TypeId} (hf : P.funcs[f]? = some fn) (args : Array Value)
 (h : Calls P f args w fun e w' => ∃ v, e = .returned v ∧ wpList P ops Q rest (a.put N v) w')
 (hop : oi.op = .call { callee := .value (.func f), args := az, argTypes := ts } := by rfl)
 (hd : oi.dst = N := by rfl) (hg : oi.guard = none := by rfl) (hname : (fn.name == "runtime.NumGoroutine") = false := by kernel_rfl) (hb : fn.body.isSome = true := by rfl)
 (hargs : az.map a.eval = args := by (try simp only [List.map_toArray, List.map_cons, List.map_nil]); first | done | rfl | (simp only [List.length_drop, List.length_take]; rfl)) : wpList P ops Q (oi :: rest) a w := goesL_ N hd hg hf hname hb args hop hargs h
end
section
variable {P : Program} {ops : Array Oper} {md : Region.Mode} {ds : List Nat} {Q : Exit → Act → World → Prop} {S : World → Prop}
theorem pureA (i : Nat) (N : Option Tmp) {oi : Oper} {v : Value} {fuel : Nat} {l : Array Bool} {a : Act} {w : World} (l' : Array Bool) {a' : Act} (h : zhc P md ops Q S ds fuel l' a' w)
 (hi : ops[i]? = some oi := by rfl) (hN : oi.dst = N := by rfl) (hc : anyB md ops l l' i = true := by kernel_rfl) (hQ : ∀ c a w, Q (.panic c) (a.put oi.dst v) w → Q (.panic c) a w := by exact fun _ _ _ h => h)
 (hy : Yields P ops oi v a := by exact Or.inl ⟨by rfl, fun w' => by go_simp; with_reducible rfl⟩)
 (ha : a.put N v = a' := by simp only [Act.put, List.setIfInBounds_toArray, List.set_cons_zero, List.set_cons_succ, i64_w, i32_w]; rfl) : zhc P md ops Q S ds (fuel + 1) l a w := pure_ l' hi hN hc hQ hy ha h
end
end Go.Proofs.YtapaijpglfmfgaaGreatDoorC
end
section
namespace Go.Proofs.YtapaijpglfmfgaaGreatDoor.S
open Go.RowKit YtapaijpglfmfgaaGreatDoorH YtapaijpglfmfgaaGreatDoorW.PrintWords YtapaijpglfmfgaaGreatDoorW.PrintLast YtapaijpglfmfgaaGreatDoorW.PrintMore YtapaijpglfmfgaaGreatDoorC
attribute [local go_sem] zfd zjd ztd zud zsc ztc zgd zkd
def zic.f (a0 : Int) : Option (Bool) := if a0 ≥ 48 then (some (decide (a0 ≤ 57))) else (some false)
theorem zic.calls (a0 : Int) (r : Bool) (w : World) (h : zic.f a0 = some r) :
  Calls Tryz.prog 84 #[.int .u8 a0] w fun e w' => e = .returned (.bool r) ∧ zn w w' := by
 have H : (if a0 ≥ 48 then (some (decide (a0 ≤ 57))) else (some false)) = some r := h
 clear h
 by_cases c2 : a0 ≥ 48
 ·rw [if_pos c2] at H
  have c2b0 : decide (48 ≤ a0) = true := decide_eq_true c2
  clear c2
  obtain rfl := Option.some.inj H
  go_enter Tryz.func84, Tryz.ntmps84
  go_wp2
  go_ret
  exact ⟨by rfl, by repeat (first | exact zn.refl _ | apply zn.step)⟩
 ·rw [if_neg c2] at H
  have c2b0 : decide (48 ≤ a0) = false := decide_eq_false c2
  clear c2
  obtain rfl := Option.some.inj H
  go_enter Tryz.func84, Tryz.ntmps84
  go_wp2
  go_ret
  exact ⟨by rfl, by repeat (first | exact zn.refl _ | apply zn.step)⟩
def zgb.l0 : Nat → ByteArray → Int → Option (Int)
 | 0, _, _ => none
 | k + 1, x0, x1 => if x1 < (x0.size : Int) then (if 0 ≤ x1 then ((zic.f (bt x0 x1)).bind fun t101 => (if t101 = true then (zgb.l0 k x0 (wrap64 (x1 + 1))) else (some x1))) else (none)) else (some x1)
def zgb.f (k : Nat) (a0 : ByteArray) (a1 : Int) : Option (Int) := zgb.l0 k a0 a1
theorem zgb.calls (k : Nat) (a0 : ByteArray) (a1 : Int) (r : Int) (w : World) (h : zgb.f k a0 a1 = some r) :
  Calls Tryz.prog 79 #[.string a0, .int .i64 a1] w fun e w' => e = .returned (.int .i64 r) ∧ zn w w' := by
 have H : (zgb.l0 k a0 a1) = some r := h
 clear h
 have H' := za.mk H
 clear H
 go_enter Tryz.func79, Tryz.ntmps79
 go_wp2
 (try simp only [Act.put, List.setIfInBounds_toArray, List.set_cons_zero, List.set_cons_succ])
 go_loopg [1] k (fun kq v1 w' => ∃ (x1_1 : Int), v1 = .int .i64 x1_1 ∧ za (zgb.l0 kq a0 x1_1 = some r) ∧ za (kq ≤ k) ∧ zn w w')
 case atStart => exact ⟨(a1), (by rfl), H', ⟨Nat.le_refl _⟩, by repeat (first | exact zn.refl _ | apply zn.step)⟩
 case round =>
  clear H'
  obtain ⟨x1_1, rfl, HA, HK1, ⟨m1, rfl⟩⟩ := hrel
  cases gk with
  | zero => exact absurd HA.out (by simp [zgb.l0])
  | succ k1 =>
   have H := HA.out
   clear HA
   simp only [zgb.l0] at H
   by_cases c3 : x1_1 < (a0.size : Int)
   ·rw [if_pos c3] at H
    have c3b0 : decide (x1_1 < (a0.size : Int)) = true := decide_eq_true c3
    clear c3
    by_cases c4 : 0 ≤ x1_1
    ·rw [if_pos c4] at H
     have c4b0 : decide (0 ≤ x1_1) = true := decide_eq_true c4
     clear c4
     replace H := Option.bind_eq_some_iff.mp H
     obtain ⟨t101, A60, H⟩ := H
     replace H : (if t101 = true then (zgb.l0 k1 a0 (wrap64 (x1_1 + 1))) else (some x1_1)) = some r := H
     have A6 := za.mk A60
     clear A60
     by_cases c7 : t101 = true
     ·subst c7
      have H1 : (zgb.l0 k1 a0 (wrap64 (x1_1 + 1))) = some r := by rw [if_pos rfl] at H; exact H
      clear H
      have H := H1
      clear H1
      have H' := za.mk H
      clear H
      have p5 : 0 ≤ (x1_1 : Int) := of_decide_eq_true (by (with_reducible assumption))
      have q5 : x1_1 < (a0.size : Int) := of_decide_eq_true (by (with_reducible assumption))
      have hx5 := bt_at a0 x1_1
      replace p5 := eq_true p5
      replace q5 := eq_true q5
      go_wp2_with ((go_at_call 84; (with_reducible refine (zic.calls (bt a0 x1_1) true _ A6.out).mono ?_); rintro e w' ⟨rfl, ⟨nd, rfl⟩⟩))
      go_roundg k1
      case measure => have := HK1.out; omega
      case rel => exact ⟨(wrap64 (x1_1 + 1)), (by rfl), H', ⟨by have := HK1.out; omega⟩, by repeat (first | exact zn.refl _ | apply zn.step)⟩
     ·replace c7 := Bool.eq_false_iff.mpr c7
      subst c7
      have H1 : (some x1_1) = some r := by rw [if_neg (show ¬ (false = true) by decide)] at H; exact H
      clear H
      have H := H1
      clear H1
      obtain rfl := Option.some.inj H
      have p5 : 0 ≤ (x1_1 : Int) := of_decide_eq_true (by (with_reducible assumption))
      have q5 : x1_1 < (a0.size : Int) := of_decide_eq_true (by (with_reducible assumption))
      have hx5 := bt_at a0 x1_1
      replace p5 := eq_true p5
      replace q5 := eq_true q5
      go_wp2_with ((go_at_call 84; (with_reducible refine (zic.calls (bt a0 x1_1) false _ A6.out).mono ?_); rintro e w' ⟨rfl, ⟨nd, rfl⟩⟩))
      go_ret
      exact ⟨by rfl, by repeat (first | exact zn.refl _ | apply zn.step)⟩
    ·rw [if_neg c4] at H
     exact absurd H (by simp)
   ·rw [if_neg c3] at H
    have c3b0 : decide (x1_1 < (a0.size : Int)) = false := decide_eq_false c3
    clear c3
    obtain rfl := Option.some.inj H
    go_wp2
    go_ret
    exact ⟨by rfl, by repeat (first | exact zn.refl _ | apply zn.step)⟩
def zy.l0 : Nat → ByteArray → Int → Option (ByteArray)
 | 0, _, _ => none
 | k + 1, x0, x3 => (zgb.f k x0 x3).bind fun t102 => (if t102 = x3 then (if 0 ≤ x3 then (if x3 ≤ (x0.size : Int) then (some (x0.extract 0 (x3 : Int).toNat)) else (none)) else (none)) else (if t102 < (x0.size : Int) then (if 0 ≤ t102 then (if (bt x0 t102) = 46 then (zy.l0 k x0 (wrap64 (t102 + 1))) else (zy.l0 k x0 t102)) else (none)) else (zy.l0 k x0 t102)))
def zy.f (k : Nat) (a0 : ByteArray) : Option (ByteArray) := zy.l0 k a0 0
theorem zy.calls (k : Nat) (a0 : ByteArray) (r : ByteArray) (w : World) (h : zy.f k a0 = some r) :
  Calls Tryz.prog 60 #[.string a0] w fun e w' => e = .returned (.string r) ∧ zn w w' := by
 have H : (zy.l0 k a0 0) = some r := h
 clear h
 have H' := za.mk H
 clear H
 go_enter Tryz.func60, Tryz.ntmps60
 go_wp2
 (try simp only [Act.put, List.setIfInBounds_toArray, List.set_cons_zero, List.set_cons_succ])
 go_loopg [3] k (fun kq v3 w' => ∃ (x3_1 : Int), v3 = .int .i64 x3_1 ∧ za (zy.l0 kq a0 x3_1 = some r) ∧ za (kq ≤ k) ∧ zn w w')
 case atStart => exact ⟨(0), (by rfl), H', ⟨Nat.le_refl _⟩, by repeat (first | exact zn.refl _ | apply zn.step)⟩
 case round =>
  clear H'
  obtain ⟨x3_1, rfl, HA, HK1, ⟨m1, rfl⟩⟩ := hrel
  cases gk with
  | zero => exact absurd HA.out (by simp [zy.l0])
  | succ k1 =>
   have H := HA.out
   clear HA
   simp only [zy.l0] at H
   replace H := Option.bind_eq_some_iff.mp H
   obtain ⟨t102, A20, H⟩ := H
   replace H : (if t102 = x3_1 then (if 0 ≤ x3_1 then (if x3_1 ≤ (a0.size : Int) then (some (a0.extract 0 (x3_1 : Int).toNat)) else (none)) else (none)) else (if t102 < (a0.size : Int) then (if 0 ≤ t102 then (if (bt a0 t102) = 46 then (zy.l0 k1 a0 (wrap64 (t102 + 1))) else (zy.l0 k1 a0 t102)) else (none)) else (zy.l0 k1 a0 t102))) = some r := H
   have A2 := za.mk A20
   clear A20
   by_cases c3 : t102 = x3_1
   ·rw [if_pos c3] at H
    have c3b0 : (t102 == x3_1) = true := beq_iff_eq.mpr c3
    have c3b1 : (t102 != x3_1) = false := bne_eq_false_iff_eq.mpr c3
    clear c3
    by_cases c4 : 0 ≤ x3_1
    ·rw [if_pos c4] at H
     have c4b0 := eq_true c4
     have c4b1 : decide (0 ≤ x3_1) = true := decide_eq_true c4
     clear c4
     by_cases c5 : x3_1 ≤ (a0.size : Int)
     ·rw [if_pos c5] at H
      have c5b0 := eq_true c5
      have c5b1 : decide (x3_1 ≤ (a0.size : Int)) = true := decide_eq_true c5
      clear c5
      obtain rfl := Option.some.inj H
      go_wp2_with (((with_reducible refine zw (f := 79) rfl ?_); refine goesA (some 7) Tryz.func79 #[.string a0, .int .i64 x3_1] ?_; (with_reducible refine (zgb.calls k1 a0 x3_1 t102 _ A2.out).mono ?_); rintro e w' ⟨rfl, ⟨nd, rfl⟩⟩; refine ⟨_, rfl, ?_⟩))
      go_ret
      exact ⟨by rfl, by repeat (first | exact zn.refl _ | apply zn.step)⟩
     ·rw [if_neg c5] at H
      exact absurd H (by simp)
    ·rw [if_neg c4] at H
     exact absurd H (by simp)
   ·rw [if_neg c3] at H
    have c3b0 : (t102 == x3_1) = false := beq_eq_false_iff_ne.mpr c3
    have c3b1 : (t102 != x3_1) = true := bne_iff_ne.mpr c3
    by_cases c6 : t102 < (a0.size : Int)
    ·rw [if_pos c6] at H
     have c6b0 : decide (t102 < (a0.size : Int)) = true := decide_eq_true c6
     clear c6
     by_cases c7 : 0 ≤ t102
     ·rw [if_pos c7] at H
      have c7b0 : decide (0 ≤ t102) = true := decide_eq_true c7
      clear c7
      by_cases c9 : (bt a0 t102) = 46
      ·rw [if_pos c9] at H
       have c9b0 : ((bt a0 t102) == 46) = true := beq_iff_eq.mpr c9
       have c9b1 : ((bt a0 t102) != 46) = false := bne_eq_false_iff_eq.mpr c9
       clear c9
       have H' := za.mk H
       clear H
       go_wp2_with (((with_reducible refine zw (f := 79) rfl ?_); refine goesA (some 7) Tryz.func79 #[.string a0, .int .i64 x3_1] ?_; (with_reducible refine (zgb.calls k1 a0 x3_1 t102 _ A2.out).mono ?_); rintro e w' ⟨rfl, ⟨nd, rfl⟩⟩; refine ⟨_, rfl, ?_⟩; have p8 : 0 ≤ (t102 : Int) := of_decide_eq_true (by (with_reducible assumption)); have q8 : t102 < (a0.size : Int) := of_decide_eq_true (by (with_reducible assumption)); have hx8 := bt_at a0 t102; replace p8 := eq_true p8; replace q8 := eq_true q8))
       go_roundg k1
       case measure => have := HK1.out; omega
       case rel => exact ⟨(wrap64 (t102 + 1)), (by rfl), H', ⟨by have := HK1.out; omega⟩, by repeat (first | exact zn.refl _ | apply zn.step)⟩
      ·rw [if_neg c9] at H
       have c9b0 : ((bt a0 t102) == 46) = false := beq_eq_false_iff_ne.mpr c9
       have c9b1 : ((bt a0 t102) != 46) = true := bne_iff_ne.mpr c9
       have H' := za.mk H
       clear H
       go_wp2_with (((with_reducible refine zw (f := 79) rfl ?_); refine goesA (some 7) Tryz.func79 #[.string a0, .int .i64 x3_1] ?_; (with_reducible refine (zgb.calls k1 a0 x3_1 t102 _ A2.out).mono ?_); rintro e w' ⟨rfl, ⟨nd, rfl⟩⟩; refine ⟨_, rfl, ?_⟩; have p8 : 0 ≤ (t102 : Int) := of_decide_eq_true (by (with_reducible assumption)); have q8 : t102 < (a0.size : Int) := of_decide_eq_true (by (with_reducible assumption)); have hx8 := bt_at a0 t102; replace p8 := eq_true p8; replace q8 := eq_true q8))
       go_roundg k1
       case measure => have := HK1.out; omega
       case rel => exact ⟨(t102), (by rfl), H', ⟨by have := HK1.out; omega⟩, by repeat (first | exact zn.refl _ | apply zn.step)⟩
     ·rw [if_neg c7] at H
      exact absurd H (by simp)
    ·rw [if_neg c6] at H
     have c6b0 : decide (t102 < (a0.size : Int)) = false := decide_eq_false c6
     clear c6
     have H' := za.mk H
     clear H
     go_wp2_with (((with_reducible refine zw (f := 79) rfl ?_); refine goesA (some 7) Tryz.func79 #[.string a0, .int .i64 x3_1] ?_; (with_reducible refine (zgb.calls k1 a0 x3_1 t102 _ A2.out).mono ?_); rintro e w' ⟨rfl, ⟨nd, rfl⟩⟩; refine ⟨_, rfl, ?_⟩))
     go_roundg k1
     case measure => have := HK1.out; omega
     case rel => exact ⟨(t102), (by rfl), H', ⟨by have := HK1.out; omega⟩, by repeat (first | exact zn.refl _ | apply zn.step)⟩
def zxb.l0 : Nat → ByteArray → ByteArray → Int → Option (Int)
 | 0, _, _, _ => none
 | k + 1, x0, x1, x5 => if (wrap64 (x5 + (x1.size : Int))) ≤ (x0.size : Int) then (if 0 ≤ x5 then (if x5 ≤ (wrap64 (x5 + (x1.size : Int))) then (if (x0.extract (x5 : Int).toNat ((wrap64 (x5 + (x1.size : Int))) : Int).toNat).toList = x1.toList then (some x5) else (zxb.l0 k x0 x1 (wrap64 (x5 + 1)))) else (none)) else (none)) else (some (-1))
def zxb.f (k : Nat) (a0 : ByteArray) (a1 : ByteArray) : Option (Int) := zxb.l0 k a0 a1 0
theorem zxb.calls (k : Nat) (a0 : ByteArray) (a1 : ByteArray) (r : Int) (w : World) (h : zxb.f k a0 a1 = some r) :
  Calls Tryz.prog 80 #[.string a0, .string a1] w fun e w' => e = .returned (.int .i64 r) ∧ zn w w' := by
 have H : (zxb.l0 k a0 a1 0) = some r := h
 clear h
 have H' := za.mk H
 clear H
 go_enter Tryz.func80, Tryz.ntmps80
 go_wp2
 (try simp only [Act.put, List.setIfInBounds_toArray, List.set_cons_zero, List.set_cons_succ])
 go_loopg [5] k (fun kq v5 w' => ∃ (x5_1 : Int), v5 = .int .i64 x5_1 ∧ za (zxb.l0 kq a0 a1 x5_1 = some r) ∧ za (kq ≤ k) ∧ zn w w')
 case atStart => exact ⟨(0), (by rfl), H', ⟨Nat.le_refl _⟩, by repeat (first | exact zn.refl _ | apply zn.step)⟩
 case round =>
  clear H'
  obtain ⟨x5_1, rfl, HA, HK1, ⟨m1, rfl⟩⟩ := hrel
  cases gk with
  | zero => exact absurd HA.out (by simp [zxb.l0])
  | succ k1 =>
   have H := HA.out
   clear HA
   simp only [zxb.l0] at H
   by_cases c3 : (wrap64 (x5_1 + (a1.size : Int))) ≤ (a0.size : Int)
   ·rw [if_pos c3] at H
    have c3b0 : decide ((wrap64 (x5_1 + (a1.size : Int))) ≤ (a0.size : Int)) = true := decide_eq_true c3
    clear c3
    by_cases c4 : 0 ≤ x5_1
    ·rw [if_pos c4] at H
     have c4b0 := eq_true c4
     have c4b1 : decide (0 ≤ x5_1) = true := decide_eq_true c4
     clear c4
     by_cases c5 : x5_1 ≤ (wrap64 (x5_1 + (a1.size : Int)))
     ·rw [if_pos c5] at H
      have c5b0 := eq_true c5
      have c5b1 : decide (x5_1 ≤ (wrap64 (x5_1 + (a1.size : Int)))) = true := decide_eq_true c5
      have c6b0 := eq_true (of_decide_eq_true (by (with_reducible assumption)) : (wrap64 (x5_1 + (a1.size : Int))) ≤ (a0.size : Int))
      by_cases c7 : (a0.extract (x5_1 : Int).toNat ((wrap64 (x5_1 + (a1.size : Int))) : Int).toNat).toList = a1.toList
      ·rw [if_pos c7] at H
       have c7b0 : ((a0.extract (x5_1 : Int).toNat ((wrap64 (x5_1 + (a1.size : Int))) : Int).toNat).toList == a1.toList) = true := beq_iff_eq.mpr c7
       have c7b1 : ((a0.extract (x5_1 : Int).toNat ((wrap64 (x5_1 + (a1.size : Int))) : Int).toNat).toList != a1.toList) = false := bne_eq_false_iff_eq.mpr c7
       clear c7
       obtain rfl := Option.some.inj H
       go_wp2
       go_ret
       exact ⟨by rfl, by repeat (first | exact zn.refl _ | apply zn.step)⟩
      ·rw [if_neg c7] at H
       have c7b0 : ((a0.extract (x5_1 : Int).toNat ((wrap64 (x5_1 + (a1.size : Int))) : Int).toNat).toList == a1.toList) = false := beq_eq_false_iff_ne.mpr c7
       have c7b1 : ((a0.extract (x5_1 : Int).toNat ((wrap64 (x5_1 + (a1.size : Int))) : Int).toNat).toList != a1.toList) = true := bne_iff_ne.mpr c7
       have H' := za.mk H
       clear H
       go_wp2
       go_roundg k1
       case measure => have := HK1.out; omega
       case rel => exact ⟨(wrap64 (x5_1 + 1)), (by rfl), H', ⟨by have := HK1.out; omega⟩, by repeat (first | exact zn.refl _ | apply zn.step)⟩
     ·rw [if_neg c5] at H
      exact absurd H (by simp)
    ·rw [if_neg c4] at H
     exact absurd H (by simp)
   ·rw [if_neg c3] at H
    have c3b0 : decide ((wrap64 (x5_1 + (a1.size : Int))) ≤ (a0.size : Int)) = false := decide_eq_false c3
    clear c3
    obtain rfl := Option.some.inj H
    go_wp2
    go_ret
    exact ⟨by rfl, by repeat (first | exact zn.refl _ | apply zn.step)⟩
def zob.l1 : Nat → ByteArray → ByteArray → List ByteArray → Option (List ByteArray)
 | 0, _, _, _ => none
 | k + 1, x0, x1, x5 => (zxb.f k x0 x1).bind fun t103 => (if t103 < 0 then (if x5.length < 8796093022208 then (some (x5 ++ [x0])) else (none)) else (if 0 ≤ t103 then (if t103 ≤ (x0.size : Int) then (if x5.length < 8796093022208 then (if 0 ≤ (wrap64 (t103 + (x1.size : Int))) then (if (wrap64 (t103 + (x1.size : Int))) ≤ (x0.size : Int) then (zob.l1 k (x0.extract ((wrap64 (t103 + (x1.size : Int))) : Int).toNat x0.size) x1 (x5 ++ [x0.extract 0 (t103 : Int).toNat])) else (none)) else (none)) else (none)) else (none)) else (none)))
def zob.f (k : Nat) (a0 : ByteArray) (a1 : ByteArray) : Option (List ByteArray) := if (a1.size : Int) = 0 then (none) else (zob.l1 k a0 a1 ([] : List ByteArray))
theorem zob.calls (k : Nat) (a0 : ByteArray) (a1 : ByteArray) (r : List ByteArray) (w : World) (h : zob.f k a0 a1 = some r) :
  Calls Tryz.prog 61 #[.string a0, .string a1] w fun e w' => ∃ v0_ : Value, e = .returned (v0_) ∧ Kd.R Kd.string 9 w' w.heap.size (fun _ => True) v0_ r ∧ Below w.heap.size w w' := by
 have HB := za.mk (Below.refl w.heap.size w)
 have H : (if (a1.size : Int) = 0 then (none) else (zob.l1 k a0 a1 ([] : List ByteArray))) = some r := h
 clear h
 by_cases c3 : (a1.size : Int) = 0
 ·rw [if_pos c3] at H
  exact absurd H (by simp)
 ·rw [if_neg c3] at H
  have c3b0 : ((a1.size : Int) == 0) = false := beq_eq_false_iff_ne.mpr c3
  have c3b1 : ((a1.size : Int) != 0) = true := bne_iff_ne.mpr c3
  have H' := za.mk H
  clear H
  go_enter Tryz.func61, Tryz.ntmps61
  go_wp2
  (try simp only [Act.put, List.setIfInBounds_toArray, List.set_cons_zero, List.set_cons_succ])
  go_loopg [0, 5] k (fun kq v0 v5 w' => ∃ (x0_1 : ByteArray) (x5_1 : List ByteArray), v0 = .string x0_1 ∧ za (zob.l1 kq x0_1 a1 x5_1 = some r) ∧ za (kq ≤ k) ∧ za (Kd.R Kd.string 9 w' w.heap.size (fun _ => True) v5 x5_1) ∧ za (Below w.heap.size w w'))
  case atStart => exact ⟨(a0), (([] : List ByteArray)), (by rfl), H', ⟨Nat.le_refl _⟩, ⟨by exact Kd.R_nil _ _ _ _ _⟩, ⟨by (with_reducible exact HB.out)⟩⟩
  case round =>
   clear H'
   clear c3 c3b0 c3b1
   obtain ⟨x0_1, x5_1, rfl, HA, HK1, HO_5, HB⟩ := hrel
   cases gk with
   | zero => exact absurd HA.out (by simp [zob.l1])
   | succ k1 =>
    have H := HA.out
    clear HA
    simp only [zob.l1] at H
    replace H := Option.bind_eq_some_iff.mp H
    obtain ⟨t103, A40, H⟩ := H
    replace H : (if t103 < 0 then (if x5_1.length < 8796093022208 then (some (x5_1 ++ [x0_1])) else (none)) else (if 0 ≤ t103 then (if t103 ≤ (x0_1.size : Int) then (if x5_1.length < 8796093022208 then (if 0 ≤ (wrap64 (t103 + (a1.size : Int))) then (if (wrap64 (t103 + (a1.size : Int))) ≤ (x0_1.size : Int) then (zob.l1 k1 (x0_1.extract ((wrap64 (t103 + (a1.size : Int))) : Int).toNat x0_1.size) a1 (x5_1 ++ [x0_1.extract 0 (t103 : Int).toNat])) else (none)) else (none)) else (none)) else (none)) else (none))) = some r := H
    have A4 := za.mk A40
    clear A40
    by_cases c5 : t103 < 0
    ·rw [if_pos c5] at H
     have c5b0 : decide (t103 < 0) = true := decide_eq_true c5
     clear c5
     by_cases c6 : x5_1.length < 8796093022208
     ·rw [if_pos c6] at H
      have LMc6 := za.mk c6
      clear c6
      obtain ⟨y104, hy104⟩ : ∃ y_ : List ByteArray, y_ = (x5_1 ++ [x0_1]) := ⟨_, rfl⟩
      replace H : (some y104) = some r := by (rw [hy104]; with_reducible exact H)
      have Ny104 := za.mk hy104
      clear hy104
      obtain rfl := Option.some.inj H
      go_wp2_with (first | ((with_reducible refine zw (f := 80) rfl ?_); refine goesA (some 39) Tryz.func80 #[.string x0_1, .string a1] ?_; (with_reducible refine (zxb.calls k1 x0_1 a1 t103 _ A4.out).mono ?_); rintro e w' ⟨rfl, ⟨nd, rfl⟩⟩; refine ⟨_, rfl, ?_⟩) | ((with_reducible refine zyd (b := .append) (xs := #[.tmp 42, .tmp 44]) rfl ?_); at_builtin; refine Kd.R_append Kd.string (w0 := w) w.heap.size rfl (.tmp 42) (.tmp 44) 57 9 (.string ⟨#[]⟩) 16 rfl Tryz.underlying57 info9 rfl (by decide) (by omega) u5 x5_1 x0_1 [.string x0_1] (fun _ => True) (fun _ => False) rfl rfl ?aP (fun _ hk => hk.elim) ?aF ?aO ?aB ?aS ?aL ?_; (case aP => exact rfl); (case aB => exact (by (with_reducible apply zd; with_reducible exact HB.out))); (case aF => exact (fun _ _ => trivial)); (case aO => exact (RW HO_5.out)); (case aS => exact (zm (by (with_reducible apply zd; with_reducible exact HB.out)))); (case aL => have := LMc6.out; omega); intro v105 w7 ho hb hg hat; rw [← Ny104.out] at ho; have HO106 := za.mk ho; replace HB := za.mk hb; clear HO_5; clear ho hb hg hat))
      go_ret
      exact ⟨_, by rfl, by (with_reducible repeat (first | apply Kd.R_alloc | apply Kd.R_drewN | apply Kd.R_drew)); exact HO106.out, by (with_reducible exact HB.out)⟩
     ·rw [if_neg c6] at H
      exact absurd H (by simp)
    ·rw [if_neg c5] at H
     have c5b0 : decide (t103 < 0) = false := decide_eq_false c5
     clear c5
     by_cases c8 : 0 ≤ t103
     ·rw [if_pos c8] at H
      have c8b0 := eq_true c8
      have c8b1 : decide (0 ≤ t103) = true := decide_eq_true c8
      clear c8
      by_cases c9 : t103 ≤ (x0_1.size : Int)
      ·rw [if_pos c9] at H
       have c9b0 := eq_true c9
       have c9b1 : decide (t103 ≤ (x0_1.size : Int)) = true := decide_eq_true c9
       clear c9
       by_cases c10 : x5_1.length < 8796093022208
       ·rw [if_pos c10] at H
        have LMc10 := za.mk c10
        clear c10
        obtain ⟨y107, hy107⟩ : ∃ y_ : List ByteArray, y_ = (x5_1 ++ [x0_1.extract 0 (t103 : Int).toNat]) := ⟨_, rfl⟩
        replace H : (if 0 ≤ (wrap64 (t103 + (a1.size : Int))) then (if (wrap64 (t103 + (a1.size : Int))) ≤ (x0_1.size : Int) then (zob.l1 k1 (x0_1.extract ((wrap64 (t103 + (a1.size : Int))) : Int).toNat x0_1.size) a1 y107) else (none)) else (none)) = some r := by (rw [hy107]; with_reducible exact H)
        have Ny107 := za.mk hy107
        clear hy107
        obtain ⟨ji11, hji11⟩ : ∃ j_ : Int, (wrap64 (t103 + (a1.size : Int))) = j_ := ⟨_, rfl⟩
        replace H : (if 0 ≤ (ji11) then (if (ji11) ≤ (x0_1.size : Int) then (zob.l1 k1 (x0_1.extract ((ji11) : Int).toNat x0_1.size) a1 y107) else (none)) else (none)) = some r := by (rw [hji11] at H; exact H)
        (try rw [hji11] at A4)
        have hji11w : (IntKind.i64.wrap (t103 + (a1.size : Int))) = ji11 := (i64_w _).trans hji11
        by_cases c12 : 0 ≤ (ji11)
        ·rw [if_pos c12] at H
         have c12b0 := eq_true c12
         have c12b1 : decide (0 ≤ (ji11)) = true := decide_eq_true c12
         clear c12
         by_cases c13 : (ji11) ≤ (x0_1.size : Int)
         ·rw [if_pos c13] at H
          have c13b0 := eq_true c13
          have c13b1 : decide ((ji11) ≤ (x0_1.size : Int)) = true := decide_eq_true c13
          clear c13
          have H' := za.mk H
          clear H
          go_wp2_with (first | ((with_reducible refine zw (f := 80) rfl ?_); refine goesA (some 39) Tryz.func80 #[.string x0_1, .string a1] ?_; (with_reducible refine (zxb.calls k1 x0_1 a1 t103 _ A4.out).mono ?_); rintro e w' ⟨rfl, ⟨nd, rfl⟩⟩; refine ⟨_, rfl, ?_⟩) | ((with_reducible refine zyd (b := .append) (xs := #[.tmp 46, .tmp 50]) rfl ?_); at_builtin; refine Kd.R_append Kd.string (w0 := w) w.heap.size rfl (.tmp 46) (.tmp 50) 57 9 (.string ⟨#[]⟩) 16 rfl Tryz.underlying57 info9 rfl (by decide) (by omega) u5 x5_1 (x0_1.extract 0 (t103 : Int).toNat) [.string (x0_1.extract 0 (t103 : Int).toNat)] (fun _ => True) (fun _ => False) rfl rfl ?aP (fun _ hk => hk.elim) ?aF ?aO ?aB ?aS ?aL ?_; (case aP => exact rfl); (case aB => exact (by (with_reducible apply zd; with_reducible exact HB.out))); (case aF => exact (fun _ _ => trivial)); (case aO => exact (RW HO_5.out)); (case aS => exact (zm (by (with_reducible apply zd; with_reducible exact HB.out)))); (case aL => have := LMc10.out; omega); intro v108 w14 ho hb hg hat; rw [← Ny107.out] at ho; have HO109 := za.mk ho; replace HB := za.mk hb; clear HO_5; clear ho hb hg hat))
          go_roundg k1
          case measure => have := HK1.out; omega
          case rel => exact ⟨(x0_1.extract ((ji11) : Int).toNat x0_1.size), (y107), (by rfl), H', ⟨by have := HK1.out; omega⟩, ⟨by (with_reducible repeat (first | apply Kd.R_alloc | apply Kd.R_drewN | apply Kd.R_drew)); exact HO109.out⟩, ⟨by (with_reducible exact HB.out)⟩⟩
         ·rw [if_neg c13] at H
          exact absurd H (by simp)
        ·rw [if_neg c12] at H
         exact absurd H (by simp)
       ·rw [if_neg c10] at H
        exact absurd H (by simp)
      ·rw [if_neg c9] at H
       exact absurd H (by simp)
     ·rw [if_neg c8] at H
      exact absurd H (by simp)
def zec.f (a0 : ByteArray) : Option (Bool) := if a0.toList = ([] : List UInt8) then (some false) else (if 0 < (a0.size : Int) then (if (bt a0 0) ≥ 97 then (some (decide ((bt a0 0) ≤ 122))) else (some false)) else (none))
theorem zec.calls (a0 : ByteArray) (r : Bool) (w : World) (h : zec.f a0 = some r) :
  Calls Tryz.prog 64 #[.string a0] w fun e w' => e = .returned (.bool r) ∧ zn w w' := by
 have H : (if a0.toList = ([] : List UInt8) then (some false) else (if 0 < (a0.size : Int) then (if (bt a0 0) ≥ 97 then (some (decide ((bt a0 0) ≤ 122))) else (some false)) else (none))) = some r := h
 clear h
 by_cases c2 : a0.toList = ([] : List UInt8)
 ·rw [if_pos c2] at H
  have c2b0 : (a0.toList == ([] : List UInt8)) = true := beq_iff_eq.mpr c2
  have c2b1 : (a0.toList != ([] : List UInt8)) = false := bne_eq_false_iff_eq.mpr c2
  try have c2b9 : a0.toList.isEmpty = true := by simpa using c2b0
  clear c2
  obtain rfl := Option.some.inj H
  go_enter Tryz.func64, Tryz.ntmps64
  go_wp2
  go_ret
  exact ⟨by rfl, by repeat (first | exact zn.refl _ | apply zn.step)⟩
 ·rw [if_neg c2] at H
  have c2b0 : (a0.toList == ([] : List UInt8)) = false := beq_eq_false_iff_ne.mpr c2
  have c2b1 : (a0.toList != ([] : List UInt8)) = true := bne_iff_ne.mpr c2
  try have c2b9 : a0.toList.isEmpty = false := by simpa using c2b0
  by_cases c3 : 0 < (a0.size : Int)
  ·rw [if_pos c3] at H
   have c3b0 : decide (0 < (a0.size : Int)) = true := decide_eq_true c3
   have c3b1 : decide (0 < a0.size) = true := decide_eq_true (by omega)
   clear c3
   by_cases c5 : (bt a0 0) ≥ 97
   ·rw [if_pos c5] at H
    have c5b0 : decide (97 ≤ (bt a0 0)) = true := decide_eq_true c5
    clear c5
    obtain rfl := Option.some.inj H
    have p4 : 0 ≤ (0 : Int) := (by omega)
    have q4 : 0 < a0.size := (by have : (0 : Int) < (a0.size : Int) := of_decide_eq_true (by (with_reducible assumption)); omega)
    have hx4 : ∀ h : 0 < a0.size, ((a0[0]'h).toNat : Int) = bt a0 0 := bt_at a0 0
    clear p4
    have qi4 : (0 < (a0.size : Int)) = True := eq_true (of_decide_eq_true (by (with_reducible assumption)))
    replace q4 := eq_true q4
    have p6 : 0 ≤ (0 : Int) := (by omega)
    have q6 : 0 < a0.size := (by have : (0 : Int) < (a0.size : Int) := of_decide_eq_true (by (with_reducible assumption)); omega)
    have hx6 : ∀ h : 0 < a0.size, ((a0[0]'h).toNat : Int) = bt a0 0 := bt_at a0 0
    clear p6
    have qi6 : (0 < (a0.size : Int)) = True := eq_true (of_decide_eq_true (by (with_reducible assumption)))
    replace q6 := eq_true q6
    go_enter Tryz.func64, Tryz.ntmps64
    go_wp2
    go_ret
    exact ⟨by rfl, by repeat (first | exact zn.refl _ | apply zn.step)⟩
   ·rw [if_neg c5] at H
    have c5b0 : decide (97 ≤ (bt a0 0)) = false := decide_eq_false c5
    clear c5
    obtain rfl := Option.some.inj H
    have p4 : 0 ≤ (0 : Int) := (by omega)
    have q4 : 0 < a0.size := (by have : (0 : Int) < (a0.size : Int) := of_decide_eq_true (by (with_reducible assumption)); omega)
    have hx4 : ∀ h : 0 < a0.size, ((a0[0]'h).toNat : Int) = bt a0 0 := bt_at a0 0
    clear p4
    have qi4 : (0 < (a0.size : Int)) = True := eq_true (of_decide_eq_true (by (with_reducible assumption)))
    replace q4 := eq_true q4
    go_enter Tryz.func64, Tryz.ntmps64
    go_wp2
    go_ret
    exact ⟨by rfl, by repeat (first | exact zn.refl _ | apply zn.step)⟩
  ·rw [if_neg c3] at H
   exact absurd H (by simp)
def zec.Pure : Prop := ∀ (a0 : ByteArray), a0.size ≤ 140737488351232 → zec.f a0 = some true
def zgc.f (a0 : ByteArray) (a1 : Int) (a2 : ByteArray) : Option (Bool) := if (wrap64 ((a0.size : Int) - a1)) ≥ (a2.size : Int) then (if 0 ≤ a1 then (if a1 ≤ (wrap64 (a1 + (a2.size : Int))) then (if (wrap64 (a1 + (a2.size : Int))) ≤ (a0.size : Int) then (some ((a0.extract (a1 : Int).toNat ((wrap64 (a1 + (a2.size : Int))) : Int).toNat).toList == a2.toList)) else (none)) else (none)) else (none)) else (some false)
theorem zgc.calls (a0 : ByteArray) (a1 : Int) (a2 : ByteArray) (r : Bool) (w : World) (h : zgc.f a0 a1 a2 = some r) :
  Calls Tryz.prog 83 #[.string a0, .int .i64 a1, .string a2] w fun e w' => e = .returned (.bool r) ∧ zn w w' := by
 have H : (if (wrap64 ((a0.size : Int) - a1)) ≥ (a2.size : Int) then (if 0 ≤ a1 then (if a1 ≤ (wrap64 (a1 + (a2.size : Int))) then (if (wrap64 (a1 + (a2.size : Int))) ≤ (a0.size : Int) then (some ((a0.extract (a1 : Int).toNat ((wrap64 (a1 + (a2.size : Int))) : Int).toNat).toList == a2.toList)) else (none)) else (none)) else (none)) else (some false)) = some r := h
 clear h
 by_cases c4 : (wrap64 ((a0.size : Int) - a1)) ≥ (a2.size : Int)
 ·rw [if_pos c4] at H
  have c4b0 : decide ((a2.size : Int) ≤ (wrap64 ((a0.size : Int) - a1))) = true := decide_eq_true c4
  clear c4
  by_cases c5 : 0 ≤ a1
  ·rw [if_pos c5] at H
   have c5b0 := eq_true c5
   have c5b1 : decide (0 ≤ a1) = true := decide_eq_true c5
   clear c5
   by_cases c6 : a1 ≤ (wrap64 (a1 + (a2.size : Int)))
   ·rw [if_pos c6] at H
    have c6b0 := eq_true c6
    have c6b1 : decide (a1 ≤ (wrap64 (a1 + (a2.size : Int)))) = true := decide_eq_true c6
    by_cases c7 : (wrap64 (a1 + (a2.size : Int))) ≤ (a0.size : Int)
    ·rw [if_pos c7] at H
     have c7b0 := eq_true c7
     have c7b1 : decide ((wrap64 (a1 + (a2.size : Int))) ≤ (a0.size : Int)) = true := decide_eq_true c7
     obtain rfl := Option.some.inj H
     go_enter Tryz.func83, Tryz.ntmps83
     go_wp2
     go_ret
     exact ⟨by rfl, by repeat (first | exact zn.refl _ | apply zn.step)⟩
    ·rw [if_neg c7] at H
     exact absurd H (by simp)
   ·rw [if_neg c6] at H
    exact absurd H (by simp)
  ·rw [if_neg c5] at H
   exact absurd H (by simp)
 ·rw [if_neg c4] at H
  have c4b0 : decide ((a2.size : Int) ≤ (wrap64 ((a0.size : Int) - a1))) = false := decide_eq_false c4
  clear c4
  obtain rfl := Option.some.inj H
  go_enter Tryz.func83, Tryz.ntmps83
  go_wp2
  go_ret
  exact ⟨by rfl, by repeat (first | exact zn.refl _ | apply zn.step)⟩
def zgc.Pure : Prop := ∀ (a0 : ByteArray) (a1 : Int) (a2 : ByteArray), a0.size ≤ 140737488351232 → (Lit.int .i64 a1).wf = true → a2.size ≤ 140737488351232 → zgc.f a0 a1 a2 = some true
end Go.Proofs.YtapaijpglfmfgaaGreatDoor.S
end
section
namespace Go.Proofs.YtapaijpglfmfgaaGreatDoor.S
open Go.RowKit YtapaijpglfmfgaaGreatDoorH YtapaijpglfmfgaaGreatDoorW.PrintWords YtapaijpglfmfgaaGreatDoorW.PrintLast YtapaijpglfmfgaaGreatDoorW.PrintMore YtapaijpglfmfgaaGreatDoorC
attribute [local go_sem] zfd zjd ztd zud zsc ztc zgd zkd
mutual
def zh.l0 : Nat → ByteArray → List (List ByteArray) → Int → Option ((List (List ByteArray)))
 | 0, _, _, _ => none
 | k + 1, x0, x3, x4 => if x4 < (x0.size : Int) then (if 0 ≤ x4 then (if (bt x0 x4) = 95 then ((some (([(⟨#[97, 108, 112, 104, 97]⟩ : ByteArray), (⟨#[98, 101, 116, 97]⟩ : ByteArray), (⟨#[112, 114, 101]⟩ : ByteArray), (⟨#[114, 99]⟩ : ByteArray), (⟨#[99, 118, 115]⟩ : ByteArray), (⟨#[115, 118, 110]⟩ : ByteArray), (⟨#[103, 105, 116]⟩ : ByteArray), (⟨#[104, 103]⟩ : ByteArray), (⟨#[112]⟩ : ByteArray)] : List ByteArray) : List ByteArray)).bind fun y110 => (zh.l1 k x0 x3 x4 (⟨#[]⟩ : ByteArray) y110 (y110.length : Int) 0)) else (zh.l0 k x0 x3 (wrap64 (x4 + 1)))) else (none)) else (some x3)
def zh.l1 : Nat → ByteArray → List (List ByteArray) → Int → ByteArray → List ByteArray → Int → Int → Option ((List (List ByteArray)))
 | 0, _, _, _, _, _, _, _ => none
 | k + 1, x0, x3, x4, x5, x20, x21, x22 => if x22 < x21 then (if 0 ≤ x22 then (if x22 < (x20.length : Int) then (if x5.toList = ([] : List UInt8) then ((zgc.f x0 (wrap64 (x4 + 1)) (rdOf ByteArray.empty x20 x22)).bind fun t114 => (if t114 = true then (zh.l1 k x0 x3 x4 (rdOf ByteArray.empty x20 x22) x20 x21 (wrap64 (x22 + 1))) else (zh.l1 k x0 x3 x4 x5 x20 x21 (wrap64 (x22 + 1))))) else (zh.l1 k x0 x3 x4 x5 x20 x21 (wrap64 (x22 + 1)))) else (none)) else (none)) else (if x5.toList = ([] : List UInt8) then (zh.l0 k x0 x3 (wrap64 (x4 + 1))) else ((zgb.f k x0 (wrap64 ((wrap64 (x4 + 1)) + (x5.size : Int)))).bind fun t115 => (if 0 ≤ x4 then (if x4 ≤ t115 then (if t115 ≤ (x0.size : Int) then (if 0 ≤ (wrap64 ((wrap64 (x4 + 1)) + (x5.size : Int))) then (if (wrap64 ((wrap64 (x4 + 1)) + (x5.size : Int))) ≤ t115 then (if x3.length < 5864062014805 then (zh.l0 k x0 (x3 ++ [(([x0.extract (x4 : Int).toNat (t115 : Int).toNat, x5, x0.extract ((wrap64 ((wrap64 (x4 + 1)) + (x5.size : Int))) : Int).toNat (t115 : Int).toNat] : List ByteArray))]) t115) else (none)) else (none)) else (none)) else (none)) else (none)) else (none))))
end
def zh.f (k : Nat) (a0 : ByteArray) : Option ((List (List ByteArray))) := zh.l0 k a0 ([] : List (List ByteArray)) 0
def zh.T17 : Bool × List (List Nat × List Nat) := (true, [([], []), ([], []), ([], []), ([], []), ([1, 2, 3], [1, 2, 3]), ([], []), ([], []), ([], []), ([], []), ([6, 7, 8], [6, 7, 8]), ([4, 5, 9], [4, 5, 9]), ([10], [10]), ([0, 11], [0, 11]), ([12, 12, 0, 1, 2, 3, 4, 5, 6, 7, 8, 9, 10, 11, 12], [0, 12])])
def zh.B17 : List Nat := [0, 0, 0, 0, 14, 0, 0, 0, 0, 448, 1022, 2046, 4095, 8191]
theorem zh.tab17 : rtab .any (opsOf Tryz.f65 17) = zh.T17 := by kernel_rfl
theorem zh.bits17 : zfi zh.T17.2 zh.B17 = true := by kernel_rfl
theorem zh.calls (k : Nat) (a0 : ByteArray) (r : List (List ByteArray)) (w : World) (h : zh.f k a0 = some r) :
  Calls Tryz.prog 65 #[.string a0] w fun e w' => ∃ v0_ : Value, e = .returned (v0_) ∧ Kd.S (Kd.slice 9 Kd.string) 57 w' w.heap.size (fun _ => True) v0_ r ∧ Below w.heap.size w w' := by
 have HB := za.mk (Below.refl w.heap.size w)
 have H : (zh.l0 k a0 ([] : List (List ByteArray)) 0) = some r := h
 clear h
 have H' := za.mk H
 clear H
 go_enter Tryz.func65, Tryz.ntmps65
 go_wp2
 (try simp only [Act.put, List.setIfInBounds_toArray, List.set_cons_zero, List.set_cons_succ])
 go_loopg [3, 4] k (fun kq v3 v4 w' => ∃ (x3_1 : List (List ByteArray)) (x4_1 : Int), v4 = .int .i64 x4_1 ∧ za (zh.l0 kq a0 x3_1 x4_1 = some r) ∧ za (kq ≤ k) ∧ za (Kd.S (Kd.slice 9 Kd.string) 57 w' w.heap.size (fun _ => True) v3 x3_1) ∧ za (Below w.heap.size w w'))
 case atStart => exact ⟨(([] : List (List ByteArray))), (0), (by rfl), H', ⟨Nat.le_refl _⟩, ⟨by exact Kd.S_nil _ _ _ _ _⟩, ⟨by (with_reducible exact HB.out)⟩⟩
 case round =>
  clear H'
  obtain ⟨x3_1, x4_1, rfl, HA, HK1, HO_3, HB⟩ := hrel
  cases gk with
  | zero => exact absurd HA.out (by simp [zh.l0])
  | succ k1 =>
   have H := HA.out
   clear HA
   simp only [zh.l0] at H
   by_cases c2 : x4_1 < (a0.size : Int)
   ·rw [if_pos c2] at H
    have c2b0 : decide (x4_1 < (a0.size : Int)) = true := decide_eq_true c2
    clear c2
    by_cases c3 : 0 ≤ x4_1
    ·rw [if_pos c3] at H
     have c3b0 : decide (0 ≤ x4_1) = true := decide_eq_true c3
     clear c3
     by_cases c5 : (bt a0 x4_1) = 95
     ·rw [if_pos c5] at H
      have c5b0 : ((bt a0 x4_1) == 95) = true := beq_iff_eq.mpr c5
      have c5b1 : ((bt a0 x4_1) != 95) = false := bne_eq_false_iff_eq.mpr c5
      clear c5
      obtain ⟨y110, hy110⟩ : ∃ y_ : List ByteArray, y_ = (([(⟨#[97, 108, 112, 104, 97]⟩ : ByteArray), (⟨#[98, 101, 116, 97]⟩ : ByteArray), (⟨#[112, 114, 101]⟩ : ByteArray), (⟨#[114, 99]⟩ : ByteArray), (⟨#[99, 118, 115]⟩ : ByteArray), (⟨#[115, 118, 110]⟩ : ByteArray), (⟨#[103, 105, 116]⟩ : ByteArray), (⟨#[104, 103]⟩ : ByteArray), (⟨#[112]⟩ : ByteArray)] : List ByteArray)) := ⟨_, rfl⟩
      replace H : (zh.l1 k1 a0 x3_1 x4_1 (⟨#[]⟩ : ByteArray) y110 (y110.length : Int) 0) = some r := by (have H2_ := (Option.bind_some _ _).symm.trans H; rw [hy110]; with_reducible exact H2_)
      have Ny110 := za.mk hy110
      clear hy110
      have H' := za.mk H
      clear H
      have p4 : 0 ≤ (x4_1 : Int) := of_decide_eq_true (by (with_reducible assumption))
      have q4 : x4_1 < (a0.size : Int) := of_decide_eq_true (by (with_reducible assumption))
      have hx4 := bt_at a0 x4_1
      replace p4 := eq_true p4
      replace q4 := eq_true q4
      go_wp2_with (((with_reducible refine znb (N := 20) rfl ?_); refine Kd.R_lit Kd.string _ 9 ?hg (N := 20) ?hd (xs := ([(⟨#[97, 108, 112, 104, 97]⟩ : ByteArray), (⟨#[98, 101, 116, 97]⟩ : ByteArray), (⟨#[112, 114, 101]⟩ : ByteArray), (⟨#[114, 99]⟩ : ByteArray), (⟨#[99, 118, 115]⟩ : ByteArray), (⟨#[115, 118, 110]⟩ : ByteArray), (⟨#[103, 105, 116]⟩ : ByteArray), (⟨#[104, 103]⟩ : ByteArray), (⟨#[112]⟩ : ByteArray)] : List ByteArray)) (inner := [.string (⟨#[97, 108, 112, 104, 97]⟩ : ByteArray), .string (⟨#[98, 101, 116, 97]⟩ : ByteArray), .string (⟨#[112, 114, 101]⟩ : ByteArray), .string (⟨#[114, 99]⟩ : ByteArray), .string (⟨#[99, 118, 115]⟩ : ByteArray), .string (⟨#[115, 118, 110]⟩ : ByteArray), .string (⟨#[103, 105, 116]⟩ : ByteArray), .string (⟨#[104, 103]⟩ : ByteArray), .string (⟨#[112]⟩ : ByteArray)]) (ok := fun _ => True) (okp := fun _ => True) ?hr ?hp (fun _ hk => hk) trivial (Below.refl _ _) (Nat.le_refl _) (by simp) ?_; (case hd => rfl); (case hg => rfl); (case hr => first | (go_simp; done) | (go_simp; rfl)); (case hp => exact (Reps.one (show Kd.M Kd.string _ _ _ (⟨#[97, 108, 112, 104, 97]⟩ : ByteArray) [.string (⟨#[97, 108, 112, 104, 97]⟩ : ByteArray)] from rfl) (Reps.one (show Kd.M Kd.string _ _ _ (⟨#[98, 101, 116, 97]⟩ : ByteArray) [.string (⟨#[98, 101, 116, 97]⟩ : ByteArray)] from rfl) (Reps.one (show Kd.M Kd.string _ _ _ (⟨#[112, 114, 101]⟩ : ByteArray) [.string (⟨#[112, 114, 101]⟩ : ByteArray)] from rfl) (Reps.one (show Kd.M Kd.string _ _ _ (⟨#[114, 99]⟩ : ByteArray) [.string (⟨#[114, 99]⟩ : ByteArray)] from rfl) (Reps.one (show Kd.M Kd.string _ _ _ (⟨#[99, 118, 115]⟩ : ByteArray) [.string (⟨#[99, 118, 115]⟩ : ByteArray)] from rfl) (Reps.one (show Kd.M Kd.string _ _ _ (⟨#[115, 118, 110]⟩ : ByteArray) [.string (⟨#[115, 118, 110]⟩ : ByteArray)] from rfl) (Reps.one (show Kd.M Kd.string _ _ _ (⟨#[103, 105, 116]⟩ : ByteArray) [.string (⟨#[103, 105, 116]⟩ : ByteArray)] from rfl) (Reps.one (show Kd.M Kd.string _ _ _ (⟨#[104, 103]⟩ : ByteArray) [.string (⟨#[104, 103]⟩ : ByteArray)] from rfl) (Reps.one (show Kd.M Kd.string _ _ _ (⟨#[112]⟩ : ByteArray) [.string (⟨#[112]⟩ : ByteArray)] from rfl) (Reps.none _ _))))))))))); intro v111 w6 ho7 hb hg_ hnew_; clear hg_ hnew_; (first | rw [← Ny110.out] at ho7 | (simp only [Int.reduceToNat] at ho7; rw [← Ny110.out] at ho7)); replace HO_3 := za.mk (Kd.S_elder' (by (with_reducible repeat (first | apply Kd.S_alloc | apply Kd.S_drewN | apply Kd.S_drew)); exact HO_3.out) (Kd.R_base ho7) hb); have HO112 := za.mk (Kd.R_lower ho7 (zm (by (with_reducible exact HB.out)))); replace HB := BS HB hb; clear hb ho7; obtain ⟨Ao8, co8, eo8⟩ := Kd.R_slice HO112.out; subst eo8))
      (try simp only [Act.put, List.setIfInBounds_toArray, List.set_cons_zero, List.set_cons_succ])
      go_loopg [5, 22] k1 (fun kq v5 v22 w' => ∃ (x5_2 : ByteArray) (x22_2 : Int), v5 = .string x5_2 ∧ v22 = .int .i64 x22_2 ∧ za (zh.l1 kq a0 x3_1 x4_1 x5_2 y110 (y110.length : Int) x22_2 = some r) ∧ za (kq ≤ k1) ∧ za (Kd.S (Kd.slice 9 Kd.string) 57 w' w.heap.size (fun k_ => some k_ ≠ ((.slice Ao8 y110.length co8) : Value).ownBlock) u3 x3_1) ∧ za (Kd.R Kd.string 9 w' w.heap.size (fun _ => True) (.slice Ao8 y110.length co8) y110) ∧ za (Below w.heap.size w w'))
      case atStart => exact ⟨((⟨#[]⟩ : ByteArray)), (0), (by rfl), (by rfl), H', ⟨Nat.le_refl _⟩, ⟨by (with_reducible repeat (first | apply Kd.S_alloc | apply Kd.S_drewN | apply Kd.S_drew)); exact Kd.S_mono HO_3.out (fun _ hk => hk.2)⟩, ⟨by (with_reducible repeat (first | apply Kd.R_alloc | apply Kd.R_drewN | apply Kd.R_drew)); exact HO112.out⟩, ⟨by (with_reducible exact HB.out)⟩⟩
      case round =>
       clear H'
       clear c2b0 c3b0 p4 q4 hx4 c5b0 c5b1
       obtain ⟨x5_2, x22_2, rfl, rfl, HA, HK2, HO_3, HO_20, HB⟩ := hrel
       cases gk with
       | zero => exact absurd HA.out (by simp [zh.l1])
       | succ k2 =>
        have H := HA.out
        clear HA
        simp only [zh.l1] at H
        by_cases c9 : x22_2 < (y110.length : Int)
        ·rw [if_pos c9] at H
         have c9b0 : decide (x22_2 < (y110.length : Int)) = true := decide_eq_true c9
         clear c9
         by_cases c10 : 0 ≤ x22_2
         ·rw [if_pos c10] at H
          have c10b0 : decide (0 ≤ x22_2) = true := decide_eq_true c10
          clear c10
          by_cases c11 : x22_2 < (y110.length : Int)
          ·rw [if_pos c11] at H
           have c11b0 : decide (x22_2 < (y110.length : Int)) = true := decide_eq_true c11
           clear c11
           by_cases c12 : x5_2.toList = ([] : List UInt8)
           ·rw [if_pos c12] at H
            have c12b0 : (x5_2.toList == ([] : List UInt8)) = true := beq_iff_eq.mpr c12
            have c12b1 : (x5_2.toList != ([] : List UInt8)) = false := bne_eq_false_iff_eq.mpr c12
            try have c12b9 : x5_2.toList.isEmpty = true := by simpa using c12b0
            clear c12
            replace H := Option.bind_eq_some_iff.mp H
            obtain ⟨t114, A130, H⟩ := H
            replace H : (if t114 = true then (zh.l1 k2 a0 x3_1 x4_1 (rdOf ByteArray.empty y110 x22_2) y110 (y110.length : Int) (wrap64 (x22_2 + 1))) else (zh.l1 k2 a0 x3_1 x4_1 x5_2 y110 (y110.length : Int) (wrap64 (x22_2 + 1)))) = some r := H
            have A13 := za.mk A130
            clear A130
            by_cases c14 : t114 = true
            ·subst c14
             have H1 : (zh.l1 k2 a0 x3_1 x4_1 (rdOf ByteArray.empty y110 x22_2) y110 (y110.length : Int) (wrap64 (x22_2 + 1))) = some r := by rw [if_pos rfl] at H; exact H
             clear H
             have H := H1
             clear H1
             have H' := za.mk H
             clear H
             have p113 : 0 ≤ (x22_2 : Int) := of_decide_eq_true (by (with_reducible assumption))
             have q113 : x22_2 < (y110.length : Int) := of_decide_eq_true (by (with_reducible assumption))
             obtain ⟨ad113, e113, hx113_0⟩ := Kd.at_string (Kd.R_reads' HO_20.out).2.2 x22_2 p113 q113
             cases e113
             replace p113 := eq_true p113
             replace q113 := eq_true q113
             go_wp2_with ((go_at_call 83; (with_reducible refine (zgc.calls a0 (wrap64 (x4_1 + 1)) (rdOf ByteArray.empty y110 x22_2) true _ A13.out).mono ?_); rintro e w' ⟨rfl, ⟨nd, rfl⟩⟩))
             go_roundg k2
             case measure => have := HK1.out; have := HK2.out; omega
             case rel => exact ⟨(rdOf ByteArray.empty y110 x22_2), (wrap64 (x22_2 + 1)), (by rfl), (by rfl), H', ⟨by have := HK1.out; have := HK2.out; omega⟩, ⟨by (with_reducible repeat (first | apply Kd.S_alloc | apply Kd.S_drewN | apply Kd.S_drew)); exact HO_3.out⟩, ⟨by (with_reducible repeat (first | apply Kd.R_alloc | apply Kd.R_drewN | apply Kd.R_drew)); exact HO_20.out⟩, ⟨by (with_reducible apply zd; with_reducible exact HB.out)⟩⟩
            ·replace c14 := Bool.eq_false_iff.mpr c14
             subst c14
             have H1 : (zh.l1 k2 a0 x3_1 x4_1 x5_2 y110 (y110.length : Int) (wrap64 (x22_2 + 1))) = some r := by rw [if_neg (show ¬ (false = true) by decide)] at H; exact H
             clear H
             have H := H1
             clear H1
             have H' := za.mk H
             clear H
             have p113 : 0 ≤ (x22_2 : Int) := of_decide_eq_true (by (with_reducible assumption))
             have q113 : x22_2 < (y110.length : Int) := of_decide_eq_true (by (with_reducible assumption))
             obtain ⟨ad113, e113, hx113_0⟩ := Kd.at_string (Kd.R_reads' HO_20.out).2.2 x22_2 p113 q113
             cases e113
             replace p113 := eq_true p113
             replace q113 := eq_true q113
             go_wp2_with ((go_at_call 83; (with_reducible refine (zgc.calls a0 (wrap64 (x4_1 + 1)) (rdOf ByteArray.empty y110 x22_2) false _ A13.out).mono ?_); rintro e w' ⟨rfl, ⟨nd, rfl⟩⟩))
             go_roundg k2
             case measure => have := HK1.out; have := HK2.out; omega
             case rel => exact ⟨(x5_2), (wrap64 (x22_2 + 1)), (by rfl), (by rfl), H', ⟨by have := HK1.out; have := HK2.out; omega⟩, ⟨by (with_reducible repeat (first | apply Kd.S_alloc | apply Kd.S_drewN | apply Kd.S_drew)); exact HO_3.out⟩, ⟨by (with_reducible repeat (first | apply Kd.R_alloc | apply Kd.R_drewN | apply Kd.R_drew)); exact HO_20.out⟩, ⟨by (with_reducible apply zd; with_reducible exact HB.out)⟩⟩
           ·rw [if_neg c12] at H
            have c12b0 : (x5_2.toList == ([] : List UInt8)) = false := beq_eq_false_iff_ne.mpr c12
            have c12b1 : (x5_2.toList != ([] : List UInt8)) = true := bne_iff_ne.mpr c12
            try have c12b9 : x5_2.toList.isEmpty = false := by simpa using c12b0
            have H' := za.mk H
            clear H
            have p113 : 0 ≤ (x22_2 : Int) := of_decide_eq_true (by (with_reducible assumption))
            have q113 : x22_2 < (y110.length : Int) := of_decide_eq_true (by (with_reducible assumption))
            obtain ⟨ad113, e113, hx113_0⟩ := Kd.at_string (Kd.R_reads' HO_20.out).2.2 x22_2 p113 q113
            cases e113
            replace p113 := eq_true p113
            replace q113 := eq_true q113
            go_wp2
            go_roundg k2
            case measure => have := HK1.out; have := HK2.out; omega
            case rel => exact ⟨(x5_2), (wrap64 (x22_2 + 1)), (by rfl), (by rfl), H', ⟨by have := HK1.out; have := HK2.out; omega⟩, ⟨by (with_reducible repeat (first | apply Kd.S_alloc | apply Kd.S_drewN | apply Kd.S_drew)); exact HO_3.out⟩, ⟨by (with_reducible repeat (first | apply Kd.R_alloc | apply Kd.R_drewN | apply Kd.R_drew)); exact HO_20.out⟩, ⟨by (with_reducible exact HB.out)⟩⟩
          ·rw [if_neg c11] at H
           exact absurd H (by simp)
         ·rw [if_neg c10] at H
          exact absurd H (by simp)
        ·rw [if_neg c9] at H
         have c9b0 : decide (x22_2 < (y110.length : Int)) = false := decide_eq_false c9
         clear c9
         by_cases c15 : x5_2.toList = ([] : List UInt8)
         ·rw [if_pos c15] at H
          have c15b0 : (x5_2.toList == ([] : List UInt8)) = true := beq_iff_eq.mpr c15
          have c15b1 : (x5_2.toList != ([] : List UInt8)) = false := bne_eq_false_iff_eq.mpr c15
          try have c15b9 : x5_2.toList.isEmpty = true := by simpa using c15b0
          clear c15
          have H' := za.mk H
          clear H
          go_wp2
          go_roundg k2
          case measure => have := HK1.out; have := HK2.out; omega
          case rel => exact ⟨(x3_1), (wrap64 (x4_1 + 1)), (by rfl), H', ⟨by have := HK1.out; have := HK2.out; omega⟩, ⟨by (with_reducible repeat (first | apply Kd.S_alloc | apply Kd.S_drewN | apply Kd.S_drew)); exact Kd.S_mono HO_3.out (fun _ hk => trivial)⟩, ⟨by (with_reducible exact HB.out)⟩⟩
         ·rw [if_neg c15] at H
          have c15b0 : (x5_2.toList == ([] : List UInt8)) = false := beq_eq_false_iff_ne.mpr c15
          have c15b1 : (x5_2.toList != ([] : List UInt8)) = true := bne_iff_ne.mpr c15
          try have c15b9 : x5_2.toList.isEmpty = false := by simpa using c15b0
          replace H := Option.bind_eq_some_iff.mp H
          obtain ⟨t115, A160, H⟩ := H
          replace H : (if 0 ≤ x4_1 then (if x4_1 ≤ t115 then (if t115 ≤ (a0.size : Int) then (if 0 ≤ (wrap64 ((wrap64 (x4_1 + 1)) + (x5_2.size : Int))) then (if (wrap64 ((wrap64 (x4_1 + 1)) + (x5_2.size : Int))) ≤ t115 then (if x3_1.length < 5864062014805 then (zh.l0 k2 a0 (x3_1 ++ [(([a0.extract (x4_1 : Int).toNat (t115 : Int).toNat, x5_2, a0.extract ((wrap64 ((wrap64 (x4_1 + 1)) + (x5_2.size : Int))) : Int).toNat (t115 : Int).toNat] : List ByteArray))]) t115) else (none)) else (none)) else (none)) else (none)) else (none)) else (none)) = some r := H
          have A16 := za.mk A160
          clear A160
          by_cases c17 : 0 ≤ x4_1
          ·rw [if_pos c17] at H
           have c17b0 := eq_true c17
           have c17b1 : decide (0 ≤ x4_1) = true := decide_eq_true c17
           clear c17
           by_cases c18 : x4_1 ≤ t115
           ·rw [if_pos c18] at H
            have c18b0 := eq_true c18
            have c18b1 : decide (x4_1 ≤ t115) = true := decide_eq_true c18
            clear c18
            by_cases c19 : t115 ≤ (a0.size : Int)
            ·rw [if_pos c19] at H
             have c19b0 := eq_true c19
             have c19b1 : decide (t115 ≤ (a0.size : Int)) = true := decide_eq_true c19
             clear c19
             obtain ⟨ji20, hji20⟩ : ∃ j_ : Int, (wrap64 ((wrap64 (x4_1 + 1)) + (x5_2.size : Int))) = j_ := ⟨_, rfl⟩
             replace H : (if 0 ≤ (ji20) then (if (ji20) ≤ t115 then (if x3_1.length < 5864062014805 then (zh.l0 k2 a0 (x3_1 ++ [(([a0.extract (x4_1 : Int).toNat (t115 : Int).toNat, x5_2, a0.extract ((ji20) : Int).toNat (t115 : Int).toNat] : List ByteArray))]) t115) else (none)) else (none)) else (none)) = some r := by (rw [hji20] at H; exact H)
             (try rw [hji20] at A16)
             have hji20w : (IntKind.i64.wrap ((wrap64 (x4_1 + 1)) + (x5_2.size : Int))) = ji20 := (i64_w _).trans hji20
             by_cases c21 : 0 ≤ (ji20)
             ·rw [if_pos c21] at H
              have c21b0 := eq_true c21
              have c21b1 : decide (0 ≤ (ji20)) = true := decide_eq_true c21
              clear c21
              by_cases c22 : (ji20) ≤ t115
              ·rw [if_pos c22] at H
               have c22b0 := eq_true c22
               have c22b1 : decide ((ji20) ≤ t115) = true := decide_eq_true c22
               clear c22
               have c23b0 := eq_true (of_decide_eq_true (by (with_reducible assumption)) : t115 ≤ (a0.size : Int))
               obtain ⟨y116, hy116⟩ : ∃ y_ : List ByteArray, y_ = (([a0.extract (x4_1 : Int).toNat (t115 : Int).toNat, x5_2, a0.extract ((ji20) : Int).toNat (t115 : Int).toNat] : List ByteArray)) := ⟨_, rfl⟩
               replace H : (if x3_1.length < 5864062014805 then (zh.l0 k2 a0 (x3_1 ++ [y116]) t115) else (none)) = some r := by (rw [hy116]; with_reducible exact H)
               have Ny116 := za.mk hy116
               clear hy116
               by_cases c24 : x3_1.length < 5864062014805
               ·rw [if_pos c24] at H
                have LMc24 := za.mk c24
                clear c24
                obtain ⟨y119, hy119⟩ : ∃ y_ : List (List ByteArray), y_ = (x3_1 ++ [y116]) := ⟨_, rfl⟩
                replace H : (zh.l0 k2 a0 y119 t115) = some r := by (rw [hy119]; with_reducible exact H)
                have Ny119 := za.mk hy119
                clear hy119
                have H' := za.mk H
                clear H
                try go_wp2_with (((with_reducible refine zw (f := 79) rfl ?_); refine goesL_ (some 48) rfl rfl Tryz.func79 (by kernel_rfl) rfl #[.string a0, .int .i64 ji20] rfl (by (try simp only [List.map_toArray, List.map_cons, List.map_nil]); first | done | (simp only [hji20]; rfl) | rfl | (simp only [List.length_drop, List.length_take]; rfl)) ?_; (with_reducible refine (zgb.calls k2 a0 ji20 t115 _ A16.out).mono ?_); rintro e w' ⟨rfl, ⟨nd, rfl⟩⟩; refine ⟨_, rfl, ?_⟩))
                (try (rw [zmf wr]; generalize hq_ : World.drewN wr _ = wr; have n0_ : za (Kd.R Kd.string 9 wr w.heap.size (fun _ => True) (.slice Ao8 y110.length co8) y110) := ⟨by rw [← hq_]; exact (RW HO_20.out)⟩; have n1_ : za (Kd.S (Kd.slice 9 Kd.string) 57 wr w.heap.size (fun k_ => some k_ ≠ (.slice Ao8 y110.length co8 : Value).ownBlock) u3 x3_1) := ⟨by rw [← hq_]; exact (by (with_reducible repeat (first | apply Kd.S_alloc | apply Kd.S_drewN | apply Kd.S_drew)); exact HO_3.out)⟩; have n2_ : za (Below w.heap.size w wr) := ⟨by rw [← hq_]; exact (by (with_reducible apply zd; with_reducible exact HB.out))⟩; clear HO_20 HO_3 HB hq_; have HO_20 := n0_; have HO_3 := n1_; have HB := n2_; clear n0_ n1_ n2_))
                replace HO_3 := za.mk (Kd.S_drew HO_3.out)
                replace HO_20 := za.mk (Kd.R_drew HO_20.out)
                replace HB := za.mk (zab HB.out)
                refine zuf (n := 14) (S := fun w' => True) (ds := []) #[false, false, false, false, false, false, false, false, false, false, false, false, false, false] (by kernel_rfl) rfl rfl trivial (fun hHeld => ?_); refine zxf zh.tab17 zh.bits17 (fun HT_ HW_ => ?_)
                generalize wr.drew = w25 at HO_3 HO_20 HB hHeld ⊢
                refine pure_ (i := 0) (N := some 49) (v := ?_) (a' := ?_) #[true, false, false, false, false, false, false, false, false, false, false, false, false, false] rfl rfl (zdc HT_.out (by kernel_rfl)) (fun _ _ _ h => h) (Or.inl ⟨by rfl, ?_⟩) ?_ ?_
                rotate_left
                ·intro w'
                 go_simp
                 with_reducible rfl
                rotate_left
                ·simp only [Act.put, List.setIfInBounds_toArray, List.set_cons_zero, List.set_cons_succ, i64_w, i32_w]
                 rfl
                refine pure_ (i := 1) (N := some 50) (v := ?_) (a' := ?_) #[true, true, false, false, false, false, false, false, false, false, false, false, false, false] rfl rfl (zdc HT_.out (by kernel_rfl)) (fun _ _ _ h => h) (Or.inl ⟨by rfl, ?_⟩) ?_ ?_
                rotate_left
                ·intro w'
                 go_simp
                 with_reducible rfl
                rotate_left
                ·simp only [Act.put, List.setIfInBounds_toArray, List.set_cons_zero, List.set_cons_succ, i64_w, i32_w]
                 rfl
                refine pure_ (i := 2) (N := some 51) (v := ?_) (a' := ?_) #[true, true, true, false, false, false, false, false, false, false, false, false, false, false] rfl rfl (zdc HT_.out (by kernel_rfl)) (fun _ _ _ h => h) (Or.inl ⟨by rfl, ?_⟩) ?_ ?_
                rotate_left
                ·intro w'
                 go_simp
                 with_reducible rfl
                rotate_left
                ·simp only [Act.put, List.setIfInBounds_toArray, List.set_cons_zero, List.set_cons_succ, i64_w, i32_w]
                 rfl
                refine pure_ (i := 3) (N := some 52) (v := ?_) (a' := ?_) #[true, true, true, true, false, false, false, false, false, false, false, false, false, false] rfl rfl (zdc HT_.out (by kernel_rfl)) (fun _ _ _ h => h) (Or.inl ⟨by rfl, ?_⟩) ?_ ?_
                rotate_left
                ·intro w'
                 go_simp
                 with_reducible rfl
                rotate_left
                ·simp only [Act.put, List.setIfInBounds_toArray, List.set_cons_zero, List.set_cons_succ, i64_w, i32_w]
                 rfl
                refine pure_ (i := 4) (N := some 53) (v := ?_) (a' := ?_) #[true, true, true, true, true, false, false, false, false, false, false, false, false, false] rfl rfl (zdc HT_.out (by kernel_rfl)) (fun _ _ _ h => h) (Or.inl ⟨by rfl, ?_⟩) ?_ ?_
                rotate_left
                ·intro w'
                 go_simp
                 with_reducible rfl
                rotate_left
                ·simp only [Act.put, List.setIfInBounds_toArray, List.set_cons_zero, List.set_cons_succ, i64_w, i32_w]
                 rfl
                refine pure_ (i := 5) (N := some 54) (v := ?_) (a' := ?_) #[true, true, true, true, true, true, false, false, false, false, false, false, false, false] rfl rfl (zdc HT_.out (by kernel_rfl)) (fun _ _ _ h => h) (Or.inl ⟨by rfl, ?_⟩) ?_ ?_
                rotate_left
                ·intro w'
                 go_simp
                 with_reducible rfl
                rotate_left
                ·simp only [Act.put, List.setIfInBounds_toArray, List.set_cons_zero, List.set_cons_succ, i64_w, i32_w]
                 rfl
                refine pure_ (i := 6) (N := some 55) (v := ?_) (a' := ?_) #[true, true, true, true, true, true, true, false, false, false, false, false, false, false] rfl rfl (zdc HT_.out (by kernel_rfl)) (fun _ _ _ h => h) (Or.inl ⟨by rfl, ?_⟩) ?_ ?_
                rotate_left
                ·intro w'
                 go_simp
                 with_reducible rfl
                rotate_left
                ·simp only [Act.put, List.setIfInBounds_toArray, List.set_cons_zero, List.set_cons_succ, i64_w, i32_w]
                 rfl
                refine pure_ (i := 7) (N := some 56) (v := ?_) (a' := ?_) #[true, true, true, true, true, true, true, true, false, false, false, false, false, false] rfl rfl (zdc HT_.out (by kernel_rfl)) (fun _ _ _ h => h) (Or.inl ⟨by rfl, ?_⟩) ?_ ?_
                rotate_left
                ·intro w'
                 go_simp
                 with_reducible rfl
                rotate_left
                ·simp only [Act.put, List.setIfInBounds_toArray, List.set_cons_zero, List.set_cons_succ, i64_w, i32_w]
                 rfl
                refine pure_ (i := 8) (N := some 57) (v := ?_) (a' := ?_) #[true, true, true, true, true, true, true, true, true, false, false, false, false, false] rfl rfl (zdc HT_.out (by kernel_rfl)) (fun _ _ _ h => h) (Or.inl ⟨by rfl, ?_⟩) ?_ ?_
                rotate_left
                ·intro w'
                 go_simp
                 with_reducible rfl
                rotate_left
                ·simp only [Act.put, List.setIfInBounds_toArray, List.set_cons_zero, List.set_cons_succ, i64_w, i32_w]
                 rfl
                refine pure_ (i := 9) (N := some 58) (v := ?_) (a' := ?_) #[true, true, true, true, true, true, true, true, true, true, false, false, false, false] rfl rfl (zdc HT_.out (by kernel_rfl)) (fun _ _ _ h => h) (Or.inl ⟨by rfl, ?_⟩) ?_ ?_
                rotate_left
                ·intro w'
                 go_simp
                 with_reducible rfl
                rotate_left
                ·simp only [Act.put, List.setIfInBounds_toArray, List.set_cons_zero, List.set_cons_succ, i64_w, i32_w]
                 rfl
                refine one_ (i := 10) (N := some 59) #[true, true, true, true, true, true, true, true, true, true, true, false, false, false] rfl rfl (zxe HT_.out (by kernel_rfl)) (by decide) (fun K hK => ?_)
                refine Kd.R_lit_step Kd.string _ 9 ?hg (N := 59) ?hd (xs := ([a0.extract (x4_1 : Int).toNat (t115 : Int).toNat, x5_2, a0.extract ((ji20) : Int).toNat (t115 : Int).toNat] : List ByteArray)) (inner := [.string (a0.extract (x4_1 : Int).toNat (t115 : Int).toNat), .string x5_2, .string (a0.extract ((ji20) : Int).toNat (t115 : Int).toNat)]) (ok := fun _ => True) (okp := fun _ => True) ?hr ?hp (fun _ hk => hk) trivial (Below.refl _ _) (Nat.le_refl _) (by simp) ?_; (case hd => rfl); (case hg => rfl); (case hr => first | (go_simp; done) | (go_simp; rfl)); (case hp => exact (Reps.one (show Kd.M Kd.string _ _ _ (a0.extract (x4_1 : Int).toNat (t115 : Int).toNat) [.string (a0.extract (x4_1 : Int).toNat (t115 : Int).toNat)] from rfl) (Reps.one (show Kd.M Kd.string _ _ _ x5_2 [.string x5_2] from rfl) (Reps.one (show Kd.M Kd.string _ _ _ (a0.extract ((ji20) : Int).toNat (t115 : Int).toNat) [.string (a0.extract ((ji20) : Int).toNat (t115 : Int).toNat)] from rfl) (Reps.none _ _)))))
                intro v117 w26 ho27 hb hg_ hnew_
                clear hg_ hnew_
                (first | rw [← Ny116.out] at ho27 | (simp only [Int.reduceToNat] at ho27; rw [← Ny116.out] at ho27))
                have n0_ := za.mk (Kd.S_elder' (by (with_reducible repeat (first | apply Kd.S_alloc | apply Kd.S_drewN | apply Kd.S_drew)); exact HO_3.out) (Kd.R_base ho27) hb)
                have n1_ := za.mk (Kd.R_elder' (RW HO_20.out) (Kd.R_base ho27) hb)
                have n2_ := za.mk (Kd.R_lower (Kd.R_new' ho27 (Kd.R_lt (RW HO_20.out))) (zm (by (with_reducible exact HB.out))))
                have n3_ := za.mk (zib (by (with_reducible exact HB.out)) hb)
                clear HO_3
                clear HO_20
                clear HB
                have HO_3 := n0_
                have HO_20 := n1_
                have HO118 := n2_
                have HB := n3_
                clear n0_ n1_ n2_ n3_
                clear hb ho27
                obtain ⟨Ao29, co29, eo29⟩ := Kd.R_slice HO118.out
                (first | subst eo29 | (injection eo29 with f1_ f2_ f3_; have f4_ := f1_.symm; have f5_ := f3_.symm; clear f1_ f2_ f3_; subst f4_; subst f5_))
                refine hK.out _ _ trivial (fun hHeld => ?_)
                clear hK K
                refine norm_ (a' := ?_) ?_ ?_
                rotate_left
                ·show Act.put _ (some 59) _ = _
                 simp only [Act.put, List.setIfInBounds_toArray, List.set_cons_zero, List.set_cons_succ, i64_w, i32_w]
                 rfl
                refine one_ (i := 11) (N := some 60) #[true, true, true, true, true, true, true, true, true, true, true, true, false, false] rfl rfl (zxe HT_.out (by kernel_rfl)) (by decide) (fun K hK => ?_)
                refine zoh (w1 := ?_) (v := ?_) (by rfl) rfl ?_ ?_
                rotate_left 2
                ·go_simp
                 constructor
                 ·rfl
                 ·rfl
                refine hK.out _ _ trivial (fun hHeld => ?_)
                clear hK K
                refine norm_ (a' := ?_) ?_ ?_
                rotate_left
                ·show Act.put _ (some 60) _ = _
                 simp only [Act.put, List.setIfInBounds_toArray, List.set_cons_zero, List.set_cons_succ, i64_w, i32_w]
                 rfl
                refine one_ (i := 12) (N := some 61) #[true, true, true, true, true, true, true, true, true, true, true, true, true, false] rfl rfl (zxe HT_.out (by kernel_rfl)) (by decide) (fun K hK => ?_)
                refine Kd.S_append_step (Kd.slice 9 Kd.string) (w0 := w) w.heap.size (by rfl) (.tmp 49) (.tmp 60) 125 57 (.slice none 0 0) 24 rfl Tryz.underlying125 info57 rfl (by decide) (by omega) u3 x3_1 y116 [.slice Ao29 y116.length co29] (fun k_ => some k_ ≠ (.slice Ao8 y110.length co8 : Value).ownBlock) (fun k_ => some k_ = (.slice Ao29 y116.length co29 : Value).ownBlock) rfl rfl ?aP (fun k_ hk_ => ((Kd.R_mono (ok' := fun k_ => ((fun k_ => some k_ ≠ (.slice Ao8 y110.length co8 : Value).ownBlock)) k_ ∧ some k_ ≠ (u3 : Value).ownBlock) (Kd.R_apart' (HO118.out) (Kd.S_typed HO_3.out) (by decide)) (fun k_ hk => ⟨hk.1.2, hk.2⟩))).1 k_ hk_.symm) ?aF ?aO ?aB ?aS ?aL ?_
                (case aP => exact Kd.M_row (Kd.R_mono (Kd.R_tight rfl (Kd.R_mono (ok' := fun k_ => ((fun k_ => some k_ ≠ (.slice Ao8 y110.length co8 : Value).ownBlock)) k_ ∧ some k_ ≠ (u3 : Value).ownBlock) (Kd.R_apart' (HO118.out) (Kd.S_typed HO_3.out) (by decide)) (fun k_ hk => ⟨hk.1.2, hk.2⟩))) (fun _ h_ => h_)))
                (case aB => exact (by (with_reducible exact HB.out)))
                (case aF => exact (fun k_ hk => Kd.fresh' (Kd.R_lt (RW HO_20.out)) k_ hk))
                (case aO => exact (by (with_reducible repeat (first | apply Kd.S_alloc | apply Kd.S_drewN | apply Kd.S_drew)); exact Kd.S_mono HO_3.out (fun k_ hk => ⟨hk.1, fun e_ => hk.2 e_⟩)))
                (case aS => exact (zm (by (with_reducible exact HB.out))))
                (case aL => have := LMc24.out; omega)
                intro v120 w28 ho hb hg hat
                rw [← Ny119.out] at ho
                replace HO_20 := za.mk (Kd.R_over' (RW HO_20.out) (Kd.S_typed (by (with_reducible repeat (first | apply Kd.S_alloc | apply Kd.S_drewN | apply Kd.S_drew)); exact HO_3.out)) (by decide) hg)
                have HO121 := za.mk ho
                replace HB := za.mk hb
                clear HO_3 HO118
                clear ho hb hg hat
                refine hK.out _ _ trivial (fun hHeld => ?_)
                clear hK K
                refine norm_ (a' := ?_) ?_ ?_
                rotate_left
                ·show Act.put _ (some 61) _ = _
                 simp only [Act.put, List.setIfInBounds_toArray, List.set_cons_zero, List.set_cons_succ, i64_w, i32_w]
                 rfl
                refine pure_ (i := 13) (N := some 3) (v := ?_) (a' := ?_) #[true, true, true, true, true, true, true, true, true, true, true, true, true, true] rfl rfl (zdc HT_.out (by kernel_rfl)) (fun _ _ _ h => h) (Or.inl ⟨by rfl, ?_⟩) ?_ ?_
                rotate_left
                ·intro w'
                 go_simp
                 with_reducible rfl
                rotate_left
                ·simp only [Act.put, List.setIfInBounds_toArray, List.set_cons_zero, List.set_cons_succ, i64_w, i32_w]
                 rfl
                refine done_ (zdi HT_.out (by kernel_rfl)) ?_
                try go_wp2
                go_roundg k2
                case measure => have := HK1.out; have := HK2.out; omega
                case rel => exact ⟨(y119), (t115), (by rfl), H', ⟨by have := HK1.out; have := HK2.out; omega⟩, ⟨by (with_reducible repeat (first | apply Kd.S_alloc | apply Kd.S_drewN | apply Kd.S_drew)); exact Kd.S_mono HO121.out (fun _ hk => trivial)⟩, ⟨by (with_reducible exact HB.out)⟩⟩
               ·rw [if_neg c24] at H
                exact absurd H (by simp)
              ·rw [if_neg c22] at H
               exact absurd H (by simp)
             ·rw [if_neg c21] at H
              exact absurd H (by simp)
            ·rw [if_neg c19] at H
             exact absurd H (by simp)
           ·rw [if_neg c18] at H
            exact absurd H (by simp)
          ·rw [if_neg c17] at H
           exact absurd H (by simp)
     ·rw [if_neg c5] at H
      have c5b0 : ((bt a0 x4_1) == 95) = false := beq_eq_false_iff_ne.mpr c5
      have c5b1 : ((bt a0 x4_1) != 95) = true := bne_iff_ne.mpr c5
      have H' := za.mk H
      clear H
      have p4 : 0 ≤ (x4_1 : Int) := of_decide_eq_true (by (with_reducible assumption))
      have q4 : x4_1 < (a0.size : Int) := of_decide_eq_true (by (with_reducible assumption))
      have hx4 := bt_at a0 x4_1
      replace p4 := eq_true p4
      replace q4 := eq_true q4
      go_wp2
      go_roundg k1
      case measure => have := HK1.out; omega
      case rel => exact ⟨(x3_1), (wrap64 (x4_1 + 1)), (by rfl), H', ⟨by have := HK1.out; omega⟩, ⟨by (with_reducible repeat (first | apply Kd.S_alloc | apply Kd.S_drewN | apply Kd.S_drew)); exact HO_3.out⟩, ⟨by (with_reducible exact HB.out)⟩⟩
    ·rw [if_neg c3] at H
     exact absurd H (by simp)
   ·rw [if_neg c2] at H
    have c2b0 : decide (x4_1 < (a0.size : Int)) = false := decide_eq_false c2
    clear c2
    obtain rfl := Option.some.inj H
    go_wp2
    go_ret
    exact ⟨_, by rfl, by (with_reducible repeat (first | apply Kd.S_alloc | apply Kd.S_drewN | apply Kd.S_drew)); exact HO_3.out, by (with_reducible exact HB.out)⟩
def zr.l0 : Nat → ByteArray → List ByteArray → List ByteArray → Int → Int → Option (Int)
 | 0, _, _, _, _, _ => none
 | k + 1, x0, x3, x7, x8, x9 => if x9 < x8 then (if 0 ≤ x9 then (if x9 < (x7.length : Int) then (if x0.toList = (rdOf ByteArray.empty x7 x9).toList then (some x9) else (zr.l0 k x0 x3 x7 x8 (wrap64 (x9 + 1)))) else (none)) else (none)) else (some (x3.length : Int))
def zr.f (k : Nat) (a0 : ByteArray) : Option (Int) := (some (([(⟨#[97, 108, 112, 104, 97]⟩ : ByteArray), (⟨#[98, 101, 116, 97]⟩ : ByteArray), (⟨#[112, 114, 101]⟩ : ByteArray), (⟨#[114, 99]⟩ : ByteArray), (⟨#[]⟩ : ByteArray), (⟨#[99, 118, 115]⟩ : ByteArray), (⟨#[115, 118, 110]⟩ : ByteArray), (⟨#[103, 105, 116]⟩ : ByteArray), (⟨#[104, 103]⟩ : ByteArray)] : List ByteArray) : List ByteArray)).bind fun y122 => (zr.l0 k a0 y122 y122 (y122.length : Int) 0)
theorem zr.calls (k : Nat) (a0 : ByteArray) (r : Int) (w : World) (h : zr.f k a0 = some r) :
  Calls Tryz.prog 66 #[.string a0] w fun e w' => e = .returned (.int .i64 r) ∧ Below w.heap.size w w' := by
 have HB := za.mk (Below.refl w.heap.size w)
 have H : ((some (([(⟨#[97, 108, 112, 104, 97]⟩ : ByteArray), (⟨#[98, 101, 116, 97]⟩ : ByteArray), (⟨#[112, 114, 101]⟩ : ByteArray), (⟨#[114, 99]⟩ : ByteArray), (⟨#[]⟩ : ByteArray), (⟨#[99, 118, 115]⟩ : ByteArray), (⟨#[115, 118, 110]⟩ : ByteArray), (⟨#[103, 105, 116]⟩ : ByteArray), (⟨#[104, 103]⟩ : ByteArray)] : List ByteArray) : List ByteArray)).bind fun y122 => (zr.l0 k a0 y122 y122 (y122.length : Int) 0)) = some r := h
 clear h
 obtain ⟨y122, hy122⟩ : ∃ y_ : List ByteArray, y_ = (([(⟨#[97, 108, 112, 104, 97]⟩ : ByteArray), (⟨#[98, 101, 116, 97]⟩ : ByteArray), (⟨#[112, 114, 101]⟩ : ByteArray), (⟨#[114, 99]⟩ : ByteArray), (⟨#[]⟩ : ByteArray), (⟨#[99, 118, 115]⟩ : ByteArray), (⟨#[115, 118, 110]⟩ : ByteArray), (⟨#[103, 105, 116]⟩ : ByteArray), (⟨#[104, 103]⟩ : ByteArray)] : List ByteArray)) := ⟨_, rfl⟩
 replace H : (zr.l0 k a0 y122 y122 (y122.length : Int) 0) = some r := by (have H2_ := (Option.bind_some _ _).symm.trans H; rw [hy122]; with_reducible exact H2_)
 have Ny122 := za.mk hy122
 clear hy122
 have H' := za.mk H
 clear H
 go_enter Tryz.func66, Tryz.ntmps66
 go_wp2_with (((with_reducible refine znb (N := 6) rfl ?_); refine Kd.R_lit Kd.string _ 9 ?hg (N := 6) ?hd (xs := ([(⟨#[97, 108, 112, 104, 97]⟩ : ByteArray), (⟨#[98, 101, 116, 97]⟩ : ByteArray), (⟨#[112, 114, 101]⟩ : ByteArray), (⟨#[114, 99]⟩ : ByteArray), (⟨#[]⟩ : ByteArray), (⟨#[99, 118, 115]⟩ : ByteArray), (⟨#[115, 118, 110]⟩ : ByteArray), (⟨#[103, 105, 116]⟩ : ByteArray), (⟨#[104, 103]⟩ : ByteArray)] : List ByteArray)) (inner := [.string (⟨#[97, 108, 112, 104, 97]⟩ : ByteArray), .string (⟨#[98, 101, 116, 97]⟩ : ByteArray), .string (⟨#[112, 114, 101]⟩ : ByteArray), .string (⟨#[114, 99]⟩ : ByteArray), .string ⟨#[]⟩, .string (⟨#[99, 118, 115]⟩ : ByteArray), .string (⟨#[115, 118, 110]⟩ : ByteArray), .string (⟨#[103, 105, 116]⟩ : ByteArray), .string (⟨#[104, 103]⟩ : ByteArray)]) (ok := fun _ => True) (okp := fun _ => True) ?hr ?hp (fun _ hk => hk) trivial (Below.refl _ _) (Nat.le_refl _) (by simp) ?_; (case hd => rfl); (case hg => rfl); (case hr => first | (go_simp; done) | (go_simp; rfl)); (case hp => exact (Reps.one (show Kd.M Kd.string _ _ _ (⟨#[97, 108, 112, 104, 97]⟩ : ByteArray) [.string (⟨#[97, 108, 112, 104, 97]⟩ : ByteArray)] from rfl) (Reps.one (show Kd.M Kd.string _ _ _ (⟨#[98, 101, 116, 97]⟩ : ByteArray) [.string (⟨#[98, 101, 116, 97]⟩ : ByteArray)] from rfl) (Reps.one (show Kd.M Kd.string _ _ _ (⟨#[112, 114, 101]⟩ : ByteArray) [.string (⟨#[112, 114, 101]⟩ : ByteArray)] from rfl) (Reps.one (show Kd.M Kd.string _ _ _ (⟨#[114, 99]⟩ : ByteArray) [.string (⟨#[114, 99]⟩ : ByteArray)] from rfl) (Reps.one (show Kd.M Kd.string _ _ _ (⟨#[]⟩ : ByteArray) [.string ⟨#[]⟩] from rfl) (Reps.one (show Kd.M Kd.string _ _ _ (⟨#[99, 118, 115]⟩ : ByteArray) [.string (⟨#[99, 118, 115]⟩ : ByteArray)] from rfl) (Reps.one (show Kd.M Kd.string _ _ _ (⟨#[115, 118, 110]⟩ : ByteArray) [.string (⟨#[115, 118, 110]⟩ : ByteArray)] from rfl) (Reps.one (show Kd.M Kd.string _ _ _ (⟨#[103, 105, 116]⟩ : ByteArray) [.string (⟨#[103, 105, 116]⟩ : ByteArray)] from rfl) (Reps.one (show Kd.M Kd.string _ _ _ (⟨#[104, 103]⟩ : ByteArray) [.string (⟨#[104, 103]⟩ : ByteArray)] from rfl) (Reps.none _ _))))))))))); intro v123 w2 ho3 hb hg_ hnew_; clear hg_ hnew_; (first | rw [← Ny122.out] at ho3 | (simp only [Int.reduceToNat] at ho3; rw [← Ny122.out] at ho3)); have HO124 := za.mk (Kd.R_lower ho3 (zm (by (with_reducible exact HB.out)))); replace HB := BS HB hb; clear hb ho3; obtain ⟨Ao4, co4, eo4⟩ := Kd.R_slice HO124.out; subst eo4))
 (try simp only [Act.put, List.setIfInBounds_toArray, List.set_cons_zero, List.set_cons_succ])
 go_loopg [9] k (fun kq v9 w' => ∃ (x9_1 : Int), v9 = .int .i64 x9_1 ∧ za (zr.l0 kq a0 y122 y122 (y122.length : Int) x9_1 = some r) ∧ za (kq ≤ k) ∧ za (Kd.R Kd.string 9 w' w.heap.size (fun _ => True) (.slice Ao4 y122.length co4) y122) ∧ za (Kd.R Kd.string 9 w' w.heap.size (fun _ => True) (.slice Ao4 y122.length co4) y122) ∧ za (Below w.heap.size w w'))
 case atStart => exact ⟨(0), (by rfl), H', ⟨Nat.le_refl _⟩, ⟨by (with_reducible repeat (first | apply Kd.R_alloc | apply Kd.R_drewN | apply Kd.R_drew)); exact HO124.out⟩, ⟨by (with_reducible repeat (first | apply Kd.R_alloc | apply Kd.R_drewN | apply Kd.R_drew)); exact HO124.out⟩, ⟨by (with_reducible exact HB.out)⟩⟩
 case round =>
  clear H'
  obtain ⟨x9_1, rfl, HA, HK1, HO_3, HO_7, HB⟩ := hrel
  cases gk with
  | zero => exact absurd HA.out (by simp [zr.l0])
  | succ k1 =>
   have H := HA.out
   clear HA
   simp only [zr.l0] at H
   by_cases c5 : x9_1 < (y122.length : Int)
   ·rw [if_pos c5] at H
    have c5b0 : decide (x9_1 < (y122.length : Int)) = true := decide_eq_true c5
    clear c5
    by_cases c6 : 0 ≤ x9_1
    ·rw [if_pos c6] at H
     have c6b0 : decide (0 ≤ x9_1) = true := decide_eq_true c6
     clear c6
     by_cases c7 : x9_1 < (y122.length : Int)
     ·rw [if_pos c7] at H
      have c7b0 : decide (x9_1 < (y122.length : Int)) = true := decide_eq_true c7
      clear c7
      by_cases c8 : a0.toList = (rdOf ByteArray.empty y122 x9_1).toList
      ·rw [if_pos c8] at H
       have c8b0 : (a0.toList == (rdOf ByteArray.empty y122 x9_1).toList) = true := beq_iff_eq.mpr c8
       have c8b1 : (a0.toList != (rdOf ByteArray.empty y122 x9_1).toList) = false := bne_eq_false_iff_eq.mpr c8
       clear c8
       obtain rfl := Option.some.inj H
       have p125 : 0 ≤ (x9_1 : Int) := of_decide_eq_true (by (with_reducible assumption))
       have q125 : x9_1 < (y122.length : Int) := of_decide_eq_true (by (with_reducible assumption))
       obtain ⟨ad125, e125, hx125_0⟩ := Kd.at_string (Kd.R_reads' HO_7.out).2.2 x9_1 p125 q125
       cases e125
       replace p125 := eq_true p125
       replace q125 := eq_true q125
       go_wp2
       go_ret
       exact ⟨by rfl, by (with_reducible exact HB.out)⟩
      ·rw [if_neg c8] at H
       have c8b0 : (a0.toList == (rdOf ByteArray.empty y122 x9_1).toList) = false := beq_eq_false_iff_ne.mpr c8
       have c8b1 : (a0.toList != (rdOf ByteArray.empty y122 x9_1).toList) = true := bne_iff_ne.mpr c8
       have H' := za.mk H
       clear H
       have p125 : 0 ≤ (x9_1 : Int) := of_decide_eq_true (by (with_reducible assumption))
       have q125 : x9_1 < (y122.length : Int) := of_decide_eq_true (by (with_reducible assumption))
       obtain ⟨ad125, e125, hx125_0⟩ := Kd.at_string (Kd.R_reads' HO_7.out).2.2 x9_1 p125 q125
       cases e125
       replace p125 := eq_true p125
       replace q125 := eq_true q125
       go_wp2
       go_roundg k1
       case measure => have := HK1.out; omega
       case rel => exact ⟨(wrap64 (x9_1 + 1)), (by rfl), H', ⟨by have := HK1.out; omega⟩, ⟨by (with_reducible repeat (first | apply Kd.R_alloc | apply Kd.R_drewN | apply Kd.R_drew)); exact HO_3.out⟩, ⟨by (with_reducible repeat (first | apply Kd.R_alloc | apply Kd.R_drewN | apply Kd.R_drew)); exact HO_7.out⟩, ⟨by (with_reducible exact HB.out)⟩⟩
     ·rw [if_neg c7] at H
      exact absurd H (by simp)
    ·rw [if_neg c6] at H
     exact absurd H (by simp)
   ·rw [if_neg c5] at H
    have c5b0 : decide (x9_1 < (y122.length : Int)) = false := decide_eq_false c5
    clear c5
    obtain rfl := Option.some.inj H
    go_wp2
    go_ret
    exact ⟨by rfl, by (with_reducible exact HB.out)⟩
end Go.Proofs.YtapaijpglfmfgaaGreatDoor.S
end
section
namespace Go.Proofs.YtapaijpglfmfgaaGreatDoor.S
open Go.RowKit YtapaijpglfmfgaaGreatDoorH YtapaijpglfmfgaaGreatDoorW.PrintWords YtapaijpglfmfgaaGreatDoorW.PrintLast YtapaijpglfmfgaaGreatDoorW.PrintMore YtapaijpglfmfgaaGreatDoorC
attribute [local go_sem] zfd zjd ztd zud zsc ztc zgd zkd
mutual
def zv.j0 : Nat → ByteArray → Bool → Option (ByteArray)
 | 0, _, _ => none
 | k + 1, x0, x10 => if x10 = true then (some (⟨#[]⟩ : ByteArray)) else (zv.l0 k x0 1)
def zv.l0 : Nat → ByteArray → Int → Option (ByteArray)
 | 0, _, _ => none
 | k + 1, x0, x3 => if x3 < (x0.size : Int) then (if 0 ≤ x3 then ((zic.f (bt x0 x3)).bind fun t126 => (if t126 = true then (zv.l0 k x0 (wrap64 (x3 + 1))) else (if (bt x0 x3) ≥ 97 then (if (bt x0 x3) ≤ 102 then (zv.l0 k x0 (wrap64 (x3 + 1))) else (if x3 = 1 then (some (⟨#[]⟩ : ByteArray)) else (if x3 ≤ (x0.size : Int) then (some (x0.extract 0 (x3 : Int).toNat)) else (none)))) else (if x3 = 1 then (some (⟨#[]⟩ : ByteArray)) else (if x3 ≤ (x0.size : Int) then (some (x0.extract 0 (x3 : Int).toNat)) else (none)))))) else (none)) else (if x3 = 1 then (some (⟨#[]⟩ : ByteArray)) else (if 0 ≤ x3 then (if x3 ≤ (x0.size : Int) then (some (x0.extract 0 (x3 : Int).toNat)) else (none)) else (none)))
end
def zv.f (k : Nat) (a0 : ByteArray) : Option (ByteArray) := if a0.toList = ([] : List UInt8) then (zv.j0 k a0 true) else (if 0 < (a0.size : Int) then (zv.j0 k a0 ((bt a0 0) != 126)) else (none))
theorem zv.calls (k : Nat) (a0 : ByteArray) (r : ByteArray) (w : World) (h : zv.f k a0 = some r) :
  Calls Tryz.prog 67 #[.string a0] w fun e w' => e = .returned (.string r) ∧ zn w w' := by
 have H : (if a0.toList = ([] : List UInt8) then (zv.j0 k a0 true) else (if 0 < (a0.size : Int) then (zv.j0 k a0 ((bt a0 0) != 126)) else (none))) = some r := h
 clear h
 have HC2 := za.mk H
 clear H
 go_enter Tryz.func67, Tryz.ntmps67
 go_upto_region 1 with (fail)
 go_cut [10] (fun v10 wc => ∃ (kq : Nat) (x10_1 : Bool), v10 = .bool x10_1 ∧ za (zv.j0 kq a0 x10_1 = some r) ∧ za (kq ≤ k) ∧ zn w wc)
 case first =>
  have H := HC2.out
  clear HC2
  by_cases c3 : a0.toList = ([] : List UInt8)
  ·rw [if_pos c3] at H
   have c3b0 : (a0.toList == ([] : List UInt8)) = true := beq_iff_eq.mpr c3
   have c3b1 : (a0.toList != ([] : List UInt8)) = false := bne_eq_false_iff_eq.mpr c3
   try have c3b9 : a0.toList.isEmpty = true := by simpa using c3b0
   clear c3
   (first | rw [c3b0] | (simp only [i64_w, i32_w]; rw [c3b0]) | rw [c3b9] | skip)
   have H' := za.mk H
   clear H
   go_wp2
   go_meet
   case rel => exact ⟨_, (true), (by rfl), H', ⟨by omega⟩, by repeat (first | exact zn.refl _ | apply zn.step)⟩
  ·rw [if_neg c3] at H
   have c3b0 : (a0.toList == ([] : List UInt8)) = false := beq_eq_false_iff_ne.mpr c3
   have c3b1 : (a0.toList != ([] : List UInt8)) = true := bne_iff_ne.mpr c3
   try have c3b9 : a0.toList.isEmpty = false := by simpa using c3b0
   (first | rw [c3b0] | (simp only [i64_w, i32_w]; rw [c3b0]) | rw [c3b9] | skip)
   by_cases c4 : 0 < (a0.size : Int)
   ·rw [if_pos c4] at H
    have c4b0 : decide (0 < (a0.size : Int)) = true := decide_eq_true c4
    have c4b1 : decide (0 < a0.size) = true := decide_eq_true (by omega)
    clear c4
    have H' := za.mk H
    clear H
    have p5 : 0 ≤ (0 : Int) := (by omega)
    have q5 : 0 < a0.size := (by have : (0 : Int) < (a0.size : Int) := of_decide_eq_true (by (with_reducible assumption)); omega)
    have hx5 : ∀ h : 0 < a0.size, ((a0[0]'h).toNat : Int) = bt a0 0 := bt_at a0 0
    clear p5
    have qi5 : (0 < (a0.size : Int)) = True := eq_true (of_decide_eq_true (by (with_reducible assumption)))
    replace q5 := eq_true q5
    go_wp2
    go_meet
    case rel => exact ⟨_, (((bt a0 0) != 126)), (by rfl), H', ⟨by omega⟩, by repeat (first | exact zn.refl _ | apply zn.step)⟩
   ·rw [if_neg c4] at H
    exact absurd H (by simp)
 case rest =>
  clear HC2
  obtain ⟨kq, x10_1, rfl, HA, HJ1, ⟨mc1, rfl⟩⟩ := hcut
  cases kq with
  | zero => exact absurd HA.out (by simp [zv.j0])
  | succ kj1 =>
   have H := HA.out
   clear HA
   simp only [zv.j0] at H
   by_cases c6 : x10_1 = true
   ·subst c6
    have H1 : (some (⟨#[]⟩ : ByteArray)) = some r := by rw [if_pos rfl] at H; exact H
    clear H
    have H := H1
    clear H1
    obtain rfl := Option.some.inj H
    go_wp2
    go_ret
    exact ⟨by rfl, by repeat (first | exact zn.refl _ | apply zn.step)⟩
   ·replace c6 := Bool.eq_false_iff.mpr c6
    subst c6
    have H1 : (zv.l0 kj1 a0 1) = some r := by rw [if_neg (show ¬ (false = true) by decide)] at H; exact H
    clear H
    have H := H1
    clear H1
    have H' := za.mk H
    clear H
    go_wp2
    (try simp only [Act.put, List.setIfInBounds_toArray, List.set_cons_zero, List.set_cons_succ])
    go_loopg [3] kj1 (fun kq v3 w' => ∃ (x3_2 : Int), v3 = .int .i64 x3_2 ∧ za (zv.l0 kq a0 x3_2 = some r) ∧ za (kq ≤ kj1) ∧ zn w w')
    case atStart => exact ⟨(1), (by rfl), H', ⟨Nat.le_refl _⟩, by repeat (first | exact zn.refl _ | apply zn.step)⟩
    case round =>
     clear H'
     obtain ⟨x3_2, rfl, HA, HK2, ⟨m2, rfl⟩⟩ := hrel
     cases gk with
     | zero => exact absurd HA.out (by simp [zv.l0])
     | succ k2 =>
      have H := HA.out
      clear HA
      simp only [zv.l0] at H
      by_cases c7 : x3_2 < (a0.size : Int)
      ·rw [if_pos c7] at H
       have c7b0 : decide (x3_2 < (a0.size : Int)) = true := decide_eq_true c7
       clear c7
       by_cases c8 : 0 ≤ x3_2
       ·rw [if_pos c8] at H
        have c8b0 : decide (0 ≤ x3_2) = true := decide_eq_true c8
        clear c8
        replace H := Option.bind_eq_some_iff.mp H
        obtain ⟨t126, A100, H⟩ := H
        replace H : (if t126 = true then (zv.l0 k2 a0 (wrap64 (x3_2 + 1))) else (if (bt a0 x3_2) ≥ 97 then (if (bt a0 x3_2) ≤ 102 then (zv.l0 k2 a0 (wrap64 (x3_2 + 1))) else (if x3_2 = 1 then (some (⟨#[]⟩ : ByteArray)) else (if x3_2 ≤ (a0.size : Int) then (some (a0.extract 0 (x3_2 : Int).toNat)) else (none)))) else (if x3_2 = 1 then (some (⟨#[]⟩ : ByteArray)) else (if x3_2 ≤ (a0.size : Int) then (some (a0.extract 0 (x3_2 : Int).toNat)) else (none))))) = some r := H
        have A10 := za.mk A100
        clear A100
        by_cases c11 : t126 = true
        ·subst c11
         have H1 : (zv.l0 k2 a0 (wrap64 (x3_2 + 1))) = some r := by rw [if_pos rfl] at H; exact H
         clear H
         have H := H1
         clear H1
         have H' := za.mk H
         clear H
         have p9 : 0 ≤ (x3_2 : Int) := of_decide_eq_true (by (with_reducible assumption))
         have q9 : x3_2 < (a0.size : Int) := of_decide_eq_true (by (with_reducible assumption))
         have hx9 := bt_at a0 x3_2
         replace p9 := eq_true p9
         replace q9 := eq_true q9
         go_wp2_with ((go_at_call 84; (with_reducible refine (zic.calls (bt a0 x3_2) true _ A10.out).mono ?_); rintro e w' ⟨rfl, ⟨nd, rfl⟩⟩))
         go_roundg k2
         case measure => have := HJ1.out; have := HK2.out; omega
         case rel => exact ⟨(wrap64 (x3_2 + 1)), (by rfl), H', ⟨by have := HJ1.out; have := HK2.out; omega⟩, by repeat (first | exact zn.refl _ | apply zn.step)⟩
        ·replace c11 := Bool.eq_false_iff.mpr c11
         subst c11
         have H1 : (if (bt a0 x3_2) ≥ 97 then (if (bt a0 x3_2) ≤ 102 then (zv.l0 k2 a0 (wrap64 (x3_2 + 1))) else (if x3_2 = 1 then (some (⟨#[]⟩ : ByteArray)) else (if x3_2 ≤ (a0.size : Int) then (some (a0.extract 0 (x3_2 : Int).toNat)) else (none)))) else (if x3_2 = 1 then (some (⟨#[]⟩ : ByteArray)) else (if x3_2 ≤ (a0.size : Int) then (some (a0.extract 0 (x3_2 : Int).toNat)) else (none)))) = some r := by rw [if_neg (show ¬ (false = true) by decide)] at H; exact H
         clear H
         have H := H1
         clear H1
         by_cases c13 : (bt a0 x3_2) ≥ 97
         ·rw [if_pos c13] at H
          have c13b0 : decide (97 ≤ (bt a0 x3_2)) = true := decide_eq_true c13
          clear c13
          by_cases c15 : (bt a0 x3_2) ≤ 102
          ·rw [if_pos c15] at H
           have c15b0 : decide ((bt a0 x3_2) ≤ 102) = true := decide_eq_true c15
           clear c15
           have H' := za.mk H
           clear H
           have p9 : 0 ≤ (x3_2 : Int) := of_decide_eq_true (by (with_reducible assumption))
           have q9 : x3_2 < (a0.size : Int) := of_decide_eq_true (by (with_reducible assumption))
           have hx9 := bt_at a0 x3_2
           replace p9 := eq_true p9
           replace q9 := eq_true q9
           go_wp2_with ((go_at_call 84; (with_reducible refine (zic.calls (bt a0 x3_2) false _ A10.out).mono ?_); rintro e w' ⟨rfl, ⟨nd, rfl⟩⟩; have p12 : 0 ≤ (x3_2 : Int) := of_decide_eq_true (by (with_reducible assumption)); have q12 : x3_2 < (a0.size : Int) := of_decide_eq_true (by (with_reducible assumption)); have hx12 := bt_at a0 x3_2; replace p12 := eq_true p12; replace q12 := eq_true q12; have p14 : 0 ≤ (x3_2 : Int) := of_decide_eq_true (by (with_reducible assumption)); have q14 : x3_2 < (a0.size : Int) := of_decide_eq_true (by (with_reducible assumption)); have hx14 := bt_at a0 x3_2; replace p14 := eq_true p14; replace q14 := eq_true q14))
           go_roundg k2
           case measure => have := HJ1.out; have := HK2.out; omega
           case rel => exact ⟨(wrap64 (x3_2 + 1)), (by rfl), H', ⟨by have := HJ1.out; have := HK2.out; omega⟩, by repeat (first | exact zn.refl _ | apply zn.step)⟩
          ·rw [if_neg c15] at H
           have c15b0 : decide ((bt a0 x3_2) ≤ 102) = false := decide_eq_false c15
           clear c15
           by_cases c16 : x3_2 = 1
           ·rw [if_pos c16] at H
            have c16b0 : (x3_2 == 1) = true := beq_iff_eq.mpr c16
            have c16b1 : (x3_2 != 1) = false := bne_eq_false_iff_eq.mpr c16
            clear c16
            obtain rfl := Option.some.inj H
            have p9 : 0 ≤ (x3_2 : Int) := of_decide_eq_true (by (with_reducible assumption))
            have q9 : x3_2 < (a0.size : Int) := of_decide_eq_true (by (with_reducible assumption))
            have hx9 := bt_at a0 x3_2
            replace p9 := eq_true p9
            replace q9 := eq_true q9
            go_wp2_with ((go_at_call 84; (with_reducible refine (zic.calls (bt a0 x3_2) false _ A10.out).mono ?_); rintro e w' ⟨rfl, ⟨nd, rfl⟩⟩; have p12 : 0 ≤ (x3_2 : Int) := of_decide_eq_true (by (with_reducible assumption)); have q12 : x3_2 < (a0.size : Int) := of_decide_eq_true (by (with_reducible assumption)); have hx12 := bt_at a0 x3_2; replace p12 := eq_true p12; replace q12 := eq_true q12; have p14 : 0 ≤ (x3_2 : Int) := of_decide_eq_true (by (with_reducible assumption)); have q14 : x3_2 < (a0.size : Int) := of_decide_eq_true (by (with_reducible assumption)); have hx14 := bt_at a0 x3_2; replace p14 := eq_true p14; replace q14 := eq_true q14))
            go_ret
            exact ⟨by rfl, by repeat (first | exact zn.refl _ | apply zn.step)⟩
           ·rw [if_neg c16] at H
            have c16b0 : (x3_2 == 1) = false := beq_eq_false_iff_ne.mpr c16
            have c16b1 : (x3_2 != 1) = true := bne_iff_ne.mpr c16
            have c17b0 := eq_true (of_decide_eq_true (by (with_reducible assumption)) : 0 ≤ x3_2)
            by_cases c18 : x3_2 ≤ (a0.size : Int)
            ·rw [if_pos c18] at H
             have c18b0 := eq_true c18
             have c18b1 : decide (x3_2 ≤ (a0.size : Int)) = true := decide_eq_true c18
             clear c18
             obtain rfl := Option.some.inj H
             have p9 : 0 ≤ (x3_2 : Int) := of_decide_eq_true (by (with_reducible assumption))
             have q9 : x3_2 < (a0.size : Int) := of_decide_eq_true (by (with_reducible assumption))
             have hx9 := bt_at a0 x3_2
             replace p9 := eq_true p9
             replace q9 := eq_true q9
             go_wp2_with ((go_at_call 84; (with_reducible refine (zic.calls (bt a0 x3_2) false _ A10.out).mono ?_); rintro e w' ⟨rfl, ⟨nd, rfl⟩⟩; have p12 : 0 ≤ (x3_2 : Int) := of_decide_eq_true (by (with_reducible assumption)); have q12 : x3_2 < (a0.size : Int) := of_decide_eq_true (by (with_reducible assumption)); have hx12 := bt_at a0 x3_2; replace p12 := eq_true p12; replace q12 := eq_true q12; have p14 : 0 ≤ (x3_2 : Int) := of_decide_eq_true (by (with_reducible assumption)); have q14 : x3_2 < (a0.size : Int) := of_decide_eq_true (by (with_reducible assumption)); have hx14 := bt_at a0 x3_2; replace p14 := eq_true p14; replace q14 := eq_true q14))
             go_ret
             exact ⟨by rfl, by repeat (first | exact zn.refl _ | apply zn.step)⟩
            ·rw [if_neg c18] at H
             exact absurd H (by simp)
         ·rw [if_neg c13] at H
          have c13b0 : decide (97 ≤ (bt a0 x3_2)) = false := decide_eq_false c13
          clear c13
          by_cases c19 : x3_2 = 1
          ·rw [if_pos c19] at H
           have c19b0 : (x3_2 == 1) = true := beq_iff_eq.mpr c19
           have c19b1 : (x3_2 != 1) = false := bne_eq_false_iff_eq.mpr c19
           clear c19
           obtain rfl := Option.some.inj H
           have p9 : 0 ≤ (x3_2 : Int) := of_decide_eq_true (by (with_reducible assumption))
           have q9 : x3_2 < (a0.size : Int) := of_decide_eq_true (by (with_reducible assumption))
           have hx9 := bt_at a0 x3_2
           replace p9 := eq_true p9
           replace q9 := eq_true q9
           go_wp2_with ((go_at_call 84; (with_reducible refine (zic.calls (bt a0 x3_2) false _ A10.out).mono ?_); rintro e w' ⟨rfl, ⟨nd, rfl⟩⟩; have p12 : 0 ≤ (x3_2 : Int) := of_decide_eq_true (by (with_reducible assumption)); have q12 : x3_2 < (a0.size : Int) := of_decide_eq_true (by (with_reducible assumption)); have hx12 := bt_at a0 x3_2; replace p12 := eq_true p12; replace q12 := eq_true q12))
           go_ret
           exact ⟨by rfl, by repeat (first | exact zn.refl _ | apply zn.step)⟩
          ·rw [if_neg c19] at H
           have c19b0 : (x3_2 == 1) = false := beq_eq_false_iff_ne.mpr c19
           have c19b1 : (x3_2 != 1) = true := bne_iff_ne.mpr c19
           have c20b0 := eq_true (of_decide_eq_true (by (with_reducible assumption)) : 0 ≤ x3_2)
           by_cases c21 : x3_2 ≤ (a0.size : Int)
           ·rw [if_pos c21] at H
            have c21b0 := eq_true c21
            have c21b1 : decide (x3_2 ≤ (a0.size : Int)) = true := decide_eq_true c21
            clear c21
            obtain rfl := Option.some.inj H
            have p9 : 0 ≤ (x3_2 : Int) := of_decide_eq_true (by (with_reducible assumption))
            have q9 : x3_2 < (a0.size : Int) := of_decide_eq_true (by (with_reducible assumption))
            have hx9 := bt_at a0 x3_2
            replace p9 := eq_true p9
            replace q9 := eq_true q9
            go_wp2_with ((go_at_call 84; (with_reducible refine (zic.calls (bt a0 x3_2) false _ A10.out).mono ?_); rintro e w' ⟨rfl, ⟨nd, rfl⟩⟩; have p12 : 0 ≤ (x3_2 : Int) := of_decide_eq_true (by (with_reducible assumption)); have q12 : x3_2 < (a0.size : Int) := of_decide_eq_true (by (with_reducible assumption)); have hx12 := bt_at a0 x3_2; replace p12 := eq_true p12; replace q12 := eq_true q12))
            go_ret
            exact ⟨by rfl, by repeat (first | exact zn.refl _ | apply zn.step)⟩
           ·rw [if_neg c21] at H
            exact absurd H (by simp)
       ·rw [if_neg c8] at H
        exact absurd H (by simp)
      ·rw [if_neg c7] at H
       have c7b0 : decide (x3_2 < (a0.size : Int)) = false := decide_eq_false c7
       clear c7
       by_cases c22 : x3_2 = 1
       ·rw [if_pos c22] at H
        have c22b0 : (x3_2 == 1) = true := beq_iff_eq.mpr c22
        have c22b1 : (x3_2 != 1) = false := bne_eq_false_iff_eq.mpr c22
        clear c22
        obtain rfl := Option.some.inj H
        go_wp2
        go_ret
        exact ⟨by rfl, by repeat (first | exact zn.refl _ | apply zn.step)⟩
       ·rw [if_neg c22] at H
        have c22b0 : (x3_2 == 1) = false := beq_eq_false_iff_ne.mpr c22
        have c22b1 : (x3_2 != 1) = true := bne_iff_ne.mpr c22
        by_cases c23 : 0 ≤ x3_2
        ·rw [if_pos c23] at H
         have c23b0 := eq_true c23
         have c23b1 : decide (0 ≤ x3_2) = true := decide_eq_true c23
         clear c23
         by_cases c24 : x3_2 ≤ (a0.size : Int)
         ·rw [if_pos c24] at H
          have c24b0 := eq_true c24
          have c24b1 : decide (x3_2 ≤ (a0.size : Int)) = true := decide_eq_true c24
          clear c24
          obtain rfl := Option.some.inj H
          go_wp2
          go_ret
          exact ⟨by rfl, by repeat (first | exact zn.refl _ | apply zn.step)⟩
         ·rw [if_neg c24] at H
          exact absurd H (by simp)
        ·rw [if_neg c23] at H
         exact absurd H (by simp)
def zqc.f (a0 : ByteArray) (a1 : ByteArray) : Option (Bool) := if (a0.size : Int) ≥ (a1.size : Int) then (if 0 ≤ (a1.size : Int) then (if (a1.size : Int) ≤ (a0.size : Int) then (some ((a0.extract 0 ((a1.size : Int) : Int).toNat).toList == a1.toList)) else (none)) else (none)) else (some false)
theorem zqc.calls (a0 : ByteArray) (a1 : ByteArray) (r : Bool) (w : World) (h : zqc.f a0 a1 = some r) :
  Calls Tryz.prog 96 #[.string a0, .string a1] w fun e w' => e = .returned (.bool r) ∧ zn w w' := by
 have H : (if (a0.size : Int) ≥ (a1.size : Int) then (if 0 ≤ (a1.size : Int) then (if (a1.size : Int) ≤ (a0.size : Int) then (some ((a0.extract 0 ((a1.size : Int) : Int).toNat).toList == a1.toList)) else (none)) else (none)) else (some false)) = some r := h
 clear h
 by_cases c3 : (a0.size : Int) ≥ (a1.size : Int)
 ·rw [if_pos c3] at H
  have c3b0 : decide ((a1.size : Int) ≤ (a0.size : Int)) = true := decide_eq_true c3
  have c3b1 : decide (a1.size ≤ a0.size) = true := decide_eq_true (Int.ofNat_le.mp c3)
  clear c3
  by_cases c4 : 0 ≤ (a1.size : Int)
  ·rw [if_pos c4] at H
   have c4b0 := eq_true c4
   have c4b1 : decide (0 ≤ (a1.size : Int)) = true := decide_eq_true c4
   clear c4
   by_cases c5 : (a1.size : Int) ≤ (a0.size : Int)
   ·rw [if_pos c5] at H
    have c5b0 := eq_true c5
    have c5b1 : decide ((a1.size : Int) ≤ (a0.size : Int)) = true := decide_eq_true c5
    clear c5
    obtain rfl := Option.some.inj H
    go_enter Tryz.func96, Tryz.ntmps96
    go_wp2
    go_ret
    exact ⟨by rfl, by repeat (first | exact zn.refl _ | apply zn.step)⟩
   ·rw [if_neg c5] at H
    exact absurd H (by simp)
  ·rw [if_neg c4] at H
   exact absurd H (by simp)
 ·rw [if_neg c3] at H
  have c3b0 : decide ((a1.size : Int) ≤ (a0.size : Int)) = false := decide_eq_false c3
  have c3b1 : decide (a1.size ≤ a0.size) = false := decide_eq_false (fun h => c3 (Int.ofNat_le.mpr h))
  clear c3
  obtain rfl := Option.some.inj H
  go_enter Tryz.func96, Tryz.ntmps96
  go_wp2
  go_ret
  exact ⟨by rfl, by repeat (first | exact zn.refl _ | apply zn.step)⟩
def zyc.f (a0 : ByteArray) (a1 : ByteArray) : Option (ByteArray) := (zqc.f a0 a1).bind fun t127 => (if t127 = true then (if 0 ≤ (a1.size : Int) then (if (a1.size : Int) ≤ (a0.size : Int) then (some (a0.extract ((a1.size : Int) : Int).toNat a0.size)) else (none)) else (none)) else (some a0))
theorem zyc.calls (a0 : ByteArray) (a1 : ByteArray) (r : ByteArray) (w : World) (h : zyc.f a0 a1 = some r) :
  Calls Tryz.prog 82 #[.string a0, .string a1] w fun e w' => e = .returned (.string r) ∧ zn w w' := by
 have H : ((zqc.f a0 a1).bind fun t127 => (if t127 = true then (if 0 ≤ (a1.size : Int) then (if (a1.size : Int) ≤ (a0.size : Int) then (some (a0.extract ((a1.size : Int) : Int).toNat a0.size)) else (none)) else (none)) else (some a0))) = some r := h
 clear h
 replace H := Option.bind_eq_some_iff.mp H
 obtain ⟨t127, A30, H⟩ := H
 replace H : (if t127 = true then (if 0 ≤ (a1.size : Int) then (if (a1.size : Int) ≤ (a0.size : Int) then (some (a0.extract ((a1.size : Int) : Int).toNat a0.size)) else (none)) else (none)) else (some a0)) = some r := H
 have A3 := za.mk A30
 clear A30
 by_cases c4 : t127 = true
 ·subst c4
  have H1 : (if 0 ≤ (a1.size : Int) then (if (a1.size : Int) ≤ (a0.size : Int) then (some (a0.extract ((a1.size : Int) : Int).toNat a0.size)) else (none)) else (none)) = some r := by rw [if_pos rfl] at H; exact H
  clear H
  have H := H1
  clear H1
  by_cases c5 : 0 ≤ (a1.size : Int)
  ·rw [if_pos c5] at H
   have c5b0 := eq_true c5
   have c5b1 : decide (0 ≤ (a1.size : Int)) = true := decide_eq_true c5
   clear c5
   by_cases c6 : (a1.size : Int) ≤ (a0.size : Int)
   ·rw [if_pos c6] at H
    have c6b0 := eq_true c6
    have c6b1 : decide ((a1.size : Int) ≤ (a0.size : Int)) = true := decide_eq_true c6
    clear c6
    obtain rfl := Option.some.inj H
    go_enter Tryz.func82, Tryz.ntmps82
    go_wp2_with (((with_reducible refine zw (f := 96) rfl ?_); refine goesA (some 7) Tryz.func96 #[.string a0, .string a1] ?_; (with_reducible refine (zqc.calls a0 a1 true _ A3.out).mono ?_); rintro e w' ⟨rfl, ⟨nd, rfl⟩⟩; refine ⟨_, rfl, ?_⟩))
    go_ret
    exact ⟨by rfl, by repeat (first | exact zn.refl _ | apply zn.step)⟩
   ·rw [if_neg c6] at H
    exact absurd H (by simp)
  ·rw [if_neg c5] at H
   exact absurd H (by simp)
 ·replace c4 := Bool.eq_false_iff.mpr c4
  subst c4
  have H1 : (some a0) = some r := by rw [if_neg (show ¬ (false = true) by decide)] at H; exact H
  clear H
  have H := H1
  clear H1
  obtain rfl := Option.some.inj H
  go_enter Tryz.func82, Tryz.ntmps82
  go_wp2_with (((with_reducible refine zw (f := 96) rfl ?_); refine goesA (some 7) Tryz.func96 #[.string a0, .string a1] ?_; (with_reducible refine (zqc.calls a0 a1 false _ A3.out).mono ?_); rintro e w' ⟨rfl, ⟨nd, rfl⟩⟩; refine ⟨_, rfl, ?_⟩))
  go_ret
  exact ⟨by rfl, by repeat (first | exact zn.refl _ | apply zn.step)⟩
def zhb.f (a0 : ByteArray) (a1 : ByteArray) : Option (ByteArray) := (zyc.f a0 a1).bind fun t128 => (some t128)
theorem zhb.calls (a0 : ByteArray) (a1 : ByteArray) (r : ByteArray) (w : World) (h : zhb.f a0 a1 = some r) :
  Calls Tryz.prog 63 #[.string a0, .string a1] w fun e w' => e = .returned (.string r) ∧ zn w w' := by
 have H : ((zyc.f a0 a1).bind fun t128 => (some t128)) = some r := h
 clear h
 replace H := Option.bind_eq_some_iff.mp H
 obtain ⟨t128, A30, H⟩ := H
 replace H : (some t128) = some r := H
 have A3 := za.mk A30
 clear A30
 obtain rfl := Option.some.inj H
 go_enter Tryz.func63, Tryz.ntmps63
 go_wp2_with (((with_reducible refine zw (f := 82) rfl ?_); refine goesA (some 7) Tryz.func82 #[.string a0, .string a1] ?_; (with_reducible refine (zyc.calls a0 a1 t128 _ A3.out).mono ?_); rintro e w' ⟨rfl, ⟨nd, rfl⟩⟩; refine ⟨_, rfl, ?_⟩))
 go_ret
 exact ⟨by rfl, by repeat (first | exact zn.refl _ | apply zn.step)⟩
mutual
def zmc.l0 : Nat → List Int → Int → List Int → Int → Int → Option (Int)
 | 0, _, _, _, _, _ => none
 | k + 1, x1, x4, x10, x11, x12 => if x12 < x11 then (if 0 ≤ x12 then (if x12 < (x10.length : Int) then (zmc.l1 k x1 x4 (rd x10 x12) 0 x10 x11 x12) else (none)) else (none)) else (if x4 < 0 then (zmc.j2 k x1 0) else (zmc.j2 k x1 x4))
def zmc.l1 : Nat → List Int → Int → Int → Int → List Int → Int → Int → Option (Int)
 | 0, _, _, _, _, _, _, _ => none
 | k + 1, x1, x4, x6, x7, x10, x11, x12 => if x7 < 8 then (if (wrap64 (x4 - 1)) ≥ 0 then (none) else (if ((x6) % 256) = 0 then (zmc.l1 k x1 (wrap64 (x4 - 1)) (x6 / 256) (wrap64 (x7 + 1)) x10 x11 x12) else (none))) else (zmc.l0 k x1 x4 x10 x11 (wrap64 (x12 + 1)))
def zmc.j2 : Nat → List Int → Int → Option (Int)
 | 0, _, _ => none
 | k + 1, x1, x4 => zmc.l2 k x1 x4
def zmc.l2 : Nat → List Int → Int → Option (Int)
 | 0, _, _ => none
 | k + 1, x1, x4 => if x4 < (x1.length : Int) then (if 0 ≤ x4 then (if (rd x1 x4) = 0 then (zmc.l2 k x1 (wrap64 (x4 + 1))) else (some x4)) else (none)) else (some x4)
end
def zmc.f (k : Nat) (l0 : List Int) (l1 : List Int) : Option (Int) := zmc.l0 k l1 (l1.length : Int) l0 (l0.length : Int) 0
end Go.Proofs.YtapaijpglfmfgaaGreatDoor.S
end
section
namespace Go.Proofs.YtapaijpglfmfgaaGreatDoorG
open Go.RowKit YtapaijpglfmfgaaGreatDoorH YtapaijpglfmfgaaGreatDoor.S YtapaijpglfmfgaaGreatDoorW.PrintWords YtapaijpglfmfgaaGreatDoorW.PrintLast
theorem gr_then {w w1 w2 : World} {g : Nat} {row : Option Nat} (h : w.grownBy w1 (some g)) (k : w1.grownBy w2 row) (hr : ∀ b, row = some b → b = g ∨ w.heap.size ≤ b) : w.grownBy w2 (some g) :=
 ⟨k.os.trans h.os, k.tape.trans h.tape, k.output.trans h.output, Nat.le_trans h.size k.size, fun b hb hne => (k.block b (Nat.lt_of_lt_of_le hb h.size) (fun e => by
  rcases hr b e.symm with h1 | h1
  ·exact hne (by rw [h1])
  ·omega)).trans (h.block b hb hne)⟩
theorem zyf (w : World) (row : Option Nat) : w.grownBy w row := ⟨rfl, rfl, rfl, Nat.le_refl _, fun _ _ _ => rfl⟩
theorem zje {w w1 w2 : World} {g : Nat} (h : w.grownBy w1 (some g)) (k : Below w1.heap.size w1 w2) : w.grownBy w2 (some g) :=
 gr_then (row := none) h ⟨k.os, k.tape, k.output, k.size, fun b hb _ => k.block b hb⟩ (fun b e => by cases e)
theorem zqf {w w1 : World} {g : Nat} (h : w.grownBy w1 (some g)) (n : Nat) : w.grownBy (w1.drewN n) (some g) := zje h (zd (Below.refl _ _) n)
theorem gr_set {w w1 : World} {g : Nat} (h : w.grownBy w1 (some g)) {b : Nat} (hb : b = g ∨ w.heap.size ≤ b) (j : Nat) (u : Value) : w.grownBy (w1.setCell ⟨b, j, none⟩ u) (some g) :=
 gr_then (row := some b) h ⟨rfl, rfl, rfl, by simp [World.setCell], fun k hk hne => Below.heap_setCell _ _ _ _ (fun e => hne (by rw [e]))⟩ (fun k e => by cases e; exact hb)
theorem gr_gr {w w1 w2 : World} {g : Nat} (h : w.grownBy w1 (some g)) (k : w1.grownBy w2 (some g)) : w.grownBy w2 (some g) := gr_then h k (fun b e => by cases e; exact .inl rfl)
theorem gr_from {w w1 w2 : World} {g base : Nat} (h : Below base w w1) (hs : base ≤ w1.heap.size) (k : w1.grownBy w2 (some g)) (hb : base ≤ g) : Below base w w2 := h.grown k hs (fun b e => by cases e; exact hb)
theorem zrd {α : Type} {d : Kd α} {e base : Nat} {w w' : World} {ok : Nat → Prop} {v : Value} {xs : List α} {p : TypeId → Bool} (hE : d.E = []) (hp : p e = true) (h : Kd.R d e w base ok v xs) (k : KeptT p w w') : Kd.R d e w' base ok v xs :=
 Kd.R_mono (Kd.R_move (Kd.R_bound h) (fun b hb => by
  obtain ⟨_, _, _, q, hq, cells, hc⟩ := hb
  rw [hE] at hq
  have : q = e := by simpa using hq
  subst this
  exact k b _ _ _ hc hp)) (fun _ hk => hk.1)
theorem KeptT.row {α : Type} {d : Kd α} {e base : Nat} {w w' : World} {ok : Nat → Prop} {v : Value} {xs : List α} {p : TypeId → Bool} (hp : p e = false) (h : Kd.R d e w base ok v xs) (k : w.grownBy w' v.ownBlock) : KeptT p w w' := fun b cs2 t2 fr2 hb hq => k.block b (by
 rcases Nat.lt_or_ge b w.heap.size with hl | hl
 ·exact hl
 ·rw [Array.getElem?_eq_none hl] at hb; cases hb) (fun e2 => by
 obtain ⟨cells, hc⟩ := Kd.R_typed h b e2.symm
 rw [hc] at hb
 cases hb
 rw [hp] at hq
 cases hq)
def VBlk (w : World) (g : Nat) (o : ByteArray) (i : Bool) (r : ByteArray) (cv : Value) (l : ByteArray) (sv : Value) (h : ByteArray) (bv : Value) : Prop :=
 w.heap[g]? = some (.cells #[.string o, .bool i, .string r, cv, .string l, sv, .string h, bv] 71 (0, 0))
theorem VBlk.lt {w : World} {g : Nat} {o : ByteArray} {i : Bool} {r : ByteArray} {cv : Value} {l : ByteArray} {sv : Value} {h : ByteArray} {bv : Value} (k : VBlk w g o i r cv l sv h bv) : g < w.heap.size := zyb k
theorem parseLetter_ (w : World) (g : Nat) (o : ByteArray) (i : Bool) (r : ByteArray) (cv sv : Value) (h : ByteArray) (bv : Value) (s rest : ByteArray) (b : Bool) (hv : VBlk w g o i r cv ⟨#[]⟩ sv h bv)
  (h1 : zec.f s = some b) (h2 : zhb.f s (if b then s.extract 0 1 else ⟨#[]⟩) = some rest) (h3 : b = true → 0 < s.size) :
  Calls Tryz.prog 49 #[.pointer (some ⟨g, 0, none⟩), .string s] w fun e w' => e = .returned (.string rest) ∧ VBlk w' g o i r cv (if b then s.extract 0 1 else ⟨#[]⟩) sv h bv ∧ w.grownBy w' (some g) := by
 unfold VBlk at hv ⊢
 have HG := za.mk hv
 have H1 := za.mk h1
 have H2 := za.mk h2
 clear hv h1 h2
 cases b with
 | true =>
  simp only [if_true] at H2 ⊢
  have q1 : (1 ≤ (s.size : Int)) = True := eq_true (by have := h3 rfl; omega)
  have q2 : (1 ≤ s.size) = True := eq_true (by have := h3 rfl; omega)
  clear h3
  go_enter Tryz.func49, Tryz.ntmps49
  go_wp2_with (first | (go_at_call 64; (with_reducible refine (zec.calls s true _ H1.out).mono ?_); rintro e' w' ⟨rfl, ⟨nd, rfl⟩⟩; have g0 := zid HG.out nd; have x0 := (zb HG.out 4).trans rfl; have f4 := zz g0 4; have g1 := zq (cs' := #[.string o, .bool i, .string r, cv, .string (s.extract 0 1), sv, .string h, bv]) g0 4 (.string (s.extract 0 1)) rfl; have x4 := (zb g1 4).trans rfl; have G1 := za.mk g1; clear g0 g1) | (go_at_call 63; (with_reducible refine (zhb.calls s (s.extract 0 1) rest _ H2.out).mono ?_); rintro e' w' ⟨rfl, ⟨nd2, rfl⟩⟩))
  go_ret
  exact ⟨rfl, zid G1.out _, zqf (gr_set (zqf (zyf w _) _) (.inl rfl) _ _) _⟩
 | false =>
  simp only [Bool.false_eq_true, if_false] at H2 ⊢
  clear h3
  go_enter Tryz.func49, Tryz.ntmps49
  go_wp2_with (first | (go_at_call 64; (with_reducible refine (zec.calls s false _ H1.out).mono ?_); rintro e' w' ⟨rfl, ⟨nd, rfl⟩⟩; have x0 := (zb HG.out 4).trans rfl) | (go_at_call 63; (with_reducible refine (zhb.calls s ⟨#[]⟩ rest _ H2.out).mono ?_); rintro e' w' ⟨rfl, ⟨nd2, rfl⟩⟩))
  go_ret
  exact ⟨rfl, zid HG.out _, zqf (zyf w _) _⟩
theorem parseHash_ (w : World) (g : Nat) (o : ByteArray) (i : Bool) (r : ByteArray) (cv sv : Value) (l : ByteArray) (h : ByteArray) (bv : Value) (s hs rest : ByteArray) (k : Nat) (hv : VBlk w g o i r cv l sv h bv)
  (h1 : zv.f k s = some hs) (h2 : zhb.f s hs = some rest) :
  Calls Tryz.prog 51 #[.pointer (some ⟨g, 0, none⟩), .string s] w fun e w' => e = .returned (.string rest) ∧ VBlk w' g o i r cv l sv hs bv ∧ w.grownBy w' (some g) := by
 unfold VBlk at hv ⊢
 have HG := za.mk hv
 have H1 := za.mk h1
 have H2 := za.mk h2
 clear hv h1 h2
 go_enter Tryz.func51, Tryz.ntmps51
 go_wp2_with (first | (go_at_call 67; (with_reducible refine (zv.calls k s hs _ H1.out).mono ?_); rintro e' w' ⟨rfl, ⟨nd, rfl⟩⟩; have g0 := zid HG.out nd; have x0 := (zb HG.out 6).trans rfl; have f6 := zz g0 6; have g1 := zq (cs' := #[.string o, .bool i, .string r, cv, .string l, sv, .string hs, bv]) g0 6 (.string hs) rfl; have x6 := (zb g1 6).trans rfl; have G1 := za.mk g1; clear g0 g1) | (go_at_call 63; (with_reducible refine (zhb.calls s hs rest _ H2.out).mono ?_); rintro e' w' ⟨rfl, ⟨nd2, rfl⟩⟩))
 go_ret
 exact ⟨rfl, zid G1.out _, zqf (gr_set (zqf (zyf w _) _) (.inl rfl) _ _) _⟩
theorem alpBuild_no (w : World) (s : ByteArray) (h1 : zgc.f s 0 ⟨#[45, 114]⟩ = some false) :
  Calls Tryz.prog 68 #[.string s] w fun e w' => e = .returned (.slice none 0 0) ∧ Below w.heap.size w w' := by
 have HB := za.mk (Below.refl w.heap.size w)
 have H1 := za.mk h1
 clear h1
 go_enter Tryz.func68, Tryz.ntmps68
 go_wp2_with (first | (go_at_call 83; (with_reducible refine (zgc.calls s 0 ⟨#[45, 114]⟩ false _ H1.out).mono ?_); rintro e' w' ⟨rfl, ⟨nd, rfl⟩⟩))
 go_ret
 exact ⟨rfl, zd HB.out _⟩
theorem alpBuild_yes (w : World) (s : ByteArray) (k n : Nat) (h1 : zgc.f s 0 ⟨#[45, 114]⟩ = some true) (h2 : zgb.f k s 2 = some (n : Int)) (h3 : 2 ≤ n) (h4 : n ≤ s.size) :
  Calls Tryz.prog 68 #[.string s] w fun e w' => e = .returned (.slice (some ⟨w.heap.size, 0, none⟩) 2 2) ∧ w'.heap[w.heap.size]? = some (.cells #[.string (s.extract 0 n), .string (s.extract 2 n)] 9 (0, 0)) ∧ Below w.heap.size w w' := by
 have HB := za.mk (Below.refl w.heap.size w)
 have H1 := za.mk h1
 have H2 := za.mk h2
 have q1 : (0 ≤ (n : Int)) = True := eq_true (by omega)
 have q2 : ((n : Int) ≤ (s.size : Int)) = True := eq_true (by omega)
 have q3 : (2 ≤ (n : Int)) = True := eq_true (by omega)
 have q4 : (n ≤ s.size) = True := eq_true (by omega)
 have q5 : (2 ≤ n) = True := eq_true (by omega)
 have q6 : decide (n ≤ s.size) = true := decide_eq_true (by omega)
 have q7 : decide (2 ≤ n) = true := decide_eq_true (by omega)
 clear h1 h2 h3 h4
 go_enter Tryz.func68, Tryz.ntmps68
 go_upto_region 4 with (first | (go_at_call 83; (with_reducible refine (zgc.calls s 0 ⟨#[45, 114]⟩ true _ H1.out).mono ?_); rintro e' w' ⟨rfl, ⟨nd, rfl⟩⟩) | (go_at_call 79; (with_reducible refine (zgb.calls k s 2 (n : Int) _ H2.out).mono ?_); rintro e' w' ⟨rfl, ⟨nd2, rfl⟩⟩))
 go_region_with (fail)
 all_goals (try go_wp2)
 all_goals go_ret
 all_goals exact ⟨rfl, zvc (w.drewN _) _, zj (zd HB.out _) _⟩
end Go.Proofs.YtapaijpglfmfgaaGreatDoorG
end
section
namespace Go.Proofs.YtapaijpglfmfgaaGreatDoorB
open Go.RowKit YtapaijpglfmfgaaGreatDoorW.PrintWords
section
variable {α β : Type} {g f : Nat → Option α} {r : α}
theorem Ev.succ (h : Ev (fun k => g (k + 1)) r) : Ev g r := Ev.step (fun _ => rfl) h
theorem Ev.pos {c : Nat → Prop} [∀ k, Decidable (c k)] (hc : ∀ k, c k) (h : Ev g r) : Ev (fun k => if c k then g k else f k) r := Ev.congr (fun k => if_pos (hc k)) h
theorem Ev.neg {c : Nat → Prop} [∀ k, Decidable (c k)] (hc : ∀ k, ¬ c k) (h : Ev f r) : Ev (fun k => if c k then g k else f k) r := Ev.congr (fun k => if_neg (hc k)) h
theorem Ev.bind0 {a : α} {q : β} {o : Option α} {F : Nat → α → Option β} (h : o = some a) (k : Ev (fun n => F n a) q) : Ev (fun n => o.bind (F n)) q := by
 subst h; exact k
theorem Ev.eq {r' : α} (h : Ev g r) (e : r = r') : Ev g r' := e ▸ h
end
theorem w64 {i : Int} (h0 : -9223372036854775808 ≤ i) (h1 : i ≤ 9223372036854775807) : wrap64 i = i := by unfold wrap64; omega
theorem zfc (s : ByteArray) : s.size = (bytesOf s).length := (bytesOf_length s).symm
theorem zah (s : ByteArray) (i : Nat) : bt s i = (bytesOf s).getD i 0 := by
 have h := rd_bytesOf s i
 simpa [rd] using h.symm
theorem zhi (s : ByteArray) : bt s 0 = (bytesOf s).getD 0 0 := zah s 0
theorem zdf (s : ByteArray) (a b : Nat) : bytesOf (s.extract a b) = ((bytesOf s).drop a).take (b - a) := by
 simp [bytesOf, Lib.extract_data, List.map_drop, List.map_take]
theorem zmg (s : ByteArray) (a : Nat) : bytesOf (s.extract a s.size) = (bytesOf s).drop a := by
 rw [zdf, zfc, List.take_of_length_le]
 simp
theorem zwf (s : ByteArray) (b : Nat) : bytesOf (s.extract 0 b) = (bytesOf s).take b := by
 rw [zdf]; simp
theorem zii (s : ByteArray) : ∀ x ∈ bytesOf s, 0 ≤ x ∧ x ≤ 255 := by
 intro x hx
 simp only [bytesOf, List.mem_map] at hx
 obtain ⟨b, _, rfl⟩ := hx
 have := b.toNat_lt
 omega
theorem B_inj {s t : ByteArray} (h : bytesOf s = bytesOf t) : s = t := by
 have h1 : s.data.toList = t.data.toList := by
  have hinj : ∀ (a b : List UInt8), a.map (fun b : UInt8 => (b.toNat : Int)) = b.map (fun b : UInt8 => (b.toNat : Int)) → a = b := by
   intro a
   induction a with
   | nil => intro b hb; cases b with
    | nil => rfl
    | cons => simp at hb
   | cons x a ih =>
    intro b hb
    cases b with
    | nil => simp at hb
    | cons y b =>
     simp only [List.map_cons, List.cons.injEq] at hb
     have : x = y := UInt8.toNat_inj.1 (by omega)
     rw [this, ih b hb.2]
  exact hinj _ _ h
 have h2 : s.data = t.data := Array.toList_inj.1 h1
 cases s; cases t; simp_all
theorem zrh (s : ByteArray) : s.toList = s.data.toList := ByteArray.toList_eq s
theorem zmd (s t : ByteArray) : s.toList = t.toList ↔ bytesOf s = bytesOf t := by
 rw [zrh, zrh]
 constructor
 ·intro h; simp [bytesOf, h]
 ·intro h; rw [B_inj h]
theorem toList_lit (s : ByteArray) (l : List UInt8) : s.toList = l ↔ bytesOf s = l.map (fun b => (b.toNat : Int)) := by
 have h := zmd s ⟨l.toArray⟩
 have h2 : (⟨l.toArray⟩ : ByteArray).toList = l := by rw [zrh]
 have h3 : bytesOf (⟨l.toArray⟩ : ByteArray) = l.map (fun b => (b.toNat : Int)) := by simp [bytesOf]
 rw [h2, h3] at h
 exact h
theorem zcc (s : ByteArray) : s.toList = [] ↔ bytesOf s = [] := by
 rw [toList_lit]; rfl
theorem size_nil (s : ByteArray) : s.size = 0 ↔ bytesOf s = [] := by
 rw [zfc, List.length_eq_zero_iff]
theorem B_str {l : List Int} (h : ∀ x ∈ l, 0 ≤ x ∧ x ≤ 255) : bytesOf (strOfNums l) = l := by
 have : ∀ (l : List Int), (∀ x ∈ l, 0 ≤ x ∧ x ≤ 255) → (l.map fun n => UInt8.ofNat n.toNat).map (fun b => (b.toNat : Int)) = l := by
  intro l
  induction l with
  | nil => intro _; rfl
  | cons a l ih =>
   intro h
   have ha := h a List.mem_cons_self
   rw [List.map_cons, List.map_cons, ih (fun x hx => h x (List.mem_cons_of_mem _ hx))]
   congr 1
   rw [UInt8.toNat_ofNat_of_lt' (by show a.toNat < 256; omega)]
   omega
 simpa [strOfNums, bytesOf] using this l h
theorem str_B (s : ByteArray) : strOfNums (bytesOf s) = s := B_inj (B_str (zii s))
def lt_ : List Int → List Int → Bool
 | _, [] => false
 | [], _ :: _ => true
 | a :: x, b :: y => decide (a < b) || (decide (a = b) && lt_ x y)
theorem bytesLess_B (s t : ByteArray) : Op.bytesLess s.toList t.toList = lt_ (bytesOf s) (bytesOf t) := by
 rw [zrh, zrh]
 simp only [bytesOf]
 generalize s.data.toList = a
 generalize t.data.toList = b
 induction a generalizing b with
 | nil => cases b <;> simp [Op.bytesLess, lt_]
 | cons x a ih =>
  cases b with
  | nil => simp [Op.bytesLess, lt_]
  | cons y b =>
   simp only [Op.bytesLess, lt_, List.map_cons, ih b]
   have e1 : decide (x < y) = decide ((x.toNat : Int) < (y.toNat : Int)) := by
    rw [decide_eq_decide, UInt8.lt_iff_toNat_lt]; omega
   have e2 : (x == y) = decide ((x.toNat : Int) = (y.toNat : Int)) := by
    rw [Bool.eq_iff_iff, beq_iff_eq, decide_eq_true_iff, ← UInt8.toNat_inj]; omega
   rw [e1, e2]
def cmp_ : List Int → List Int → Int
 | [], [] => 0
 | [], _ :: _ => -1
 | _ :: _, [] => 1
 | a :: az, b :: bs => if a < b then -1 else if b < a then 1 else cmp_ az bs
theorem compare_B (s t : ByteArray) : Lib.compareBytes s.data.toList t.data.toList = cmp_ (bytesOf s) (bytesOf t) := by
 simp only [bytesOf]
 generalize s.data.toList = a
 generalize t.data.toList = b
 induction a generalizing b with
 | nil => cases b <;> simp [Lib.compareBytes, cmp_]
 | cons x a ih =>
  cases b with
  | nil => simp [Lib.compareBytes, cmp_]
  | cons y b =>
   simp only [Lib.compareBytes, cmp_, List.map_cons, ih b, UInt8.lt_iff_toNat_lt]
   have : ∀ a b : Nat, (a < b) = ((a : Int) < (b : Int)) := fun a b => by simp
   simp only [this]
theorem cmp_lt (a b : List Int) : cmp_ a b < 0 ↔ lt_ a b = true := by
 induction a generalizing b with
 | nil => cases b <;> simp [cmp_, lt_]
 | cons x a ih =>
  cases b with
  | nil => simp [cmp_, lt_]
  | cons y b =>
   simp only [cmp_, lt_]
   by_cases h : x < y
   ·simp [h]
   ·by_cases h2 : y < x
    ·have : ¬ x = y := by omega
     simp [h, h2, this]
    ·have : x = y := by omega
     subst this
     simp [ih b]
theorem zyg (l : List Int) (i : Nat) (h : i < l.length) : l.drop i = l.getD i 0 :: l.drop (i + 1) := by
 rw [List.drop_eq_getElem_cons h]
 simp [List.getD_eq_getElem?_getD, h]
def isD (c : Int) : Bool := decide (48 ≤ c ∧ c ≤ 57)
def isL (c : Int) : Bool := decide (97 ≤ c ∧ c ≤ 122)
def run (p : Int → Bool) (l : List Int) : Nat := (l.takeWhile p).length
theorem run_nil (p : Int → Bool) : run p [] = 0 := rfl
theorem zrg {p : Int → Bool} {c : Int} {l : List Int} (h : p c = true) : run p (c :: l) = run p l + 1 := by simp [run, h]
theorem zhg {p : Int → Bool} {c : Int} {l : List Int} (h : p c = false) : run p (c :: l) = 0 := by simp [run, h]
theorem zih (p : Int → Bool) (l : List Int) : run p l ≤ l.length := by
 unfold run
 exact List.IsPrefix.length_le (List.takeWhile_prefix p)
def glue (a : List Int) : List (List Int) → List (List Int)
 | [] => [a]
 | h :: t => (a ++ h) :: t
def zhe (p : Int → Bool) : List Int → List (List Int)
 | [] => [[]]
 | c :: r => if p c = true then [] :: zhe p r else glue [c] (zhe p r)
theorem glue_ne (a : List Int) (L : List (List Int)) : glue a L ≠ [] := by cases L <;> simp [glue]
theorem splitP_ne (p : Int → Bool) (l : List Int) : zhe p l ≠ [] := by
 cases l with
 | nil => simp [zhe]
 | cons c r =>
  simp only [zhe]
  split
  ·simp
  ·exact glue_ne _ _
theorem splitP_run (p : Int → Bool) : ∀ (l : List Int), zhe p l = if run (fun c => !p c) l < l.length then l.take (run (fun c => !p c) l) :: zhe p (l.drop (run (fun c => !p c) l + 1)) else [l] := by
 intro l
 induction l with
 | nil => rfl
 | cons c r ih =>
  simp only [zhe]
  cases h : p c
  ·rw [if_neg (by simp), zrg (by simp [h])]
   have hle := zih (fun c => !p c) r
   rw [ih]
   by_cases hlt : run (fun c => !p c) r < r.length
   ·rw [if_pos hlt, if_pos (by simp; omega)]
    simp [glue]
   ·rw [if_neg hlt, if_neg (by simp; omega)]
    rfl
  ·rw [if_pos rfl, zhg (by simp [h]), if_pos (by simp)]
   simp
theorem splitP_length (p : Int → Bool) : ∀ (l : List Int), (zhe p l).length ≤ l.length + 1 := by
 intro l
 induction l with
 | nil => simp [zhe]
 | cons c r ih =>
  simp only [zhe]
  split
  ·simp; omega
  ·have : ∀ (a : List Int) (L : List (List Int)), L ≠ [] → (glue a L).length = L.length := by
    intro a L hL
    cases L with
    | nil => exact absurd rfl hL
    | cons x r => simp [glue]
   rw [this _ _ (splitP_ne p r)]
   simp; omega
end Go.Proofs.YtapaijpglfmfgaaGreatDoorB
end
section
namespace Go.Proofs.YtapaijpglfmfgaaGreatDoorM
open Go.RowKit YtapaijpglfmfgaaGreatDoorB YtapaijpglfmfgaaGreatDoorW.PrintWords
def val : List Int → Nat
 | [] => 0
 | x :: m => x.toNat + 256 * val m
def Byt (m : List Int) : Prop := ∀ x ∈ m, 0 ≤ x ∧ x ≤ 255
theorem Byt.cons {x : Int} {m : List Int} (h : Byt (x :: m)) : (0 ≤ x ∧ x ≤ 255) ∧ Byt m := ⟨h x List.mem_cons_self, fun y hy => h y (List.mem_cons_of_mem _ hy)⟩
theorem Byt.mk_cons {x : Int} {m : List Int} (h : 0 ≤ x ∧ x ≤ 255) (k : Byt m) : Byt (x :: m) := fun y hy => (List.mem_cons.1 hy).elim (fun e => e ▸ h) (k y)
theorem Byt.append {l m : List Int} (h : Byt l) (k : Byt m) : Byt (l ++ m) := fun x hx => (List.mem_append.1 hx).elim (h x) (k x)
theorem Byt.reverse {l : List Int} (h : Byt l) : Byt l.reverse := fun x hx => h x (List.mem_reverse.1 hx)
theorem val_lt : ∀ {m : List Int}, Byt m → val m < 256 ^ m.length
 | [], _ => by simp [val]
 | x :: m, h => by
  have h1 := h.cons.1
  have h2 := val_lt h.cons.2
  simp only [val, List.length_cons, Nat.pow_succ]
  generalize 256 ^ m.length = p at h2 ⊢
  omega
theorem zwg : ∀ (m : List Int) (x : Int), val (m ++ [x]) = val m + 256 ^ m.length * x.toNat
 | [], x => by simp [val]
 | y :: m, x => by
  simp only [List.cons_append, val, zwg m x, List.length_cons, Nat.pow_succ]
  rw [Nat.mul_add, Nat.mul_right_comm, Nat.mul_comm _ 256, Nat.add_assoc]
theorem val_inj : ∀ {m m' : List Int}, Byt m → Byt m' → m.length = m'.length → val m = val m' → m = m'
 | [], [], _, _, _, _ => rfl
 | [], _ :: _, _, _, h, _ => by simp at h
 | _ :: _, [], _, _, h, _ => by simp at h
 | x :: m, y :: m', h, h', hl, hv => by
  have h1 := h.cons.1
  have h2 := h'.cons.1
  simp only [val] at hv
  have e : x = y := by omega
  have e2 : val m = val m' := by omega
  rw [e, val_inj h.cons.2 h'.cons.2 (by simpa using hl) e2]
structure Tight (m : List Int) (n : Nat) : Prop where
 byt : Byt m
 eq : val m = n
 low : m ≠ [] → 256 ^ m.length ≤ 256 * n
theorem Tight.lt_len {m m' : List Int} {n n' : Nat} (h : Tight m n) (h' : Tight m' n') (hl : m.length < m'.length) : n < n' := by
 have h1 := val_lt h.byt
 rw [h.eq] at h1
 have h2 := h'.low (by intro e; rw [e] at hl; simp at hl)
 have h3 : 256 ^ (m.length + 1) ≤ 256 ^ m'.length := Nat.pow_le_pow_right (by omega) (by omega)
 rw [Nat.pow_succ] at h3
 generalize 256 ^ m.length = p at h1 h3
 generalize 256 ^ m'.length = q at h2 h3
 omega
theorem Tight.unique {m m' : List Int} {n : Nat} (h : Tight m n) (h' : Tight m' n) : m = m' := by
 refine val_inj h.byt h'.byt ?_ (h.eq.trans h'.eq.symm)
 rcases Nat.lt_trichotomy m.length m'.length with hl | hl | hl
 ·exact absurd (h.lt_len h' hl) (Nat.lt_irrefl n)
 ·exact hl
 ·exact absurd (h'.lt_len h hl) (Nat.lt_irrefl n)
def leB : Nat → Nat → List Int
 | 0, _ => []
 | k + 1, n => if n = 0 then [] else ((n % 256 : Nat) : Int) :: leB k (n / 256)
theorem zeh : ∀ (k n : Nat), n ≤ k → Tight (leB k n) n
 | 0, n, h => by
  have : n = 0 := by omega
  subst this
  exact ⟨fun x hx => by simp [leB] at hx, rfl, fun h => absurd rfl h⟩
 | k + 1, n, h => by
  simp only [leB]
  by_cases h0 : n = 0
  ·rw [if_pos h0]
   subst h0
   exact ⟨fun x hx => by simp at hx, rfl, fun h => absurd rfl h⟩
  ·rw [if_neg h0]
   have ih := zeh k (n / 256) (by omega)
   refine ⟨Byt.mk_cons (by omega) ih.byt, ?_, fun _ => ?_⟩
   ·simp only [val, ih.eq]; omega
   ·by_cases he : leB k (n / 256) = []
    ·rw [he]; simp; omega
    ·have := ih.low he
     rw [List.length_cons, Nat.pow_succ]
     generalize 256 ^ (leB k (n / 256)).length = p at this ⊢
     omega
def magL (n : Nat) : List Int := (leB n n).reverse
def magB (n : Nat) : ByteArray := strOfNums (magL n)
theorem zag (n : Nat) : Tight (magL n).reverse n := by
 unfold magL
 rw [List.reverse_reverse]
 exact zeh n n (Nat.le_refl n)
theorem Tight.mag {m : List Int} {n : Nat} (h : Tight m n) : m.reverse = magL n := by
 unfold magL
 rw [h.unique (zeh n n (Nat.le_refl n))]
theorem magL_byt (n : Nat) : Byt (magL n) := (zeh n n (Nat.le_refl n)).byt.reverse
theorem B_mag (n : Nat) : bytesOf (magB n) = magL n := B_str (magL_byt n)
theorem magL_nil {n : Nat} : magL n = [] ↔ n = 0 := by
 constructor
 ·intro h
  have h1 := (zag n).eq
  rw [h] at h1
  exact h1.symm
 ·rintro rfl
  rfl
theorem magL_head {n : Nat} (h : n ≠ 0) : (magL n).getD 0 0 ≠ 0 := by
 have ht := zeh n n (Nat.le_refl n)
 unfold magL
 generalize leB n n = m at ht ⊢
 have hm : m ≠ [] := by
  rintro rfl
  exact h ht.eq.symm
 have e := List.dropLast_concat_getLast hm
 rw [← e, List.reverse_append]
 simp only [List.reverse_cons, List.reverse_nil, List.nil_append, List.cons_append]
 show m.getLast hm ≠ 0
 intro hz
 have hv := ht.eq
 rw [← e, zwg, hz] at hv
 have hb : Byt m.dropLast := fun x hx => ht.byt x (List.dropLast_subset m hx)
 have h1 := val_lt hb
 have h2 := ht.low hm
 have hl : m.length = m.dropLast.length + 1 := by
  have := List.length_pos_iff.2 hm
  rw [List.length_dropLast]; omega
 rw [hl, Nat.pow_succ] at h2
 simp only [Int.toNat_zero, Nat.mul_zero, Nat.add_zero] at hv
 generalize 256 ^ m.dropLast.length = p at h1 h2
 omega
theorem mag_len_le {n : Nat} {k : Nat} (h : n < 256 ^ k) : (magL n).length ≤ k := by
 have ht := zag n
 rcases Nat.lt_or_ge k (magL n).length with hl | hl
 ·have h1 := ht.low (by intro e; have := congrArg List.length e; simp at this; rw [this] at hl; simp at hl)
  rw [List.length_reverse] at h1
  have h2 : 256 ^ (k + 1) ≤ 256 ^ (magL n).length := Nat.pow_le_pow_right (by omega) (by omega)
  rw [Nat.pow_succ] at h2
  generalize 256 ^ (magL n).length = p at h1 h2
  omega
 ·exact hl
theorem mag_drop {m : List Int} {n : Nat} (h : Byt m) (e : val m = n) : m.reverse.dropWhile (fun x => decide (x = 0)) = magL n := by
 have : ∀ (r : List Int), Byt r.reverse → val r.reverse = n → r.dropWhile (fun x => decide (x = 0)) = magL n := by
  intro r
  induction r with
  | nil =>
   intro _ h2
   have : n = 0 := h2.symm
   subst this
   rfl
  | cons x r ih =>
   intro h1 h2
   rw [List.reverse_cons] at h1 h2
   rw [zwg] at h2
   have hb : Byt r.reverse := fun y hy => h1 y (List.mem_append_left _ hy)
   have hx := h1 x (List.mem_append_right _ (by simp))
   by_cases h0 : x = 0
   ·subst h0
    rw [List.dropWhile_cons_of_pos (by simp)]
    exact ih hb (by simpa using h2)
   ·rw [List.dropWhile_cons_of_neg (by simpa using h0)]
    have ht : Tight (r.reverse ++ [x]) n := by
     refine ⟨h1, by rw [zwg]; exact h2, fun _ => ?_⟩
     rw [List.length_append, List.length_cons, List.length_nil, Nat.pow_succ]
     have : 256 ^ r.reverse.length * 1 ≤ 256 ^ r.reverse.length * x.toNat := Nat.mul_le_mul_left _ (by omega)
     generalize 256 ^ r.reverse.length = p at h2 this ⊢
     omega
    have := ht.mag
    rw [List.reverse_append, List.reverse_reverse] at this
    simpa using this
 exact this m.reverse (by rw [List.reverse_reverse]; exact h) (by rw [List.reverse_reverse]; exact e)
theorem magL_inj {a b : Nat} (h : magL a = magL b) : a = b := by
 have h1 := (zag a).eq
 rw [h, (zag b).eq] at h1
 exact h1.symm
theorem magB_inj {a b : Nat} (h : magB a = magB b) : a = b := magL_inj (by rw [← B_mag, ← B_mag, h])
def cmpV (a b : Nat) : Int := if a < b then -1 else if b < a then 1 else 0
theorem cmp_snoc : ∀ (a b : List Int) (x y : Int), a.length = b.length → cmp_ (a ++ [x]) (b ++ [y]) = if cmp_ a b = 0 then cmp_ [x] [y] else cmp_ a b
 | [], [], x, y, _ => by simp [cmp_]
 | [], _ :: _, _, _, h => by simp at h
 | _ :: _, [], _, _, h => by simp at h
 | p :: a, q :: b, x, y, h => by
  simp only [List.cons_append, cmp_]
  by_cases h1 : p < q
  ·simp [h1]
  ·by_cases h2 : q < p
   ·simp [h1, h2]
   ·simp only [h1, h2, if_false]
    exact cmp_snoc a b x y (by simpa using h)
theorem cmp_rev : ∀ (m m' : List Int), Byt m → Byt m' → m.length = m'.length → cmp_ m.reverse m'.reverse = cmpV (val m) (val m')
 | [], [], _, _, _ => rfl
 | [], _ :: _, _, _, h => by simp at h
 | _ :: _, [], _, _, h => by simp at h
 | x :: m, y :: m', h, h', hl => by
  have h1 := h.cons.1
  have h2 := h'.cons.1
  have ih := cmp_rev m m' h.cons.2 h'.cons.2 (by simpa using hl)
  rw [List.reverse_cons, List.reverse_cons, cmp_snoc _ _ _ _ (by simpa using hl), ih]
  simp only [val, cmp_, cmpV]
  repeat' split
  all_goals omega
theorem cmp_mag (a b : Nat) : cmpV a b = if (magL a).length < (magL b).length then -1 else if (magL b).length < (magL a).length then 1 else cmp_ (magL a) (magL b) := by
 have ha := zag a
 have hb := zag b
 by_cases h1 : (magL a).length < (magL b).length
 ·rw [if_pos h1]
  have := ha.lt_len hb (by simpa using h1)
  unfold cmpV
  rw [if_pos this]
 ·rw [if_neg h1]
  by_cases h2 : (magL b).length < (magL a).length
  ·rw [if_pos h2]
   have := hb.lt_len ha (by simpa using h2)
   unfold cmpV
   rw [if_neg (by omega), if_pos this]
  ·rw [if_neg h2]
   have := cmp_rev _ _ ha.byt hb.byt (by simp; omega)
   rw [List.reverse_reverse, List.reverse_reverse, ha.eq, hb.eq] at this
   exact this.symm
theorem cmpV_neg (a b : Nat) : cmpV b a = -cmpV a b := by
 unfold cmpV
 repeat' split
 all_goals omega
theorem cmp_neg : ∀ a b : List Int, cmp_ b a = -cmp_ a b
 | [], [] => rfl
 | [], _ :: _ => rfl
 | _ :: _, [] => rfl
 | x :: a, y :: b => by
  simp only [cmp_]
  rw [cmp_neg a b]
  repeat' split
  all_goals omega
def mul10 : List Int → Nat → List Int × Nat
 | [], c => ([], c)
 | x :: m, c => ((((c + 10 * x.toNat) % 256 : Nat) : Int) :: (mul10 m ((c + 10 * x.toNat) / 256)).1, (mul10 m ((c + 10 * x.toNat) / 256)).2)
theorem zjg : ∀ (m : List Int) (c : Nat), (mul10 m c).1.length = m.length
 | [], _ => rfl
 | x :: m, c => by simp only [mul10, List.length_cons, zjg m]
theorem mul10_byt : ∀ (m : List Int) (c : Nat), Byt (mul10 m c).1
 | [], _ => fun x hx => by simp [mul10] at hx
 | x :: m, c => by
  simp only [mul10]
  exact Byt.mk_cons (by omega) (mul10_byt m _)
theorem zbi : ∀ (m : List Int) (c : Nat), Byt m → c ≤ 9 → (mul10 m c).2 ≤ 9
 | [], c, _, h => h
 | x :: m, c, hb, h => by
  have := hb.cons.1
  simp only [mul10]
  exact zbi m _ hb.cons.2 (by omega)
theorem mul10_val : ∀ (m : List Int) (c : Nat), val (mul10 m c).1 + 256 ^ m.length * (mul10 m c).2 = 10 * val m + c
 | [], c => by simp [mul10, val]
 | x :: m, c => by
  have ih := mul10_val m ((c + 10 * x.toNat) / 256)
  simp only [mul10, val, List.length_cons, Nat.pow_succ, Int.toNat_natCast]
  rw [Nat.mul_comm (256 ^ m.length) 256, Nat.mul_assoc]
  generalize 256 ^ m.length * (mul10 m ((c + 10 * x.toNat) / 256)).2 = p at ih ⊢
  omega
def pushD (m : List Int) (d : Nat) : List Int := if (mul10 m d).2 > 0 then (mul10 m d).1 ++ [((mul10 m d).2 : Int)] else (mul10 m d).1
theorem push_tight {m : List Int} {n d : Nat} (h : Tight m n) (hd : d ≤ 9) : Tight (pushD m d) (10 * n + d) := by
 have h1 := zjg m d
 have h2 := mul10_byt m d
 have h3 := zbi m d h.byt hd
 have h4 := mul10_val m d
 rw [h.eq] at h4
 unfold pushD
 by_cases hc : (mul10 m d).2 > 0
 ·rw [if_pos hc]
  refine ⟨h2.append (fun x hx => ?_), ?_, fun _ => ?_⟩
  ·have : x = ((mul10 m d).2 : Int) := by simpa using hx
   omega
  ·rw [zwg, h1, Int.toNat_natCast]; exact h4
  ·rw [List.length_append, h1, List.length_cons, List.length_nil, Nat.pow_succ]
   have : 256 ^ m.length * 1 ≤ 256 ^ m.length * (mul10 m d).2 := Nat.mul_le_mul_left _ hc
   generalize 256 ^ m.length = p at this h4 ⊢
   omega
 ·rw [if_neg hc]
  have h0 : (mul10 m d).2 = 0 := by omega
  rw [h0] at h4
  refine ⟨h2, by simpa using h4, fun hne => ?_⟩
  have := h.low (fun e => hne (by subst e; rfl))
  rw [h1]
  omega
def decL (l : List Int) : Nat := l.foldl (fun n c => 10 * n + (c - 48).toNat) 0
theorem decL_snoc (l : List Int) (c : Int) : decL (l ++ [c]) = 10 * decL l + (c - 48).toNat := by simp [decL]
theorem decL_lt (l : List Int) (h : ∀ c ∈ l, isD c = true) : decL l < 10 ^ l.length := by
 have : ∀ (r : List Int), (∀ c ∈ r, isD c = true) → decL r.reverse < 10 ^ r.length := by
  intro r
  induction r with
  | nil => intro _; simp [decL]
  | cons c r ih =>
   intro h
   have h1 := ih (fun x hx => h x (List.mem_cons_of_mem _ hx))
   have h2 := h c List.mem_cons_self
   unfold isD at h2
   have h3 := of_decide_eq_true h2
   rw [List.reverse_cons, decL_snoc, List.length_cons, Nat.pow_succ]
   generalize 10 ^ r.length = p at h1 ⊢
   omega
 have h2 := this l.reverse (fun c hc => h c (List.mem_reverse.1 hc))
 simpa using h2
end Go.Proofs.YtapaijpglfmfgaaGreatDoorM
end
