/- Proved here, for the row of the law FnPyPIBuilt: contracts of the Go functions that it reaches, each as its theorem 'calls' says, and the words and plain laws that they need (K6, K7, K8, K9, K10, K11, K12, K13, K14, KN, YC, Y1, Y2, Y4, Y5, Y6, Y0, Y7, Y8, YL, YM, YN, ZA, Y10, Qx0, Qx3). -/
import Derived.Test.YtlijjnjpomnphaaGreatDoorFnPyPIBuiltC
import Derived.Below
import Derived.Deep.Draws
import Derived.Deep.AppendLies
import Derived.Maps.AppendAt
import Derived.OwnWalk
import Derived.Laws.BytesArg
import Derived.Laws.MakeOwn
import Derived.Laws.OwnMore
import Derived.Deep.OwnRows
import Derived.Tactics
import Derived.Lib.ConvBytes
import Derived.Laws.Slices
import Derived.WalkKit
import Derived.KernelRfl
import Derived.RowKit3
import Derived.Deep.LoopGhost
import Derived.Deep.QuietTactic
import Derived.BigQuiet
import Derived.WideLaws
import Derived.Deep.DeepCutAuto
import Derived.Deep.CutBlock
import Derived.Deep.RegionHeld3
import Derived.Laws.Rows
import Derived.Lib.AppendStr
import Derived.ArgAppend
import Derived.Laws.IdiomCopy
import Derived.RowKit
import Derived.Test.YtlijjnjpomnphaaGreatDoorProg
import Derived.OrdersHeld
import Derived.Laws.BitsLemmas
import Derived.LaidEql
import Derived.StillTailTactics
import Derived.Deep.RegionWith
import Derived.Laws.ResultCell
set_option linter.unusedVariables false
set_option linter.unusedSimpArgs false
set_option maxHeartbeats 8000000
set_option maxRecDepth 100000
section
namespace Go.Proofs.YtlijjnjpomnphaaGreatDoorG
open Go.RowKit YtlijjnjpomnphaaGreatDoorW.PrintWords YtlijjnjpomnphaaGreatDoorW.PrintLast
theorem zcf (p : Option Addr) (W : World) : (method 359 169 (.pointer p) "ReadByte").run Tryz.prog W = .ok (217, .pointer p) W := by kernel_rfl
theorem zkg (p : Option Addr) (W : World) : (method 359 169 (.pointer p) "UnreadByte").run Tryz.prog W = .ok (218, .pointer p) W := by kernel_rfl
theorem zdf (xs : Array Value) (W : World) : (callFunc 217 xs).run Tryz.prog W = .ok (.enter 217 xs) W := enters_ Tryz.func217 (by kernel_rfl) rfl xs W
theorem zjg (xs : Array Value) (W : World) : (callFunc 218 xs).run Tryz.prog W = .ok (.enter 218 xs) W := enters_ Tryz.func218 (by kernel_rfl) rfl xs W
theorem scanSign_ (w : World) (b : Nat) (s : ByteArray) (p : Int) (h : Rd w b s 0 p) (hi : 0 < s.size) (hs : s.size ≤ 140737488355328) (h1 : bt s 0 ≠ 45) (h2 : bt s 0 ≠ 43) :
  Calls Tryz.prog 168 #[.iface 169 (.pointer (some ⟨b, 0, none⟩))] w fun e w' => e = .returned (.tuple #[.bool false, .nilIface]) ∧ Rd w' b s 0 (-1) ∧ w.grownBy w' (some b) := by
 have HR := za.mk (readByte_ w b 0 s p h hi hs)
 have HU := za.mk (fun w1 p1 (h : Rd w1 b s 1 p1) => unreadByte_ w1 b 0 s p1 h (by omega))
 have e0 : ((0 : Nat) : Int) = 0 := rfl
 rw [e0] at HR
 obtain ⟨c, hc⟩ : ∃ c, c = bt s 0 := ⟨_, rfl⟩
 rw [← hc] at h1 h2 HR
 have b1 : (c == 45) = false := by rw [beq_eq_false_iff_ne]; exact h1
 have b2 : (c == 43) = false := by rw [beq_eq_false_iff_ne]; exact h2
 have i1 := zcf (some ⟨b, 0, none⟩)
 have i2 := zkg (some ⟨b, 0, none⟩)
 have i3 := zdf
 have i4 := zjg
 clear h hc
 go_enter Tryz.func168, Tryz.ntmps168
 go_wp2_with (first
  | (go_at_call 217; refine HR.out.mono ?_; rintro e' w1 ⟨rfl, r1, g1⟩; have R1 := za.mk r1; have G1 := za.mk g1; clear r1 g1)
  | (go_at_call 218; refine (HU.out _ _ R1.out).mono ?_; rintro e' w2 ⟨rfl, r2, g2⟩; have R2 := za.mk r2; have G2 := za.mk g2; clear r2 g2))
 go_ret2
 exact ⟨rfl, R2.out, G1.out.trans G2.out⟩
end Go.Proofs.YtlijjnjpomnphaaGreatDoorG
end
section
namespace Go.Proofs.YtlijjnjpomnphaaGreatDoorG
open Go.RowKit YtlijjnjpomnphaaGreatDoorW.PrintWords YtlijjnjpomnphaaGreatDoorW.PrintLast
theorem zhb {fn : Func} {t u v x : Tmp} (h : fn.results = #[.tmp t, .tmp u, .tmp v, .tmp x]) (tmps : Array Value) (P : Program) (w : World) :
  (results fn tmps).run P w = .ok (.tuple #[tmps.getD t undef, tmps.getD u undef, tmps.getD v undef, tmps.getD x undef]) w := by
 simp [results, h]
theorem errInfo : (Tryz.prog.info? 243).map (fun i => i.comparable) = some true := by kernel_rfl
theorem errPointee : (Tryz.prog.info? 258).isSome = true := by kernel_rfl
def ErrV (a : Addr) : Value := .iface 243 (.pointer (some a))
theorem eq_err (a : Addr) (W : World) : (binOp .eql 74 (.iface 243 (.pointer (some a))) (.iface 243 (.pointer (some a)))).run Tryz.prog W = .ok (.bool true) W := by
 obtain ⟨i, hi, hc⟩ := Option.map_eq_some_iff.1 errInfo
 obtain ⟨j, hj⟩ := Option.isSome_iff_exists.1 errPointee
 exact run_eql_iface_ptr_same W a Tryz.underlying74 Tryz.underlying243 hi hc hj
theorem eq_nil_err (a : Addr) (W : World) : (binOp .eql 74 .nilIface (.iface 243 (.pointer (some a)))).run Tryz.prog W = .ok (.bool false) W :=
 run_eql_iface_nil_left W 243 _ Tryz.underlying74
structure Bel (B b : Nat) (w w' : World) : Prop where
 os : w'.os = w.os
 tape : w'.tape = w.tape
 output : w'.output = w.output
 size : w.heap.size ≤ w'.heap.size
 block : ∀ k, k < B → k ≠ b → w'.heap[k]? = w.heap[k]?
theorem Bel.refl (B b : Nat) (w : World) : Bel B b w w := ⟨rfl, rfl, rfl, Nat.le_refl _, fun _ _ _ => rfl⟩
theorem Bel.below {B b : Nat} {w w1 w2 : World} (h : Bel B b w w1) (k : Below B w1 w2) : Bel B b w w2 :=
 ⟨k.os.trans h.os, k.tape.trans h.tape, k.output.trans h.output, Nat.le_trans h.size k.size, fun j h1 h2 => (k.block j h1).trans (h.block j h1 h2)⟩
theorem Bel.grown {B b : Nat} {w w1 w2 : World} (h : Bel B b w w1) (k : w1.grownBy w2 (some b)) (hb : b < w1.heap.size) (hB : B ≤ w1.heap.size) : Bel B b w w2 :=
 ⟨k.os.trans h.os, k.tape.trans h.tape, k.output.trans h.output, Nat.le_trans h.size k.size, fun j h1 h2 => (k.block j (by omega) (fun e => h2 (Option.some.inj e))).trans (h.block j h1 h2)⟩
theorem Bel.cell {B b : Nat} {w w1 : World} (h : Bel B b w w1) {p : Addr} (hp : p.block < B) (hb : p.block ≠ b) : w1.cell? p = w.cell? p := World.cell?_of_block (h.block _ hp hb)
def Dig (c : Int) : Prop := 48 ≤ c ∧ c ≤ 57
instance (c : Int) : Decidable (Dig c) := inferInstanceAs (Decidable (_ ∧ _))
def dv (s : ByteArray) : Nat → Nat
 | 0 => 0
 | k + 1 => dv s k * 10 + (bt s k - 48).toNat
theorem NatS.grown {w w' : World} {B b : Nat} {v : Value} {l : List Nat} (h : NatS w B v l) (k : w.grownBy w' (some b)) (hb : b < B) : NatS w' B v l := by
 rcases h with h | ⟨g, full, h1, h2, h3, h4⟩
 ·exact .inl h
 ·exact .inr ⟨g, full, h1, h2, h3.same (k.block g h3.lt (fun e => by have := Option.some.inj e; omega)), h4⟩
structure Sc (B b : Nat) (w wr : World) (s : ByteArray) (v : Value) (k d i : Nat) : Prop where
 nat : ∃ l, NatS wr B v l ∧ num l * 10 ^ i + d = dv s k ∧ l = trimW l ∧ l.length ≤ k
 i19 : i < 19
 dlt : d < 10 ^ i
 ile : i ≤ k
 dig : ∀ j : Nat, j < k → Dig (bt s j)
 bel : Bel B b w wr
theorem pow19 {i : Nat} (h : i < 19) : 10 ^ i ≤ 1000000000000000000 := by
 have : 10 ^ i ≤ 10 ^ 18 := Nat.pow_le_pow_right (by omega) (by omega)
 simpa using this
theorem Sc.word {B b : Nat} {w wr : World} {s : ByteArray} {v : Value} {k d i : Nat} (h : Sc B b w wr s v k d i) : d < 1000000000000000000 := Nat.lt_of_lt_of_le h.dlt (pow19 h.i19)
theorem Sc.grown {B b : Nat} {w w1 w2 : World} {s : ByteArray} {v : Value} {k d i : Nat} (h : Sc B b w w1 s v k d i) (g : w1.grownBy w2 (some b)) (hb : b < B) (hB : B ≤ w.heap.size) : Sc B b w w2 s v k d i := by
 obtain ⟨l, h1, h2⟩ := h.nat
 exact ⟨⟨l, h1.grown g hb, h2⟩, h.i19, h.dlt, h.ile, h.dig, h.bel.grown g (by have := h.bel.size; omega) (by have := h.bel.size; omega)⟩
theorem Sc.digit {B b : Nat} {w wr : World} {s : ByteArray} {v : Value} {k d i : Nat} (h : Sc B b w wr s v k d i) (hd : Dig (bt s k)) (hi : i + 1 < 19) : Sc B b w wr s v (k + 1) (d * 10 + (bt s k - 48).toNat) (i + 1) := by
 obtain ⟨l, h1, h2, h3, h4⟩ := h.nat
 have hx : (bt s k - 48).toNat ≤ 9 := by have := hd.2; have := hd.1; omega
 have hdl := h.dlt
 refine ⟨⟨l, h1, ?_, h3, by omega⟩, hi, ?_, by have := h.ile; omega, fun j hj => ?_, h.bel⟩
 ·simp only [dv]
  rw [← h2, Nat.pow_succ, Nat.add_mul, Nat.mul_assoc]
  omega
 ·rw [Nat.pow_succ]; omega
 ·by_cases e : j = k
  ·rw [e]; exact hd
  ·exact h.dig j (by omega)
theorem ten19 : (10 : Nat) ^ 18 * 10 = 10000000000000000000 := by rfl
theorem full_word (a d x : Nat) : (a * 10000000000000000000 + (d * 10 + x)) * 10 ^ 0 + 0 = (a * 10 ^ 18 + d) * 10 + x := by
 rw [Nat.pow_zero, Nat.mul_one, Nat.add_zero, Nat.add_mul, Nat.mul_assoc, ten19, Nat.add_assoc]
end Go.Proofs.YtlijjnjpomnphaaGreatDoorG
end
section
namespace Go.Proofs.YtlijjnjpomnphaaGreatDoorG
open Go.RowKit YtlijjnjpomnphaaGreatDoorW.PrintWords YtlijjnjpomnphaaGreatDoorW.PrintLast
theorem zqf {d : Nat} (h : d < 1000000000000000000) : IsW d := by unfold IsW W64; omega
theorem zse {i : Nat} (h : i < 19) : IsW (10 ^ i) := by
 have := pow19 h
 unfold IsW W64
 omega
theorem pow_ne (i : Nat) : 10 ^ i ≠ 0 := by
 have := Nat.pow_pos (n := i) (show 0 < 10 by omega)
 omega
def ten19i : Nat := 10000000000000000000
theorem ten19i_cast : ((ten19i : Nat) : Int) = 10000000000000000000 := by unfold ten19i; simp
theorem mulAdd19_ (w : World) (B : Nat) (v : Value) (l : List Nat) (r : Nat) (h : NatS w B v l) (hBs : B ≤ w.heap.size) (hr : IsW r) (hl : l.length ≤ 1000000) :
  Calls Tryz.prog 177 #[v, v, .int .u64 10000000000000000000, .int .u64 (r : Int)] w fun e w' => ∃ v' l', e = .returned v' ∧ NatS w' B v' l' ∧ num l' = num l * ten19i + r ∧ l' = trimW l' ∧ l'.length ≤ l.length + 1 ∧ Below B w w' := by
 have t := zzd w B v l ten19i r h hBs (by unfold ten19i IsW W64; omega) (by unfold ten19i; omega) hr hl
 rw [ten19i_cast] at t
 exact t
theorem cast_one (k : Nat) : Value.int .i64 ((k : Int) + 1) = Value.int .i64 ((k + 1 : Nat) : Int) := rfl
theorem meas_one (k n : Nat) (h : k < n) : n - (intOf (.int .i64 ((k : Int) + 1))).toNat < n - (intOf (.int .i64 (k : Int))).toNat := by
 simp only [intOf]
 omega
theorem Sc.fill {B b : Nat} {w wr w5 : World} {s : ByteArray} {v v5 : Value} {k d i : Nat} {l l5 : List Nat} (h : Sc B b w wr s v k d i) (hd : Dig (bt s k)) (hi : i + 1 = 19) (m1 : NatS w5 B v5 l5) (m3 : l5 = trimW l5) (m4 : l5.length ≤ l.length + 1) (m5 : Below B wr w5)
  (m2 : num l5 = num l * ten19i + (d * 10 + (bt s k - 48).toNat)) (n2 : num l * 10 ^ i + d = dv s k) (n4 : l.length ≤ k) : Sc B b w w5 s v5 (k + 1) 0 0 := by
 refine ⟨⟨l5, m1, ?_, m3, by omega⟩, by omega, by simp, by omega, fun j hj => ?_, h.bel.below m5⟩
 ·have e : i = 18 := by omega
  have e3 : dv s (k + 1) = dv s k * 10 + (bt s k - 48).toNat := rfl
  rw [e3, m2, ← n2, e]
  unfold ten19i
  exact full_word _ _ _
 ·by_cases ej : j = k
  ·rw [ej]; exact hd
  ·exact h.dig j (by omega)
def Head (w : World) (b : Nat) (s : ByteArray) (k : Nat) (ch er : Value) (EP : Addr) : Prop :=
 (k < s.size ∧ er = .nilIface ∧ ch = .int .u8 (bt s k) ∧ Rd w b s (k + 1) (-1)) ∨ (k = s.size ∧ er = ErrV EP ∧ ch = .int .u8 0 ∧ Rd w b s s.size (-1))
theorem next_ (w : World) (b k : Nat) (s : ByteArray) (p : Int) (EP : Addr) (h : Rd w b s k p) (hk : k ≤ s.size) (hs : s.size ≤ 1000000) (hE : w.cell? ⟨2, 0, none⟩ = some (ErrV EP)) (hb : b ≠ 2) :
  Calls Tryz.prog 217 #[.pointer (some ⟨b, 0, none⟩)] w fun e w' => ∃ ch er, e = .returned (.tuple #[ch, er]) ∧ Head w' b s k ch er EP ∧ w.grownBy w' (some b) := by
 rcases Nat.lt_or_ge k s.size with h1 | h1
 ·refine (readByte_ w b k s p h h1 (by omega)).mono ?_
  rintro e w' ⟨rfl, h2, h3⟩
  exact ⟨_, _, rfl, .inl ⟨h1, rfl, rfl, h2⟩, h3⟩
 ·obtain rfl : k = s.size := by omega
  refine (znh w b s p _ h hE hb (by omega)).mono ?_
  rintro e w' ⟨rfl, h2, h3⟩
  exact ⟨_, _, rfl, .inr ⟨rfl, rfl, rfl, h2⟩, h3⟩
def Out (B b : Nat) (w : World) (s : ByteArray) (NP : Addr) (e : Ending) (w' : World) : Prop :=
 ∃ (v er : Value) (l : List Nat) (r : Nat), e = .returned (.tuple #[v, .int .i64 10, .int .i64 (r : Int), er]) ∧ NatS w' B v l ∧ num l = dv s r ∧ l = trimW l ∧ r ≤ s.size ∧ (∀ j : Nat, j < r → Dig (bt s j)) ∧ (r < s.size → ¬ Dig (bt s r)) ∧
  (r = 0 → er = ErrV NP) ∧ (0 < r → er = .nilIface) ∧ (∃ q, Rd w' b s r q) ∧ Bel B b w w'
theorem natScan_ (w : World) (B b : Nat) (s : ByteArray) (p : Int) (EP NP : Addr) (h : Rd w b s 0 p) (h0 : 0 < s.size) (hs : s.size ≤ 1000000) (hb : b < B) (hBs : B ≤ w.heap.size)
  (hE : w.cell? ⟨2, 0, none⟩ = some (ErrV EP)) (hN : w.cell? ⟨7, 0, none⟩ = some (ErrV NP)) (hbg : 7 < b) :
  Calls Tryz.prog 169 #[.slice none 0 0, .iface 169 (.pointer (some ⟨b, 0, none⟩)), .int .i64 10, .bool false] w (Out B b w s NP) := by
 have HFIRST := za.mk (readByte_ w b 0 s p h h0 (by omega))
 have e0 : ((0 : Nat) : Int) = 0 := rfl
 rw [e0] at HFIRST
 have i1 := zcf (some ⟨b, 0, none⟩)
 have i2 := zkg (some ⟨b, 0, none⟩)
 have i3 := zdf
 have i4 := zjg
 have HE := za.mk hE
 have HN := za.mk hN
 clear h hE hN
 go_enter Tryz.func169, Tryz.ntmps169
 go_wp2_with (first
  | (go_at_call 217; refine HFIRST.out.mono ?_; rintro e' w1 ⟨rfl, r1, g1⟩; have R1 := za.mk r1; have G1 := za.mk g1; clear r1 g1)
  | (go_at_call 176; refine (maxPow_ _).mono ?_; rintro e' w2 ⟨rfl, rfl⟩))
 have HB0 : za (B ≤ w.heap.size) := ⟨hBs⟩
 have HBB : za (b < B ∧ 7 < b ∧ s.size ≤ 1000000 ∧ 0 < s.size) := ⟨⟨hb, hbg, hs, h0⟩⟩
 have START : za (Sc B b w w2 s (.slice none 0 0) 0 0 0 ∧ Head w2 b s 0 (.int .u8 (bt s 0)) .nilIface EP) := ⟨⟨⟨⟨[], .inl ⟨rfl, rfl⟩, by simp [num, dv], rfl, by simp⟩, by omega, by simp, by omega, fun j hj => by omega, (Bel.refl B b w).grown G1.out (by omega) hBs⟩, .inl ⟨h0, rfl, rfl, R1.out⟩⟩⟩
 clear R1 G1 HFIRST h0 hs hb hBs hbg
 go_loopw [0, 3, 10, 11, 13, 14, 15, 20, 21, 22] (fun z fr cnt er pv iv ch di ii dp wr => ∃ k d i : Nat, k ≤ s.size ∧ fr = .bool false ∧ cnt = .int .i64 k ∧ (∃ pr : Int, pv = .int .i32 pr ∧ pr ≠ 95) ∧ iv = .bool false ∧ di = .int .u64 (d : Int) ∧ ii = .int .i64 (i : Int) ∧ dp = .int .i64 (-1) ∧ za (Sc B b w wr s z k d i) ∧ za (Head wr b s k ch er EP)) (fun _ _ cnt _ _ _ _ _ _ _ _ => s.size - (intOf cnt).toNat)
 case atStart => exact ⟨0, 0, 0, Nat.zero_le _, rfl, rfl, ⟨46, rfl, by decide⟩, rfl, rfl, rfl, rfl, ⟨START.out.1⟩, ⟨START.out.2⟩⟩
 case round =>
  clear START
  obtain ⟨k, d, i, hk, rfl, rfl, ⟨pr, rfl, hpr⟩, rfl, rfl, rfl, rfl, hsc, hhd⟩ := hrel
  have q1 := eq_err EP
  have q2 := eq_nil_err EP
  have q3 : (pr == 95) = false := by rw [beq_eq_false_iff_ne]; exact hpr
  rcases hhd.out with ⟨hks, he, hch, hr⟩ | ⟨hks, he, hch, hr⟩
  ·subst he
   subst hch
   have HR := za.mk hr
   have HUN := za.mk (unreadByte_ wr b k s (-1) hr (by have h_ := HBB.out.2.2.1; omega))
   clear hr hhd
   by_cases hdig : Dig (bt s k)
   ·have HDIG := za.mk hdig
    have HNEXT := za.mk (fun w3 (h : Rd w3 b s (k + 1) (-1)) (hE : w3.cell? ⟨2, 0, none⟩ = some (ErrV EP)) => next_ w3 b (k + 1) s (-1) EP h hks HBB.out.2.2.1 hE (by have h_ := HBB.out.2.1; omega))
    obtain ⟨x, hx⟩ : ∃ x : Nat, x = (bt s k - 48).toNat := ⟨_, rfl⟩
    obtain ⟨c, hc⟩ : ∃ c, c = bt s k := ⟨_, rfl⟩
    rw [← hc]
    have hd1 : 48 ≤ c := by rw [hc]; exact hdig.1
    have hd2 : c ≤ 57 := by rw [hc]; exact hdig.2
    have hxc : (x : Int) = c - 48 := by rw [hx, ← hc]; omega
    have HX := za.mk hx
    have f1 : (c == 46) = false := by rw [beq_eq_false_iff_ne]; omega
    have f2 : (c == 95) = false := by rw [beq_eq_false_iff_ne]; omega
    have f3 : decide (48 ≤ c) = true := decide_eq_true hd1
    have f4 : decide (c ≤ 57) = true := decide_eq_true hd2
    have f5 : (c - 48) % 256 = (x : Int) := by omega
    have f6 : IntKind.u64.wrap (x : Int) = (x : Int) := wrap_W (by unfold W64; omega)
    have hw := hsc.out.word
    obtain ⟨m, hm⟩ : ∃ m : Nat, m = d * 10 := ⟨_, rfl⟩
    obtain ⟨d2, hd⟩ : ∃ d2 : Nat, d2 = d * 10 + x := ⟨_, rfl⟩
    have f7 : IntKind.u64.wrap ((d : Int) * 10) = (m : Int) := by
     have e : (d : Int) * 10 = (m : Int) := by omega
     rw [e]
     exact wrap_W (by unfold W64; omega)
    have f8 : IntKind.u64.wrap ((m : Int) + (x : Int)) = (d2 : Int) := by
     have e : (m : Int) + (x : Int) = (d2 : Int) := by omega
     rw [e]
     exact wrap_W (by unfold W64; omega)
    have f9 : decide ((x : Int) ≥ 10) = false := decide_eq_false (by omega)
    have f9b : (10 ≤ (x : Int)) = False := eq_false (by omega)
    have f10 : wrap64 ((k : Int) + 1) = (k : Int) + 1 := by have h_ := HBB.out.2.2.1; unfold wrap64; omega
    have f11 : wrap64 ((i : Int) + 1) = (i : Int) + 1 := by have h_ := hsc.out.i19; unfold wrap64; omega
    have HD2 := za.mk hd
    have HW2 : za (IsW d2) := ⟨by unfold IsW W64; omega⟩
    have hEw : wr.cell? ⟨2, 0, none⟩ = some (ErrV EP) := by
     rw [hsc.out.bel.cell (p := ⟨2, 0, none⟩) (by have h_ := HBB.out.1; have h2_ := HBB.out.2.1; show 2 < B; omega) (by have h2_ := HBB.out.2.1; show 2 ≠ b; omega)]
     exact HE.out
    have HEW := za.mk hEw
    have HI := za.mk hsc.out.i19
    clear hEw hx hc hdig hm hd hw hd1 hd2 hxc
    by_cases hi : i + 1 = 19
    ·have g1 : ((i : Int) + 1 == 19) = true := by rw [beq_iff_eq]; omega
     have g2 : (i : Int) + 1 = 19 := by omega
     go_wp2_with (first
      | (go_at_call 177; obtain ⟨l, hl1, hl2, hl3, hl4⟩ := hsc.out.nat; refine (mulAdd19_ wr B u0 l d2 hl1 (Nat.le_trans HB0.out hsc.out.bel.size) HW2.out (Nat.le_trans hl4 (Nat.le_trans (Nat.le_of_lt hks) HBB.out.2.2.1))).mono ?_; rintro e' w5 ⟨v5, l5, rfl, m1, m2, m3, m4, m5⟩; have M := za.mk (And.intro m1 (And.intro m2 (And.intro m3 (And.intro m4 m5)))); have R5 : za (Rd w5 b s (k + 1) (-1)) := ⟨HR.out.same (m5.block b HBB.out.1)⟩; have E5 : za (w5.cell? ⟨2, 0, none⟩ = some (ErrV EP)) := ⟨by rw [← HEW.out]; exact World.cell?_of_block (m5.block _ (by have h_ := HBB.out.1; have h2_ := HBB.out.2.1; show 2 < B; omega))⟩; have L := za.mk (And.intro hl2 (And.intro hl4 hl1)); clear m1 m2 m3 m4 m5 hl1 hl2 hl3 hl4)
      | (go_at_call 217; refine (HNEXT.out _ R5.out E5.out).mono ?_; rintro e' w6 ⟨ch6, er6, rfl, hh6, hg6⟩; have H6 := za.mk hh6; have G6 := za.mk hg6; clear hh6 hg6))
     go_roundw
     case rel =>
      obtain ⟨m1, m2, m3, m4, m5⟩ := M.out
      obtain ⟨n2, n4, n1⟩ := L.out
      have hs2 : Sc B b w w5 s v5 (k + 1) 0 0 := hsc.out.fill HDIG.out hi m1 m3 m4 m5 (by rw [m2, HD2.out, HX.out]) n2 n4
      exact ⟨k + 1, 0, 0, Nat.succ_le_of_lt hks, rfl, cast_one k, ⟨48, rfl, by decide⟩, rfl, rfl, rfl, rfl, ⟨hs2.grown G6.out HBB.out.1 HB0.out⟩, H6⟩
     case measure => exact meas_one k s.size hks
    ·have HI19 : za (i + 1 < 19) := ⟨by have h_ := HI.out; omega⟩
     have g1 : ((i : Int) + 1 == 19) = false := by rw [beq_eq_false_iff_ne]; omega
     have g2 : ¬ ((i : Int) + 1 = 19) := by omega
     go_wp2_with (first
      | (go_at_call 217; refine (HNEXT.out _ HR.out HEW.out).mono ?_; rintro e' w6 ⟨ch6, er6, rfl, hh6, hg6⟩; have H6 := za.mk hh6; have G6 := za.mk hg6; clear hh6 hg6))
     go_roundw
     case rel =>
      have hs2 := (hsc.out.digit HDIG.out HI19.out).grown G6.out HBB.out.1 HB0.out
      exact ⟨k + 1, d2, i + 1, Nat.succ_le_of_lt hks, rfl, cast_one k, ⟨48, rfl, by decide⟩, rfl, rfl, cast_one i, rfl, ⟨by rw [HD2.out, HX.out]; exact hs2⟩, H6⟩
     case measure => exact meas_one k s.size hks
   ·have HND := za.mk hdig
    obtain ⟨c, hc⟩ : ∃ c, c = bt s k := ⟨_, rfl⟩
    have hr0 := bt_range s k
    rw [← hc] at hr0 ⊢
    have hnd : ¬ (48 ≤ c ∧ c ≤ 57) := by rw [hc]; exact hdig
    clear hdig hc hks
    by_cases hcc : c = 46
    ·subst hcc
     clear hnd hr0
     go_upto_region 80 with (first | (go_at_call 218; refine HUN.out.mono ?_; rintro e' w3 ⟨rfl, r3, g3⟩; have R3 := za.mk r3; have S3 : za (Sc B b w w3 s u0 k d i) := ⟨hsc.out.grown g3 HBB.out.1 HB0.out⟩; have hE3 : w3.cell? ⟨2, 0, none⟩ = some (.iface 243 (.pointer (some EP))) := (S3.out.bel.cell (p := ⟨2, 0, none⟩) (by have h_ := HBB.out.1; have h2_ := HBB.out.2.1; show 2 < B; omega) (by have h2_ := HBB.out.2.1; show 2 ≠ b; omega)).trans HE.out; have hN3 : w3.cell? ⟨7, 0, none⟩ = some (.iface 243 (.pointer (some NP))) := (S3.out.bel.cell (p := ⟨7, 0, none⟩) (by have h_ := HBB.out.1; have h2_ := HBB.out.2.1; show 7 < B; omega) (by have h2_ := HBB.out.2.1; show 7 ≠ b; omega)).trans HN.out; clear r3 g3))
     by_cases hk0 : k = 0
     ·have hi0 := S3.out.ile
      have c1 : ((k : Int) == 0) = true := by rw [beq_iff_eq]; omega
      have c2 : (k : Int) = 0 := by omega
      have c3 : (i : Int) = 0 := by omega
      have c4 : decide (0 < (i : Int)) = false := decide_eq_false (by omega)
      go_wp2
      (try simp only [Exit.inBlock, Exit.then])
      refine bodyPost_ret (zhb rfl _ _ _) rfl ?_
      obtain ⟨l, hl1, hl2, hl3, hl4⟩ := S3.out.nat
      obtain rfl : k = 0 := by omega
      obtain rfl : i = 0 := by omega
      exact ⟨_, _, l, 0, rfl, hl1, by have h_ := S3.out.dlt; simp at h_; rw [h_] at hl2; simpa using hl2, hl3, hk, S3.out.dig, (fun _ => HND.out), fun _ => rfl, (fun h => absurd h (Nat.lt_irrefl _)), ⟨-1, R3.out⟩, S3.out.bel⟩
     ·by_cases hi0 : i = 0
      ·have c1 : ((k : Int) == 0) = false := by rw [beq_eq_false_iff_ne]; omega
       have c2 : ¬ ((k : Int) = 0) := by omega
       have c3 : (i : Int) = 0 := by omega
       have c4 : decide (0 < (i : Int)) = false := decide_eq_false (by omega)
       go_wp2
       (try simp only [Exit.inBlock, Exit.then])
       refine bodyPost_ret (zhb rfl _ _ _) rfl ?_
       obtain ⟨l, hl1, hl2, hl3, hl4⟩ := S3.out.nat
       obtain rfl : i = 0 := by omega
       exact ⟨_, _, l, k, rfl, hl1, by have h_ := S3.out.dlt; simp at h_; rw [h_] at hl2; simpa using hl2, hl3, hk, S3.out.dig, (fun _ => HND.out), (fun h => absurd h (by omega)), fun _ => rfl, ⟨-1, R3.out⟩, S3.out.bel⟩
      ·have c1 : ((k : Int) == 0) = false := by rw [beq_eq_false_iff_ne]; omega
       have c2 : ¬ ((k : Int) = 0) := by omega
       have c4 : decide (0 < (i : Int)) = true := decide_eq_true (by omega)
       have c5 := S3.out.i19
       go_wp2_with (first | (go_at_call 178; refine (pow_ i (by omega) (by omega) _).mono ?_; rintro e' w4 ⟨rfl, hw4⟩; have hw4 := hw4.symm; subst hw4) | (go_at_call 177; obtain ⟨l, hl1, hl2, hl3, hl4⟩ := S3.out.nat; refine (zzd w3 B u0 l (10 ^ i) d hl1 (Nat.le_trans HB0.out S3.out.bel.size) (zse S3.out.i19) (pow_ne i) (zqf S3.out.word) (Nat.le_trans hl4 (Nat.le_trans hk HBB.out.2.2.1))).mono ?_; rintro e' w5 ⟨v5, l5, rfl, m1, m2, m3, m4, m5⟩; have M := za.mk (And.intro m1 (And.intro (m2.trans hl2) (And.intro m3 m5))); clear m1 m2 m3 m4 m5 hl1 hl2 hl3 hl4))
       (try simp only [Exit.inBlock, Exit.then])
       refine bodyPost_ret (zhb rfl _ _ _) rfl ?_
       obtain ⟨m1, m2, m3, m5⟩ := M.out
       exact ⟨_, _, l5, k, rfl, m1, m2, m3, hk, S3.out.dig, (fun _ => HND.out), (fun h => absurd h (by omega)), fun _ => rfl, ⟨-1, R3.out.same (m5.block b HBB.out.1)⟩, S3.out.bel.below m5⟩
    ·have hn8 := hcc
     clear hcc
     by_cases hcc : c = 95
     ·subst hcc
      clear hnd hr0
      go_upto_region 80 with (first | (go_at_call 218; refine HUN.out.mono ?_; rintro e' w3 ⟨rfl, r3, g3⟩; have R3 := za.mk r3; have S3 : za (Sc B b w w3 s u0 k d i) := ⟨hsc.out.grown g3 HBB.out.1 HB0.out⟩; have hE3 : w3.cell? ⟨2, 0, none⟩ = some (.iface 243 (.pointer (some EP))) := (S3.out.bel.cell (p := ⟨2, 0, none⟩) (by have h_ := HBB.out.1; have h2_ := HBB.out.2.1; show 2 < B; omega) (by have h2_ := HBB.out.2.1; show 2 ≠ b; omega)).trans HE.out; have hN3 : w3.cell? ⟨7, 0, none⟩ = some (.iface 243 (.pointer (some NP))) := (S3.out.bel.cell (p := ⟨7, 0, none⟩) (by have h_ := HBB.out.1; have h2_ := HBB.out.2.1; show 7 < B; omega) (by have h2_ := HBB.out.2.1; show 7 ≠ b; omega)).trans HN.out; clear r3 g3))
      by_cases hk0 : k = 0
      ·have hi0 := S3.out.ile
       have c1 : ((k : Int) == 0) = true := by rw [beq_iff_eq]; omega
       have c2 : (k : Int) = 0 := by omega
       have c3 : (i : Int) = 0 := by omega
       have c4 : decide (0 < (i : Int)) = false := decide_eq_false (by omega)
       go_wp2
       (try simp only [Exit.inBlock, Exit.then])
       refine bodyPost_ret (zhb rfl _ _ _) rfl ?_
       obtain ⟨l, hl1, hl2, hl3, hl4⟩ := S3.out.nat
       obtain rfl : k = 0 := by omega
       obtain rfl : i = 0 := by omega
       exact ⟨_, _, l, 0, rfl, hl1, by have h_ := S3.out.dlt; simp at h_; rw [h_] at hl2; simpa using hl2, hl3, hk, S3.out.dig, (fun _ => HND.out), fun _ => rfl, (fun h => absurd h (Nat.lt_irrefl _)), ⟨-1, R3.out⟩, S3.out.bel⟩
      ·by_cases hi0 : i = 0
       ·have c1 : ((k : Int) == 0) = false := by rw [beq_eq_false_iff_ne]; omega
        have c2 : ¬ ((k : Int) = 0) := by omega
        have c3 : (i : Int) = 0 := by omega
        have c4 : decide (0 < (i : Int)) = false := decide_eq_false (by omega)
        go_wp2
        (try simp only [Exit.inBlock, Exit.then])
        refine bodyPost_ret (zhb rfl _ _ _) rfl ?_
        obtain ⟨l, hl1, hl2, hl3, hl4⟩ := S3.out.nat
        obtain rfl : i = 0 := by omega
        exact ⟨_, _, l, k, rfl, hl1, by have h_ := S3.out.dlt; simp at h_; rw [h_] at hl2; simpa using hl2, hl3, hk, S3.out.dig, (fun _ => HND.out), (fun h => absurd h (by omega)), fun _ => rfl, ⟨-1, R3.out⟩, S3.out.bel⟩
       ·have c1 : ((k : Int) == 0) = false := by rw [beq_eq_false_iff_ne]; omega
        have c2 : ¬ ((k : Int) = 0) := by omega
        have c4 : decide (0 < (i : Int)) = true := decide_eq_true (by omega)
        have c5 := S3.out.i19
        go_wp2_with (first | (go_at_call 178; refine (pow_ i (by omega) (by omega) _).mono ?_; rintro e' w4 ⟨rfl, hw4⟩; have hw4 := hw4.symm; subst hw4) | (go_at_call 177; obtain ⟨l, hl1, hl2, hl3, hl4⟩ := S3.out.nat; refine (zzd w3 B u0 l (10 ^ i) d hl1 (Nat.le_trans HB0.out S3.out.bel.size) (zse S3.out.i19) (pow_ne i) (zqf S3.out.word) (Nat.le_trans hl4 (Nat.le_trans hk HBB.out.2.2.1))).mono ?_; rintro e' w5 ⟨v5, l5, rfl, m1, m2, m3, m4, m5⟩; have M := za.mk (And.intro m1 (And.intro (m2.trans hl2) (And.intro m3 m5))); clear m1 m2 m3 m4 m5 hl1 hl2 hl3 hl4))
        (try simp only [Exit.inBlock, Exit.then])
        refine bodyPost_ret (zhb rfl _ _ _) rfl ?_
        obtain ⟨m1, m2, m3, m5⟩ := M.out
        exact ⟨_, _, l5, k, rfl, m1, m2, m3, hk, S3.out.dig, (fun _ => HND.out), (fun h => absurd h (by omega)), fun _ => rfl, ⟨-1, R3.out.same (m5.block b HBB.out.1)⟩, S3.out.bel.below m5⟩
     ·have hn7 := hcc
      clear hcc
      by_cases hcc : 97 ≤ c ∧ c ≤ 122
      ·have f1 : (c == 46) = false := by rw [beq_eq_false_iff_ne]; omega
       have f2 : (c == 95) = false := by rw [beq_eq_false_iff_ne]; omega
       have f3 : decide (48 ≤ c) = true := decide_eq_true (by omega)
       have f4 : decide (c ≤ 57) = false := decide_eq_false (by omega)
       have f5 : decide (97 ≤ c) = true := decide_eq_true (by omega)
       have f6 : decide (c ≤ 122) = true := decide_eq_true (by omega)
       obtain ⟨y, hy⟩ : ∃ y : Nat, y = (c - 97).toNat := ⟨_, rfl⟩
       obtain ⟨x, hx⟩ : ∃ x : Nat, x = y + 10 := ⟨_, rfl⟩
       have f7 : (c - 97) % 256 = (y : Int) := by omega
       have f8 : ((y : Int) + 10) % 256 = (x : Int) := by omega
       have f9 : IntKind.u64.wrap (x : Int) = (x : Int) := wrap_W (by unfold W64; omega)
       have f10 : decide ((x : Int) ≥ 10) = true := decide_eq_true (by omega)
       have f10b : (10 ≤ (x : Int)) = True := eq_true (by omega)
       clear hx hy hcc
       clear hnd hr0
       go_upto_region 80 with (first | (go_at_call 218; refine HUN.out.mono ?_; rintro e' w3 ⟨rfl, r3, g3⟩; have R3 := za.mk r3; have S3 : za (Sc B b w w3 s u0 k d i) := ⟨hsc.out.grown g3 HBB.out.1 HB0.out⟩; have hE3 : w3.cell? ⟨2, 0, none⟩ = some (.iface 243 (.pointer (some EP))) := (S3.out.bel.cell (p := ⟨2, 0, none⟩) (by have h_ := HBB.out.1; have h2_ := HBB.out.2.1; show 2 < B; omega) (by have h2_ := HBB.out.2.1; show 2 ≠ b; omega)).trans HE.out; have hN3 : w3.cell? ⟨7, 0, none⟩ = some (.iface 243 (.pointer (some NP))) := (S3.out.bel.cell (p := ⟨7, 0, none⟩) (by have h_ := HBB.out.1; have h2_ := HBB.out.2.1; show 7 < B; omega) (by have h2_ := HBB.out.2.1; show 7 ≠ b; omega)).trans HN.out; clear r3 g3))
       by_cases hk0 : k = 0
       ·have hi0 := S3.out.ile
        have c1 : ((k : Int) == 0) = true := by rw [beq_iff_eq]; omega
        have c2 : (k : Int) = 0 := by omega
        have c3 : (i : Int) = 0 := by omega
        have c4 : decide (0 < (i : Int)) = false := decide_eq_false (by omega)
        go_wp2
        (try simp only [Exit.inBlock, Exit.then])
        refine bodyPost_ret (zhb rfl _ _ _) rfl ?_
        obtain ⟨l, hl1, hl2, hl3, hl4⟩ := S3.out.nat
        obtain rfl : k = 0 := by omega
        obtain rfl : i = 0 := by omega
        exact ⟨_, _, l, 0, rfl, hl1, by have h_ := S3.out.dlt; simp at h_; rw [h_] at hl2; simpa using hl2, hl3, hk, S3.out.dig, (fun _ => HND.out), fun _ => rfl, (fun h => absurd h (Nat.lt_irrefl _)), ⟨-1, R3.out⟩, S3.out.bel⟩
       ·by_cases hi0 : i = 0
        ·have c1 : ((k : Int) == 0) = false := by rw [beq_eq_false_iff_ne]; omega
         have c2 : ¬ ((k : Int) = 0) := by omega
         have c3 : (i : Int) = 0 := by omega
         have c4 : decide (0 < (i : Int)) = false := decide_eq_false (by omega)
         go_wp2
         (try simp only [Exit.inBlock, Exit.then])
         refine bodyPost_ret (zhb rfl _ _ _) rfl ?_
         obtain ⟨l, hl1, hl2, hl3, hl4⟩ := S3.out.nat
         obtain rfl : i = 0 := by omega
         exact ⟨_, _, l, k, rfl, hl1, by have h_ := S3.out.dlt; simp at h_; rw [h_] at hl2; simpa using hl2, hl3, hk, S3.out.dig, (fun _ => HND.out), (fun h => absurd h (by omega)), fun _ => rfl, ⟨-1, R3.out⟩, S3.out.bel⟩
        ·have c1 : ((k : Int) == 0) = false := by rw [beq_eq_false_iff_ne]; omega
         have c2 : ¬ ((k : Int) = 0) := by omega
         have c4 : decide (0 < (i : Int)) = true := decide_eq_true (by omega)
         have c5 := S3.out.i19
         go_wp2_with (first | (go_at_call 178; refine (pow_ i (by omega) (by omega) _).mono ?_; rintro e' w4 ⟨rfl, hw4⟩; have hw4 := hw4.symm; subst hw4) | (go_at_call 177; obtain ⟨l, hl1, hl2, hl3, hl4⟩ := S3.out.nat; refine (zzd w3 B u0 l (10 ^ i) d hl1 (Nat.le_trans HB0.out S3.out.bel.size) (zse S3.out.i19) (pow_ne i) (zqf S3.out.word) (Nat.le_trans hl4 (Nat.le_trans hk HBB.out.2.2.1))).mono ?_; rintro e' w5 ⟨v5, l5, rfl, m1, m2, m3, m4, m5⟩; have M := za.mk (And.intro m1 (And.intro (m2.trans hl2) (And.intro m3 m5))); clear m1 m2 m3 m4 m5 hl1 hl2 hl3 hl4))
         (try simp only [Exit.inBlock, Exit.then])
         refine bodyPost_ret (zhb rfl _ _ _) rfl ?_
         obtain ⟨m1, m2, m3, m5⟩ := M.out
         exact ⟨_, _, l5, k, rfl, m1, m2, m3, hk, S3.out.dig, (fun _ => HND.out), (fun h => absurd h (by omega)), fun _ => rfl, ⟨-1, R3.out.same (m5.block b HBB.out.1)⟩, S3.out.bel.below m5⟩
      ·have hn6 := hcc
       clear hcc
       by_cases hcc : 65 ≤ c ∧ c ≤ 90
       ·have f1 : (c == 46) = false := by rw [beq_eq_false_iff_ne]; omega
        have f2 : (c == 95) = false := by rw [beq_eq_false_iff_ne]; omega
        have f3 : decide (48 ≤ c) = true := decide_eq_true (by omega)
        have f4 : decide (c ≤ 57) = false := decide_eq_false (by omega)
        have f5 : decide (97 ≤ c) = false := decide_eq_false (by omega)
        have f6 : decide (65 ≤ c) = true := decide_eq_true (by omega)
        have f6b : decide (c ≤ 90) = true := decide_eq_true (by omega)
        obtain ⟨y, hy⟩ : ∃ y : Nat, y = (c - 65).toNat := ⟨_, rfl⟩
        obtain ⟨x, hx⟩ : ∃ x : Nat, x = y + 10 := ⟨_, rfl⟩
        have f7 : (c - 65) % 256 = (y : Int) := by omega
        have f8 : ((y : Int) + 10) % 256 = (x : Int) := by omega
        have f9 : IntKind.u64.wrap (x : Int) = (x : Int) := wrap_W (by unfold W64; omega)
        have f10 : decide ((x : Int) ≥ 10) = true := decide_eq_true (by omega)
        have f10b : (10 ≤ (x : Int)) = True := eq_true (by omega)
        clear hx hy hcc
        clear hnd hr0
        go_upto_region 80 with (first | (go_at_call 218; refine HUN.out.mono ?_; rintro e' w3 ⟨rfl, r3, g3⟩; have R3 := za.mk r3; have S3 : za (Sc B b w w3 s u0 k d i) := ⟨hsc.out.grown g3 HBB.out.1 HB0.out⟩; have hE3 : w3.cell? ⟨2, 0, none⟩ = some (.iface 243 (.pointer (some EP))) := (S3.out.bel.cell (p := ⟨2, 0, none⟩) (by have h_ := HBB.out.1; have h2_ := HBB.out.2.1; show 2 < B; omega) (by have h2_ := HBB.out.2.1; show 2 ≠ b; omega)).trans HE.out; have hN3 : w3.cell? ⟨7, 0, none⟩ = some (.iface 243 (.pointer (some NP))) := (S3.out.bel.cell (p := ⟨7, 0, none⟩) (by have h_ := HBB.out.1; have h2_ := HBB.out.2.1; show 7 < B; omega) (by have h2_ := HBB.out.2.1; show 7 ≠ b; omega)).trans HN.out; clear r3 g3))
        by_cases hk0 : k = 0
        ·have hi0 := S3.out.ile
         have c1 : ((k : Int) == 0) = true := by rw [beq_iff_eq]; omega
         have c2 : (k : Int) = 0 := by omega
         have c3 : (i : Int) = 0 := by omega
         have c4 : decide (0 < (i : Int)) = false := decide_eq_false (by omega)
         go_wp2
         (try simp only [Exit.inBlock, Exit.then])
         refine bodyPost_ret (zhb rfl _ _ _) rfl ?_
         obtain ⟨l, hl1, hl2, hl3, hl4⟩ := S3.out.nat
         obtain rfl : k = 0 := by omega
         obtain rfl : i = 0 := by omega
         exact ⟨_, _, l, 0, rfl, hl1, by have h_ := S3.out.dlt; simp at h_; rw [h_] at hl2; simpa using hl2, hl3, hk, S3.out.dig, (fun _ => HND.out), fun _ => rfl, (fun h => absurd h (Nat.lt_irrefl _)), ⟨-1, R3.out⟩, S3.out.bel⟩
        ·by_cases hi0 : i = 0
         ·have c1 : ((k : Int) == 0) = false := by rw [beq_eq_false_iff_ne]; omega
          have c2 : ¬ ((k : Int) = 0) := by omega
          have c3 : (i : Int) = 0 := by omega
          have c4 : decide (0 < (i : Int)) = false := decide_eq_false (by omega)
          go_wp2
          (try simp only [Exit.inBlock, Exit.then])
          refine bodyPost_ret (zhb rfl _ _ _) rfl ?_
          obtain ⟨l, hl1, hl2, hl3, hl4⟩ := S3.out.nat
          obtain rfl : i = 0 := by omega
          exact ⟨_, _, l, k, rfl, hl1, by have h_ := S3.out.dlt; simp at h_; rw [h_] at hl2; simpa using hl2, hl3, hk, S3.out.dig, (fun _ => HND.out), (fun h => absurd h (by omega)), fun _ => rfl, ⟨-1, R3.out⟩, S3.out.bel⟩
         ·have c1 : ((k : Int) == 0) = false := by rw [beq_eq_false_iff_ne]; omega
          have c2 : ¬ ((k : Int) = 0) := by omega
          have c4 : decide (0 < (i : Int)) = true := decide_eq_true (by omega)
          have c5 := S3.out.i19
          go_wp2_with (first | (go_at_call 178; refine (pow_ i (by omega) (by omega) _).mono ?_; rintro e' w4 ⟨rfl, hw4⟩; have hw4 := hw4.symm; subst hw4) | (go_at_call 177; obtain ⟨l, hl1, hl2, hl3, hl4⟩ := S3.out.nat; refine (zzd w3 B u0 l (10 ^ i) d hl1 (Nat.le_trans HB0.out S3.out.bel.size) (zse S3.out.i19) (pow_ne i) (zqf S3.out.word) (Nat.le_trans hl4 (Nat.le_trans hk HBB.out.2.2.1))).mono ?_; rintro e' w5 ⟨v5, l5, rfl, m1, m2, m3, m4, m5⟩; have M := za.mk (And.intro m1 (And.intro (m2.trans hl2) (And.intro m3 m5))); clear m1 m2 m3 m4 m5 hl1 hl2 hl3 hl4))
          (try simp only [Exit.inBlock, Exit.then])
          refine bodyPost_ret (zhb rfl _ _ _) rfl ?_
          obtain ⟨m1, m2, m3, m5⟩ := M.out
          exact ⟨_, _, l5, k, rfl, m1, m2, m3, hk, S3.out.dig, (fun _ => HND.out), (fun h => absurd h (by omega)), fun _ => rfl, ⟨-1, R3.out.same (m5.block b HBB.out.1)⟩, S3.out.bel.below m5⟩
       ·have hn5 := hcc
        clear hcc
        by_cases hcc : c < 48
        ·have f1 : (c == 46) = false := by rw [beq_eq_false_iff_ne]; omega
         have f2 : (c == 95) = false := by rw [beq_eq_false_iff_ne]; omega
         have f3 : decide (48 ≤ c) = false := decide_eq_false (by omega)
         have f4 : decide (97 ≤ c) = false := decide_eq_false (by omega)
         have f5 : decide (65 ≤ c) = false := decide_eq_false (by omega)
         clear hcc
         clear hnd hr0
         go_upto_region 80 with (first | (go_at_call 218; refine HUN.out.mono ?_; rintro e' w3 ⟨rfl, r3, g3⟩; have R3 := za.mk r3; have S3 : za (Sc B b w w3 s u0 k d i) := ⟨hsc.out.grown g3 HBB.out.1 HB0.out⟩; have hE3 : w3.cell? ⟨2, 0, none⟩ = some (.iface 243 (.pointer (some EP))) := (S3.out.bel.cell (p := ⟨2, 0, none⟩) (by have h_ := HBB.out.1; have h2_ := HBB.out.2.1; show 2 < B; omega) (by have h2_ := HBB.out.2.1; show 2 ≠ b; omega)).trans HE.out; have hN3 : w3.cell? ⟨7, 0, none⟩ = some (.iface 243 (.pointer (some NP))) := (S3.out.bel.cell (p := ⟨7, 0, none⟩) (by have h_ := HBB.out.1; have h2_ := HBB.out.2.1; show 7 < B; omega) (by have h2_ := HBB.out.2.1; show 7 ≠ b; omega)).trans HN.out; clear r3 g3))
         by_cases hk0 : k = 0
         ·have hi0 := S3.out.ile
          have c1 : ((k : Int) == 0) = true := by rw [beq_iff_eq]; omega
          have c2 : (k : Int) = 0 := by omega
          have c3 : (i : Int) = 0 := by omega
          have c4 : decide (0 < (i : Int)) = false := decide_eq_false (by omega)
          go_wp2
          (try simp only [Exit.inBlock, Exit.then])
          refine bodyPost_ret (zhb rfl _ _ _) rfl ?_
          obtain ⟨l, hl1, hl2, hl3, hl4⟩ := S3.out.nat
          obtain rfl : k = 0 := by omega
          obtain rfl : i = 0 := by omega
          exact ⟨_, _, l, 0, rfl, hl1, by have h_ := S3.out.dlt; simp at h_; rw [h_] at hl2; simpa using hl2, hl3, hk, S3.out.dig, (fun _ => HND.out), fun _ => rfl, (fun h => absurd h (Nat.lt_irrefl _)), ⟨-1, R3.out⟩, S3.out.bel⟩
         ·by_cases hi0 : i = 0
          ·have c1 : ((k : Int) == 0) = false := by rw [beq_eq_false_iff_ne]; omega
           have c2 : ¬ ((k : Int) = 0) := by omega
           have c3 : (i : Int) = 0 := by omega
           have c4 : decide (0 < (i : Int)) = false := decide_eq_false (by omega)
           go_wp2
           (try simp only [Exit.inBlock, Exit.then])
           refine bodyPost_ret (zhb rfl _ _ _) rfl ?_
           obtain ⟨l, hl1, hl2, hl3, hl4⟩ := S3.out.nat
           obtain rfl : i = 0 := by omega
           exact ⟨_, _, l, k, rfl, hl1, by have h_ := S3.out.dlt; simp at h_; rw [h_] at hl2; simpa using hl2, hl3, hk, S3.out.dig, (fun _ => HND.out), (fun h => absurd h (by omega)), fun _ => rfl, ⟨-1, R3.out⟩, S3.out.bel⟩
          ·have c1 : ((k : Int) == 0) = false := by rw [beq_eq_false_iff_ne]; omega
           have c2 : ¬ ((k : Int) = 0) := by omega
           have c4 : decide (0 < (i : Int)) = true := decide_eq_true (by omega)
           have c5 := S3.out.i19
           go_wp2_with (first | (go_at_call 178; refine (pow_ i (by omega) (by omega) _).mono ?_; rintro e' w4 ⟨rfl, hw4⟩; have hw4 := hw4.symm; subst hw4) | (go_at_call 177; obtain ⟨l, hl1, hl2, hl3, hl4⟩ := S3.out.nat; refine (zzd w3 B u0 l (10 ^ i) d hl1 (Nat.le_trans HB0.out S3.out.bel.size) (zse S3.out.i19) (pow_ne i) (zqf S3.out.word) (Nat.le_trans hl4 (Nat.le_trans hk HBB.out.2.2.1))).mono ?_; rintro e' w5 ⟨v5, l5, rfl, m1, m2, m3, m4, m5⟩; have M := za.mk (And.intro m1 (And.intro (m2.trans hl2) (And.intro m3 m5))); clear m1 m2 m3 m4 m5 hl1 hl2 hl3 hl4))
           (try simp only [Exit.inBlock, Exit.then])
           refine bodyPost_ret (zhb rfl _ _ _) rfl ?_
           obtain ⟨m1, m2, m3, m5⟩ := M.out
           exact ⟨_, _, l5, k, rfl, m1, m2, m3, hk, S3.out.dig, (fun _ => HND.out), (fun h => absurd h (by omega)), fun _ => rfl, ⟨-1, R3.out.same (m5.block b HBB.out.1)⟩, S3.out.bel.below m5⟩
        ·have hn4 := hcc
         clear hcc
         by_cases hcc : c ≤ 64
         ·have f1 : (c == 46) = false := by rw [beq_eq_false_iff_ne]; omega
          have f2 : (c == 95) = false := by rw [beq_eq_false_iff_ne]; omega
          have f3 : decide (48 ≤ c) = true := decide_eq_true (by omega)
          have f4 : decide (c ≤ 57) = false := decide_eq_false (by omega)
          have f5 : decide (97 ≤ c) = false := decide_eq_false (by omega)
          have f6 : decide (65 ≤ c) = false := decide_eq_false (by omega)
          clear hcc
          clear hnd hr0
          go_upto_region 80 with (first | (go_at_call 218; refine HUN.out.mono ?_; rintro e' w3 ⟨rfl, r3, g3⟩; have R3 := za.mk r3; have S3 : za (Sc B b w w3 s u0 k d i) := ⟨hsc.out.grown g3 HBB.out.1 HB0.out⟩; have hE3 : w3.cell? ⟨2, 0, none⟩ = some (.iface 243 (.pointer (some EP))) := (S3.out.bel.cell (p := ⟨2, 0, none⟩) (by have h_ := HBB.out.1; have h2_ := HBB.out.2.1; show 2 < B; omega) (by have h2_ := HBB.out.2.1; show 2 ≠ b; omega)).trans HE.out; have hN3 : w3.cell? ⟨7, 0, none⟩ = some (.iface 243 (.pointer (some NP))) := (S3.out.bel.cell (p := ⟨7, 0, none⟩) (by have h_ := HBB.out.1; have h2_ := HBB.out.2.1; show 7 < B; omega) (by have h2_ := HBB.out.2.1; show 7 ≠ b; omega)).trans HN.out; clear r3 g3))
          by_cases hk0 : k = 0
          ·have hi0 := S3.out.ile
           have c1 : ((k : Int) == 0) = true := by rw [beq_iff_eq]; omega
           have c2 : (k : Int) = 0 := by omega
           have c3 : (i : Int) = 0 := by omega
           have c4 : decide (0 < (i : Int)) = false := decide_eq_false (by omega)
           go_wp2
           (try simp only [Exit.inBlock, Exit.then])
           refine bodyPost_ret (zhb rfl _ _ _) rfl ?_
           obtain ⟨l, hl1, hl2, hl3, hl4⟩ := S3.out.nat
           obtain rfl : k = 0 := by omega
           obtain rfl : i = 0 := by omega
           exact ⟨_, _, l, 0, rfl, hl1, by have h_ := S3.out.dlt; simp at h_; rw [h_] at hl2; simpa using hl2, hl3, hk, S3.out.dig, (fun _ => HND.out), fun _ => rfl, (fun h => absurd h (Nat.lt_irrefl _)), ⟨-1, R3.out⟩, S3.out.bel⟩
          ·by_cases hi0 : i = 0
           ·have c1 : ((k : Int) == 0) = false := by rw [beq_eq_false_iff_ne]; omega
            have c2 : ¬ ((k : Int) = 0) := by omega
            have c3 : (i : Int) = 0 := by omega
            have c4 : decide (0 < (i : Int)) = false := decide_eq_false (by omega)
            go_wp2
            (try simp only [Exit.inBlock, Exit.then])
            refine bodyPost_ret (zhb rfl _ _ _) rfl ?_
            obtain ⟨l, hl1, hl2, hl3, hl4⟩ := S3.out.nat
            obtain rfl : i = 0 := by omega
            exact ⟨_, _, l, k, rfl, hl1, by have h_ := S3.out.dlt; simp at h_; rw [h_] at hl2; simpa using hl2, hl3, hk, S3.out.dig, (fun _ => HND.out), (fun h => absurd h (by omega)), fun _ => rfl, ⟨-1, R3.out⟩, S3.out.bel⟩
           ·have c1 : ((k : Int) == 0) = false := by rw [beq_eq_false_iff_ne]; omega
            have c2 : ¬ ((k : Int) = 0) := by omega
            have c4 : decide (0 < (i : Int)) = true := decide_eq_true (by omega)
            have c5 := S3.out.i19
            go_wp2_with (first | (go_at_call 178; refine (pow_ i (by omega) (by omega) _).mono ?_; rintro e' w4 ⟨rfl, hw4⟩; have hw4 := hw4.symm; subst hw4) | (go_at_call 177; obtain ⟨l, hl1, hl2, hl3, hl4⟩ := S3.out.nat; refine (zzd w3 B u0 l (10 ^ i) d hl1 (Nat.le_trans HB0.out S3.out.bel.size) (zse S3.out.i19) (pow_ne i) (zqf S3.out.word) (Nat.le_trans hl4 (Nat.le_trans hk HBB.out.2.2.1))).mono ?_; rintro e' w5 ⟨v5, l5, rfl, m1, m2, m3, m4, m5⟩; have M := za.mk (And.intro m1 (And.intro (m2.trans hl2) (And.intro m3 m5))); clear m1 m2 m3 m4 m5 hl1 hl2 hl3 hl4))
            (try simp only [Exit.inBlock, Exit.then])
            refine bodyPost_ret (zhb rfl _ _ _) rfl ?_
            obtain ⟨m1, m2, m3, m5⟩ := M.out
            exact ⟨_, _, l5, k, rfl, m1, m2, m3, hk, S3.out.dig, (fun _ => HND.out), (fun h => absurd h (by omega)), fun _ => rfl, ⟨-1, R3.out.same (m5.block b HBB.out.1)⟩, S3.out.bel.below m5⟩
         ·have hn3 := hcc
          clear hcc
          by_cases hcc : c ≤ 96
          ·have f1 : (c == 46) = false := by rw [beq_eq_false_iff_ne]; omega
           have f2 : (c == 95) = false := by rw [beq_eq_false_iff_ne]; omega
           have f3 : decide (48 ≤ c) = true := decide_eq_true (by omega)
           have f4 : decide (c ≤ 57) = false := decide_eq_false (by omega)
           have f5 : decide (97 ≤ c) = false := decide_eq_false (by omega)
           have f6 : decide (65 ≤ c) = true := decide_eq_true (by omega)
           have f7 : decide (c ≤ 90) = false := decide_eq_false (by omega)
           clear hcc
           clear hnd hr0
           go_upto_region 80 with (first | (go_at_call 218; refine HUN.out.mono ?_; rintro e' w3 ⟨rfl, r3, g3⟩; have R3 := za.mk r3; have S3 : za (Sc B b w w3 s u0 k d i) := ⟨hsc.out.grown g3 HBB.out.1 HB0.out⟩; have hE3 : w3.cell? ⟨2, 0, none⟩ = some (.iface 243 (.pointer (some EP))) := (S3.out.bel.cell (p := ⟨2, 0, none⟩) (by have h_ := HBB.out.1; have h2_ := HBB.out.2.1; show 2 < B; omega) (by have h2_ := HBB.out.2.1; show 2 ≠ b; omega)).trans HE.out; have hN3 : w3.cell? ⟨7, 0, none⟩ = some (.iface 243 (.pointer (some NP))) := (S3.out.bel.cell (p := ⟨7, 0, none⟩) (by have h_ := HBB.out.1; have h2_ := HBB.out.2.1; show 7 < B; omega) (by have h2_ := HBB.out.2.1; show 7 ≠ b; omega)).trans HN.out; clear r3 g3))
           by_cases hk0 : k = 0
           ·have hi0 := S3.out.ile
            have c1 : ((k : Int) == 0) = true := by rw [beq_iff_eq]; omega
            have c2 : (k : Int) = 0 := by omega
            have c3 : (i : Int) = 0 := by omega
            have c4 : decide (0 < (i : Int)) = false := decide_eq_false (by omega)
            go_wp2
            (try simp only [Exit.inBlock, Exit.then])
            refine bodyPost_ret (zhb rfl _ _ _) rfl ?_
            obtain ⟨l, hl1, hl2, hl3, hl4⟩ := S3.out.nat
            obtain rfl : k = 0 := by omega
            obtain rfl : i = 0 := by omega
            exact ⟨_, _, l, 0, rfl, hl1, by have h_ := S3.out.dlt; simp at h_; rw [h_] at hl2; simpa using hl2, hl3, hk, S3.out.dig, (fun _ => HND.out), fun _ => rfl, (fun h => absurd h (Nat.lt_irrefl _)), ⟨-1, R3.out⟩, S3.out.bel⟩
           ·by_cases hi0 : i = 0
            ·have c1 : ((k : Int) == 0) = false := by rw [beq_eq_false_iff_ne]; omega
             have c2 : ¬ ((k : Int) = 0) := by omega
             have c3 : (i : Int) = 0 := by omega
             have c4 : decide (0 < (i : Int)) = false := decide_eq_false (by omega)
             go_wp2
             (try simp only [Exit.inBlock, Exit.then])
             refine bodyPost_ret (zhb rfl _ _ _) rfl ?_
             obtain ⟨l, hl1, hl2, hl3, hl4⟩ := S3.out.nat
             obtain rfl : i = 0 := by omega
             exact ⟨_, _, l, k, rfl, hl1, by have h_ := S3.out.dlt; simp at h_; rw [h_] at hl2; simpa using hl2, hl3, hk, S3.out.dig, (fun _ => HND.out), (fun h => absurd h (by omega)), fun _ => rfl, ⟨-1, R3.out⟩, S3.out.bel⟩
            ·have c1 : ((k : Int) == 0) = false := by rw [beq_eq_false_iff_ne]; omega
             have c2 : ¬ ((k : Int) = 0) := by omega
             have c4 : decide (0 < (i : Int)) = true := decide_eq_true (by omega)
             have c5 := S3.out.i19
             go_wp2_with (first | (go_at_call 178; refine (pow_ i (by omega) (by omega) _).mono ?_; rintro e' w4 ⟨rfl, hw4⟩; have hw4 := hw4.symm; subst hw4) | (go_at_call 177; obtain ⟨l, hl1, hl2, hl3, hl4⟩ := S3.out.nat; refine (zzd w3 B u0 l (10 ^ i) d hl1 (Nat.le_trans HB0.out S3.out.bel.size) (zse S3.out.i19) (pow_ne i) (zqf S3.out.word) (Nat.le_trans hl4 (Nat.le_trans hk HBB.out.2.2.1))).mono ?_; rintro e' w5 ⟨v5, l5, rfl, m1, m2, m3, m4, m5⟩; have M := za.mk (And.intro m1 (And.intro (m2.trans hl2) (And.intro m3 m5))); clear m1 m2 m3 m4 m5 hl1 hl2 hl3 hl4))
             (try simp only [Exit.inBlock, Exit.then])
             refine bodyPost_ret (zhb rfl _ _ _) rfl ?_
             obtain ⟨m1, m2, m3, m5⟩ := M.out
             exact ⟨_, _, l5, k, rfl, m1, m2, m3, hk, S3.out.dig, (fun _ => HND.out), (fun h => absurd h (by omega)), fun _ => rfl, ⟨-1, R3.out.same (m5.block b HBB.out.1)⟩, S3.out.bel.below m5⟩
          ·have hn2 := hcc
           clear hcc
           have f1 : (c == 46) = false := by rw [beq_eq_false_iff_ne]; omega
           have f2 : (c == 95) = false := by rw [beq_eq_false_iff_ne]; omega
           have f3 : decide (48 ≤ c) = true := decide_eq_true (by omega)
           have f4 : decide (c ≤ 57) = false := decide_eq_false (by omega)
           have f5 : decide (97 ≤ c) = true := decide_eq_true (by omega)
           have f6 : decide (c ≤ 122) = false := decide_eq_false (by omega)
           have f7 : decide (65 ≤ c) = true := decide_eq_true (by omega)
           have f8 : decide (c ≤ 90) = false := decide_eq_false (by omega)

           clear hnd hr0
           go_upto_region 80 with (first | (go_at_call 218; refine HUN.out.mono ?_; rintro e' w3 ⟨rfl, r3, g3⟩; have R3 := za.mk r3; have S3 : za (Sc B b w w3 s u0 k d i) := ⟨hsc.out.grown g3 HBB.out.1 HB0.out⟩; have hE3 : w3.cell? ⟨2, 0, none⟩ = some (.iface 243 (.pointer (some EP))) := (S3.out.bel.cell (p := ⟨2, 0, none⟩) (by have h_ := HBB.out.1; have h2_ := HBB.out.2.1; show 2 < B; omega) (by have h2_ := HBB.out.2.1; show 2 ≠ b; omega)).trans HE.out; have hN3 : w3.cell? ⟨7, 0, none⟩ = some (.iface 243 (.pointer (some NP))) := (S3.out.bel.cell (p := ⟨7, 0, none⟩) (by have h_ := HBB.out.1; have h2_ := HBB.out.2.1; show 7 < B; omega) (by have h2_ := HBB.out.2.1; show 7 ≠ b; omega)).trans HN.out; clear r3 g3))
           by_cases hk0 : k = 0
           ·have hi0 := S3.out.ile
            have c1 : ((k : Int) == 0) = true := by rw [beq_iff_eq]; omega
            have c2 : (k : Int) = 0 := by omega
            have c3 : (i : Int) = 0 := by omega
            have c4 : decide (0 < (i : Int)) = false := decide_eq_false (by omega)
            go_wp2
            (try simp only [Exit.inBlock, Exit.then])
            refine bodyPost_ret (zhb rfl _ _ _) rfl ?_
            obtain ⟨l, hl1, hl2, hl3, hl4⟩ := S3.out.nat
            obtain rfl : k = 0 := by omega
            obtain rfl : i = 0 := by omega
            exact ⟨_, _, l, 0, rfl, hl1, by have h_ := S3.out.dlt; simp at h_; rw [h_] at hl2; simpa using hl2, hl3, hk, S3.out.dig, (fun _ => HND.out), fun _ => rfl, (fun h => absurd h (Nat.lt_irrefl _)), ⟨-1, R3.out⟩, S3.out.bel⟩
           ·by_cases hi0 : i = 0
            ·have c1 : ((k : Int) == 0) = false := by rw [beq_eq_false_iff_ne]; omega
             have c2 : ¬ ((k : Int) = 0) := by omega
             have c3 : (i : Int) = 0 := by omega
             have c4 : decide (0 < (i : Int)) = false := decide_eq_false (by omega)
             go_wp2
             (try simp only [Exit.inBlock, Exit.then])
             refine bodyPost_ret (zhb rfl _ _ _) rfl ?_
             obtain ⟨l, hl1, hl2, hl3, hl4⟩ := S3.out.nat
             obtain rfl : i = 0 := by omega
             exact ⟨_, _, l, k, rfl, hl1, by have h_ := S3.out.dlt; simp at h_; rw [h_] at hl2; simpa using hl2, hl3, hk, S3.out.dig, (fun _ => HND.out), (fun h => absurd h (by omega)), fun _ => rfl, ⟨-1, R3.out⟩, S3.out.bel⟩
            ·have c1 : ((k : Int) == 0) = false := by rw [beq_eq_false_iff_ne]; omega
             have c2 : ¬ ((k : Int) = 0) := by omega
             have c4 : decide (0 < (i : Int)) = true := decide_eq_true (by omega)
             have c5 := S3.out.i19
             go_wp2_with (first | (go_at_call 178; refine (pow_ i (by omega) (by omega) _).mono ?_; rintro e' w4 ⟨rfl, hw4⟩; have hw4 := hw4.symm; subst hw4) | (go_at_call 177; obtain ⟨l, hl1, hl2, hl3, hl4⟩ := S3.out.nat; refine (zzd w3 B u0 l (10 ^ i) d hl1 (Nat.le_trans HB0.out S3.out.bel.size) (zse S3.out.i19) (pow_ne i) (zqf S3.out.word) (Nat.le_trans hl4 (Nat.le_trans hk HBB.out.2.2.1))).mono ?_; rintro e' w5 ⟨v5, l5, rfl, m1, m2, m3, m4, m5⟩; have M := za.mk (And.intro m1 (And.intro (m2.trans hl2) (And.intro m3 m5))); clear m1 m2 m3 m4 m5 hl1 hl2 hl3 hl4))
             (try simp only [Exit.inBlock, Exit.then])
             refine bodyPost_ret (zhb rfl _ _ _) rfl ?_
             obtain ⟨m1, m2, m3, m5⟩ := M.out
             exact ⟨_, _, l5, k, rfl, m1, m2, m3, hk, S3.out.dig, (fun _ => HND.out), (fun h => absurd h (by omega)), fun _ => rfl, ⟨-1, R3.out.same (m5.block b HBB.out.1)⟩, S3.out.bel.below m5⟩
  ·subst he
   subst hch
   have HR : za (Rd wr b s k (-1)) := ⟨by rw [hks]; exact hr⟩
   have hE3 : wr.cell? ⟨2, 0, none⟩ = some (.iface 243 (.pointer (some EP))) := (hsc.out.bel.cell (p := ⟨2, 0, none⟩) (by have h_ := HBB.out.1; have h2_ := HBB.out.2.1; show 2 < B; omega) (by have h2_ := HBB.out.2.1; show 2 ≠ b; omega)).trans HE.out
   have hN3 : wr.cell? ⟨7, 0, none⟩ = some (.iface 243 (.pointer (some NP))) := (hsc.out.bel.cell (p := ⟨7, 0, none⟩) (by have h_ := HBB.out.1; have h2_ := HBB.out.2.1; show 7 < B; omega) (by have h2_ := HBB.out.2.1; show 7 ≠ b; omega)).trans HN.out
   have HKS := za.mk hks
   simp only [ErrV]
   clear hr hhd hks
   go_upto_region 80 with (fail)
   by_cases hk0 : k = 0
   ·have hi0 := hsc.out.ile
    have c1 : ((k : Int) == 0) = true := by rw [beq_iff_eq]; omega
    have c2 : (k : Int) = 0 := by omega
    have c3 : (i : Int) = 0 := by omega
    have c4 : decide (0 < (i : Int)) = false := decide_eq_false (by omega)
    go_wp2
    (try simp only [Exit.inBlock, Exit.then])
    refine bodyPost_ret (zhb rfl _ _ _) rfl ?_
    obtain ⟨l, hl1, hl2, hl3, hl4⟩ := hsc.out.nat
    obtain rfl : k = 0 := by omega
    obtain rfl : i = 0 := by omega
    exact ⟨_, _, l, 0, rfl, hl1, by have h_ := hsc.out.dlt; simp at h_; rw [h_] at hl2; simpa using hl2, hl3, hk, hsc.out.dig, (fun h => absurd h (by rw [HKS.out]; exact Nat.lt_irrefl _)), fun _ => rfl, (fun h => absurd h (Nat.lt_irrefl _)), ⟨-1, HR.out⟩, hsc.out.bel⟩
   ·by_cases hi0 : i = 0
    ·have c1 : ((k : Int) == 0) = false := by rw [beq_eq_false_iff_ne]; omega
     have c2 : ¬ ((k : Int) = 0) := by omega
     have c3 : (i : Int) = 0 := by omega
     have c4 : decide (0 < (i : Int)) = false := decide_eq_false (by omega)
     go_wp2
     (try simp only [Exit.inBlock, Exit.then])
     refine bodyPost_ret (zhb rfl _ _ _) rfl ?_
     obtain ⟨l, hl1, hl2, hl3, hl4⟩ := hsc.out.nat
     obtain rfl : i = 0 := by omega
     exact ⟨_, _, l, k, rfl, hl1, by have h_ := hsc.out.dlt; simp at h_; rw [h_] at hl2; simpa using hl2, hl3, hk, hsc.out.dig, (fun h => absurd h (by rw [HKS.out]; exact Nat.lt_irrefl _)), (fun h => absurd h (by omega)), fun _ => rfl, ⟨-1, HR.out⟩, hsc.out.bel⟩
    ·have c1 : ((k : Int) == 0) = false := by rw [beq_eq_false_iff_ne]; omega
     have c2 : ¬ ((k : Int) = 0) := by omega
     have c4 : decide (0 < (i : Int)) = true := decide_eq_true (by omega)
     have c5 := hsc.out.i19
     go_wp2_with (first | (go_at_call 178; refine (pow_ i (by omega) (by omega) _).mono ?_; rintro e' w4 ⟨rfl, hw4⟩; have hw4 := hw4.symm; subst hw4) | (go_at_call 177; obtain ⟨l, hl1, hl2, hl3, hl4⟩ := hsc.out.nat; refine (zzd wr B u0 l (10 ^ i) d hl1 (Nat.le_trans HB0.out hsc.out.bel.size) (zse hsc.out.i19) (pow_ne i) (zqf hsc.out.word) (Nat.le_trans hl4 (Nat.le_trans hk HBB.out.2.2.1))).mono ?_; rintro e' w5 ⟨v5, l5, rfl, m1, m2, m3, m4, m5⟩; have M := za.mk (And.intro m1 (And.intro (m2.trans hl2) (And.intro m3 m5))); clear m1 m2 m3 m4 m5 hl1 hl2 hl3 hl4))
     (try simp only [Exit.inBlock, Exit.then])
     refine bodyPost_ret (zhb rfl _ _ _) rfl ?_
     obtain ⟨m1, m2, m3, m5⟩ := M.out
     exact ⟨_, _, l5, k, rfl, m1, m2, m3, hk, hsc.out.dig, (fun h => absurd h (by rw [HKS.out]; exact Nat.lt_irrefl _)), (fun h => absurd h (by omega)), fun _ => rfl, ⟨-1, HR.out.same (m5.block b HBB.out.1)⟩, hsc.out.bel.below m5⟩
end Go.Proofs.YtlijjnjpomnphaaGreatDoorG
end
section
namespace Go.Proofs.YtlijjnjpomnphaaGreatDoorG
open Go.RowKit YtlijjnjpomnphaaGreatDoorW.PrintWords YtlijjnjpomnphaaGreatDoorW.PrintLast
def Bg (w : World) (a : Nat) (ng : Bool) (v : Value) : Prop := w.heap[a]? = some (.cells #[.bool ng, v] 150 (0, 0))
theorem Bg.c0 {w : World} {a : Nat} {ng : Bool} {v : Value} (h : Bg w a ng v) : w.cell? ⟨a, 0, none⟩ = some (.bool ng) := by unfold Bg at h; simp [World.cell?, h]
theorem Bg.c1 {w : World} {a : Nat} {ng : Bool} {v : Value} (h : Bg w a ng v) : w.cell? ⟨a, 1, none⟩ = some v := by unfold Bg at h; simp [World.cell?, h]
theorem Bg.free {w : World} {a : Nat} {ng : Bool} {v : Value} (h : Bg w a ng v) (j : Nat) : w.frozen? ⟨a, j, none⟩ = false := by unfold Bg at h; simp [World.frozen?, h]
theorem Bg.set1 {w : World} {a : Nat} {ng : Bool} {v : Value} (h : Bg w a ng v) (u : Value) : Bg (w.setCell ⟨a, 1, none⟩ u) a ng u := by
 unfold Bg at h ⊢
 simp [World.setCell, Array.getElem?_modify, h]
theorem Bg.set0 {w : World} {a : Nat} {ng : Bool} {v : Value} (h : Bg w a ng v) (u : Bool) : Bg (w.setCell ⟨a, 0, none⟩ (.bool u)) a u v := by
 unfold Bg at h ⊢
 simp [World.setCell, Array.getElem?_modify, h]
theorem Bg.same {w w' : World} {a : Nat} {ng : Bool} {v : Value} (h : Bg w a ng v) (hb : w'.heap[a]? = w.heap[a]?) : Bg w' a ng v := by unfold Bg at h ⊢; rw [hb]; exact h
theorem Bg.lt {w : World} {a : Nat} {ng : Bool} {v : Value} (h : Bg w a ng v) : a < w.heap.size := (Array.getElem?_eq_some_iff.1 h).1
theorem zpd {w : World} {g i k : Nat} {v : Value} (h : k ≠ g) : (w.setCell ⟨g, i, none⟩ v).heap[k]? = w.heap[k]? := by
 have : g ≠ k := fun e => h e.symm
 simp [World.setCell, Array.getElem?_modify, this]
theorem NatS.other {w w' : World} {B : Nat} {v : Value} {l : List Nat} (h : NatS w B v l) (hk : ∀ k, B ≤ k → k < w.heap.size → w'.heap[k]? = w.heap[k]?) : NatS w' B v l := by
 rcases h with h | ⟨g, full, h1, h2, h3, h4⟩
 ·exact .inl h
 ·exact .inr ⟨g, full, h1, h2, h3.same (hk g h2 h3.lt), h4⟩
theorem NatS.shape {w : World} {B : Nat} {v : Value} {l : List Nat} (h : NatS w B v l) : ∃ p c, v = .slice p l.length c := by
 rcases h with ⟨rfl, rfl⟩ | ⟨g, full, rfl, _⟩
 ·exact ⟨none, 0, rfl⟩
 ·exact ⟨_, _, rfl⟩
theorem Bel.toBelow {B b B0 : Nat} {w w' : World} (h : Bel B b w w') (h1 : B0 ≤ B) (h2 : B0 ≤ b) : Below B0 w w' := ⟨h.os, h.tape, h.output, h.size, fun k hk => h.block k (by omega) (by omega)⟩
structure Scanned (B0 H a b : Nat) (s : ByteArray) (w w' : World) (r : Nat) : Prop where
 big : ∃ v l, Bg w' a false v ∧ NatS w' H v l ∧ num l = dv s r ∧ l = trimW l
 le : r ≤ s.size
 dig : ∀ j : Nat, j < r → Dig (bt s j)
 fin : r < s.size → ¬ Dig (bt s r)
 rd : ∃ q, Rd w' b s r q
 below : Below B0 w w'
theorem intScan_ (w : World) (B0 a b : Nat) (s : ByteArray) (p : Int) (EP NP : Addr) (hz : Bg w a false (.slice none 0 0)) (h : Rd w b s 0 p) (h0 : 0 < s.size) (hs : s.size ≤ 1000000) (h1 : bt s 0 ≠ 45) (h2 : bt s 0 ≠ 43) (hab : a ≠ b) (hBa : B0 ≤ a) (hBb : B0 ≤ b)
  (hE : w.cell? ⟨2, 0, none⟩ = some (ErrV EP)) (hN : w.cell? ⟨7, 0, none⟩ = some (ErrV NP)) (hbg : 7 < b) (hag : 7 < a) :
  Calls Tryz.prog 157 #[.pointer (some ⟨a, 0, none⟩), .iface 169 (.pointer (some ⟨b, 0, none⟩)), .int .i64 10] w fun e w' => ∃ r, Scanned B0 w.heap.size a b s w w' r ∧
   (r = 0 → e = .returned (.tuple #[.pointer none, .int .i64 10, ErrV NP])) ∧ (0 < r → e = .returned (.tuple #[.pointer (some ⟨a, 0, none⟩), .int .i64 10, .nilIface])) := by
 have HS := za.mk (scanSign_ w b s p h h0 (by omega) h1 h2)
 have hb := h.lt
 have ha := hz.lt
 have HNAT := za.mk (fun w1 (r1 : Rd w1 b s 0 (-1)) (g1 : w.grownBy w1 (some b)) => natScan_ w1 w.heap.size b s (-1) EP NP r1 h0 hs hb g1.size
  ((World.cell?_of_block (g1.block 2 (by omega) (fun e => by have := Option.some.inj e; omega))).trans hE) ((World.cell?_of_block (g1.block 7 (by omega) (fun e => by have := Option.some.inj e; omega))).trans hN) hbg)
 have HZ1 := za.mk (fun w1 (g1 : w.grownBy w1 (some b)) => hz.same (w' := w1) (g1.block a ha (fun e => hab (Option.some.inj e))))
 have hc1 : ∀ w1, w.grownBy w1 (some b) → w1.cell? ⟨a, 1, none⟩ = some (.slice none 0 0) := fun w1 g1 => (HZ1.out w1 g1).c1
 have HC1 := za.mk hc1
 have F := za.mk (And.intro hb (And.intro ha (And.intro hab (And.intro hBa hBb))))
 clear h hz h0 hs h1 h2 hE hN hbg hag hb ha hc1 hab hBa hBb
 go_enter Tryz.func157, Tryz.ntmps157
 go_upto_region 5 with (first
  | (go_at_call 168; refine HS.out.mono ?_; rintro e' w1 ⟨rfl, r1, g1⟩; have R1 := za.mk r1; have G1 := za.mk g1; have c1 := HC1.out w1 g1; clear r1 g1)
  | (go_at_call 169; refine (HNAT.out w1 R1.out G1.out).mono ?_; rintro e' w2 ⟨v, er, l, r, rfl, n1, n2, n3, n4, n5, n6, n7, n8, n9, n10⟩; obtain ⟨pv, cv, hv⟩ := n1.shape; subst hv; have O := za.mk (And.intro n1 (And.intro n2 (And.intro n3 (And.intro n4 (And.intro n5 (And.intro n6 (And.intro n7 (And.intro n8 (And.intro n9 n10))))))))); have Z2 : za (Bg w2 a false (.slice none 0 0)) := ⟨(HZ1.out w1 G1.out).same (n10.block a F.out.2.1 F.out.2.2.1)⟩; have d1 := Z2.out.c1; have d2 := Z2.out.free 1; clear n1 n2 n3 n4 n5 n6 n7 n8 n9 n10 c1))
 obtain ⟨n1, n2, n3, n4, n5, n6, n7, n8, n9, n10⟩ := O.out
 obtain ⟨v, hv⟩ : ∃ v, v = Value.slice pv l.length cv := ⟨_, rfl⟩
 rw [← hv] at n1
 have Z3 := Z2.out.set1 v
 have fin : ∀ w', Bg w' a false v → (∀ k, k ≠ a → w'.heap[k]? = w2.heap[k]?) → w'.os = w2.os ∧ w'.tape = w2.tape ∧ w'.output = w2.output ∧ w'.heap.size = w2.heap.size → Scanned B0 w.heap.size a b s w w' r := by
  intro w' hb2 hk hrest
  obtain ⟨f1, f2, f3, f4, f5⟩ := F.out
  obtain ⟨q, hq⟩ := n9
  refine ⟨⟨v, l, hb2, n1.other (fun k hk1 _ => hk k (by omega)), n2, n3⟩, n4, n5, n6, ⟨q, hq.same (hk b (fun e => f3 e.symm))⟩, ?_⟩
  have hbl : Below B0 w w2 := Below.trans ⟨G1.out.os, G1.out.tape, G1.out.output, G1.out.size, fun k hk2 => G1.out.block k (by omega) (fun e => by have := Option.some.inj e; omega)⟩ (n10.toBelow (by omega) f5)
  exact ⟨hrest.1.trans hbl.os, hrest.2.1.trans hbl.tape, hrest.2.2.1.trans hbl.output, by rw [hrest.2.2.2]; exact hbl.size, fun k hk2 => (hk k (by omega)).trans (hbl.block k hk2)⟩
 have FIN := za.mk fin
 subst hv
 have e1 := Z3.c1
 have e0 := Z3.c0
 have f0 := Z3.free 0
 have Z4 := za.mk (Z3.set0 false)
 have ZZ3 := za.mk Z3
 by_cases hr0 : r = 0
 ·have her := n7 hr0
  subst her
  simp only [ErrV]
  have HR := za.mk hr0
  clear fin n1 n2 n3 n4 n5 n6 n7 n8 n9 n10 Z3 hr0
  go_wp2
  go_ret3
  exact ⟨r, FIN.out _ ZZ3.out (fun k hk => zpd hk) ⟨rfl, rfl, rfl, by simp [World.setCell]⟩, fun _ => rfl, fun h => absurd HR.out (Nat.pos_iff_ne_zero.1 h)⟩
 ·have her := n8 (Nat.pos_of_ne_zero hr0)
  subst her
  have HR := za.mk hr0
  clear fin n1 n2 n3 n4 n5 n6 n7 n8 n9 n10 Z3 hr0
  by_cases hl : 0 < l.length
  ·have b1 : decide (0 < (l.length : Int)) = true := decide_eq_true (by omega)
   go_wp2
   go_ret3
   exact ⟨r, FIN.out _ Z4.out (fun k hk => (zpd hk).trans (zpd hk)) ⟨rfl, rfl, rfl, by simp [World.setCell]⟩, fun h => absurd h HR.out, fun _ => rfl⟩
  ·have b1 : decide (0 < (l.length : Int)) = false := decide_eq_false (by omega)
   go_wp2
   go_ret3
   exact ⟨r, FIN.out _ Z4.out (fun k hk => (zpd hk).trans (zpd hk)) ⟨rfl, rfl, rfl, by simp [World.setCell]⟩, fun h => absurd h HR.out, fun _ => rfl⟩
end Go.Proofs.YtlijjnjpomnphaaGreatDoorG
end
section
namespace Go.Proofs.YtlijjnjpomnphaaGreatDoorG
open Go.RowKit YtlijjnjpomnphaaGreatDoorW.PrintWords YtlijjnjpomnphaaGreatDoorW.PrintLast
theorem neq_err (a : Addr) (W : World) : (binOp .neq 74 (.iface 243 (.pointer (some a))) (.iface 243 (.pointer (some a)))).run Tryz.prog W = .ok (.bool false) W := by
 have h := eq_err a W
 simp only [binOp] at h ⊢
 simp only [Op.equal, Op.maxDepth] at h ⊢
 obtain ⟨i, hi, hc⟩ := Option.map_eq_some_iff.1 errInfo
 obtain ⟨j, hj⟩ := Option.isSome_iff_exists.1 errPointee
 simp [run_equalIn_iface_ptr_same (P := Tryz.prog) W 9998 a Tryz.underlying74 Tryz.underlying243 hi hc hj]
theorem neq_nil_err (a : Addr) (W : World) : (binOp .neq 74 .nilIface (.iface 243 (.pointer (some a)))).run Tryz.prog W = .ok (.bool true) W := by
 have h : ∀ d : Nat, (Op.equalIn (d + 1) 74 .nilIface (.iface 243 (.pointer (some a)))).run Tryz.prog W = .ok false W := fun d => by simp [Op.equalIn, run_underlying Tryz.underlying74]
 simp only [binOp]
 simp [Op.equal, Op.maxDepth, h 9999]
theorem digits_ahead (s : ByteArray) : ∃ r, r ≤ s.size ∧ (∀ j : Nat, j < r → Dig (bt s j)) ∧ (r < s.size → ¬ Dig (bt s r)) := by
 have : ∀ n k : Nat, s.size - k = n → k ≤ s.size → (∀ j : Nat, j < k → Dig (bt s j)) → ∃ r, r ≤ s.size ∧ (∀ j : Nat, j < r → Dig (bt s j)) ∧ (r < s.size → ¬ Dig (bt s r)) := by
  intro n
  induction n with
  | zero => intro k h1 h2 h3; exact ⟨k, h2, h3, fun h => by omega⟩
  | succ n ih =>
   intro k h1 h2 h3
   by_cases hd : Dig (bt s k)
   ·refine ih (k + 1) (by omega) (by omega) (fun j hj => ?_)
    by_cases e : j = k
    ·rw [e]; exact hd
    ·exact h3 j (by omega)
   ·exact ⟨k, h2, h3, fun _ => hd⟩
 exact this _ 0 rfl (Nat.zero_le _) (fun j hj => by omega)
theorem digits_one {s : ByteArray} {r q : Nat} (h1 : r ≤ s.size) (h2 : ∀ j : Nat, j < r → Dig (bt s j)) (h3 : r < s.size → ¬ Dig (bt s r)) (k1 : q ≤ s.size) (k2 : ∀ j : Nat, j < q → Dig (bt s j)) (k3 : q < s.size → ¬ Dig (bt s q)) : r = q := by
 rcases Nat.lt_trichotomy r q with h | h | h
 ·exact absurd (k2 r h) (h3 (by omega))
 ·exact h
 ·exact absurd (h2 q h) (k3 (by omega))
def zbd (s : ByteArray) : Prop := 0 < s.size ∧ ∀ j : Nat, j < s.size → Dig (bt s j)
structure Set_ (B0 H a : Nat) (s : ByteArray) (w w' : World) (e : Ending) : Prop where
 ok : zbd s → e = .returned (.tuple #[.pointer (some ⟨a, 0, none⟩), .bool true]) ∧ ∃ v l, Bg w' a false v ∧ NatS w' H v l ∧ num l = dv s s.size ∧ l = trimW l
 no : ¬ zbd s → e = .returned (.tuple #[.pointer none, .bool false])
 below : Below B0 w w'
theorem setFromScanner_ (w : World) (B0 a b : Nat) (s : ByteArray) (p : Int) (EP NP : Addr) (hz : Bg w a false (.slice none 0 0)) (h : Rd w b s 0 p) (h0 : 0 < s.size) (hs : s.size ≤ 1000000) (h1 : bt s 0 ≠ 45) (h2 : bt s 0 ≠ 43) (hab : a ≠ b) (hBa : B0 ≤ a) (hBb : B0 ≤ b)
  (hE : w.cell? ⟨2, 0, none⟩ = some (ErrV EP)) (hN : w.cell? ⟨7, 0, none⟩ = some (ErrV NP)) (hbg : 7 < b) (hag : 7 < a) (hg0 : 7 < B0) :
  Calls Tryz.prog 136 #[.pointer (some ⟨a, 0, none⟩), .iface 169 (.pointer (some ⟨b, 0, none⟩)), .int .i64 10] w (fun e w' => Set_ B0 w.heap.size a s w w' e) := by
 have HI := za.mk (intScan_ w B0 a b s p EP NP hz h h0 hs h1 h2 hab hBa hBb hE hN hbg hag)
 have F := za.mk (And.intro h0 (And.intro hs (And.intro hab (And.intro hBa (And.intro hBb (And.intro hg0 (And.intro hE (And.intro h.lt hbg))))))))
 have i1 := zcf (some ⟨b, 0, none⟩)
 have i3 := zdf
 have q1 := neq_err EP
 have q2 := neq_nil_err EP
 clear hz h h0 hs h1 h2 hab hBa hBb hE hN hbg hag hg0
 go_enter Tryz.func136, Tryz.ntmps136
 obtain ⟨r, hr1, hr2, hr3⟩ := digits_ahead s
 have hscan : Calls Tryz.prog 157 #[.pointer (some ⟨a, 0, none⟩), .iface 169 (.pointer (some ⟨b, 0, none⟩)), .int .i64 10] w (fun e w' => Scanned B0 w.heap.size a b s w w' r ∧ e = .returned (if r = 0 then .tuple #[.pointer none, .int .i64 10, ErrV NP] else .tuple #[.pointer (some ⟨a, 0, none⟩), .int .i64 10, .nilIface])) := by
  refine HI.out.mono ?_
  rintro e w' ⟨q, hsc, hz, hp⟩
  have e1 : q = r := digits_one hsc.le hsc.dig hsc.fin hr1 hr2 hr3
  subst e1
  refine ⟨hsc, ?_⟩
  by_cases h0 : q = 0
  ·rw [if_pos h0]; exact hz h0
  ·rw [if_neg h0]; exact hp (Nat.pos_of_ne_zero h0)
 have hnot : (r = 0 ∨ r < s.size) → ¬ zbd s := by
  intro h hall
  rcases h with h | h
  ·subst h
   exact hr3 hall.1 (hall.2 0 hall.1)
  ·exact hr3 h (hall.2 r h)
 have hall : 0 < r → r = s.size → zbd s := fun h1 h2 => ⟨by omega, fun j hj => hr2 j (by omega)⟩
 have HNOT := za.mk hnot
 have HALL := za.mk hall
 clear hnot hall
 have HD := za.mk (And.intro hr1 (And.intro hr2 hr3))
 clear hr1 hr2 hr3
 by_cases hr0 : r = 0
 ·rw [if_pos hr0] at hscan
  simp only [ErrV] at hscan
  have HSC := za.mk hscan
  have HR0 := za.mk hr0
  clear hscan hr0
  go_wp2_with (first | (go_at_call 157; refine HSC.out.mono ?_; rintro e' w1 ⟨hsc, rfl⟩; have SC := za.mk hsc; clear hsc))
  go_ret2
  exact ⟨fun h => absurd h (HNOT.out (.inl HR0.out)), fun _ => rfl, SC.out.below⟩
 ·rw [if_neg hr0] at hscan
  have HSC := za.mk hscan
  have HR0 := za.mk hr0
  clear hscan hr0
  have hrd : ∀ w1, Scanned B0 w.heap.size a b s w w1 r → Calls Tryz.prog 217 #[.pointer (some ⟨b, 0, none⟩)] w1 fun e w' => ∃ ch er, e = .returned (.tuple #[ch, er]) ∧ Head w' b s r ch er EP ∧ w1.grownBy w' (some b) := by
   intro w1 hsc
   obtain ⟨f1, f2, f3, f4, f5, f6, f7, f8, f9⟩ := F.out
   obtain ⟨q, hq⟩ := hsc.rd
   exact next_ w1 b r s q EP hq HD.out.1 f2 ((World.cell?_of_block (hsc.below.block 2 (by omega))).trans f7) (by omega)
  have hEw : ∀ w1 w2, Scanned B0 w.heap.size a b s w w1 r → w1.grownBy w2 (some b) → w2.cell? ⟨2, 0, none⟩ = some (.iface 243 (.pointer (some EP))) := by
   intro w1 w2 hsc hg
   obtain ⟨f1, f2, f3, f4, f5, f6, f7, f8, f9⟩ := F.out
   have hsz := hsc.below.size
   exact ((World.cell?_of_block (hg.block 2 (by omega) (fun e => by have := Option.some.inj e; omega))).trans (World.cell?_of_block (hsc.below.block 2 (by omega)))).trans f7
  have HRD := za.mk hrd
  have HEW := za.mk hEw
  have hset : ∀ w1 w2, Scanned B0 w.heap.size a b s w w1 r → w1.grownBy w2 (some b) → (∃ v l, Bg w2 a false v ∧ NatS w2 w.heap.size v l ∧ num l = dv s r ∧ l = trimW l) ∧ Below B0 w w2 := by
   intro w1 w2 hsc hg
   obtain ⟨f1, f2, f3, f4, f5, f6, f7, f8, f9⟩ := F.out
   obtain ⟨v, l, g1, g2, g3, g4⟩ := hsc.big
   have hsz := hsc.below.size
   exact ⟨⟨v, l, g1.same (hg.block a g1.lt (fun e => f3 (Option.some.inj e))), g2.grown hg f8, g3, g4⟩, hsc.below.grown hg (by have := g1.lt; omega) (fun k hk => by cases hk; exact f5)⟩
  have HSET := za.mk hset
  clear hrd hEw hset
  go_upto_region 5 with (first
   | (go_at_call 157; refine HSC.out.mono ?_; rintro e' w1 ⟨hsc, rfl⟩; have SC := za.mk hsc; clear hsc)
   | (go_at_call 217; refine (HRD.out w1 SC.out).mono ?_; rintro e' w2 ⟨ch, er, rfl, hh, hg⟩; have HH := za.mk hh; have HG := za.mk hg; have e1 := HEW.out w1 w2 SC.out hg; clear hh hg))
  obtain ⟨⟨v, l, g1, g2, g3, g4⟩, hbel⟩ := HSET.out w1 w2 SC.out HG.out
  have G := za.mk (And.intro g1 (And.intro g2 (And.intro g3 (And.intro g4 hbel))))
  clear g1 g2 g3 g4 hbel
  rcases HH.out with ⟨hlt, he, hch, hr⟩ | ⟨hlt, he, hch, hr⟩
  ·subst he
   subst hch
   have HLT := za.mk hlt
   clear hlt hr HH
   go_wp2
   go_ret2
   exact ⟨fun h => absurd h (HNOT.out (.inr HLT.out)), fun _ => rfl, G.out.2.2.2.2⟩
  ·subst he
   subst hch
   simp only [ErrV]
   have HLT := za.mk hlt
   clear hlt hr HH
   go_wp2
   go_ret2
   refine ⟨fun _ => ⟨rfl, v, l, G.out.1, G.out.2.1, ?_, G.out.2.2.2.1⟩, fun h => absurd (HALL.out (Nat.pos_of_ne_zero HR0.out) HLT.out) h, G.out.2.2.2.2⟩
   rw [← HLT.out]
   exact G.out.2.2.1
end Go.Proofs.YtlijjnjpomnphaaGreatDoorG
end
section
namespace Go.Proofs.YtlijjnjpomnphaaGreatDoorG
open Go.RowKit YtlijjnjpomnphaaGreatDoorW.PrintWords YtlijjnjpomnphaaGreatDoorW.PrintLast
theorem zhh (w : World) (o : Obj) : (w.alloc o).heap = w.heap.push o := rfl
theorem alloc_at (w : World) (o : Obj) : (w.alloc o).heap[w.heap.size]? = some o := by rw [zhh]; simp
theorem alloc_old (w : World) (o : Obj) {k : Nat} (h : k < w.heap.size) : (w.alloc o).heap[k]? = w.heap[k]? := by rw [zhh, Array.getElem?_push, if_neg (by omega)]
theorem zsc (w : World) (o : Obj) : (w.alloc o).heap.size = w.heap.size + 1 := by rw [zhh, Array.size_push]
theorem setString_ (w : World) (B0 a : Nat) (s : ByteArray) (EP NP : Addr) (hz : Bg w a false (.slice none 0 0)) (h0 : 0 < s.size) (hs : s.size ≤ 1000000) (h1 : bt s 0 ≠ 45) (h2 : bt s 0 ≠ 43) (hBa : B0 ≤ a)
  (hE : w.cell? ⟨2, 0, none⟩ = some (ErrV EP)) (hN : w.cell? ⟨7, 0, none⟩ = some (ErrV NP)) (hg0 : 7 < B0) :
  Calls Tryz.prog 108 #[.pointer (some ⟨a, 0, none⟩), .string s, .int .i64 10] w (fun e w' => Set_ B0 (w.heap.size + 1) a s w w' e) := by
 have ha := hz.lt
 obtain ⟨w1, hw1⟩ : ∃ w1, w1 = w.alloc (.cells #[.string s, .int .i64 0, .int .i64 (-1)] 189) := ⟨_, rfl⟩
 have hsz : w1.heap.size = w.heap.size + 1 := by rw [hw1]; exact zsc _ _
 have hold : ∀ k, k < w.heap.size → w1.heap[k]? = w.heap[k]? := fun k hk => by rw [hw1]; exact alloc_old _ _ hk
 have hrd : Rd w1 w.heap.size s 0 (-1) := by unfold Rd; rw [hw1]; exact alloc_at _ _
 have hcon := setFromScanner_ w1 B0 a w.heap.size s (-1) EP NP (hz.same (hold a ha)) hrd h0 hs h1 h2 (by omega) hBa (by omega) ((World.cell?_of_block (hold _ (by show 2 < _; omega))).trans hE) ((World.cell?_of_block (hold _ (by show 7 < _; omega))).trans hN) (by omega) (by omega) hg0
 have HB : za (Below B0 w w1) := ⟨by rw [hw1]; exact zee _ (by omega)⟩
 rw [hsz] at hcon
 have HNEW := za.mk (newReader_ w s)
 have HW1 := za.mk hw1
 by_cases hall : zbd s
 ·have HCON := za.mk (hcon.mono (R' := fun e w' => e = .returned (.tuple #[.pointer (some ⟨a, 0, none⟩), .bool true]) ∧ Set_ B0 (w.heap.size + 1) a s w1 w' e) (fun e w' h => ⟨(h.ok hall).1, h⟩))
  clear hz h0 hs h1 h2 hBa hE hN hg0 ha hsz hold hrd hcon hw1
  go_enter Tryz.func108, Tryz.ntmps108
  go_wp2_with (first
   | (go_at_call 137; refine HNEW.out.mono ?_; rintro e' w2 ⟨rfl, hw2⟩; have hw3 := hw2.trans HW1.out.symm; clear hw2; subst hw3)
   | (go_at_call 136; refine HCON.out.mono ?_; rintro e' w3 ⟨rfl, hst⟩; have ST := za.mk hst; clear hst))
  go_ret2
  exact ⟨fun h => ⟨rfl, (ST.out.ok h).2⟩, fun h => absurd hall h, HB.out.trans ST.out.below⟩
 ·have HCON := za.mk (hcon.mono (R' := fun e w' => e = .returned (.tuple #[.pointer none, .bool false]) ∧ Set_ B0 (w.heap.size + 1) a s w1 w' e) (fun e w' h => ⟨h.no hall, h⟩))
  clear hz h0 hs h1 h2 hBa hE hN hg0 ha hsz hold hrd hcon hw1
  go_enter Tryz.func108, Tryz.ntmps108
  go_wp2_with (first
   | (go_at_call 137; refine HNEW.out.mono ?_; rintro e' w2 ⟨rfl, hw2⟩; have hw3 := hw2.trans HW1.out.symm; clear hw2; subst hw3)
   | (go_at_call 136; refine HCON.out.mono ?_; rintro e' w3 ⟨rfl, hst⟩; have ST := za.mk hst; clear hst))
  go_ret2
  exact ⟨fun h => absurd h hall, fun _ => rfl, HB.out.trans ST.out.below⟩
structure Conv (s : ByteArray) (EV : Addr) (w w' : World) (e : Ending) : Prop where
 ok : zbd s → ∃ v l, e = .returned (.tuple #[.pointer (some ⟨w.heap.size, 0, none⟩), .nilIface]) ∧ Bg w' w.heap.size false v ∧ NatS w' w.heap.size v l ∧ num l = dv s s.size ∧ l = trimW l
 no : ¬ zbd s → e = .returned (.tuple #[.pointer none, ErrV EV])
 below : Below w.heap.size w w'
theorem NatS.lower {w : World} {B B' : Nat} {v : Value} {l : List Nat} (h : NatS w B v l) (hB : B' ≤ B) : NatS w B' v l := by
 rcases h with h | ⟨g, full, h1, h2, h3⟩
 ·exact .inl h
 ·exact .inr ⟨g, full, h1, by omega, h3⟩
theorem convert_ (w : World) (s : ByteArray) (EV EP NP : Addr) (h0 : 0 < s.size) (hs : s.size ≤ 1000000) (h1 : bt s 0 ≠ 45) (h2 : bt s 0 ≠ 43)
  (hV : w.cell? ⟨0, 0, none⟩ = some (ErrV EV)) (hE : w.cell? ⟨2, 0, none⟩ = some (ErrV EP)) (hN : w.cell? ⟨7, 0, none⟩ = some (ErrV NP)) (hg0 : 7 < w.heap.size) :
  Calls Tryz.prog 70 #[.string s] w (fun e w' => Conv s EV w w' e) := by
 obtain ⟨w1, hw1⟩ : ∃ w1, w1 = w.alloc (.cells #[.bool false, .slice none 0 0] 150) := ⟨_, rfl⟩
 have hsz : w1.heap.size = w.heap.size + 1 := by rw [hw1]; exact zsc _ _
 have hold : ∀ k, k < w.heap.size → w1.heap[k]? = w.heap[k]? := fun k hk => by rw [hw1]; exact alloc_old _ _ hk
 have hz : Bg w1 w.heap.size false (.slice none 0 0) := by unfold Bg; rw [hw1]; exact alloc_at _ _
 have hcon := setString_ w1 w.heap.size w.heap.size s EP NP hz h0 hs h1 h2 (Nat.le_refl _) ((World.cell?_of_block (hold _ (by show 2 < _; omega))).trans hE) ((World.cell?_of_block (hold _ (by show 7 < _; omega))).trans hN) (by omega)
 have hbel : Below w.heap.size w w1 := by rw [hw1]; exact zee _ (Nat.le_refl _)
 have HB := za.mk hbel
 have HV := za.mk (fun w2 (h : Below w.heap.size w1 w2) => ((World.cell?_of_block (h.block 0 (by omega))).trans (World.cell?_of_block (hold _ (by show 0 < _; omega)))).trans hV)
 rw [hw1] at hcon HB HV
 by_cases hall : zbd s
 ·have HCON := za.mk (hcon.mono (R' := fun e w' => e = .returned (.tuple #[.pointer (some ⟨w.heap.size, 0, none⟩), .bool true]) ∧ Set_ w.heap.size (w1.heap.size + 1) w.heap.size s w1 w' e) (fun e w' h => by rw [← hw1] at h; exact ⟨(h.ok hall).1, h⟩))
  rw [hw1] at HCON
  clear hz h0 hs h1 h2 hE hN hg0 hsz hold hcon hbel hw1 hV
  go_enter Tryz.func70, Tryz.ntmps70
  go_wp2_with (first
   | (go_at_call 108; refine HCON.out.mono ?_; rintro e' w3 ⟨rfl, hst⟩; have ST := za.mk hst; clear hst))
  go_ret2
  obtain ⟨_, v, l, q1, q2, q3, q4⟩ := ST.out.ok hall
  exact ⟨fun _ => ⟨v, l, rfl, q1, q2.lower (by rw [zsc]; omega), q3, q4⟩, fun h => absurd hall h, HB.out.trans ST.out.below⟩
 ·have HCON := za.mk (hcon.mono (R' := fun e w' => e = .returned (.tuple #[.pointer none, .bool false]) ∧ Below w.heap.size w1 w' ) (fun e w' h => by rw [← hw1] at h; exact ⟨h.no hall, h.below⟩))
  rw [hw1] at HCON
  clear hz h0 hs h1 h2 hE hN hg0 hsz hold hcon hbel hw1 hV
  simp only [ErrV] at HV
  go_enter Tryz.func70, Tryz.ntmps70
  go_wp2_with (first
   | (go_at_call 108; refine HCON.out.mono ?_; rintro e' w3 ⟨rfl, hst⟩; have ST := za.mk hst; have cv := HV.out w3 hst; clear hst))
  go_quiet (fail)
  go_wp2
  go_ret2
  exact ⟨fun h => absurd h hall, fun _ => rfl, by first | exact HB.out.trans ST.out | (apply ze; exact HB.out.trans ST.out)⟩
end Go.Proofs.YtlijjnjpomnphaaGreatDoorG
end
section
namespace Go.Proofs.YtlijjnjpomnphaaGreatDoorG
open Go.RowKit YtlijjnjpomnphaaGreatDoorW.PrintWords YtlijjnjpomnphaaGreatDoorW.PrintLast
theorem NatS.reads {w : World} {B : Nat} {v : Value} {l : List Nat} (h : NatS w B v l) : ∃ (g c : Nat) (p : Option Addr), v = .slice p l.length c ∧ (l.length ≠ 0 → p = some ⟨g, 0, none⟩ ∧ ∀ i, i < l.length → w.cell? ⟨g, i, none⟩ = some (.int .u64 (l.getD i 0 : Nat))) := by
 rcases h with ⟨rfl, rfl⟩ | ⟨g, full, rfl, h1, h2, h3, h4, h5, h6⟩
 ·exact ⟨0, 0, none, rfl, fun h => absurd rfl h⟩
 ·refine ⟨g, full.length, _, rfl, fun _ => ⟨rfl, fun i hi => ?_⟩⟩
  have h7 := h2.cell i (by omega)
  have e : (full.take l.length).getD i 0 = full.getD i 0 := by rw [List.getD_eq_getElem?_getD, List.getD_eq_getElem?_getD, List.getElem?_take_of_lt hi]
  rw [h3] at e
  rw [h7, e]
end Go.Proofs.YtlijjnjpomnphaaGreatDoorG
end
section
namespace Go.Proofs.YtlijjnjpomnphaaGreatDoorG
open Go.RowKit YtlijjnjpomnphaaGreatDoorW.PrintWords YtlijjnjpomnphaaGreatDoorW.PrintLast
theorem scanSign_e (w : World) (b : Nat) (s : ByteArray) (p : Int) (EP : Addr) (h : Rd w b s 0 p) (h0 : s.size = 0) (hE : w.cell? ⟨2, 0, none⟩ = some (ErrV EP)) (hbg : 2 < b) :
  Calls Tryz.prog 168 #[.iface 169 (.pointer (some ⟨b, 0, none⟩))] w fun e w' => e = .returned (.tuple #[.bool false, ErrV EP]) ∧ w.grownBy w' (some b) := by
 have hr := znh w b s p (ErrV EP) (by rw [h0]; exact h) hE (by omega) (by omega)
 simp only [ErrV] at hr ⊢
 have HR := za.mk hr
 have i1 := zcf (some ⟨b, 0, none⟩)
 have i3 := zdf
 clear h h0 hE hbg hr
 go_enter Tryz.func168, Tryz.ntmps168
 go_wp2_with (first
  | (go_at_call 217; refine HR.out.mono ?_; rintro e' w1 ⟨rfl, r1, g1⟩; have G1 := za.mk g1; clear r1 g1))
 go_ret2
 exact ⟨rfl, G1.out⟩
theorem intScan_e (w : World) (a b : Nat) (s : ByteArray) (p : Int) (EP : Addr) (h : Rd w b s 0 p) (h0 : s.size = 0) (hE : w.cell? ⟨2, 0, none⟩ = some (ErrV EP)) (hbg : 2 < b) :
  Calls Tryz.prog 157 #[.pointer (some ⟨a, 0, none⟩), .iface 169 (.pointer (some ⟨b, 0, none⟩)), .int .i64 10] w fun e w' => e = .returned (.tuple #[.pointer none, .int .i64 0, ErrV EP]) ∧ w.grownBy w' (some b) := by
 have hr := scanSign_e w b s p EP h h0 hE hbg
 simp only [ErrV] at hr ⊢
 have HR := za.mk hr
 clear h h0 hE hbg hr
 go_enter Tryz.func157, Tryz.ntmps157
 go_wp2_with (first
  | (go_at_call 168; refine HR.out.mono ?_; rintro e' w1 ⟨rfl, g1⟩; have G1 := za.mk g1; clear g1))
 go_ret3
 exact ⟨rfl, G1.out⟩
theorem zrh (w : World) (a b : Nat) (s : ByteArray) (p : Int) (EP : Addr) (h : Rd w b s 0 p) (h0 : s.size = 0) (hE : w.cell? ⟨2, 0, none⟩ = some (ErrV EP)) (hbg : 2 < b) :
  Calls Tryz.prog 136 #[.pointer (some ⟨a, 0, none⟩), .iface 169 (.pointer (some ⟨b, 0, none⟩)), .int .i64 10] w fun e w' => e = .returned (.tuple #[.pointer none, .bool false]) ∧ w.grownBy w' (some b) := by
 have hr := intScan_e w a b s p EP h h0 hE hbg
 simp only [ErrV] at hr
 have HR := za.mk hr
 clear h h0 hE hbg hr
 go_enter Tryz.func136, Tryz.ntmps136
 go_wp2_with (first
  | (go_at_call 157; refine HR.out.mono ?_; rintro e' w1 ⟨rfl, g1⟩; have G1 := za.mk g1; clear g1))
 go_ret2
 exact ⟨rfl, G1.out⟩
theorem setString_e (w : World) (a : Nat) (s : ByteArray) (EP : Addr) (h0 : s.size = 0) (hE : w.cell? ⟨2, 0, none⟩ = some (ErrV EP)) (hg0 : 2 < w.heap.size) :
  Calls Tryz.prog 108 #[.pointer (some ⟨a, 0, none⟩), .string s, .int .i64 10] w fun e w' => e = .returned (.tuple #[.pointer none, .bool false]) ∧ Below w.heap.size w w' := by
 obtain ⟨w1, hw1⟩ : ∃ w1, w1 = w.alloc (.cells #[.string s, .int .i64 0, .int .i64 (-1)] 189) := ⟨_, rfl⟩
 have hold : ∀ k, k < w.heap.size → w1.heap[k]? = w.heap[k]? := fun k hk => by rw [hw1]; exact alloc_old _ _ hk
 have hrd : Rd w1 w.heap.size s 0 (-1) := by unfold Rd; rw [hw1]; exact alloc_at _ _
 have hcon := zrh w1 a w.heap.size s (-1) EP hrd h0 ((World.cell?_of_block (hold _ (by show 2 < _; omega))).trans hE) hg0
 have HB : za (∀ w2, w1.grownBy w2 (some w.heap.size) → Below w.heap.size w w2) := ⟨fun w2 g => by
  have hb : Below w.heap.size w w1 := by rw [hw1]; exact zee _ (Nat.le_refl _)
  have hsz : w1.heap.size = w.heap.size + 1 := by rw [hw1]; exact zsc _ _
  exact hb.grown g (by omega) (fun k hk => by cases hk; exact Nat.le_refl _)⟩
 have HCON := za.mk hcon
 have HNEW := za.mk (newReader_ w s)
 have HW1 := za.mk hw1
 clear h0 hE hg0 hold hrd hcon hw1
 go_enter Tryz.func108, Tryz.ntmps108
 go_wp2_with (first
  | (go_at_call 137; refine HNEW.out.mono ?_; rintro e' w2 ⟨rfl, hw2⟩; have hw3 := hw2.trans HW1.out.symm; clear hw2; subst hw3)
  | (go_at_call 136; refine HCON.out.mono ?_; rintro e' w3 ⟨rfl, hst⟩; have ST := za.mk hst; clear hst))
 go_ret2
 exact ⟨rfl, HB.out _ ST.out⟩
theorem convert_e (w : World) (s : ByteArray) (EV EP : Addr) (h0 : s.size = 0)
  (hV : w.cell? ⟨0, 0, none⟩ = some (ErrV EV)) (hE : w.cell? ⟨2, 0, none⟩ = some (ErrV EP)) (hg0 : 2 < w.heap.size) :
  Calls Tryz.prog 70 #[.string s] w fun e w' => e = .returned (.tuple #[.pointer none, ErrV EV]) ∧ Below w.heap.size w w' := by
 obtain ⟨w1, hw1⟩ : ∃ w1, w1 = w.alloc (.cells #[.bool false, .slice none 0 0] 150) := ⟨_, rfl⟩
 have hsz : w1.heap.size = w.heap.size + 1 := by rw [hw1]; exact zsc _ _
 have hold : ∀ k, k < w.heap.size → w1.heap[k]? = w.heap[k]? := fun k hk => by rw [hw1]; exact alloc_old _ _ hk
 have hcon := setString_e w1 w.heap.size s EP h0 ((World.cell?_of_block (hold _ (by show 2 < _; omega))).trans hE) (by omega)
 have hbel : Below w.heap.size w w1 := by rw [hw1]; exact zee _ (Nat.le_refl _)
 have HB : za (∀ w2, Below w1.heap.size w1 w2 → Below w.heap.size w w2) := ⟨fun w2 h => hbel.trans ⟨h.os, h.tape, h.output, h.size, fun k hk => h.block k (by omega)⟩⟩
 have hV2 : ∀ w2, Below w1.heap.size w1 w2 → w2.cell? ⟨0, 0, none⟩ = some (ErrV EV) := fun w2 h => ((World.cell?_of_block (h.block 0 (by omega))).trans (World.cell?_of_block (hold _ (by show 0 < _; omega)))).trans hV
 simp only [ErrV] at hV2 ⊢
 rw [hw1] at hcon HB hV2
 have HCON := za.mk hcon
 have HV := za.mk hV2
 clear h0 hV hE hg0 hsz hold hcon hbel hw1 hV2
 go_enter Tryz.func70, Tryz.ntmps70
 go_wp2_with (first
  | (go_at_call 108; refine HCON.out.mono ?_; rintro e' w3 ⟨rfl, hst⟩; have ST := za.mk hst; have cv := HV.out w3 hst; clear hst))
 go_quiet (fail)
 go_wp2
 go_ret2
 exact ⟨rfl, by first | exact HB.out _ ST.out | (apply ze; exact HB.out _ ST.out)⟩
def Plain (s : ByteArray) : Prop := s.size ≤ 1000000 ∧ bt s 0 ≠ 45 ∧ bt s 0 ≠ 43
instance (s : ByteArray) : Decidable (Plain s) := inferInstanceAs (Decidable (_ ∧ _ ∧ _))
def GLe (w : World) : Prop := 7 < w.heap.size ∧ (∃ a, w.cell? ⟨0, 0, none⟩ = some (ErrV a)) ∧ (∃ a, w.cell? ⟨2, 0, none⟩ = some (ErrV a)) ∧ ∃ a, w.cell? ⟨7, 0, none⟩ = some (ErrV a)
theorem GLe.below {w w' : World} {B : Nat} (h : GLe w) (hb : Below B w w') (hB : w.heap.size ≤ B) : GLe w' := by
 obtain ⟨h1, ⟨a1, h2⟩, ⟨a2, h3⟩, a3, h4⟩ := h
 have ge : ∀ g : Nat, g ≤ 7 → w'.heap[g]? = w.heap[g]? := fun g hg => hb.block g (by omega)
 have hs := hb.size
 exact ⟨by omega, ⟨a1, (World.cell?_of_block (ge _ (by decide))).trans h2⟩, ⟨a2, (World.cell?_of_block (ge _ (by decide))).trans h3⟩, a3, (World.cell?_of_block (ge _ (by decide))).trans h4⟩
theorem convert_all (w : World) (s : ByteArray) (hp : Plain s) (hG : GLe w) : ∃ EV, Calls Tryz.prog 70 #[.string s] w (fun e w' => Conv s EV w w' e) := by
 obtain ⟨hs, h1, h2⟩ := hp
 obtain ⟨g1, ⟨EV, hV⟩, ⟨EP, hE⟩, NP, hN⟩ := hG
 refine ⟨EV, ?_⟩
 by_cases h0 : s.size = 0
 ·refine (convert_e w s EV EP h0 hV hE (by omega)).mono ?_
  rintro e w' ⟨rfl, hb⟩
  exact ⟨fun h => absurd h.1 (by omega), fun _ => rfl, hb⟩
 ·exact convert_ w s EV EP NP (by omega) hs h1 h2 hV hE hN g1
end Go.Proofs.YtlijjnjpomnphaaGreatDoorG
end
section
namespace Go.Proofs.YtlijjnjpomnphaaGreatDoorG
open Go.RowKit YtlijjnjpomnphaaGreatDoorW.PrintWords YtlijjnjpomnphaaGreatDoorW.PrintLast
theorem W64_pos : 0 < W64 := by unfold W64; omega
theorem num_snoc : ∀ (l : List Nat) (x : Nat), num (l ++ [x]) = num l + W64 ^ l.length * x
 | [], x => by simp [num]
 | y :: l, x => by
  simp only [List.cons_append, num, num_snoc l x, List.length_cons, Nat.pow_succ, Nat.mul_add]
  rw [← Nat.mul_assoc, Nat.mul_comm W64 (W64 ^ l.length), Nat.add_assoc]
theorem trimW_le (l : List Nat) : (trimW l).length ≤ l.length := by
 unfold trimW
 have h := (List.dropWhile_sublist (fun x => decide (x = 0)) (l := l.reverse)).length_le
 rw [List.length_reverse] at h ⊢
 exact h
theorem num_low (l : List Nat) (h : l = trimW l) (h0 : 0 < l.length) : W64 ^ (l.length - 1) ≤ num l := by
 obtain ⟨m, x, rfl⟩ : ∃ m x, l = m ++ [x] := by
  rcases List.eq_nil_or_concat l with e | ⟨m, x, e⟩
  ·rw [e] at h0; simp at h0
  ·exact ⟨m, x, by simpa using e⟩
 have hx : x ≠ 0 := by
  intro e
  subst e
  rw [zke] at h
  have := trimW_le m
  have h2 := congrArg List.length h
  simp at h2
  omega
 rw [num_snoc]
 have e : (m ++ [x]).length - 1 = m.length := by simp
 rw [e]
 have : W64 ^ m.length * 1 ≤ W64 ^ m.length * x := Nat.mul_le_mul (Nat.le_refl _) (Nat.pos_of_ne_zero hx)
 omega
def cmpN (a b : Nat) : Int := if a < b then -1 else if b < a then 1 else 0
theorem NatS.words {w : World} {B : Nat} {v : Value} {l : List Nat} (h : NatS w B v l) : ∀ x ∈ l, IsW x := by
 rcases h with ⟨rfl, rfl⟩ | ⟨g, full, h1, h2, h3, h4, h5, h6, h7⟩
 ·intro x hx; simp at hx
 ·intro x hx
  rw [← h4] at hx
  exact h7 x (List.mem_of_mem_take hx)
theorem dv_lt (s : ByteArray) : ∀ k : Nat, (∀ j : Nat, j < k → Dig (bt s j)) → dv s k < 10 ^ k
 | 0, _ => by simp [dv]
 | k + 1, h => by
  have ih := dv_lt s k (fun j hj => h j (by omega))
  have hd := h k (by omega)
  have h1 := hd.1
  have h2 := hd.2
  simp only [dv, Nat.pow_succ]
  omega
theorem num_len {l : List Nat} {s : ByteArray} (h : l = trimW l) (hd : zbd s) (e : num l = dv s s.size) : l.length ≤ s.size := by
 by_cases h0 : l.length = 0
 ·omega
 ·have h1 := num_low l h (by omega)
  have h2 := dv_lt s s.size hd.2
  have h3 : 10 ^ s.size ≤ W64 ^ s.size := Nat.pow_le_pow_left (by unfold W64; omega) _
  rcases Nat.lt_or_ge s.size l.length with h4 | h4
  ·have h5 : W64 ^ s.size ≤ W64 ^ (l.length - 1) := Nat.pow_le_pow_right W64_pos (by omega)
   omega
  ·exact h4
end Go.Proofs.YtlijjnjpomnphaaGreatDoorG
end
section
namespace Go.Proofs.YtlijjnjpomnphaaGreatDoorG
open Go.RowKit YtlijjnjpomnphaaGreatDoorW.PrintWords YtlijjnjpomnphaaGreatDoorW.PrintLast
instance (s : ByteArray) : Decidable (zbd s) := by
 unfold zbd
 exact inferInstanceAs (Decidable (_ ∧ _))
def BigAt (w : World) (a n : Nat) : Prop := ∃ v l, Bg w a false v ∧ NatS w a v l ∧ num l = n ∧ l = trimW l ∧ l.length ≤ 1000000
theorem NatS.lt {w : World} {B : Nat} {v : Value} {l : List Nat} (h : NatS w B v l) {w' : World} (hb : Below w.heap.size w w') : NatS w' B v l := by
 refine h.other (fun k _ hk => hb.block k hk)
theorem BigAt.below {w w' : World} {a n : Nat} (h : BigAt w a n) (hb : Below w.heap.size w w') : BigAt w' a n := by
 obtain ⟨v, l, h1, h2, h3⟩ := h
 exact ⟨v, l, h1.same (hb.block a h1.lt), h2.lt hb, h3⟩
theorem conv_yes (w : World) (s : ByteArray) (hp : Plain s) (hG : GLe w) (hd : zbd s) :
  Calls Tryz.prog 70 #[.string s] w fun e w' => e = .returned (.tuple #[.pointer (some ⟨w.heap.size, 0, none⟩), .nilIface]) ∧ BigAt w' w.heap.size (dv s s.size) ∧ Below w.heap.size w w' := by
 obtain ⟨EV, h⟩ := convert_all w s hp hG
 refine h.mono ?_
 rintro e w' ⟨h1, _, hb⟩
 obtain ⟨v, l, rfl, k1, k2, k3, k4⟩ := h1 hd
 exact ⟨rfl, ⟨v, l, k1, k2, k3, k4, Nat.le_trans (num_len k4 hd k3) hp.1⟩, hb⟩
theorem big_zero (w : World) : BigAt (w.alloc (.cells #[.bool false, .slice none 0 0] 150)) w.heap.size 0 := by
 refine ⟨.slice none 0 0, [], ?_, .inl ⟨rfl, rfl⟩, rfl, rfl, by simp⟩
 unfold Bg
 exact alloc_at w _
theorem cell_old {w w' : World} {p : Addr} {v : Value} (hb : Below w.heap.size w w') (h : w.cell? p = some v) : w'.cell? p = some v := by
 rw [← h]
 refine World.cell?_of_block (hb.block _ ?_)
 rcases Nat.lt_or_ge p.block w.heap.size with hl | hl
 ·exact hl
 ·unfold World.cell? at h
  rw [Array.getElem?_eq_none hl] at h
  cases h
def KeptT (p : TypeId → Bool) (w w' : World) : Prop := ∀ (k : Nat) (cs : Array Value) (t : TypeId) (fr : Nat × Nat), w.heap[k]? = some (Obj.cells cs t fr) → p t = true → w'.heap[k]? = w.heap[k]?
def numT (t : TypeId) : Bool := t == 150 || t == 147
theorem BigAt.kept {w w' : World} {a n : Nat} (h : BigAt w a n) (k : KeptT numT w w') : BigAt w' a n := by
 obtain ⟨v, l, h1, h2, h3⟩ := h
 refine ⟨v, l, h1.same (k a _ _ _ h1 (by decide)), ?_, h3⟩
 rcases h2 with h2 | ⟨g, full, e1, e2, e3, e4⟩
 ·exact .inl h2
 ·exact .inr ⟨g, full, e1, e2, e3.same (k g _ _ _ e3 (by decide)), e4⟩
end Go.Proofs.YtlijjnjpomnphaaGreatDoorG
end
section
namespace Go.Proofs.YtlijjnjpomnphaaGreatDoorG
open Go.RowKit YtlijjnjpomnphaaGreatDoorH YtlijjnjpomnphaaGreatDoorB YtlijjnjpomnphaaGreatDoorM YtlijjnjpomnphaaGreatDoorW.PrintWords YtlijjnjpomnphaaGreatDoorW.PrintLast
def strCmp (a b : ByteArray) : Int := Lib.compareBytes a.data.toList b.data.toList
def zqe (a b : Int) : Int := if a = 0 then b else a
def fromC (d : Nat → Int) : Nat → Nat → Int
 | 0, _ => 0
 | n + 1, k => if d k = 0 then fromC d n (k + 1) else d k
structure YV where
 ep : Nat
 rel : List Nat
 pre : Option (ByteArray × Nat)
 post : Option (ByteArray × Nat)
 dev : Option (ByteArray × Nat)
 loc : List ByteArray
 leg : List ByteArray
def relD (l m : List Nat) (k : Nat) : Int := cmpN (l.getD k 0) (m.getD k 0)
def relC (l m : List Nat) : Int := fromC (relD l m) (max l.length m.length) 0
def trick (x : YV) : Bool := x.pre.isNone && x.post.isNone && x.dev.isSome
def preRank (x : YV) : Nat := if trick x = true then 0 else if x.pre.isSome = true then 1 else 2
def preByte (x : YV) : Nat := match x.pre with
 | some p => (bt p.1 0).toNat
 | none => 0
def numOf : Option (ByteArray × Nat) → Nat
 | some p => p.2
 | none => 0
def preC (x y : YV) : Int := zqe (cmpN (preRank x) (preRank y)) (zqe (cmpN (preByte x) (preByte y)) (cmpN (numOf x.pre) (numOf y.pre)))
def hasN (o : Option (ByteArray × Nat)) : Nat := if o.isSome = true then 1 else 0
def postC (x y : YV) : Int := zqe (cmpN (hasN x.post) (hasN y.post)) (cmpN (numOf x.post) (numOf y.post))
def devC (x y : YV) : Int := zqe (cmpN (hasN y.dev) (hasN x.dev)) (cmpN (numOf x.dev) (numOf y.dev))
def locD (a b : ByteArray) : Int := if zbd a then (if zbd b then cmpN (dv a a.size) (dv b b.size) else 1) else if zbd b then -1 else strCmp a b
def locAt (l m : List ByteArray) (k : Nat) : Int := locD (l.getD k ByteArray.empty) (m.getD k ByteArray.empty)
def locC (l m : List ByteArray) : Int := zqe (fromC (locAt l m) (min l.length m.length) 0) (cmpN l.length m.length)
def legN (l : List ByteArray) : Nat := if l = [] then 1 else 0
instance (l : List ByteArray) : Decidable (l = []) := by cases l <;> exact inferInstance
def legC (l m : List ByteArray) : Int := zqe (cmpN (legN l) (legN m)) (strCmp (joinB l) (joinB m))
def yC (x y : YV) : Int := zqe (legC x.leg y.leg) (zqe (cmpN x.ep y.ep) (zqe (relC x.rel y.rel) (zqe (preC x y) (zqe (postC x y) (zqe (devC x y) (locC x.loc y.loc))))))
end Go.Proofs.YtlijjnjpomnphaaGreatDoorG
end
section
namespace Go.Proofs.YtlijjnjpomnphaaGreatDoorG
open Go.RowKit YtlijjnjpomnphaaGreatDoorH YtlijjnjpomnphaaGreatDoorW.PrintWords YtlijjnjpomnphaaGreatDoorW.PrintLast
theorem newInt_zero (w : World) : Calls Tryz.prog 69 #[.int .i64 0] w fun e w' => e = .returned (.pointer (some ⟨w.heap.size, 0, none⟩)) ∧ BigAt w' w.heap.size 0 ∧ Below w.heap.size w w' := by
 have HB := za.mk (Below.refl w.heap.size w)
 have HZ := za.mk (big_zero w)
 go_enter Tryz.func69, Tryz.ntmps69
 go_wp2
 go_ret
 exact ⟨rfl, HZ.out, zg HB.out _⟩
def BigM (w : World) (a : Nat) : Prop := ∃ v, Bg w a true v ∧ NatS w 0 v [1]
theorem BigM.below {w w' : World} {a : Nat} (h : BigM w a) (hb : Below w.heap.size w w') : BigM w' a := by
 obtain ⟨v, h1, h2⟩ := h
 exact ⟨v, h1.same (hb.block a h1.lt), h2.lt hb⟩
theorem newInt_m1 (w : World) : Calls Tryz.prog 69 #[.int .i64 (-1)] w fun e w' => ∃ a, e = .returned (.pointer (some ⟨a, 0, none⟩)) ∧ BigM w' a ∧ Below w.heap.size w w' := by
 have HB := za.mk (Below.refl w.heap.size w)
 go_enter Tryz.func69, Tryz.ntmps69
 go_wp2
 go_ret
 have e1 : IntKind.u64.wrap (-IntKind.u64.wrap (-1)) = 1 := by decide
 rw [e1]
 refine ⟨w.heap.size + 1, rfl, ⟨.slice (some ⟨w.heap.size, 0, none⟩) 1 1, ?_, .inr ⟨w.heap.size, [1], rfl, Nat.zero_le _, ?_, rfl, Nat.le_refl _, by decide, ?_⟩⟩, zg (zg HB.out _) _⟩
 ·unfold Bg
  have h := alloc_at (w.alloc (.cells #[.int .u64 1] 147)) (.cells #[.bool true, .slice (some ⟨w.heap.size, 0, none⟩) 1 1] 150)
  rw [zsc] at h
  exact h
 ·unfold Ws
  exact zv (zjc w _) _
 ·intro x hx
  rw [List.mem_singleton.1 hx]
  unfold IsW W64
  omega
def RRow (w : World) (v : Value) (l : List Nat) : Prop := ∃ (p : Option Addr) (c : Nat), v = .slice p l.length c ∧ l.length ≤ 1000000 ∧
 ∀ (i : Nat) (n : Nat), l[i]? = some n → ∃ b a : Nat, p = some ⟨b, 0, none⟩ ∧ w.cell? ⟨b, i, none⟩ = some (.pointer (some ⟨a, 0, none⟩)) ∧ BigAt w a n
theorem RRow.below {w w' : World} {v : Value} {l : List Nat} (h : RRow w v l) (hb : Below w.heap.size w w') : RRow w' v l := by
 obtain ⟨p, c, h1, h2, h3⟩ := h
 refine ⟨p, c, h1, h2, fun i x hx => ?_⟩
 obtain ⟨b, a, e, k1, k2⟩ := h3 i x hx
 exact ⟨b, a, e, cell_old hb k1, k2.below hb⟩
theorem znf (n k : Nat) (h : k < n) : n - (intOf (.int .i64 ((k + 1 : Nat) : Int))).toNat < n - (intOf (.int .i64 (k : Int))).toNat := by
 simp only [intOf]
 omega
theorem zfg (n k : Nat) (h : k < n) (e : wrap64 ((k : Int) + 1) = ((k + 1 : Nat) : Int)) : n - (intOf (.int .i64 (wrap64 ((k : Int) + 1)))).toNat < n - (intOf (.int .i64 (k : Int))).toNat := by
 rw [e]
 exact znf n k h
end Go.Proofs.YtlijjnjpomnphaaGreatDoorG
end
section
namespace Go.Proofs.YtlijjnjpomnphaaGreatDoorG
open Go.RowKit YtlijjnjpomnphaaGreatDoorH YtlijjnjpomnphaaGreatDoorB YtlijjnjpomnphaaGreatDoorW.PrintWords YtlijjnjpomnphaaGreatDoorW.PrintLast
def oA : Option Nat → Option Addr
 | none => none
 | some a => some ⟨a, 0, none⟩
def NumAt (w : World) (o : Option Nat) (n : Nat) : Prop := ∀ a, o = some a → BigAt w a n
end Go.Proofs.YtlijjnjpomnphaaGreatDoorG
end
section
namespace Go.Proofs.YtlijjnjpomnphaaGreatDoorG
open Go.RowKit YtlijjnjpomnphaaGreatDoorH YtlijjnjpomnphaaGreatDoorB YtlijjnjpomnphaaGreatDoorW.PrintWords YtlijjnjpomnphaaGreatDoorW.PrintLast
theorem conv_at (W : World) (s : ByteArray) (hp : Plain s) (hG : GLe W) (hd : zbd s) :
  Calls Tryz.prog 70 #[.string s] W fun e w' => ∃ a, e = .returned (.tuple #[.pointer (some ⟨a, 0, none⟩), .nilIface]) ∧ BigAt w' a (dv s s.size) ∧ Below W.heap.size W w' := by
 refine (conv_yes W s hp hG hd).mono ?_
 rintro e w' ⟨rfl, h1, h2⟩
 exact ⟨_, rfl, h1, h2⟩
theorem GLe.lt {w w' : World} (h : GLe w) (hb : Below w.heap.size w w') : GLe w' := h.below hb (Nat.le_refl _)
end Go.Proofs.YtlijjnjpomnphaaGreatDoorG
end
section
namespace Go.Proofs.YtlijjnjpomnphaaGreatDoorG
open Go.RowKit YtlijjnjpomnphaaGreatDoorH YtlijjnjpomnphaaGreatDoorB YtlijjnjpomnphaaGreatDoorW.PrintWords YtlijjnjpomnphaaGreatDoorW.PrintLast
def LtAt (w : World) (pl : ByteArray) (pn : Option Nat) (o : Option (ByteArray × Nat)) : Prop := match o with
 | none => pn = none
 | some p => ∃ a, pn = some a ∧ pl = p.1 ∧ BigAt w a p.2
theorem LtAt.below {w w' : World} {pl : ByteArray} {pn : Option Nat} {o : Option (ByteArray × Nat)} (h : LtAt w pl pn o) (hb : Below w.heap.size w w') : LtAt w' pl pn o := by
 cases o with
 | none => exact h
 | some p => obtain ⟨a, h1, h2, h3⟩ := h; exact ⟨a, h1, h2, h3.below hb⟩
theorem LtAt.some {w : World} {pl : ByteArray} {pn : Option Nat} {o : Option (ByteArray × Nat)} (h : LtAt w pl pn o) : pn.isSome = o.isSome ∧ pn.isNone = o.isNone := by
 cases o with
 | none => have e : pn = none := h; subst e; exact ⟨rfl, rfl⟩
 | some p => obtain ⟨a, h1, _⟩ := h; subst h1; exact ⟨rfl, rfl⟩
theorem LtAt.num {w : World} {pl : ByteArray} {pn : Option Nat} {o : Option (ByteArray × Nat)} (h : LtAt w pl pn o) : NumAt w pn (numOf o) := by
 cases o with
 | none => have e : pn = none := h; subst e; intro a e; cases e
 | some p => obtain ⟨a, h1, _, h3⟩ := h; subst h1; intro b e; cases e; exact h3
structure YOk (x : YV) : Prop where
 pre : ∀ p, x.pre = some p → 0 < p.1.size
 loc : ∀ s ∈ x.loc, Plain s
 leg : (joinB x.leg).size ≤ 100000000
 ep : x.leg ≠ [] → x.ep = 0
end Go.Proofs.YtlijjnjpomnphaaGreatDoorG
end
section
namespace Go.Proofs.YtlijjnjpomnphaaGreatDoorG
open Go.RowKit YtlijjnjpomnphaaGreatDoorH YtlijjnjpomnphaaGreatDoorB YtlijjnjpomnphaaGreatDoor.S YtlijjnjpomnphaaGreatDoorW.PrintWords YtlijjnjpomnphaaGreatDoorW.PrintLast
def or0 (d : ByteArray) : ByteArray := if d.toList = [] then ⟨#[48]⟩ else d
def wordsB : List (ByteArray × ByteArray) := [(⟨#[97, 108, 112, 104, 97]⟩, ⟨#[97]⟩), (⟨#[98, 101, 116, 97]⟩, ⟨#[98]⟩), (⟨#[112, 114, 101, 118, 105, 101, 119]⟩, ⟨#[114, 99]⟩), (⟨#[112, 114, 101]⟩, ⟨#[114, 99]⟩), (⟨#[114, 99]⟩, ⟨#[114, 99]⟩), (⟨#[97]⟩, ⟨#[97]⟩), (⟨#[98]⟩, ⟨#[98]⟩), (⟨#[99]⟩, ⟨#[114, 99]⟩), (⟨#[112, 111, 115, 116]⟩, ⟨#[112, 111, 115, 116]⟩), (⟨#[114, 101, 118]⟩, ⟨#[112, 111, 115, 116]⟩), (⟨#[114]⟩, ⟨#[112, 111, 115, 116]⟩), (⟨#[100, 101, 118]⟩, ⟨#[100, 101, 118]⟩)]
def letB : Option (ByteArray × Nat) → ByteArray
 | none => ⟨#[]⟩
 | some p => p.1
theorem znc {P : Program} {fn : Func} {p u : Tmp} {ty : TypeId} (h : fn.results = #[.cell p ty, .tmp u]) (tmps : Array Value) (w : World) (g : Nat) (t : TypeId) (cs : Array Value) (fr : Nat × Nat) (d : TypeDesc)
    (hp : tmps.getD p undef = .pointer (some ⟨g, 0, none⟩)) (hg : w.heap[g]? = some (.cells cs t fr))
    (hu : P.underlying ty = some d) (hd : (match d with | .struct _ | .array _ _ => true | _ => false) = true) (hi : (P.info? ty).map (·.size) = some cs.size) :
    (results fn tmps).run P w = .ok (.tuple #[.agg cs, tmps.getD u undef]) w := by
  rw [results_cell_tmp h, hp]
  simp [asAddr, run_loadVar_row w g t ty cs fr d hg hu hd hi, Result.andThen]
theorem KeptT.set {p : TypeId → Bool} {w : World} {g : Nat} {cs : Array Value} {t : TypeId} {fr : Nat × Nat} (hg : w.heap[g]? = some (.cells cs t fr)) (ht : p t = false) (i : Nat) (u : Value) : KeptT p w (w.setCell ⟨g, i, none⟩ u) := fun b cs2 t2 fr2 hb hp => by
 have hne : g ≠ b := by
  rintro rfl
  rw [hg] at hb
  cases hb
  rw [ht] at hp
  cases hp
 simp [World.setCell, Array.getElem?_modify, hne]
theorem lowerWord {l s : ByteArray} (h : (l, s) ∈ wordsB) : zpb.f l = some l := by
 simp only [wordsB, List.mem_cons, List.not_mem_nil, or_false, Prod.mk.injEq] at h
 rcases h with ⟨rfl, rfl⟩ | ⟨rfl, rfl⟩ | ⟨rfl, rfl⟩ | ⟨rfl, rfl⟩ | ⟨rfl, rfl⟩ | ⟨rfl, rfl⟩ | ⟨rfl, rfl⟩ | ⟨rfl, rfl⟩ | ⟨rfl, rfl⟩ | ⟨rfl, rfl⟩ | ⟨rfl, rfl⟩ | ⟨rfl, rfl⟩ <;> rfl
theorem letterW_ (w : World) (l s d : ByteArray) (h : (l, s) ∈ wordsB) (hp : Plain (or0 d)) (hd : zbd (or0 d)) (hG : GLe w) :
  Calls Tryz.prog 72 #[.string l, .string d] w fun e w' => ∃ a, e = .returned (.tuple #[.agg #[.string s, .pointer (some ⟨a, 0, none⟩)], .nilIface]) ∧ BigAt w' a (dv (or0 d) (or0 d).size) ∧ Below w.heap.size w w' := by
 have HB := za.mk (Below.refl w.heap.size w)
 have HL := za.mk (fun W : World => zpb.calls l l W (lowerWord h))
 have G0 := za.mk (zjc w (.cells #[.string ⟨#[]⟩, .pointer none] 70))
 have HV := za.mk (fun (W : World) (hb : Below w.heap.size w W) => conv_at W _ hp (hG.lt hb) hd)
 have hcase : (d.toList = [] ∧ or0 d = ⟨#[48]⟩) ∨ (d.toList ≠ [] ∧ or0 d = d) := by
  unfold or0
  by_cases h : d.toList = []
  ·exact .inl ⟨h, if_pos h⟩
  ·exact .inr ⟨h, if_neg h⟩
 clear hp hd hG
 simp only [wordsB, List.mem_cons, List.not_mem_nil, or_false, Prod.mk.injEq] at h
 rcases hcase with ⟨h0, ho⟩ | ⟨h0, ho⟩
 ·have e1 : (d.toList == []) = true := by simpa using h0
  have e2 : (d.toList != []) = false := by simpa using h0
  have e3 : d.toList.isEmpty = true := by simpa using h0
  rw [ho] at HV ⊢
  clear h0 ho
  rcases h with ⟨rfl, rfl⟩ | ⟨rfl, rfl⟩ | ⟨rfl, rfl⟩ | ⟨rfl, rfl⟩ | ⟨rfl, rfl⟩ | ⟨rfl, rfl⟩ | ⟨rfl, rfl⟩ | ⟨rfl, rfl⟩ | ⟨rfl, rfl⟩ | ⟨rfl, rfl⟩ | ⟨rfl, rfl⟩ | ⟨rfl, rfl⟩
  all_goals
   go_enter Tryz.func72, Tryz.ntmps72
   go_wp2_with (first | (go_at_call 66; (with_reducible refine (HL.out _).mono ?_); rintro e' w1 ⟨rfl, hb⟩; have B1 := za.mk (zw (zg HB.out _) hb); have G1 := za.mk (zr G0.out hb); clear hb) | (go_at_call 70; (with_reducible refine (HV.out _ B1.out).mono ?_); rintro e' w2 ⟨a, rfl, hA, hb⟩; have B2 := za.mk (zw B1.out hb); have HA := za.mk hA; have G2 := za.mk (zr G1.out hb); have f0 := zi G2.out 0; have f1 := zi G2.out 1; have y0 := zf G2.out 0; have y1 := zf G2.out 1; clear hb hA))
   (try simp only [Exit.inBlock, Exit.then])
   refine bodyPost_ret (znc rfl _ _ w.heap.size 70 _ (0, 0) _ rfl (zm (zm G2.out 0 _ rfl) 1 _ rfl) Tryz.underlying70 rfl (by kernel_rfl)) rfl ?_
   exact ⟨a, rfl, (HA.out.kept (KeptT.set G2.out (by decide) 0 _)).kept (KeptT.set (zm G2.out 0 _ rfl) (by decide) 1 _), zo (zo B2.out (Nat.le_refl _)) (Nat.le_refl _)⟩
 ·have e1 : (d.toList == []) = false := by simpa using h0
  have e2 : (d.toList != []) = true := by simpa using h0
  have e3 : d.toList.isEmpty = false := by simpa using h0
  rw [ho] at HV ⊢
  clear h0 ho
  rcases h with ⟨rfl, rfl⟩ | ⟨rfl, rfl⟩ | ⟨rfl, rfl⟩ | ⟨rfl, rfl⟩ | ⟨rfl, rfl⟩ | ⟨rfl, rfl⟩ | ⟨rfl, rfl⟩ | ⟨rfl, rfl⟩ | ⟨rfl, rfl⟩ | ⟨rfl, rfl⟩ | ⟨rfl, rfl⟩ | ⟨rfl, rfl⟩
  all_goals
   go_enter Tryz.func72, Tryz.ntmps72
   go_wp2_with (first | (go_at_call 66; (with_reducible refine (HL.out _).mono ?_); rintro e' w1 ⟨rfl, hb⟩; have B1 := za.mk (zw (zg HB.out _) hb); have G1 := za.mk (zr G0.out hb); clear hb) | (go_at_call 70; (with_reducible refine (HV.out _ B1.out).mono ?_); rintro e' w2 ⟨a, rfl, hA, hb⟩; have B2 := za.mk (zw B1.out hb); have HA := za.mk hA; have G2 := za.mk (zr G1.out hb); have f0 := zi G2.out 0; have f1 := zi G2.out 1; have y0 := zf G2.out 0; have y1 := zf G2.out 1; clear hb hA))
   (try simp only [Exit.inBlock, Exit.then])
   refine bodyPost_ret (znc rfl _ _ w.heap.size 70 _ (0, 0) _ rfl (zm (zm G2.out 0 _ rfl) 1 _ rfl) Tryz.underlying70 rfl (by kernel_rfl)) rfl ?_
   exact ⟨a, rfl, (HA.out.kept (KeptT.set G2.out (by decide) 0 _)).kept (KeptT.set (zm G2.out 0 _ rfl) (by decide) 1 _), zo (zo B2.out (Nat.le_refl _)) (Nat.le_refl _)⟩
theorem letterH_ (w : World) (d : ByteArray) (h0 : d.toList ≠ []) (hp : Plain d) (hd : zbd d) (hG : GLe w) :
  Calls Tryz.prog 72 #[.string ⟨#[]⟩, .string d] w fun e w' => ∃ a, e = .returned (.tuple #[.agg #[.string ⟨#[112, 111, 115, 116]⟩, .pointer (some ⟨a, 0, none⟩)], .nilIface]) ∧ BigAt w' a (dv d d.size) ∧ Below w.heap.size w w' := by
 have HB := za.mk (Below.refl w.heap.size w)
 have G0 := za.mk (zjc w (.cells #[.string ⟨#[]⟩, .pointer none] 70))
 have HV := za.mk (fun (W : World) (hb : Below w.heap.size w W) => conv_at W _ hp (hG.lt hb) hd)
 have e1 : (d.toList == []) = false := by simpa using h0
 have e2 : (d.toList != []) = true := by simpa using h0
 have e3 : d.toList.isEmpty = false := by simpa using h0
 clear hp hd hG h0
 go_enter Tryz.func72, Tryz.ntmps72
 go_wp2_with (first | (go_at_call 70; (with_reducible refine (HV.out _ (zg HB.out _)).mono ?_); rintro e' w2 ⟨a, rfl, hA, hb⟩; have B2 := za.mk (zw (zg HB.out _) hb); have HA := za.mk hA; have G2 := za.mk (zr G0.out hb); have f0 := zi G2.out 0; have f1 := zi G2.out 1; have y0 := zf G2.out 0; have y1 := zf G2.out 1; clear hb hA))
 (try simp only [Exit.inBlock, Exit.then])
 refine bodyPost_ret (znc rfl _ _ w.heap.size 70 _ (0, 0) _ rfl (zm (zm G2.out 0 _ rfl) 1 _ rfl) Tryz.underlying70 rfl (by kernel_rfl)) rfl ?_
 exact ⟨a, rfl, (HA.out.kept (KeptT.set G2.out (by decide) 0 _)).kept (KeptT.set (zm G2.out 0 _ rfl) (by decide) 1 _), zo (zo B2.out (Nat.le_refl _)) (Nat.le_refl _)⟩
theorem letterN_ (w : World) :
  Calls Tryz.prog 72 #[.string ⟨#[]⟩, .string ⟨#[]⟩] w fun e w' => e = .returned (.tuple #[.agg #[.string ⟨#[]⟩, .pointer none], .nilIface]) ∧ Below w.heap.size w w' := by
 have HB := za.mk (Below.refl w.heap.size w)
 have G0 := za.mk (zjc w (.cells #[.string ⟨#[]⟩, .pointer none] 70))
 have f0 := zi G0.out 0
 have f1 := zi G0.out 1
 have y0 := zf G0.out 0
 have y1 := zf G0.out 1
 go_enter Tryz.func72, Tryz.ntmps72
 go_wp2
 (try simp only [Exit.inBlock, Exit.then])
 refine bodyPost_ret (znc rfl _ _ w.heap.size 70 _ (0, 0) _ rfl G0.out Tryz.underlying70 rfl (by kernel_rfl)) rfl ?_
 exact ⟨rfl, zg HB.out _⟩
def letW (l d : ByteArray) : Option (Option (ByteArray × ByteArray)) := if l = ⟨#[]⟩ then (if d.toList = [] then (if d = ⟨#[]⟩ then some none else none) else if Plain d ∧ zbd d then some (some (⟨#[112, 111, 115, 116]⟩, d)) else none) else
 ((wordsB.find? (fun p => decide (p.1 = l))).bind fun p => if Plain (or0 d) ∧ zbd (or0 d) then some (some (p.2, or0 d)) else none)
def letN (o : Option (ByteArray × ByteArray)) : Option (ByteArray × Nat) := o.map fun p => (p.1, dv p.2 p.2.size)
theorem letter_ (w : World) (l d : ByteArray) (o : Option (ByteArray × ByteArray)) (h : letW l d = some o) (hG : GLe w) :
  Calls Tryz.prog 72 #[.string l, .string d] w fun e w' => ∃ pn, e = .returned (.tuple #[.agg #[.string (letB (letN o)), .pointer (oA pn)], .nilIface]) ∧ LtAt w' (letB (letN o)) pn (letN o) ∧ Below w.heap.size w w' := by
 unfold letW at h
 by_cases h1 : l = ⟨#[]⟩
 ·rw [if_pos h1] at h
  subst h1
  by_cases h2 : d.toList = []
  ·rw [if_pos h2] at h
   by_cases h3 : d = ⟨#[]⟩
   ·rw [if_pos h3] at h
    cases h
    subst h3
    refine (letterN_ w).mono ?_
    rintro e w' ⟨rfl, hb⟩
    exact ⟨none, rfl, rfl, hb⟩
   ·rw [if_neg h3] at h; cases h
  ·rw [if_neg h2] at h
   by_cases h3 : Plain d ∧ zbd d
   ·rw [if_pos h3] at h
    cases h
    refine (letterH_ w d h2 h3.1 h3.2 hG).mono ?_
    rintro e w' ⟨a, rfl, k, hb⟩
    exact ⟨some a, rfl, ⟨a, rfl, rfl, k⟩, hb⟩
   ·rw [if_neg h3] at h; cases h
 ·rw [if_neg h1] at h
  obtain ⟨p, hf, h⟩ := Option.bind_eq_some_iff.mp h
  by_cases h3 : Plain (or0 d) ∧ zbd (or0 d)
  ·rw [if_pos h3] at h
   cases h
   have e1 : p.1 = l := of_decide_eq_true (by simpa using List.find?_some hf)
   have e2 := List.mem_of_find?_eq_some hf
   refine (letterW_ w l p.2 d (by rw [← e1]; exact e2) h3.1 h3.2 hG).mono ?_
   rintro e w' ⟨a, rfl, k, hb⟩
   exact ⟨some a, rfl, ⟨a, rfl, rfl, k⟩, hb⟩
  ·rw [if_neg h3] at h; cases h
end Go.Proofs.YtlijjnjpomnphaaGreatDoorG
end
section
namespace Go.Proofs.YtlijjnjpomnphaaGreatDoorG
open Go.RowKit YtlijjnjpomnphaaGreatDoorH YtlijjnjpomnphaaGreatDoorB YtlijjnjpomnphaaGreatDoorC YtlijjnjpomnphaaGreatDoor.S YtlijjnjpomnphaaGreatDoorW.PrintWords YtlijjnjpomnphaaGreatDoorW.PrintLast
theorem gr_then {w w1 w2 : World} {g : Nat} {row : Option Nat} (h : w.grownBy w1 (some g)) (k : w1.grownBy w2 row) (hr : ∀ b, row = some b → b = g ∨ w.heap.size ≤ b) : w.grownBy w2 (some g) :=
 ⟨k.os.trans h.os, k.tape.trans h.tape, k.output.trans h.output, Nat.le_trans h.size k.size, fun b hb hne => (k.block b (Nat.lt_of_lt_of_le hb h.size) (fun e => by
  rcases hr b e.symm with h1 | h1
  ·exact hne (by rw [h1])
  ·omega)).trans (h.block b hb hne)⟩
theorem gr_refl (w : World) (row : Option Nat) : w.grownBy w row := ⟨rfl, rfl, rfl, Nat.le_refl _, fun _ _ _ => rfl⟩
theorem gr_below {w w1 w2 : World} {g : Nat} (h : w.grownBy w1 (some g)) (k : Below w1.heap.size w1 w2) : w.grownBy w2 (some g) :=
 gr_then (row := none) h ⟨k.os, k.tape, k.output, k.size, fun b hb _ => k.block b hb⟩ (fun b e => by cases e)
theorem gr_set {w w1 : World} {g : Nat} (h : w.grownBy w1 (some g)) {b : Nat} (hb : b = g ∨ w.heap.size ≤ b) (j : Nat) (u : Value) : w.grownBy (w1.setCell ⟨b, j, none⟩ u) (some g) :=
 gr_then (row := some b) h ⟨rfl, rfl, rfl, by simp [World.setCell], fun k hk hne => Below.heap_setCell _ _ _ _ (fun e => hne (by rw [e]))⟩ (fun k e => by cases e; exact hb)
theorem gr_from {w w1 w2 : World} {g base : Nat} (h : Below base w w1) (hs : base ≤ w1.heap.size) (k : w1.grownBy w2 (some g)) (hb : base ≤ g) : Below base w w2 := h.grown k hs (fun b e => by cases e; exact hb)
theorem zqd {α : Type} {d : Kd α} {e base : Nat} {w w' : World} {ok : Nat → Prop} {v : Value} {xs : List α} {p : TypeId → Bool} (hE : d.E = []) (hp : p e = true) (h : Kd.R d e w base ok v xs) (k : KeptT p w w') : Kd.R d e w' base ok v xs :=
 Kd.R_mono (Kd.R_move (Kd.R_bound h) (fun b hb => by
  obtain ⟨_, _, _, q, hq, cells, hc⟩ := hb
  rw [hE] at hq
  have : q = e := by simpa using hq
  subst this
  exact k b _ _ _ hc hp)) (fun _ hk => hk.1)
theorem KeptT.row {α : Type} {d : Kd α} {e base : Nat} {w w' : World} {ok : Nat → Prop} {v : Value} {xs : List α} {p : TypeId → Bool} (hp : p e = false) (h : Kd.R d e w base ok v xs) (k : w.grownBy w' v.ownBlock) : KeptT p w w' := fun b cs2 t2 fr2 hb hq => k.block b (by
 rcases Nat.lt_or_ge b w.heap.size with hl | hl
 ·exact hl
 ·rw [Array.getElem?_eq_none hl] at hb; cases hb) (fun e2 => by
 obtain ⟨cells, hc⟩ := Kd.R_typed h b e2.symm
 rw [hc] at hb
 cases hb
 rw [hp] at hq
 cases hq)
theorem KeptT.sub {p q : TypeId → Bool} {w w' : World} (h : KeptT q w w') (hpq : ∀ t, p t = true → q t = true) : KeptT p w w' := fun k cs t fr hk hp => h k cs t fr hk (hpq t hp)
theorem KeptT.blk {p : TypeId → Bool} {w w' : World} {g : Nat} {cs : Array Value} {t : TypeId} {fr : Nat × Nat} (h : KeptT p w w') (hg : w.heap[g]? = some (.cells cs t fr)) (hp : p t = true) : w'.heap[g]? = some (.cells cs t fr) := (h g cs t fr hg hp).trans hg
theorem zaf {p : TypeId → Bool} {w W : World} {g : Nat} {cs : Array Value} {t : TypeId} {fr : Nat × Nat} (hg : w.heap[g]? = some (.cells cs t fr)) (ht : p t = false) (h : ∀ b, b ≠ g → W.heap[b]? = w.heap[b]?) : KeptT p w W := fun b cs2 t2 fr2 hb hp => h b (fun e => by
 subst e
 rw [hg] at hb
 cases hb
 rw [ht] at hp
 cases hp)
def notV (t : TypeId) : Bool := t != 72
theorem zgf (t : TypeId) (h : numT t = true) : notV t = true := by
 unfold numT at h
 unfold notV
 rcases Bool.or_eq_true_iff.mp h with h | h
 ·rw [of_decide_eq_true h]; decide
 ·rw [of_decide_eq_true h]; decide
structure Stab (F : World → Prop) : Prop where
 bel : ∀ w w' : World, Below w.heap.size w w' → F w → F w'
 kept : ∀ w w' : World, KeptT notV w w' → F w → F w'
theorem Stab.and {F G : World → Prop} (hf : Stab F) (hg : Stab G) : Stab (fun w => F w ∧ G w) := ⟨fun w w' h k => ⟨hf.bel w w' h k.1, hg.bel w w' h k.2⟩, fun w w' h k => ⟨hf.kept w w' h k.1, hg.kept w w' h k.2⟩⟩
theorem Stab.big (a n : Nat) : Stab (fun w => BigAt w a n) := ⟨fun _ _ h k => k.below h, fun _ _ h k => k.kept (h.sub zgf)⟩
theorem BigM.kept {w w' : World} {a : Nat} (h : BigM w a) (k : KeptT numT w w') : BigM w' a := by
 obtain ⟨v, h1, h2⟩ := h
 refine ⟨v, h1.same (k a _ _ _ h1 (by decide)), ?_⟩
 rcases h2 with ⟨e1, e2⟩ | ⟨g, full, e1, e2, e3, e4⟩
 ·exact .inl ⟨e1, e2⟩
 ·exact .inr ⟨g, full, e1, e2, e3.same (k g _ _ _ e3 (by decide)), e4⟩
theorem Stab.letter (pl : ByteArray) (pn : Option Nat) (o : Option (ByteArray × Nat)) : Stab (fun w => LtAt w pl pn o) := ⟨fun _ _ h k => k.below h, fun _ _ h k => by
 cases o with
 | none => exact k
 | some p => obtain ⟨a, h1, h2, h3⟩ := k; exact ⟨a, h1, h2, h3.kept (h.sub zgf)⟩⟩
def OwnT (base : Nat) (v : Value) (l : List ByteArray) (w : World) : Prop := Kd.R Kd.string 9 w base (fun _ => True) v l
theorem Stab.texts (base : Nat) (v : Value) (l : List ByteArray) : Stab (OwnT base v l) := ⟨fun _ _ h k => Kd.R_below k h, fun _ _ h k => zqd (p := notV) rfl (by decide) k h⟩
def ptrs (l : List (Nat × Nat)) : List (List Value) := l.map fun x => [.pointer (some ⟨x.1, 0, none⟩)]
theorem zeh (l : List (Nat × Nat)) : (ptrs l).length = l.length := by simp [ptrs]
theorem ptrs_snoc (l : List (Nat × Nat)) (x : Nat × Nat) : ptrs (l ++ [x]) = ptrs l ++ [[.pointer (some ⟨x.1, 0, none⟩)]] := by simp [ptrs]
def ROwn (base : Nat) (v : Value) (l : List (Nat × Nat)) (w : World) : Prop := Kd.R (Kd.raw 1) 66 w base (fun _ => True) v (ptrs l) ∧ ∀ x ∈ l, BigAt w x.1 x.2
theorem ROwn.row {w : World} {base : Nat} {v : Value} {l : List (Nat × Nat)} (h : ROwn base v l w) (hl : l.length ≤ 1000000) : RRow w v (l.map (·.2)) := by
  obtain ⟨hr, hx⟩ := h
  rcases Nat.eq_zero_or_pos l.length with h0 | h0
  · obtain ⟨A, c, e, _⟩ := Kd.R_reads hr
    rw [zeh] at e
    exact ⟨A, c, by rw [List.length_map]; exact e, by rw [List.length_map]; exact hl, fun i x hi => by rw [List.eq_nil_of_length_eq_zero h0] at hi; simp at hi⟩
  · obtain ⟨g, cap, e, _⟩ := Kd.R_form hr (by rw [zeh]; exact h0)
    subst e
    refine ⟨some ⟨g, 0, none⟩, cap, by rw [zeh, List.length_map], by rw [List.length_map]; exact hl, fun i n hi => ?_⟩
    rw [List.getElem?_map] at hi
    obtain ⟨x, hx1, rfl⟩ := Option.map_eq_some_iff.mp hi
    have hil : i < l.length := (List.getElem?_eq_some_iff.1 hx1).1
    obtain ⟨c, hc1, hM, hcc, _⟩ := Kd.R_elem hr [] (i : Int) (by omega) (by rw [zeh]; omega)
    have hgd : (ptrs l).getD (i : Int).toNat [] = [.pointer (some ⟨x.1, 0, none⟩)] := by
      rw [List.getD_eq_getElem?_getD]
      unfold ptrs
      rw [List.getElem?_map, show ((i : Int).toNat) = i by omega, hx1]
      rfl
    rw [hgd] at hM
    obtain ⟨rfl, _⟩ := hM
    have h0' := hcc 0 _ rfl
    rw [show (i : Int).toNat * (Kd.raw 1).sz + 0 = i by show (i : Int).toNat * 1 + 0 = i; omega] at h0'
    exact ⟨g, x.1, rfl, h0', hx x (List.mem_of_getElem? hx1)⟩
theorem Stab.rel (base : Nat) (v : Value) (l : List (Nat × Nat)) : Stab (ROwn base v l) := ⟨fun _ _ h k => ⟨Kd.R_below k.1 h, fun x hx => (k.2 x hx).below h⟩, fun _ _ h k => ⟨zqd (p := notV) rfl (by decide) k.1 h, fun x hx => (k.2 x hx).kept (h.sub zgf)⟩⟩
structure PInv (w wr : World) (g2 g4 g5 : Nat) (M C : Array Value) (F : World → Prop) : Prop where
 b2 : wr.heap[g2]? = some (.cells #[.pointer none, .slice none 0 0, .string ⟨#[]⟩, .pointer none, .string ⟨#[]⟩, .pointer none, .string ⟨#[]⟩, .pointer none, .slice none 0 0, .slice none 0 0] 72 (0, 0))
 b4 : wr.heap[g4]? = some (.cells M 104 (0, 0))
 b5 : wr.heap[g5]? = some (.cells C 72 (0, 0))
 below : Below w.heap.size w wr
 st : Stab F
 f : F wr
section
variable {w wr : World} {g2 g4 g5 : Nat} {M C : Array Value} {F : World → Prop}
theorem PInv.to (H : PInv w wr g2 g4 g5 M C F) {w' : World} (k : Below wr.heap.size wr w') : PInv w w' g2 g4 g5 M C F := ⟨zr H.b2 k, zr H.b4 k, zr H.b5 k, zhc H.below H.below.size k, H.st, H.st.bel _ _ k H.f⟩
theorem PInv.put (H : PInv w wr g2 g4 g5 M C F) (hg : w.heap.size ≤ g5) (h2 : g2 ≠ g5) (h4 : g4 ≠ g5) (j : Nat) (v : Value) : PInv w (wr.setCell ⟨g5, j, none⟩ v) g2 g4 g5 M (C.setIfInBounds j v) F :=
 ⟨zic H.b2 (p := ⟨g5, j, none⟩) (fun e => h2 e) v, zic H.b4 (p := ⟨g5, j, none⟩) (fun e => h4 e) v, zm H.b5 j v rfl, H.below.setCell (p := ⟨g5, j, none⟩) hg v, H.st, H.st.kept _ _ (KeptT.set H.b5 (by decide) j v) H.f⟩
theorem PInv.add (H : PInv w wr g2 g4 g5 M C F) {G : World → Prop} (hs : Stab G) (hg : G wr) : PInv w wr g2 g4 g5 M C (fun w => F w ∧ G w) := ⟨H.b2, H.b4, H.b5, H.below, H.st.and hs, H.f, hg⟩
end
end Go.Proofs.YtlijjnjpomnphaaGreatDoorG
end
section
namespace Go.Proofs.YtlijjnjpomnphaaGreatDoorG
open Go.RowKit YtlijjnjpomnphaaGreatDoorH YtlijjnjpomnphaaGreatDoorB YtlijjnjpomnphaaGreatDoorC YtlijjnjpomnphaaGreatDoor.S YtlijjnjpomnphaaGreatDoorW.PrintWords YtlijjnjpomnphaaGreatDoorW.PrintLast
theorem zae {P : Program} {fn : Func} {p : Tmp} {ty : TypeId} (h : fn.results = #[.cell p ty]) (tmps : Array Value) (w : World) (g : Nat) (t : TypeId) (cs : Array Value) (fr : Nat × Nat) (d : TypeDesc)
    (hp : tmps.getD p undef = .pointer (some ⟨g, 0, none⟩)) (hg : w.heap[g]? = some (.cells cs t fr))
    (hu : P.underlying ty = some d) (hd : (match d with | .struct _ | .array _ _ => true | _ => false) = true) (hi : (P.info? ty).map (·.size) = some cs.size) :
    (results fn tmps).run P w = .ok (.agg cs) w := results_cell_row h tmps w g t cs fr d hp hg hu hd hi
def PVAt (w : World) (v : Value) (x : YV) : Prop := ∃ (e1 : Nat) (r1 l1 g1 : Value) (pn1 qn1 dn1 : Option Nat) (ns : List (Nat × Nat)), v = .agg #[.pointer (some ⟨e1, 0, none⟩), r1, .string (letB x.pre), .pointer (oA pn1), .string (letB x.post), .pointer (oA qn1), .string (letB x.dev), .pointer (oA dn1), l1, g1] ∧
  ((x.leg = [] → BigAt w e1 x.ep) ∧ (x.leg ≠ [] → BigM w e1)) ∧ (ROwn 0 r1 ns w ∧ ns.map (·.2) = x.rel ∧ ns.length ≤ 1000000) ∧ (LtAt w (letB x.pre) pn1 x.pre ∧ LtAt w (letB x.post) qn1 x.post ∧ LtAt w (letB x.dev) dn1 x.dev) ∧ (OwnT 0 l1 x.loc w ∧ x.loc.length ≤ 1000000) ∧ OwnT 0 g1 x.leg w ∧ x.leg.length ≤ 1000000
theorem PVAt.below {w w' : World} {v : Value} {x : YV} (h : PVAt w v x) (hb : Below w.heap.size w w') : PVAt w' v x := by
 obtain ⟨e1, r1, l1, g1, pn1, qn1, dn1, ns, rfl, ⟨h1, h2⟩, ⟨h3, h4⟩, ⟨h5, h6, h7⟩, ⟨h8, h9⟩, h10, h11⟩ := h
 exact ⟨e1, r1, l1, g1, pn1, qn1, dn1, ns, rfl, ⟨fun e => (h1 e).below hb, fun e => (h2 e).below hb⟩, ⟨(Stab.rel _ _ _).bel _ _ hb h3, h4⟩, ⟨h5.below hb, h6.below hb, h7.below hb⟩, ⟨(Stab.texts _ _ _).bel _ _ hb h8, h9⟩, (Stab.texts _ _ _).bel _ _ hb h10, h11⟩
theorem PVAt.kept {w w' : World} {v : Value} {x : YV} (h : PVAt w v x) (hb : KeptT notV w w') : PVAt w' v x := by
 obtain ⟨e1, r1, l1, g1, pn1, qn1, dn1, ns, rfl, ⟨h1, h2⟩, ⟨h3, h4⟩, ⟨h5, h6, h7⟩, ⟨h8, h9⟩, h10, h11⟩ := h
 exact ⟨e1, r1, l1, g1, pn1, qn1, dn1, ns, rfl, ⟨fun e => (h1 e).kept (hb.sub zgf), fun e => (h2 e).kept (hb.sub zgf)⟩, ⟨(Stab.rel _ _ _).kept _ _ hb h3, h4⟩, ⟨(Stab.letter _ _ _).kept _ _ hb h5, (Stab.letter _ _ _).kept _ _ hb h6, (Stab.letter _ _ _).kept _ _ hb h7⟩, ⟨(Stab.texts _ _ _).kept _ _ hb h8, h9⟩, (Stab.texts _ _ _).kept _ _ hb h10, h11⟩
theorem PVAt.form {w : World} {v : Value} {x : YV} (h : PVAt w v x) : ∃ (e1 : Nat) (A1 A2 A3 : Option Addr) (n1 c1 c2 c3 : Nat) (pn1 qn1 dn1 : Option Nat), v = .agg #[.pointer (some ⟨e1, 0, none⟩), .slice A1 n1 c1, .string (letB x.pre), .pointer (oA pn1), .string (letB x.post), .pointer (oA qn1), .string (letB x.dev), .pointer (oA dn1), .slice A2 x.loc.length c2, .slice A3 x.leg.length c3] := by
 obtain ⟨e1, r1, l1, g1, pn1, qn1, dn1, ns, rfl, _, ⟨h3, _⟩, _, ⟨h8, _⟩, h10, _⟩ := h
 obtain ⟨A1, c1, rfl⟩ := Kd.R_slice h3.1
 obtain ⟨A2, c2, rfl⟩ := Kd.R_slice h8
 obtain ⟨A3, c3, rfl⟩ := Kd.R_slice h10
 exact ⟨e1, A1, A2, A3, _, c1, c2, c3, pn1, qn1, dn1, rfl⟩
theorem legacyV_ (w : World) (s : ByteArray) (k : Nat) (l : List ByteArray) (h : zd.f k s = some l) (hl : l.length ≤ 1000000) (h0 : l ≠ []) :
  Calls Tryz.prog 68 #[.string s] w fun e w' => ∃ v, e = .returned v ∧ PVAt w' v ⟨0, [], none, none, none, [], l⟩ ∧ Below w.heap.size w w' := by
 have HB := za.mk (Below.refl w.heap.size w)
 have G0 := za.mk (zjc w (.cells #[.pointer none, .slice none 0 0, .string ⟨#[]⟩, .pointer none, .string ⟨#[]⟩, .pointer none, .string ⟨#[]⟩, .pointer none, .slice none 0 0, .slice none 0 0] 72))
 have HP := za.mk (fun W : World => zd.calls k s l W h)
 have HL := za.mk (And.intro hl h0)
 clear h hl h0
 go_enter Tryz.func68, Tryz.ntmps68
 go_wp2_with (first | (go_at_call 91; (with_reducible refine (HP.out _).mono ?_); rintro e' w1 ⟨v1, rfl, ho, hb⟩; obtain ⟨A1, c1, rfl⟩ := Kd.R_slice ho; have O1 := za.mk ho; have B1 := za.mk (zw (zg HB.out _) hb); have G1 := za.mk (zr G0.out hb); clear ho hb) | (go_at_call 69; (with_reducible refine (newInt_m1 _).mono ?_); rintro e' w2 ⟨a, rfl, hm, hb⟩; have M2 := za.mk hm; have B2 := za.mk (zw B1.out hb); have O2 := za.mk (Kd.R_below O1.out hb); have G2 := za.mk (zr G1.out hb); have fz := fun j : Nat => zi G2.out j; have yz := fun j : Nat => zf G2.out j; clear hm hb O1))
 (try simp only [Exit.inBlock, Exit.then])
 refine bodyPost_ret (zae rfl _ _ w.heap.size 72 _ (0, 0) _ rfl (put10 G2.out) Tryz.underlying72 rfl (by kernel_rfl)) rfl ?_
 have hK := fun (W : World) (h : ∀ b, b ≠ w.heap.size → W.heap[b]? = w2.heap[b]?) => zaf (p := notV) (W := W) G2.out (by decide) h
 refine ⟨_, rfl, ⟨a, .slice none 0 0, .slice none 0 0, .slice A1 l.length c1, none, none, none, [], rfl, ⟨fun e => absurd e HL.out.2, fun _ => M2.out.kept ((hK _ (fun b h => by repeat rw [Below.heap_setCell _ _ _ _ h])).sub zgf)⟩, ⟨⟨Kd.R_nil _ _ _ _ _, fun x hx => by simp at hx⟩, rfl, by simp⟩, ⟨rfl, rfl, rfl⟩, ⟨Kd.R_nil _ _ _ _ _, by simp⟩, ?_, HL.out.1⟩, ?_⟩
 ·exact Kd.R_lower ((Stab.texts _ _ _).kept _ _ (hK _ (fun b h => by repeat rw [Below.heap_setCell _ _ _ _ h])) O2.out) (Nat.zero_le _)
 ·have b5 := B2.out
  repeat (first | (with_reducible exact b5) | refine zo ?_ (Nat.le_refl _))
end Go.Proofs.YtlijjnjpomnphaaGreatDoorG
end
section
namespace Go.Proofs.YtlijjnjpomnphaaGreatDoorG
open Go.RowKit YtlijjnjpomnphaaGreatDoorH YtlijjnjpomnphaaGreatDoorB YtlijjnjpomnphaaGreatDoorC YtlijjnjpomnphaaGreatDoor.S YtlijjnjpomnphaaGreatDoorW.PrintWords YtlijjnjpomnphaaGreatDoorW.PrintLast
structure YD where
 ep : ByteArray
 rel : List ByteArray
 pre : Option (ByteArray × ByteArray)
 post : Option (ByteArray × ByteArray)
 dev : Option (ByteArray × ByteArray)
 loc : List ByteArray
 leg : List ByteArray
def dvB (s : ByteArray) : Nat := dv s s.size
def YD.num (x : YD) : YV := ⟨dvB x.ep, x.rel.map dvB, letN x.pre, letN x.post, letN x.dev, x.loc, x.leg⟩
def NumOk (s : ByteArray) : Prop := Plain s ∧ zbd s
instance (s : ByteArray) : Decidable (NumOk s) := inferInstanceAs (Decidable (_ ∧ _))
def legY (k : Nat) (s : ByteArray) : Option YD := (zd.f k s).bind fun l => if l.length ≤ 1000000 ∧ l ≠ [] then some ⟨⟨#[]⟩, [], none, none, none, [], l⟩ else none
def numY (k : Nat) (ep rel prel pren postn1 postn2 postl devl devn loc : ByteArray) : Option YD := if ep.toList = [] ∨ NumOk ep then
 (zfb.f k rel ⟨#[46]⟩).bind fun rs => if rs.length ≤ 1000000 ∧ ∀ d ∈ rs, NumOk d then
  (letW prel pren).bind fun pre => (letW postl (if postn1.toList = [] then postn2 else postn1)).bind fun post => (letW devl devn).bind fun dev => (zu.f k loc).bind fun ls => if ls.length ≤ 1000000 then
   some ⟨if ep.toList = [] then ⟨#[]⟩ else ep, rs, pre, post, dev, ls, []⟩ else none else none else none
def parseY (k : Nat) (s : ByteArray) : Option YD := (zpb.f s).bind fun t => (zb.f k t).bind fun m => if m.1 = true then numY k m.2.1 m.2.2.1 m.2.2.2.1 m.2.2.2.2.1 m.2.2.2.2.2.1 m.2.2.2.2.2.2.1 m.2.2.2.2.2.2.2.1 m.2.2.2.2.2.2.2.2.1 m.2.2.2.2.2.2.2.2.2.1 m.2.2.2.2.2.2.2.2.2.2 else legY k t
theorem numY_inv {k : Nat} {ep rel prel pren postn1 postn2 postl devl devn loc : ByteArray} {x : YD} (h : numY k ep rel prel pren postn1 postn2 postl devl devn loc = some x) :
  (ep.toList = [] ∨ NumOk ep) ∧ zfb.f k rel ⟨#[46]⟩ = some x.rel ∧ x.rel.length ≤ 1000000 ∧ (∀ d ∈ x.rel, NumOk d) ∧ letW prel pren = some x.pre ∧ letW postl (if postn1.toList = [] then postn2 else postn1) = some x.post ∧ letW devl devn = some x.dev ∧
   zu.f k loc = some x.loc ∧ x.loc.length ≤ 1000000 ∧ x.ep = (if ep.toList = [] then ⟨#[]⟩ else ep) ∧ x.leg = [] := by
 unfold numY at h
 by_cases h1 : ep.toList = [] ∨ NumOk ep
 ·rw [if_pos h1] at h
  obtain ⟨rs, h2, h⟩ := Option.bind_eq_some_iff.mp h
  by_cases h3 : rs.length ≤ 1000000 ∧ ∀ d ∈ rs, NumOk d
  ·rw [if_pos h3] at h
   obtain ⟨p, h4, h⟩ := Option.bind_eq_some_iff.mp h
   obtain ⟨q, h5, h⟩ := Option.bind_eq_some_iff.mp h
   obtain ⟨d, h6, h⟩ := Option.bind_eq_some_iff.mp h
   obtain ⟨ls, h7, h⟩ := Option.bind_eq_some_iff.mp h
   by_cases h8 : ls.length ≤ 1000000
   ·rw [if_pos h8] at h
    cases h
    exact ⟨h1, h2, h3.1, h3.2, h4, h5, h6, h7, h8, rfl, rfl⟩
   ·rw [if_neg h8] at h; cases h
  ·rw [if_neg h3] at h; cases h
 ·rw [if_neg h1] at h; cases h
theorem parseL_ (w : World) (s t : ByteArray) (k : Nat) (l : List ByteArray) (m2 m3 m4 m5 m6 m7 m8 m9 m10 m11 : ByteArray) (h1 : zpb.f s = some t) (h2 : zb.f k t = some (false, m2, m3, m4, m5, m6, m7, m8, m9, m10, m11)) (h3 : zd.f k t = some l) (hl : l.length ≤ 1000000) (h0 : l ≠ []) :
  Calls Tryz.prog 39 #[.string s] w fun e w' => ∃ v, e = .returned (.tuple #[v, .nilIface]) ∧ PVAt w' v ⟨0, [], none, none, none, [], l⟩ ∧ Below w.heap.size w w' := by
 have HB := za.mk (Below.refl w.heap.size w)
 have G0 := za.mk (zjc w (.cells #[.pointer none, .slice none 0 0, .string ⟨#[]⟩, .pointer none, .string ⟨#[]⟩, .pointer none, .string ⟨#[]⟩, .pointer none, .slice none 0 0, .slice none 0 0] 72))
 have HT := za.mk (fun W : World => zpb.calls s t W h1)
 have HM := za.mk (fun W : World => zb.calls k t _ _ _ _ _ _ _ _ _ _ _ W h2)
 have HL := za.mk (fun W : World => legacyV_ W t k l h3 hl h0)
 clear h1 h2 h3 hl h0
 go_enter Tryz.func39, Tryz.ntmps39
 go_wp2_with (first | (go_at_call 66; (with_reducible refine (HT.out _).mono ?_); rintro e' w1 ⟨rfl, hb⟩; have B1 := za.mk (zw (zg HB.out _) hb); have G1 := za.mk (zr G0.out hb); clear hb) | (go_at_call 67; (with_reducible refine (HM.out _).mono ?_); rintro e' w2 ⟨rfl, hb⟩; have B2 := za.mk (zw B1.out hb); have G2 := za.mk (zr G1.out hb); have yz := fun j : Nat => zf (zjc w2 (.cells #[.bool false, .string m2, .string m3, .string m4, .string m5, .string m6, .string m7, .string m8, .string m9, .string m10, .string m11] 104)) j; clear hb) | (go_at_call 68; (with_reducible refine (HL.out _).mono ?_); rintro e' w3 ⟨v, rfl, hv, hb⟩; have HV := za.mk hv; obtain ⟨e1, A1, A2, A3, n1, c1, c2, c3, pn1, qn1, dn1, hve⟩ := hv.form; subst hve; have B3 := za.mk (zw (zg B2.out _) hb); have G3 := za.mk (zr (zv G2.out _) hb); have fz := fun j : Nat => zi G3.out j; have yw := fun j : Nat => zf G3.out j; clear hb hv yz))
 (try simp only [Exit.inBlock, Exit.then])
 refine bodyPost_ret (znc rfl _ _ w.heap.size 72 _ (0, 0) _ rfl (put10 G3.out) Tryz.underlying72 rfl (by kernel_rfl)) rfl ?_
 refine ⟨_, rfl, HV.out.kept (zaf G3.out (by decide) (fun b h => by repeat rw [Below.heap_setCell _ _ _ _ h])), ?_⟩
 have b5 := B3.out
 repeat (first | (with_reducible exact b5) | refine zo ?_ (Nat.le_refl _))
theorem infoPI : (Tryz.prog.info? 66).map (fun i => (i.zero, i.size, i.bytes)) = some (some (.pointer none), 1, 8) := by kernel_rfl
def notP (t : TypeId) : Bool := t != 66
theorem PInv.append {w wr w7 : World} {g2 g4 g5 : Nat} {M C : Array Value} {F : World → Prop} {rv v1 : Value} {ns : List (Nat × Nat)} {a n : Nat} (H : PInv w wr g2 g4 g5 M C (fun W => F W ∧ ROwn w.heap.size rv ns W)) (hS : Stab F) (hF : ∀ W W', KeptT notP W W' → F W → F W')
  (ho : Kd.R (Kd.raw 1) 66 w7 w.heap.size (fun _ => True) v1 (ptrs ns ++ [[.pointer (some ⟨a, 0, none⟩)]])) (hg : wr.grownBy w7 rv.ownBlock) (hA : BigAt wr a n) :
  PInv w w7 g2 g4 g5 M C (fun W => F W ∧ ROwn w.heap.size v1 (ns ++ [(a, n)]) W) := by
 have K : KeptT notP wr w7 := KeptT.row (by decide) H.f.2.1 hg
 have KN : KeptT numT wr w7 := K.sub (fun t ht => by
  unfold numT at ht
  rcases Bool.or_eq_true_iff.mp ht with h | h
  ·rw [of_decide_eq_true h]; decide
  ·rw [of_decide_eq_true h]; decide)
 refine ⟨K.blk H.b2 (by decide), K.blk H.b4 (by decide), K.blk H.b5 (by decide), H.below.grown hg H.below.size (fun b e => Kd.R_base H.f.2.1 b e), hS.and (Stab.rel _ _ _), hF _ _ K H.f.1, ?_, fun x hx => ?_⟩
 ·rw [ptrs_snoc]; exact ho
 ·rcases List.mem_append.mp hx with hx | hx
  ·exact (H.f.2.2 x hx).kept KN
  ·have e := List.mem_singleton.1 hx; subst e; exact hA.kept KN
theorem BigAt.notP {W W' : World} {a n : Nat} (K : KeptT notP W W') (h : BigAt W a n) : BigAt W' a n := h.kept (K.sub (fun t ht => by
 unfold numT at ht
 rcases Bool.or_eq_true_iff.mp ht with h | h
 ·rw [of_decide_eq_true h]; decide
 ·rw [of_decide_eq_true h]; decide))
theorem OwnT.notP {W W' : World} {b : Nat} {v : Value} {l : List ByteArray} (K : KeptT notP W W') (h : OwnT b v l W) : OwnT b v l W' := zqd (p := Go.Proofs.YtlijjnjpomnphaaGreatDoorG.notP) rfl (by decide) h K
theorem parseN_ (w : World) (s t : ByteArray) (k : Nat) (x : YD) (m2 m3 m4 m5 m6 m7 m8 m9 m10 m11 : ByteArray) (h1 : zpb.f s = some t) (h2 : zb.f k t = some (true, m2, m3, m4, m5, m6, m7, m8, m9, m10, m11)) (h3 : numY k m2 m3 m4 m5 m6 m7 m8 m9 m10 m11 = some x) (hG : GLe w) :
    Calls Tryz.prog 39 #[.string s] w fun e w' => ∃ v, e = .returned (.tuple #[v, .nilIface]) ∧ PVAt w' v x.num ∧ Below w.heap.size w w' := by
  obtain ⟨i1, i2, i3, i4, i5, i6, i7, i8, i9, i10, i11⟩ := numY_inv h3
  have HB := za.mk (Below.refl w.heap.size w)
  have G0 := za.mk (zjc w (.cells #[.pointer none, .slice none 0 0, .string ⟨#[]⟩, .pointer none, .string ⟨#[]⟩, .pointer none, .string ⟨#[]⟩, .pointer none, .slice none 0 0, .slice none 0 0] 72))
  have HT := za.mk (fun W : World => zpb.calls s t W h1)
  have HM := za.mk (fun W : World => zb.calls k t _ _ _ _ _ _ _ _ _ _ _ W h2)
  have HSP := za.mk (fun W : World => zfb.calls k m3 ⟨#[46]⟩ x.rel W i2)
  have HLO := za.mk (fun W : World => zu.calls k m11 x.loc W i8)
  have HL1 := za.mk (fun (W : World) (hb : Below w.heap.size w W) => letter_ W m4 m5 x.pre i5 (hG.lt hb))
  have HL3 := za.mk (fun (W : World) (hb : Below w.heap.size w W) => letter_ W m9 m10 x.dev i7 (hG.lt hb))
  have HX := za.mk (And.intro i3 (And.intro i4 (And.intro i9 (And.intro i10 i11))))
  have HGL := za.mk hG
  obtain ⟨M, hM⟩ : ∃ M : Array Value, M = #[.bool true, .string m2, .string m3, .string m4, .string m5, .string m6, .string m7, .string m8, .string m9, .string m10, .string m11] := ⟨_, rfl⟩
  have HMM := za.mk hM
  obtain ⟨m67, hm67⟩ : ∃ m67, m67 = (if m6.toList = [] then m7 else m6) := ⟨_, rfl⟩
  rw [← hm67] at i6
  have HM67 := za.mk hm67
  have HL2 := za.mk (fun (W : World) (hb : Below w.heap.size w W) => letter_ W m8 m67 x.post i6 (hG.lt hb))
  clear hm67
  clear h1 h2 h3 i2 i3 i4 i5 i6 i7 i8 i9 i10 i11 hG hM
  go_enter Tryz.func39, Tryz.ntmps39
  go_upto_if 32 with (first | (go_at_call 66; (with_reducible refine (HT.out _).mono ?_); rintro e' w1 ⟨rfl, hb⟩; have B1 := za.mk (zw (zg HB.out _) hb); have G1 := za.mk (zr G0.out hb); clear hb) | (go_at_call 67; (with_reducible refine (HM.out _).mono ?_); rintro e' w2 ⟨rfl, hb⟩; have B2 := za.mk (zw B1.out hb); have G2 := za.mk (zr G1.out hb); have yz := fun j : Nat => zf (zjc w2 (.cells #[.bool true, .string m2, .string m3, .string m4, .string m5, .string m6, .string m7, .string m8, .string m9, .string m10, .string m11] 104)) j; clear hb) | (go_at_call 69; go_loud ((with_reducible refine (newInt_zero _).mono ?_); rintro e' w3 ⟨rfl, hz, hb⟩; rw [zsc, zsc] at hz; have b5_ := zjc (w2.alloc (.cells #[.bool true, .string m2, .string m3, .string m4, .string m5, .string m6, .string m7, .string m8, .string m9, .string m10, .string m11] 104)) (.cells #[.pointer none, .slice none 0 0, .string ⟨#[]⟩, .pointer none, .string ⟨#[]⟩, .pointer none, .string ⟨#[]⟩, .pointer none, .slice none 0 0, .slice none 0 0] 72); rw [zsc] at b5_; have I3 : za (PInv w w3 w.heap.size w2.heap.size (w2.heap.size + 1) M #[.pointer none, .slice none 0 0, .string ⟨#[]⟩, .pointer none, .string ⟨#[]⟩, .pointer none, .string ⟨#[]⟩, .pointer none, .slice none 0 0, .slice none 0 0] (fun W => BigAt W (w2.heap.size + 1 + 1) 0)) := ⟨⟨zr (zv (zv G2.out _) _) hb, by rw [HMM.out]; exact zr (zv (zjc w2 _) _) hb, zr b5_ hb, zw (zg (zg B2.out _) _) hb, Stab.big _ _, hz⟩⟩; have yc0 := (zf I3.out.b5 0).trans rfl; have yf0 := zi I3.out.b5 0; have ym1 := (zf (I3.out.put (by have := B2.out.size; omega) (by have := B2.out.size; omega) (by omega) 0 (.pointer (some ⟨w2.heap.size + 1 + 1, 0, none⟩))).b4 1).trans (by rw [HMM.out]; rfl : M[1]? = some (.string m2)); clear hz hb b5_ yz)))
  have I4 := za.mk (I3.out.put (by have := B2.out.size; omega) (by have := B2.out.size; omega) (by omega) 0 (.pointer (some ⟨w2.heap.size + 1 + 1, 0, none⟩)))
  have HPW := za.mk (Nat.le_trans B2.out.size (Nat.le_refl _) : w.heap.size ≤ w2.heap.size)
  clear I3 G0 G1 G2 HB B1
  go_cut [3] (fun v3 wc => v3 = .nilIface ∧ ∃ e0 : Nat, za (PInv w wc w.heap.size w2.heap.size (w2.heap.size + 1) M #[.pointer (some ⟨e0, 0, none⟩), .slice none 0 0, .string ⟨#[]⟩, .pointer none, .string ⟨#[]⟩, .pointer none, .string ⟨#[]⟩, .pointer none, .slice none 0 0, .slice none 0 0] (fun W => BigAt W e0 (dvB x.ep))))
  case first =>
    by_cases he : m2.toList = []
    · have e1 : (m2.toList == []) = true := by simpa using he
      have e2 : (m2.toList != []) = false := by simpa using he
      have e3 : m2.toList.isEmpty = true := by simpa using he
      have HE : dvB x.ep = 0 := by rw [HX.out.2.2.2.1, if_pos he]; rfl
      clear he i1
      simp only [e3, Bool.not_true, Bool.not_false]
      go_wp2
      go_meet
      exact ⟨rfl, _, ⟨by rw [HE]; exact I4.out⟩⟩
    · have e1 : (m2.toList == []) = false := by simpa using he
      have e2 : (m2.toList != []) = true := by simpa using he
      have e3 : m2.toList.isEmpty = false := by simpa using he
      have HN : za (Plain m2 ∧ zbd m2) := ⟨i1.resolve_left he⟩
      have HE : za (x.ep = m2) := ⟨by rw [HX.out.2.2.2.1, if_neg he]⟩
      clear he i1
      simp only [e3, Bool.not_true, Bool.not_false]
      go_wp2_with (first | (go_at_call 70; (with_reducible refine (conv_at _ m2 HN.out.1 (HGL.out.lt I4.out.below) HN.out.2).mono ?_); rintro e' w4 ⟨a, rfl, hA, hb⟩; have I5 := za.mk (I4.out.to hb); have HA := za.mk hA; have yc0 := (zf I5.out.b5 0).trans rfl; have yf0 := zi I5.out.b5 0; clear hb hA))
      go_meet
      have I6 := I5.out.put (by have := B2.out.size; omega) (by have := B2.out.size; omega) (by omega) 0 (.pointer (some ⟨a, 0, none⟩))
      exact ⟨rfl, a, ⟨⟨I6.b2, I6.b4, I6.b5, I6.below, Stab.big _ _, by rw [HE.out]; exact (Stab.big _ _).kept _ _ (KeptT.set I5.out.b5 (by decide) 0 _) HA.out⟩⟩⟩
  case rest =>
    clear I4 i1
    obtain ⟨rfl, e0, I4⟩ := hcut
    have ym2 := (zf I4.out.b4 2).trans (by rw [HMM.out]; rfl : M[2]? = some (.string m3))
    go_wp2_with (first | (go_at_call 71; (with_reducible refine (HSP.out _).mono ?_); rintro e' w5 ⟨sp, rfl, hr, hb⟩; obtain ⟨A, cap, rfl⟩ := Kd.R_slice hr; have I5 := za.mk ((I4.out.to hb).add (Stab.texts _ _ _) hr); clear hb hr))
    clear I4 ym2
    obtain ⟨b0, hb0⟩ : ∃ b0, b0 = wc.heap.size := ⟨_, rfl⟩
    rw [← hb0] at I5
    clear hb0
    have I6 : za (PInv w w5 w.heap.size w2.heap.size (w2.heap.size + 1) M #[.pointer (some ⟨e0, 0, none⟩), .slice none 0 0, .string ⟨#[]⟩, .pointer none, .string ⟨#[]⟩, .pointer none, .string ⟨#[]⟩, .pointer none, .slice none 0 0, .slice none 0 0] (fun W => (BigAt W e0 (dvB x.ep) ∧ OwnT b0 (.slice A x.rel.length cap) x.rel W) ∧ ROwn w.heap.size (.slice none 0 0) [] W)) := ⟨I5.out.add (Stab.rel _ _ _) ⟨Kd.R_nil _ _ _ _ _, fun x hx => by simp at hx⟩⟩
    clear I5
    go_loopw [3, 48] (fun v3 iv wr => v3 = .nilIface ∧ ∃ (i : Nat) (rv : Value) (ns : List (Nat × Nat)), i ≤ x.rel.length ∧ iv = .int .i64 (i : Int) ∧ za (ns.map (·.2) = (x.rel.take i).map dvB) ∧ za (PInv w wr w.heap.size w2.heap.size (w2.heap.size + 1) M #[.pointer (some ⟨e0, 0, none⟩), rv, .string ⟨#[]⟩, .pointer none, .string ⟨#[]⟩, .pointer none, .string ⟨#[]⟩, .pointer none, .slice none 0 0, .slice none 0 0] (fun W => (BigAt W e0 (dvB x.ep) ∧ OwnT b0 (.slice A x.rel.length cap) x.rel W) ∧ ROwn w.heap.size rv ns W))) (fun _ iv _ => x.rel.length - (intOf iv).toNat)
    case atStart => exact ⟨rfl, 0, _, [], Nat.zero_le _, rfl, ⟨rfl⟩, I6⟩
    case round =>
      obtain ⟨rfl, i, rv, ns, hi, rfl, hns, HI⟩ := hrel
      clear I6
      by_cases hlt : i < x.rel.length
      · have i3 : decide ((i : Int) < (x.rel.length : Int)) = true := decide_eq_true (by omega)
        have i4 : ((i : Int) < (x.rel.length : Int)) = True := eq_true (by omega)
        have i5 : (0 ≤ (i : Int)) = True := eq_true (by omega)
        have WR : wrap64 ((i : Int) + 1) = ((i + 1 : Nat) : Int) := by have := HX.out.1; unfold wrap64; omega
        have LT := za.mk hlt
        obtain ⟨d, hd⟩ : ∃ d, x.rel[i]? = some d := ⟨_, List.getElem?_eq_getElem (by omega)⟩
        have HD : za (Plain d ∧ zbd d) := ⟨HX.out.2.1 d (List.mem_of_getElem? hd)⟩
        have HNL : za (ns.length ≤ 1000000) := ⟨by have q1 := congrArg List.length hns.out; have q2 := HX.out.1; rw [List.length_map, List.length_map, List.length_take] at q1; omega⟩
        have HN1 : za (ns.map (·.2) ++ [dvB d] = (x.rel.take (i + 1)).map dvB) := ⟨by rw [hns.out, List.take_add_one, hd, List.map_append]; rfl⟩
        have HOT : Kd.R Kd.string 9 wr b0 (fun _ => True) (.slice A x.rel.length cap) x.rel := HI.out.f.1.2
        obtain ⟨b, cap2, hsl, _⟩ := Kd.R_form HOT (by omega)
        have y0 : wr.cell? ⟨b, i, none⟩ = some (.string d) := by
          rw [hsl] at HOT
          obtain ⟨c, hc1, hM, hcc, _⟩ := Kd.R_elem HOT ByteArray.empty (i : Int) (by omega) (by omega)
          have hgd : x.rel.getD (i : Int).toNat ByteArray.empty = d := by
            rw [List.getD_eq_getElem?_getD, show ((i : Int).toNat) = i by omega, hd]; rfl
          rw [hgd] at hM
          have hM2 : c = [.string d] := hM
          have := hcc 0 (.string d) (by rw [hM2]; rfl)
          rw [show (i : Int).toNat * Kd.string.sz + 0 = i by show (i : Int).toNat * 1 + 0 = i; omega] at this
          exact this
        injection hsl with hs1 hs2 hs3
        clear HOT hd hi hlt hns hs2 hs3
        subst hs1
        go_wp2_with (first | (go_at_call 70; (with_reducible refine (conv_at wr d HD.out.1 (HGL.out.lt HI.out.below) HD.out.2).mono ?_); rintro e' w6 ⟨a, rfl, hA, hb⟩; have I6 := za.mk (HI.out.to hb); have HA := za.mk hA; have x6 := (zf I6.out.b5 1).trans rfl; clear hb hA) | ((with_reducible refine zub (b := .append) (xs := #[.tmp 62, .tmp 64]) rfl ?_); at_builtin; go_loud (refine Kd.R_append (Kd.raw 1) (w0 := w6) w.heap.size rfl (.tmp 62) (.tmp 64) 68 66 (.pointer none) 8 rfl Tryz.underlying68 infoPI rfl (by decide) (by omega) rv (ptrs ns) [.pointer (some ⟨a, 0, none⟩)] [.pointer (some ⟨a, 0, none⟩)] (fun _ => True) (fun _ => False) rfl rfl ?aP (fun _ hk => hk.elim) (fun _ _ => trivial) I6.out.f.2.1 (Below.refl _ _) I6.out.below.size ?aL ?_; (case aP => exact ⟨rfl, rfl, by intro u hu; simp at hu; rcases hu with rfl; rfl⟩); (case aL => rw [zeh]; have := HNL.out; omega); intro v1 w7 ho hb hg hat; obtain ⟨A1, n1, cp1, rfl⟩ : ∃ A n c, v1 = .slice A n c := (by obtain ⟨A, c, e⟩ := Kd.R_slice ho; exact ⟨A, _, c, e⟩); have I7 := za.mk (I6.out.append ((Stab.big _ _).and (Stab.texts _ _ _)) (fun W W' K h => ⟨h.1.notP K, h.2.notP K⟩) ho hg HA.out); have x7 := (zf I7.out.b5 1).trans rfl; have f7 := zi I7.out.b5 1; have I8 := za.mk (I7.out.put (by have := B2.out.size; omega) (by have := B2.out.size; omega) (by omega) 1 (.slice A1 n1 cp1)); clear ho hb hg hat)))
        go_roundw
        all_goals first | exact ⟨rfl, i + 1, .slice A1 n1 cp1, _, LT.out, by first | rfl | go_num, ⟨by rw [List.map_append]; exact HN1.out⟩, I8⟩ | exact znf _ i LT.out | exact meas_up1 _ i LT.out | exact zfg _ i LT.out WR
      · obtain rfl : i = x.rel.length := by omega
        have i3 : decide ((x.rel.length : Int) < (x.rel.length : Int)) = false := decide_eq_false (by omega)
        have i4 : ((x.rel.length : Int) < (x.rel.length : Int)) = False := eq_false (by omega)
        have HNS : za (ns.map (·.2) = x.rel.map dvB) := ⟨by rw [hns.out, List.take_length]⟩
        clear hlt hi hns
        obtain ⟨Ar, nr, cr, rfl⟩ : ∃ A n c, rv = .slice A n c := (by obtain ⟨A, c, e⟩ := Kd.R_slice HI.out.f.2.1; exact ⟨A, _, c, e⟩)
        have ym3 := (zf HI.out.b4 3).trans (by rw [HMM.out]; rfl : M[3]? = some (.string m4))
        have ym4 := (zf HI.out.b4 4).trans (by rw [HMM.out]; rfl : M[4]? = some (.string m5))
        go_upto_if 85 with (first | (go_at_call 72; (with_reducible refine (HL1.out _ HI.out.below).mono ?_); rintro e' w8 ⟨pn, rfl, hL, hb⟩; have I9 := za.mk (((HI.out.to hb).add (Stab.letter _ _ _) hL).to (zg (Below.refl _ _) (.cells #[.string (letB (letN x.pre)), .pointer (oA pn)] 70))); have yl := fun j : Nat => zf (zjc w8 (.cells #[.string (letB (letN x.pre)), .pointer (oA pn)] 70)) j; have yc2 := (zf I9.out.b5 2).trans rfl; have yf2 := zi I9.out.b5 2; have yc3 := (zf I9.out.b5 3).trans rfl; have yf3 := zi I9.out.b5 3; have I10 := za.mk ((I9.out.put (by have := B2.out.size; omega) (by have := B2.out.size; omega) (by omega) 2 (.string (letB (letN x.pre)))).put (by have := B2.out.size; omega) (by have := B2.out.size; omega) (by omega) 3 (.pointer (oA pn))); have ym5 := (zf I10.out.b4 5).trans (by rw [HMM.out]; rfl : M[5]? = some (.string m6)); have ym6 := (zf I10.out.b4 6).trans (by rw [HMM.out]; rfl : M[6]? = some (.string m7)); clear hL hb HI ym3 ym4))
        go_cut [3, 15] (fun v3 v15 wc => v3 = .nilIface ∧ v15 = .string m67 ∧ za (PInv w wc w.heap.size w2.heap.size (w2.heap.size + 1) M #[.pointer (some ⟨e0, 0, none⟩), .slice Ar nr cr, .string (letB (letN x.pre)), .pointer (oA pn), .string ⟨#[]⟩, .pointer none, .string ⟨#[]⟩, .pointer none, .slice none 0 0, .slice none 0 0] (fun W => ((BigAt W e0 (dvB x.ep) ∧ OwnT b0 (.slice A x.rel.length cap) x.rel W) ∧ ROwn w.heap.size (.slice Ar nr cr) ns W) ∧ LtAt W (letB (letN x.pre)) pn (letN x.pre))))
        case first =>
          by_cases he : m6.toList = []
          · have e3 : m6.toList.isEmpty = true := by simpa using he
            have e1 : (m6.toList == []) = true := by simpa using he
            have e2 : (m6.toList != []) = false := by simpa using he
            have HE : m67 = m7 := by rw [HM67.out, if_pos he]
            clear he
            try simp only [e1, e2, e3, Bool.not_true, Bool.not_false]
            go_wp2
            go_meet
            exact ⟨rfl, by rw [HE], I10⟩
          · have e3 : m6.toList.isEmpty = false := by simpa using he
            have e1 : (m6.toList == []) = false := by simpa using he
            have e2 : (m6.toList != []) = true := by simpa using he
            have HE : m67 = m6 := by rw [HM67.out, if_neg he]
            clear he
            try simp only [e1, e2, e3, Bool.not_true, Bool.not_false]
            go_wp2
            go_meet
            exact ⟨rfl, by rw [HE], I10⟩
        case rest =>
          clear I9 I10
          obtain ⟨rfl, rfl, I12⟩ := hcut
          have ym7 := (zf I12.out.b4 7).trans (by rw [HMM.out]; rfl : M[7]? = some (.string m8))
          go_wp2_with (first | (go_at_call 72; (with_reducible refine (HL2.out _ I12.out.below).mono ?_); rintro e' w10 ⟨qn, rfl, hL, hb⟩; have I13 := za.mk (((I12.out.to hb).add (Stab.letter _ _ _) hL).to (zg (Below.refl _ _) (.cells #[.string (letB (letN x.post)), .pointer (oA qn)] 70))); have yl := fun j : Nat => zf (zjc w10 (.cells #[.string (letB (letN x.post)), .pointer (oA qn)] 70)) j; have yc4 := (zf I13.out.b5 4).trans rfl; have yf4 := zi I13.out.b5 4; have yc5 := (zf I13.out.b5 5).trans rfl; have yf5 := zi I13.out.b5 5; have I14 := za.mk ((I13.out.put (by have := B2.out.size; omega) (by have := B2.out.size; omega) (by omega) 4 (.string (letB (letN x.post)))).put (by have := B2.out.size; omega) (by have := B2.out.size; omega) (by omega) 5 (.pointer (oA qn))); have ym8 := (zf I14.out.b4 8).trans (by rw [HMM.out]; rfl : M[8]? = some (.string m9)); have ym9 := (zf I14.out.b4 9).trans (by rw [HMM.out]; rfl : M[9]? = some (.string m10)); clear hL hb I12 ym7) | (go_at_call 72; (with_reducible refine (HL3.out _ I14.out.below).mono ?_); rintro e' w11 ⟨dn, rfl, hL, hb⟩; have I15 := za.mk (((I14.out.to hb).add (Stab.letter _ _ _) hL).to (zg (Below.refl _ _) (.cells #[.string (letB (letN x.dev)), .pointer (oA dn)] 70))); have yk := fun j : Nat => zf (zjc w11 (.cells #[.string (letB (letN x.dev)), .pointer (oA dn)] 70)) j; have yc6 := (zf I15.out.b5 6).trans rfl; have yf6 := zi I15.out.b5 6; have yc7 := (zf I15.out.b5 7).trans rfl; have yf7 := zi I15.out.b5 7; have I16 := za.mk ((I15.out.put (by have := B2.out.size; omega) (by have := B2.out.size; omega) (by omega) 6 (.string (letB (letN x.dev)))).put (by have := B2.out.size; omega) (by have := B2.out.size; omega) (by omega) 7 (.pointer (oA dn))); have ym10 := (zf I16.out.b4 10).trans (by rw [HMM.out]; rfl : M[10]? = some (.string m11)); clear hL hb I14 I13 ym8 ym9 yl) | (go_at_call 73; (with_reducible refine (HLO.out _).mono ?_); rintro e' w13 ⟨lv, rfl, hr, hb⟩; obtain ⟨A2, cp2, rfl⟩ := Kd.R_slice hr; have I17 := za.mk ((I16.out.to hb).add (Stab.texts _ _ _) hr); have yc8 := (zf I17.out.b5 8).trans rfl; have yf8 := zi I17.out.b5 8; have I18 := za.mk (I17.out.put (by have := B2.out.size; omega) (by have := B2.out.size; omega) (by omega) 8 (.slice A2 x.loc.length cp2)); have fz := fun j : Nat => zi I18.out.b2 j; have yw := fun j : Nat => zf I18.out.b2 j; have yc := fun j : Nat => zf I18.out.b5 j; clear hr hb I16 I15 ym10 yk))
          (try simp only [Exit.inBlock, Exit.then])
          refine bodyPost_ret (znc rfl _ _ w.heap.size 72 _ (0, 0) _ rfl (put10 I18.out.b2) Tryz.underlying72 rfl (by kernel_rfl)) rfl ?_
          refine ⟨_, rfl, ?_, ?_⟩
          · refine PVAt.kept (w := w13.setCell ⟨w2.heap.size + 1, 8, none⟩ (.slice A2 x.loc.length cp2)) ?_ (zaf I18.out.b2 (by decide) (fun b h => by repeat rw [Below.heap_setCell _ _ _ _ h]))
            obtain ⟨⟨⟨⟨⟨⟨F1, F2⟩, F3⟩, F4⟩, F5⟩, F6⟩, F7⟩ := I18.out.f
            have hlen : ns.length ≤ 1000000 := by have q1 := congrArg List.length HNS.out; have q2 := HX.out.1; rw [List.length_map, List.length_map] at q1; omega
            exact ⟨e0, .slice Ar nr cr, .slice A2 x.loc.length cp2, .slice none 0 0, pn, qn, dn, ns, rfl, ⟨fun _ => F1, fun e => absurd HX.out.2.2.2.2 e⟩, ⟨⟨Kd.R_lower F3.1 (Nat.zero_le _), F3.2⟩, HNS.out, hlen⟩, ⟨F4, F5, F6⟩, ⟨Kd.R_lower F7 (Nat.zero_le _), HX.out.2.2.1⟩, by show OwnT 0 _ x.leg _; rw [HX.out.2.2.2.2]; exact Kd.R_nil _ _ _ _ _, by show x.leg.length ≤ _; rw [HX.out.2.2.2.2]; exact Nat.zero_le _⟩
          · have b5 := I18.out.below
            repeat (first | (with_reducible exact b5) | refine zo ?_ (Nat.le_refl _))
theorem parse_ (w : World) (s : ByteArray) (k : Nat) (x : YD) (h : parseY k s = some x) (hG : GLe w) :
  Calls Tryz.prog 39 #[.string s] w fun e w' => ∃ v, e = .returned (.tuple #[v, .nilIface]) ∧ PVAt w' v x.num ∧ Below w.heap.size w w' := by
 unfold parseY at h
 obtain ⟨t, h1, h⟩ := Option.bind_eq_some_iff.mp h
 obtain ⟨⟨m1, m2, m3, m4, m5, m6, m7, m8, m9, m10, m11⟩, h2, h⟩ := Option.bind_eq_some_iff.mp h
 cases m1 with
 | true =>
  rw [if_pos rfl] at h
  exact parseN_ w s t k x m2 m3 m4 m5 m6 m7 m8 m9 m10 m11 h1 h2 h hG
 | false =>
  rw [if_neg (by simp)] at h
  unfold legY at h
  obtain ⟨l, h3, h⟩ := Option.bind_eq_some_iff.mp h
  by_cases hl : l.length ≤ 1000000 ∧ l ≠ []
  ·rw [if_pos hl] at h
   cases h
   exact parseL_ w s t k l m2 m3 m4 m5 m6 m7 m8 m9 m10 m11 h1 h2 h3 hl.1 hl.2
  ·rw [if_neg hl] at h; cases h
end Go.Proofs.YtlijjnjpomnphaaGreatDoorG
end
section
namespace Go.Proofs.YtlijjnjpomnphaaGreatDoorY
open Go.RowKit YtlijjnjpomnphaaGreatDoorG YtlijjnjpomnphaaGreatDoorH YtlijjnjpomnphaaGreatDoorB YtlijjnjpomnphaaGreatDoorM YtlijjnjpomnphaaGreatDoorP YtlijjnjpomnphaaGreatDoor.S YtlijjnjpomnphaaGreatDoorW.PrintWords YtlijjnjpomnphaaGreatDoorW.PrintLast
theorem plain_dig {d : ByteArray} (h : zbd d) (hs : d.size ≤ 1000000) : Plain d := by
 have := h.2 0 h.1
 unfold Dig at this
 have e : bt d ((0 : Nat) : Int) = bt d 0 := rfl
 rw [e] at this
 exact ⟨hs, by omega, by omega⟩
theorem dv_decL (s : ByteArray) : ∀ k, k ≤ s.size → dv s k = decL ((bytesOf s).take k)
 | 0, _ => rfl
 | k + 1, h => by
  have hl : k < (bytesOf s).length := by rw [bytesOf_length]; omega
  have e : (bytesOf s).take (k + 1) = (bytesOf s).take k ++ [(bytesOf s).getD k 0] := by
   rw [List.take_add_one, List.getElem?_eq_getElem hl, List.getD_eq_getElem?_getD, List.getElem?_eq_getElem hl]
   rfl
  rw [e, decL_snoc, ← dv_decL s k (by omega)]
  show dv s k * 10 + (bt s (k : Int) - 48).toNat = _
  rw [zdd]
  omega
theorem dv_all (s : ByteArray) : dv s s.size = decL (bytesOf s) := by
 rw [dv_decL s s.size (Nat.le_refl _), List.take_of_length_le (by rw [bytesOf_length]; exact Nat.le_refl _)]
theorem zzg {s : ByteArray} (h : ∀ c ∈ bytesOf s, isD c = true) (h0 : bytesOf s ≠ []) (hs : s.size ≤ 1000000) : Plain s ∧ zbd s := by
 have hA : zbd s := by
  refine ⟨by rw [sz_B]; exact List.length_pos_iff.2 h0, fun j hj => ?_⟩
  rw [zdd]
  have hl : j < (bytesOf s).length := by rw [bytesOf_length]; exact hj
  have hm : (bytesOf s).getD j 0 ∈ bytesOf s := by
   rw [List.getD_eq_getElem?_getD, List.getElem?_eq_getElem hl]
   exact List.getElem_mem hl
  have h2 := h _ hm
  unfold isD at h2
  exact of_decide_eq_true h2
 exact ⟨plain_dig hA hs, hA⟩
theorem or0_B (d : ByteArray) : bytesOf (or0 d) = if bytesOf d = [] then [48] else bytesOf d := by
 unfold or0
 by_cases h : bytesOf d = []
 ·rw [if_pos ((zgc d).2 h), if_pos h]; rfl
 ·rw [if_neg (fun e => h ((zgc d).1 e)), if_neg h]
theorem or0_num {d : ByteArray} (h : ∀ c ∈ bytesOf d, isD c = true) (hs : d.size ≤ 1000000) : Plain (or0 d) ∧ zbd (or0 d) := by
 by_cases h0 : bytesOf d = []
 ·have e : or0 d = ⟨#[48]⟩ := by unfold or0; rw [if_pos ((zgc d).2 h0)]
  rw [e]
  exact zzg (by decide) (by decide) (by decide)
 ·have e : or0 d = d := by unfold or0; rw [if_neg (fun e => h0 ((zgc d).1 e))]
  rw [e]
  exact zzg h h0 hs
theorem letW_word {l d : ByteArray} (hl : l ∈ wsPre ∨ l ∈ wsPost ∨ l ∈ wsDev) (h : ∀ c ∈ bytesOf d, isD c = true) (hs : d.size ≤ 1000000) : ∃ x, letW l d = some (some (x, or0 d)) ∧ bytesOf x = spell (bytesOf l) := by
 have hn := or0_num h hs
 have key : ∀ x : ByteArray, l ≠ ⟨#[]⟩ → (∃ p, wordsB.find? (fun p => decide (p.1 = l)) = some p ∧ p.2 = x) → letW l d = some (some (x, or0 d)) := by
  rintro x h0 ⟨p, hp, rfl⟩
  unfold letW
  rw [if_neg h0, hp]
  simp only [Option.bind_some]
  rw [if_pos hn]
 simp only [wsPre, wsPost, wsDev, List.mem_cons, List.not_mem_nil, or_false] at hl
 rcases hl with (rfl | rfl | rfl | rfl | rfl | rfl | rfl | rfl) | (rfl | rfl | rfl) | rfl
 all_goals exact ⟨_, key _ (by decide) ⟨_, by rfl, rfl⟩, by decide⟩
theorem dg_D (l : List Int) : ∀ c ∈ dg l, isD c = true := fun c hc => run_mem hc
theorem zlh {ws : List (List Int)} {l w d : List Int} (h : (zzc ws l).1 = some (w, d)) : ∀ c ∈ d, isD c = true := by
 unfold zzc at h
 cases hw : zuc ws (unmk l) with
 | none => rw [hw] at h; cases h
 | some v =>
  rw [hw] at h
  have h2 : some (v, dg (unmk ((unmk l).drop v.length))) = some (w, d) := h
  injection h2 with h2
  injection h2 with _ h2
  rw [← h2]
  exact dg_D _
theorem gpost_D {l w d : List Int} (h : (gpost l).1 = some (w, d)) : ∀ c ∈ d, isD c = true := by
 unfold gpost at h
 cases hh : hyph l with
 | none => rw [hh] at h; exact zlh h
 | some x =>
  rw [hh] at h
  obtain ⟨c, r, _, _, rfl⟩ := zah hh
  have h2 : some (wPost, dg (c :: r)) = some (w, d) := h
  injection h2 with h2
  injection h2 with _ h2
  rw [← h2]
  exact dg_D _
theorem rels_D : ∀ (n : Nat) (l : List Int), run isD l ≠ 0 → ∀ d ∈ (rels n l).1, d ≠ [] ∧ ∀ c ∈ d, isD c = true
 | 0, l, h, d, hd => by
  have : d = dg l := by simpa [rels] using hd
  rw [this]
  exact ⟨dg_ne h, dg_D l⟩
 | n + 1, l, h, d, hd => by
  have hE : rels (n + 1) l = (match dr l with
    | [] => ([dg l], [])
    | c :: r => if c = 46 ∧ run isD r ≠ 0 then (dg l :: (rels n r).1, (rels n r).2) else ([dg l], c :: r)) := rfl
  rw [hE] at hd
  cases hq : dr l with
  | nil =>
   rw [hq] at hd
   have : d = dg l := by simpa using hd
   rw [this]
   exact ⟨dg_ne h, dg_D l⟩
  | cons c r =>
   rw [hq] at hd
   by_cases hc : c = 46 ∧ run isD r ≠ 0
   ·simp only [if_pos hc] at hd
    rcases List.mem_cons.1 hd with rfl | hd
    ·exact ⟨dg_ne h, dg_D l⟩
    ·exact rels_D n r hc.2 d hd
   ·simp only [if_neg hc] at hd
    have : d = dg l := by simpa using hd
    rw [this]
    exact ⟨dg_ne h, dg_D l⟩
structure Dgs (v : PV) : Prop where
 ep : ∀ c ∈ v.ep, isD c = true
 rel : ∀ d ∈ v.rel, d ≠ [] ∧ ∀ c ∈ d, isD c = true
 pre : ∀ w d, v.pre = some (w, d) → ∀ c ∈ d, isD c = true
 post : ∀ w d, v.post = some (w, d) → ∀ c ∈ d, isD c = true
 dev : ∀ w d, v.dev = some (w, d) → ∀ c ∈ d, isD c = true
theorem codeV_D {t : List Int} {v : PV} (h : codeV t = some v) : Dgs v := by
 unfold codeV headP at h
 by_cases h0 : run isD (unE t) = 0
 ·rw [if_pos h0] at h; cases h
 ·rw [if_neg h0] at h
  simp only [Option.bind_some] at h
  obtain ⟨r, _, h2⟩ := Option.bind_eq_some_iff.mp h
  by_cases hb : r.2.all isBl = true
  ·rw [if_pos hb] at h2
   injection h2 with h2
   subst h2
   refine ⟨?_, rels_D _ _ h0, fun w d e => zlh e, fun w d e => gpost_D e, fun w d e => zlh e⟩
   intro c hc
   unfold epP at hc
   split at hc
   ·exact dg_D _ c hc
   ·cases hc
  ·rw [if_neg hb] at h2; cases h2
def toldL (p : List Int × List Int) : ByteArray × Nat := (strOfNums (spell p.1), decL p.2)
structure NumTold (x : YD) (v : PV) : Prop where
 ep : dvB x.ep = decL v.ep
 rel : x.rel.map dvB = v.rel.map decL
 pre : letN x.pre = v.pre.map toldL
 post : letN x.post = v.post.map toldL
 dev : letN x.dev = v.dev.map toldL
 loc : x.loc.map bytesOf = v.loc.map (List.map low)
 leg : x.leg = []
theorem or0_dv {d : ByteArray} : dvB (or0 d) = decL (bytesOf d) := by
 unfold dvB
 rw [dv_all, or0_B]
 by_cases h : bytesOf d = []
 ·rw [if_pos h, h]; rfl
 ·rw [if_neg h]
theorem letW_opt {s l d : ByteArray} {ws : List ByteArray} (hws : ∀ w ∈ ws, w ∈ wsPre ∨ w ∈ wsPost ∨ w ∈ wsDev) (h : WordM s ws l d) (hs : s.size ≤ 1000000) (hD : ∀ w e, optW (bytesOf l) (bytesOf d) = some (w, e) → ∀ c ∈ e, isD c = true) :
  ∃ o, letW l d = some o ∧ letN o = (optW (bytesOf l) (bytesOf d)).map toldL := by
 by_cases h0 : bytesOf l = []
 ·have e1 : l = ⟨#[]⟩ := B_inj h0
  have e2 : d = ⟨#[]⟩ := B_inj (h.2.1 h0)
  subst e1
  subst e2
  refine ⟨none, ?_, by rfl⟩
  unfold letW
  rw [if_pos rfl, if_pos ((zgc _).2 rfl), if_pos rfl]
 ·have hm := h.2.2.resolve_left h0
  have hD2 : ∀ c ∈ bytesOf d, isD c = true := hD (bytesOf l) (bytesOf d) (by unfold optW; rw [if_neg h0])
  obtain ⟨x, h1, h2⟩ := letW_word (hws l hm) hD2 (Nat.le_trans h.1 hs)
  refine ⟨_, h1, ?_⟩
  unfold letN optW
  rw [if_neg h0]
  show some (x, dv (or0 d) (or0 d).size) = some (strOfNums (spell (bytesOf l)), decL (bytesOf d))
  rw [← h2, str_B]
  have := or0_dv (d := d)
  unfold dvB at this
  rw [this]
theorem dvB_all (d : ByteArray) : dvB d = decL (bytesOf d) := dv_all d
theorem numY_ev {s : ByteArray} (hs : s.size ≤ 100000) {v : PV} (hv : Dgs v) {ep rel pl pn n1 n2 l dl dn lo : ByteArray} (h : Told s v ep rel pl pn n1 n2 l dl dn lo) (ha : ∀ x ∈ bytesOf s, x ≤ 127) :
  ∃ x, Ev (fun k => numY k ep rel pl pn n1 n2 l dl dn lo) x ∧ NumTold x v := by
 obtain ⟨rs, hr1, hr2⟩ := split_ev rel (by have := h.srel; omega)
 rw [h.hrel] at hr2
 obtain ⟨ls, hl1, hl2⟩ := local_ev lo (by have := h.sloc; omega) (fun x hx => ha x (h.slo x hx))
 rw [h.hloc] at hl2
 obtain ⟨p, hp1, hp2⟩ := letW_opt (fun w hw => .inl hw) h.wpre (by omega) (by rw [h.hpre]; exact hv.pre)
 rw [h.hpre] at hp2
 obtain ⟨d, hd1, hd2⟩ := letW_opt (fun w hw => .inr (.inr hw)) h.wdev (by omega) (by rw [h.hdev]; exact hv.dev)
 rw [h.hdev] at hd2
 have hq : ∃ q, letW l (if n1.toList = [] then n2 else n1) = some q ∧ letN q = v.post.map toldL := by
  rcases h.wpost with ⟨w1, w2, rfl, rfl⟩ | ⟨rfl, w⟩
  ·have hpo := h.hpost
   unfold postW at hpo
   rw [if_pos w1] at hpo
   have hD := hv.post wPost (bytesOf n1) hpo.symm
   have hn : n1.toList ≠ [] := fun e => w1 ((zgc n1).1 e)
   rw [if_neg hn, ← hpo]
   have hnum := zzg hD w1 (by omega)
   refine ⟨some (⟨#[112, 111, 115, 116]⟩, n1), ?_, ?_⟩
   ·unfold letW
    rw [if_pos rfl, if_neg hn, if_pos hnum]
   ·show some ((⟨#[112, 111, 115, 116]⟩ : ByteArray), dv n1 n1.size) = some (strOfNums (spell wPost), decL (bytesOf n1))
    rw [dv_all]
    rfl
  ·have hpo := h.hpost
   unfold postW at hpo
   rw [if_neg (fun e => e rfl)] at hpo
   rw [if_pos ((zgc _).2 rfl)]
   obtain ⟨q, hq1, hq2⟩ := letW_opt (fun w hw => .inr (.inl hw)) w (by omega) (by rw [hpo]; exact hv.post)
   rw [hpo] at hq2
   exact ⟨q, hq1, hq2⟩
 obtain ⟨q, hq1, hq2⟩ := hq
 have hep : ep.toList = [] ∨ NumOk ep := by
  by_cases h0 : bytesOf ep = []
  ·exact .inl ((zgc ep).2 h0)
  ·exact .inr (zzg (by rw [h.hep]; exact hv.ep) h0 (by have := h.sep; omega))
 have hrs : rs.length ≤ 1000000 ∧ ∀ d ∈ rs, NumOk d := by
  constructor
  ·have e := congrArg List.length hr2
   rw [List.length_map, ← h.hrel] at e
   have e2 := ztf isPt (bytesOf rel)
   rw [bytesOf_length] at e2
   have := h.srel
   omega
  ·intro d hd
   have hm : bytesOf d ∈ v.rel := by rw [← hr2]; exact List.mem_map_of_mem hd
   have hz := hv.rel _ hm
   have hsz := zog isPt (bytesOf rel) (bytesOf d) (by rw [h.hrel]; exact hm)
   rw [bytesOf_length, bytesOf_length] at hsz
   exact zzg hz.2 hz.1 (by have := h.srel; omega)
 have hls : ls.length ≤ 1000000 := by
  have e := congrArg List.length hl2
  rw [List.length_map, List.length_map, ← h.hloc] at e
  have e2 := ztf isMk (bytesOf lo)
  rw [bytesOf_length] at e2
  have := h.sloc
  omega
 refine ⟨⟨if ep.toList = [] then ⟨#[]⟩ else ep, rs, p, q, d, ls, []⟩, ?_, ?_, ?_, hp2, hq2, hd2, hl2, rfl⟩
 ·unfold numY
  refine Ev.pos (fun _ => hep) ?_
  refine Ev.bind hr1 ?_
  refine Ev.pos (fun _ => hrs) ?_
  refine Ev.bind0 hp1 ?_
  refine Ev.bind0 hq1 ?_
  refine Ev.bind0 hd1 ?_
  refine Ev.bind hl1 ?_
  refine Ev.pos (fun _ => hls) ?_
  exact Ev.now _
 ·show dvB (if ep.toList = [] then ⟨#[]⟩ else ep) = _
  rw [dvB_all]
  by_cases h0 : bytesOf ep = []
  ·rw [if_pos ((zgc ep).2 h0), ← h.hep, h0]; rfl
  ·rw [if_neg (fun e => h0 ((zgc ep).1 e)), h.hep]
 ·show rs.map dvB = _
  rw [← hr2, List.map_map]
  exact List.map_congr_left (fun d _ => dvB_all d)
theorem step_ne (out : List (List Int)) (t : List Int) : step out t ≠ [] := by
 unfold step
 split <;> (try split) <;> simp
theorem parts_ne (l : List Int) : parts l ≠ [] := by
 unfold parts steps
 have : (toks l.length l ++ [final_]).filter (fun t => decide (t ≠ [46])) = (toks l.length l).filter (fun t => decide (t ≠ [46])) ++ [final_] := by
  rw [List.filter_append]
  rfl
 rw [this, List.foldl_append, List.foldl_cons, List.foldl_nil]
 exact step_ne _ _
theorem parseY_ev (s : ByteArray) (hs : s.size ≤ 100000) (ha : ∀ x ∈ bytesOf s, x ≤ 127) : ∃ x, Ev (fun k => parseY k s) x ∧
  (match codeV (unV (((bytesOf s).map low).drop (run isBl ((bytesOf s).map low)))) with
   | some v => NumTold x v
   | none => x = ⟨⟨#[]⟩, [], none, none, none, [], x.leg⟩ ∧ x.leg ≠ [] ∧ x.leg.map bytesOf = parts ((bytesOf s).map low)) := by
 obtain ⟨t, ht, hb⟩ := toLower_eq s (by omega) ha
 have hts : t.size = s.size := by rw [sz_B, hb, List.length_map, bytesOf_length]
 have hta : ∀ x ∈ bytesOf t, x ≤ 127 := by
  intro x hx
  rw [hb] at hx
  obtain ⟨y, hy, rfl⟩ := List.mem_map.1 hx
  exact (low_le ⟨(B_range s y hy).1, ha y hy⟩).2
 obtain ⟨M, h1, h2⟩ := match_ev t (by omega)
 rw [hb] at h2
 cases hv : codeV (unV (((bytesOf s).map low).drop (run isBl ((bytesOf s).map low)))) with
 | none =>
  rw [hv] at h2
  have h3 : M = noM := h2
  subst h3
  obtain ⟨l, hl, hl1, hl2⟩ := parts_ev t (by omega)
  rw [hb] at hl1
  have hne : l ≠ [] := fun e => by rw [e] at hl1; exact parts_ne _ hl1.symm
  refine ⟨⟨⟨#[]⟩, [], none, none, none, [], l⟩, ?_, rfl, hne, hl1⟩
  unfold parseY
  refine Ev.bind0 ht ?_
  refine Ev.bind h1 ?_
  refine Ev.neg (fun _ => Bool.false_ne_true) ?_
  unfold legY
  refine Ev.bind hl ?_
  refine Ev.pos (fun _ => ⟨by omega, hne⟩) ?_
  exact Ev.now _
 | some v =>
  rw [hv] at h2
  obtain ⟨ep, rel, pl, pn, n1, n2, l, dl, dn, lo, rfl, hT⟩ := h2
  obtain ⟨x, hx1, hx2⟩ := numY_ev (by omega) (codeV_D hv) hT hta
  refine ⟨x, ?_, hx2⟩
  unfold parseY
  refine Ev.bind0 ht ?_
  refine Ev.bind h1 ?_
  refine Ev.pos (fun _ => rfl) ?_
  exact hx1
end Go.Proofs.YtlijjnjpomnphaaGreatDoorY
end
section
namespace Go.Proofs.YtlijjnjpomnphaaGreatDoorG
open Go.RowKit YtlijjnjpomnphaaGreatDoorH YtlijjnjpomnphaaGreatDoorB YtlijjnjpomnphaaGreatDoorC YtlijjnjpomnphaaGreatDoorM YtlijjnjpomnphaaGreatDoorP YtlijjnjpomnphaaGreatDoorY YtlijjnjpomnphaaGreatDoor.S YtlijjnjpomnphaaGreatDoorW.PrintWords YtlijjnjpomnphaaGreatDoorW.PrintLast
def txtL (l : List Int) : List Int := unV ((l.map low).drop (run isBl (l.map low)))
def valP (v : Go.Proofs.YtlijjnjpomnphaaGreatDoorY.PV) : YV := ⟨decL v.ep, v.rel.map decL, v.pre.map toldL, v.post.map toldL, v.dev.map toldL, (v.loc.map (List.map low)).map strOfNums, []⟩
def valL (l : List Int) : YV := match codeV (txtL l) with
 | some v => valP v
 | none => ⟨0, [], none, none, none, [], (parts (l.map low)).map strOfNums⟩
theorem map_str {l : List ByteArray} {m : List (List Int)} (h : l.map bytesOf = m) : l = m.map strOfNums := by
 rw [← h, List.map_map]
 symm
 calc l.map (strOfNums ∘ bytesOf) = l.map id := List.map_congr_left (fun x _ => str_B x)
  _ = l := List.map_id l
theorem parseY_val (s : ByteArray) (hs : s.size ≤ 100000) (ha : ∀ x ∈ bytesOf s, x ≤ 127) : ∃ x, Ev (fun k => parseY k s) x ∧ x.num = valL (bytesOf s) := by
 obtain ⟨x, h1, h2⟩ := parseY_ev s hs ha
 refine ⟨x, h1, ?_⟩
 unfold valL txtL
 cases hv : codeV (unV (((bytesOf s).map low).drop (run isBl ((bytesOf s).map low)))) with
 | none =>
  rw [hv] at h2
  obtain ⟨h3, _, h5⟩ := h2
  rw [h3]
  show (⟨dvB ⟨#[]⟩, [], none, none, none, [], x.leg⟩ : YV) = ⟨0, [], none, none, none, [], _⟩
  rw [map_str h5]
  rfl
 | some v =>
  rw [hv] at h2
  have h3 : NumTold x v := h2
  show (⟨dvB x.ep, x.rel.map dvB, letN x.pre, letN x.post, letN x.dev, x.loc, x.leg⟩ : YV) = valP v
  rw [h3.ep, h3.rel, h3.pre, h3.post, h3.dev, h3.leg, map_str h3.loc]
  rfl
end Go.Proofs.YtlijjnjpomnphaaGreatDoorG
end
section
namespace Go.Proofs.YtlijjnjpomnphaaGreatDoorY
open Go.RowKit YtlijjnjpomnphaaGreatDoorH YtlijjnjpomnphaaGreatDoorB YtlijjnjpomnphaaGreatDoorM YtlijjnjpomnphaaGreatDoorP YtlijjnjpomnphaaGreatDoor.S YtlijjnjpomnphaaGreatDoorW.PrintWords YtlijjnjpomnphaaGreatDoorW.PrintLast
theorem zih {ws : List (List Int)} {l w d : List Int} (h : (zzc ws l).1 = some (w, d)) : w ∈ ws := by
 unfold zzc at h
 cases hw : zuc ws (unmk l) with
 | none => rw [hw] at h; cases h
 | some v =>
  rw [hw] at h
  have h2 : some (v, dg (unmk ((unmk l).drop v.length))) = some (w, d) := h
  injection h2 with h2
  injection h2 with h2 _
  rw [← h2]
  exact (zpf hw).1
theorem gpost_W {l w d : List Int} (h : (gpost l).1 = some (w, d)) : w ∈ postC := by
 unfold gpost at h
 cases hh : hyph l with
 | none => rw [hh] at h; exact zih h
 | some x =>
  rw [hh] at h
  obtain ⟨c, r, _, _, rfl⟩ := zah hh
  have h2 : some (wPost, dg (c :: r)) = some (w, d) := h
  injection h2 with h2
  injection h2 with h2 _
  rw [← h2]
  decide
theorem anMore_mem : ∀ (n : Nat) (l : List Int), ∀ c ∈ l.take (zad n l), isAn c = true ∨ isMk c = true
 | 0, l, c, h => by simp [zad] at h
 | n + 1, [], c, h => by simp at h
 | n + 1, x :: r, c, h => by
  simp only [zad] at h
  by_cases hx : isMk x = true ∧ run isAn r ≠ 0
  ·rw [if_pos hx, show 1 + run isAn r + zad n (r.drop (run isAn r)) = (run isAn r + zad n (r.drop (run isAn r))) + 1 by omega, List.take_succ_cons, List.take_add] at h
   rcases List.mem_cons.1 h with rfl | h
   ·exact .inr hx.1
   ·rcases List.mem_append.1 h with h | h
    ·exact .inl (run_mem h)
    ·exact anMore_mem n _ c h
  ·rw [if_neg hx] at h; simp at h
theorem locR_mem {x : List Int} {r : List Int × List Int} (h : locR x = some r) : ∀ c ∈ r.1, isAn c = true ∨ isMk c = true := by
 cases x with
 | nil => have e : r = ([], []) := (Option.some.inj h).symm; subst e; intro c hc; simp at hc
 | cons a t =>
  simp only [locR] at h
  by_cases ha : a = 43
  ·rw [if_pos ha] at h
   by_cases h0 : run isAn t = 0
   ·rw [if_pos h0] at h; cases h
   ·rw [if_neg h0] at h
    cases h
    intro c hc
    have hc2 : c ∈ t.take (zef t) := hc
    unfold zef at hc2
    rw [List.take_add] at hc2
    rcases List.mem_append.1 hc2 with hc2 | hc2
    ·exact .inl (run_mem hc2)
    ·exact anMore_mem _ _ c hc2
  ·rw [if_neg ha] at h
   cases h
   intro c hc; simp at hc
theorem zmf (p : Int → Bool) : ∀ (l : List Int), ∀ w ∈ zqb p l, ∀ x ∈ w, p x = false
 | [], w, hw, x, hx => by
  have : w = [] := by simpa [zqb] using hw
  subst this; simp at hx
 | c :: r, w, hw, x, hx => by
  simp only [zqb] at hw
  by_cases hc : p c = true
  ·rw [if_pos hc] at hw
   rcases List.mem_cons.1 hw with rfl | hw
   ·simp at hx
   ·exact zmf p r w hw x hx
  ·rw [if_neg hc] at hw
   cases hs : zqb p r with
   | nil => exact absurd hs (zje p r)
   | cons a t =>
    rw [hs] at hw
    simp only [glue] at hw
    rcases List.mem_cons.1 hw with rfl | hw
    ·rcases List.mem_append.1 hx with hx | hx
     ·rw [List.mem_singleton.1 hx]; simpa using hc
     ·exact zmf p r a (by rw [hs]; exact List.mem_cons_self) x hx
    ·exact zmf p r w (by rw [hs]; exact List.mem_cons_of_mem _ hw) x hx
structure Wds (n : Nat) (v : PV) : Prop where
 pre : ∀ w d, v.pre = some (w, d) → w ∈ preC
 post : ∀ w d, v.post = some (w, d) → w ∈ postC
 dev : ∀ w d, v.dev = some (w, d) → w ∈ devC
 loc : ∀ w ∈ v.loc, w.length ≤ n ∧ ∀ c ∈ w, isAn c = true
theorem codeV_W {t : List Int} {v : PV} (h : codeV t = some v) : Wds t.length v := by
 unfold codeV at h
 obtain ⟨q, hq, h1⟩ := Option.bind_eq_some_iff.mp h
 obtain ⟨r, hr, h2⟩ := Option.bind_eq_some_iff.mp h1
 by_cases hb : r.2.all isBl = true
 ·rw [if_pos hb] at h2
  injection h2 with h2
  subst h2
  refine ⟨fun w d e => zih e, fun w d e => gpost_W e, fun w d e => zih e, fun w hw => ⟨?_, fun c hc => ?_⟩⟩
  ·have l1 := zog isMk r.1 w hw
   have l2 := locR_len hr
   have l3 := (suf_code3 q.2.2).length_le
   have l4 := (suf_head hq).length_le
   omega
  ·have hm := splitP_mem isMk r.1 w hw c hc
   have hf := zmf isMk r.1 w hw c hc
   rcases locR_mem hr c hm with hx | hx
   ·exact hx
   ·rw [hf] at hx; cases hx
 ·rw [if_neg hb] at h2; cases h2
def tot : List (List Int) → Nat
 | [] => 0
 | w :: l => w.length + tot l
theorem tot_app : ∀ a b : List (List Int), tot (a ++ b) = tot a + tot b
 | [], b => by simp [tot]
 | x :: a, b => by simp only [List.cons_append, tot, tot_app a b]; omega
theorem tot_take : ∀ (n : Nat) (l : List (List Int)), tot (l.take n) ≤ tot l
 | 0, l => by simp [tot]
 | n + 1, [] => by simp [tot]
 | n + 1, x :: l => by simp only [List.take_succ_cons, tot]; have := tot_take n l; omega
theorem tot_pop (x : List Int) : ∀ (n : Nat) (l : List (List Int)), tot (pop x n l) ≤ tot l
 | 0, l => Nat.le_refl _
 | n + 1, l => by
  simp only [pop]
  split
  ·exact Nat.le_trans (tot_pop x n _) (tot_take _ _)
  ·exact Nat.le_refl _
theorem tot_step (out : List (List Int)) (t : List Int) : tot (step out t) ≤ tot out + t.length + 8 := by
 have hn := norm_length t
 unfold step
 split
 ·rw [tot_app]
  have h1 : tot (if lt_ (norm t) fin = true then pop fm out.length out else out) ≤ tot out := by
   split
   ·exact tot_pop _ _ _
   ·exact Nat.le_refl _
  have h2 := tot_pop zz (if lt_ (norm t) fin = true then pop fm out.length out else out).length (if lt_ (norm t) fin = true then pop fm out.length out else out)
  simp only [tot]
  omega
 ·rw [tot_app]
  simp only [tot]
  omega
theorem tot_fold : ∀ (ts out : List (List Int)), tot (ts.foldl step out) ≤ tot out + tot ts + 8 * ts.length
 | [], out => by simp [tot]
 | t :: ts, out => by
  have h1 := tot_fold ts (step out t)
  have h2 := tot_step out t
  simp only [List.foldl_cons, tot, List.length_cons]
  omega
theorem tot_filter (p : List Int → Bool) : ∀ l : List (List Int), tot (l.filter p) ≤ tot l ∧ (l.filter p).length ≤ l.length
 | [] => ⟨Nat.le_refl _, Nat.le_refl _⟩
 | x :: l => by
  have h := tot_filter p l
  rw [List.filter_cons]
  split
  ·simp only [tot, List.length_cons]; omega
  ·simp only [tot, List.length_cons]; omega
theorem toks_tot : ∀ (n : Nat) (l : List Int), tot (toks n l) ≤ l.length ∧ (toks n l).length ≤ l.length
 | 0, l => by simp [toks, tot]
 | n + 1, [] => by simp [toks, tot]
 | n + 1, c :: r => by
  simp only [toks]
  by_cases hc : isD c = true
  ·rw [if_pos hc]
   have h := toks_tot n ((c :: r).drop (run isD (c :: r)))
   have hl := zle isD (c :: r)
   have h0 : 0 < run isD (c :: r) := by rw [zed hc]; omega
   simp only [tot, List.length_cons, List.length_take, List.length_drop] at h hl ⊢
   omega
  ·rw [if_neg hc]
   by_cases hL : isL c = true
   ·rw [if_pos hL]
    have h := toks_tot n ((c :: r).drop (run isL (c :: r)))
    have hl := zle isL (c :: r)
    have h0 : 0 < run isL (c :: r) := by rw [zed hL]; omega
    simp only [tot, List.length_cons, List.length_take, List.length_drop] at h hl ⊢
    omega
   ·rw [if_neg hL]
    have h := toks_tot n r
    split
    ·simp only [tot, List.length_cons, List.length_nil] at h ⊢; omega
    ·simp only [List.length_cons]; omega
theorem parts_tot (l : List Int) : tot (parts l) ≤ 9 * l.length + 13 := by
 unfold parts steps
 have h1 := toks_tot l.length l
 have h2 := tot_filter (fun t => decide (t ≠ [46])) (toks l.length l ++ [final_])
 have h3 := tot_fold ((toks l.length l ++ [final_]).filter (fun t => decide (t ≠ [46]))) []
 have h4 : tot (toks l.length l ++ [final_]) = tot (toks l.length l) + 5 := by rw [tot_app]; rfl
 have h5 : (toks l.length l ++ [final_]).length = (toks l.length l).length + 1 := by simp
 simp only [tot] at h3
 omega
end Go.Proofs.YtlijjnjpomnphaaGreatDoorY
namespace Go.Proofs.YtlijjnjpomnphaaGreatDoorG
open Go.RowKit YtlijjnjpomnphaaGreatDoorH YtlijjnjpomnphaaGreatDoorB YtlijjnjpomnphaaGreatDoorC YtlijjnjpomnphaaGreatDoorM YtlijjnjpomnphaaGreatDoorP YtlijjnjpomnphaaGreatDoorY YtlijjnjpomnphaaGreatDoor.S YtlijjnjpomnphaaGreatDoorW.PrintWords YtlijjnjpomnphaaGreatDoorW.PrintLast
theorem str_size (l : List Int) : (strOfNums l).size = l.length := by
 show (strOfNums l).data.size = _
 simp [strOfNums]
theorem joinB_tot : ∀ l : List (List Int), (joinB (l.map strOfNums)).size = tot l
 | [] => rfl
 | w :: l => by
  have h := joinB_tot l
  unfold joinB at h ⊢
  simp only [List.map_cons, List.foldr_cons, tot]
  rw [ByteArray.size_append, h, str_size]
theorem isAn_iff {c : Int} (h : isAn c = true) : (48 ≤ c ∧ c ≤ 57) ∨ (97 ≤ c ∧ c ≤ 122) := by
 unfold isAn isD isL at h
 rw [Bool.or_eq_true, decide_eq_true_eq, decide_eq_true_eq] at h
 exact h
theorem isAn_low {c : Int} (h : isAn c = true) : low c = c := by
 have := isAn_iff h
 unfold low
 rw [if_neg (by omega)]
theorem an_low {w : List Int} (h : ∀ c ∈ w, isAn c = true) : w.map low = w := by
 calc w.map low = w.map id := List.map_congr_left (fun c hc => isAn_low (h c hc))
  _ = w := List.map_id w
theorem plain_an {w : List Int} (h : ∀ c ∈ w, isAn c = true) (hl : w.length ≤ 1000000) : Plain (strOfNums w) := by
 have hb : bytesOf (strOfNums w) = w := B_str (fun c hc => by have := isAn_iff (h c hc); omega)
 have e : bt (strOfNums w) 0 = w.getD 0 0 := by
  have := zdd (strOfNums w) 0
  rw [hb] at this
  exact this
 unfold Plain
 rw [e, str_size]
 cases w with
 | nil => exact ⟨hl, by decide, by decide⟩
 | cons c r =>
  have := isAn_iff (h c List.mem_cons_self)
  exact ⟨hl, by show c ≠ 45; omega, by show c ≠ 43; omega⟩
theorem spell_pos {w : List Int} (h : w ∈ Go.Proofs.YtlijjnjpomnphaaGreatDoorY.preC) : 0 < (strOfNums (spell w)).size := by
 rw [str_size]
 simp only [Go.Proofs.YtlijjnjpomnphaaGreatDoorY.preC, List.mem_cons, List.not_mem_nil, or_false] at h
 rcases h with rfl | rfl | rfl | rfl | rfl | rfl | rfl | rfl <;> decide
theorem txtL_len (l : List Int) : (txtL l).length ≤ l.length := by
 unfold txtL
 have h1 := (unV_suf ((l.map low).drop (run isBl (l.map low)))).length_le
 rw [List.length_drop, List.length_map] at h1
 omega
theorem valL_ok (l : List Int) (hl : l.length ≤ 100000) : YOk (valL l) := by
 unfold valL
 cases hv : codeV (txtL l) with
 | none =>
  refine ⟨fun p e => (by cases e), fun s hs => (by cases hs), ?_, fun _ => rfl⟩
  show (joinB ((parts (l.map low)).map strOfNums)).size ≤ _
  rw [joinB_tot]
  have := parts_tot (l.map low)
  rw [List.length_map] at this
  omega
 | some v =>
  have hw := codeV_W hv
  have ht := txtL_len l
  refine ⟨fun p e => ?_, fun s hs => ?_, ?_, fun e => absurd rfl e⟩
  ·have e2 : v.pre.map toldL = some p := e
   cases hp : v.pre with
   | none => rw [hp] at e2; cases e2
   | some x =>
    obtain ⟨w, d⟩ := x
    rw [hp] at e2
    injection e2 with e2
    subst e2
    exact spell_pos (hw.pre w d hp)
  ·have hs2 : s ∈ (v.loc.map (List.map low)).map strOfNums := hs
   obtain ⟨a, ha, rfl⟩ := List.mem_map.1 hs2
   obtain ⟨w, hw2, rfl⟩ := List.mem_map.1 ha
   have h3 := hw.loc w hw2
   rw [an_low h3.2]
   exact plain_an h3.2 (by omega)
  ·show (joinB []).size ≤ _
   decide
def GL (w : World) : Prop := GLe w
theorem GL.at {w w' : World} (h : GL w) (hb : Below w.heap.size w w') : GL w' := GLe.below h hb (Nat.le_refl _)
def ascL (l : List Int) : Bool := l.all fun c => decide (c ≤ 127)
theorem ascL_mem {l : List Int} (h : ascL l = true) : ∀ c ∈ l, c ≤ 127 := fun c hc => of_decide_eq_true (List.all_eq_true.1 h c hc)
def POk (s : ByteArray) : Prop := s.size ≤ 100000 ∧ ascL (bytesOf s) = true
instance (s : ByteArray) : Decidable (POk s) := inferInstanceAs (Decidable (_ ∧ _))
theorem POk.ev {s : ByteArray} (h : POk s) : ∃ x, Ev (fun k => parseY k s) x ∧ x.num = valL (bytesOf s) := parseY_val s h.1 (ascL_mem h.2)
theorem POk.ok {s : ByteArray} (h : POk s) : YOk (valL (bytesOf s)) := valL_ok _ (by rw [bytesOf_length]; exact h.1)
def impl_PyPICompareText.f (a0 a1 : ByteArray) : Option (Int × Bool) := if POk a0 ∧ POk a1 then some (yC (valL (bytesOf a0)) (valL (bytesOf a1)), true) else none
end Go.Proofs.YtlijjnjpomnphaaGreatDoorG
end
section
namespace Go.Proofs.YtlijjnjpomnphaaGreatDoorG
open Go.RowKit YtlijjnjpomnphaaGreatDoorH YtlijjnjpomnphaaGreatDoorB YtlijjnjpomnphaaGreatDoorM YtlijjnjpomnphaaGreatDoorP YtlijjnjpomnphaaGreatDoorY YtlijjnjpomnphaaGreatDoorW.PrintWords YtlijjnjpomnphaaGreatDoorW.PrintLast
def Lw (l : List Int) : Prop := ∀ c ∈ l, low c = c
theorem Lw.id {l : List Int} (h : Lw l) : l.map low = l := by
 calc l.map low = l.map _root_.id := List.map_congr_left (fun c hc => h c hc)
  _ = l := List.map_id _
theorem Lw.nil : Lw [] := fun c h => by simp at h
theorem Lw.app {a b : List Int} (h1 : Lw a) (h2 : Lw b) : Lw (a ++ b) := fun c hc => by
 rcases List.mem_append.1 hc with h | h
 ·exact h1 c h
 ·exact h2 c h
theorem Lw.cons {x : Int} {b : List Int} (h1 : low x = x) (h2 : Lw b) : Lw (x :: b) := fun c hc => by
 rcases List.mem_cons.1 hc with rfl | h
 ·exact h1
 ·exact h2 c h
theorem Lw.dig {d : List Int} (h : ∀ c ∈ d, isD c = true) : Lw d := fun c hc => by
 have := h c hc
 unfold isD at this
 have := of_decide_eq_true this
 unfold low
 rw [if_neg (by omega)]
theorem Lw.an {d : List Int} (h : ∀ c ∈ d, isAn c = true) : Lw d := fun c hc => isAn_low (h c hc)
theorem Lw.relT : ∀ {ds : List (List Int)}, (∀ d ∈ ds, Digs d) → Lw (relT ds)
 | [], _ => Lw.nil
 | [d], h => Lw.dig (h d List.mem_cons_self).2
 | d :: e :: ds, h => (Lw.dig (h d List.mem_cons_self).2).app (Lw.cons (by decide) (Lw.relT (fun x hx => h x (List.mem_cons_of_mem _ hx))))
theorem Lw.joinW : ∀ {ws : List (List Int)}, (∀ w ∈ ws, GoodW w) → Lw (joinW ws)
 | [], _ => Lw.nil
 | [w], h => Lw.an (h w List.mem_cons_self).an
 | w :: v :: ws, h => (Lw.an (h w List.mem_cons_self).an).app (Lw.cons (by decide) (Lw.joinW (fun x hx => h x (List.mem_cons_of_mem _ hx))))
theorem Lw.text {p : Parts} (h : p.Ok) : Lw p.text := by
 unfold Parts.text
 refine Lw.app ?_ ((Lw.relT h.rel.2).app (Lw.app ?_ (Lw.app ?_ (Lw.app ?_ ?_))))
 ·cases e : p.ep with
  | none => exact Lw.nil
  | some x => exact (Lw.dig (h.ep x e).2).app (Lw.cons (by decide) Lw.nil)
 ·cases e : p.pre with
  | none => exact Lw.nil
  | some x =>
   obtain ⟨h1, h2⟩ := h.pre x e
   refine Lw.app ?_ (Lw.dig h1.2)
   simp only [List.mem_cons, List.not_mem_nil, or_false] at h2
   rcases h2 with e | e | e <;> (rw [e]; unfold Lw; decide)
 ·cases e : p.post with
  | none => exact Lw.nil
  | some x => exact Lw.cons (by decide) (Lw.app (by unfold Lw; decide) (Lw.dig (h.post x e).2))
 ·cases e : p.dev with
  | none => exact Lw.nil
  | some x => exact Lw.cons (by decide) (Lw.app (by unfold Lw; decide) (Lw.dig (h.dev x e).2))
 ·unfold locT
  split
  ·exact Lw.nil
  ·rename_i w ws e
   exact Lw.cons (by decide) (Lw.joinW (fun x hx => h.loc x (by rw [e]; exact hx)))
theorem text_head {p : Parts} (h : p.Ok) : ∃ c r, p.text = c :: r ∧ isD c = true := by
 unfold Parts.text
 cases e : p.ep with
 | some x =>
  obtain ⟨c, r, rfl, hc⟩ := (h.ep x e).cons
  exact ⟨c, _, rfl, hc⟩
 | none =>
  cases e2 : p.rel with
  | nil => exact absurd e2 h.rel.1
  | cons d ds =>
   obtain ⟨c, r, rfl, hc⟩ := (h.rel.2 d (by rw [e2]; exact List.mem_cons_self)).cons
   cases ds with
   | nil => exact ⟨c, _, rfl, hc⟩
   | cons e ds => exact ⟨c, _, rfl, hc⟩
theorem txt_built {p : Parts} (h : p.Ok) {X : List Int} (hX : X.map low = p.text) : txtL X = p.text := by
 obtain ⟨c, r, e, hc⟩ := text_head h
 unfold txtL
 rw [hX, e]
 unfold isD at hc
 have hc := of_decide_eq_true hc
 have hb : isBl c = false := by unfold isBl; rw [decide_eq_false_iff_not]; omega
 rw [zqc hb, List.drop_zero]
 show (if c = 118 then r else c :: r) = c :: r
 rw [if_neg (by omega)]
theorem valL_built {p : Parts} (h : p.Ok) {X : List Int} (hX : X.map low = p.text) : valL X = valP p.told := by
 unfold valL
 rw [txt_built h hX, codeV_built h]
theorem told_val {p : Parts} (h : p.Ok) : valP p.told = ⟨decL (p.ep.getD []), p.rel.map decL, p.pre.map toldL, p.post.map fun d => toldL (wPost, d), p.dev.map fun d => toldL (wDev, d), (if p.loc = [] then [[]] else p.loc).map strOfNums, []⟩ := by
 unfold valP Parts.told
 have e : ((if p.loc = [] then [[]] else p.loc).map (List.map low)) = if p.loc = [] then [[]] else p.loc := by
  by_cases h0 : p.loc = []
  ·rw [if_pos h0]; rfl
  ·rw [if_neg h0]
   calc p.loc.map (List.map low) = p.loc.map _root_.id := List.map_congr_left (fun w hw => an_low (h.loc w hw).an)
    _ = p.loc := List.map_id _
 simp only [e, Option.map_map]
 rfl
theorem text_byte {p : Parts} (h : p.Ok) : ∀ c ∈ p.text, 33 ≤ c ∧ c ≤ 122 := by
 have key : ∀ l : List Int, (∀ c ∈ l, isAn c = true ∨ c = 33 ∨ c = 46 ∨ c = 43) → ∀ c ∈ l, 33 ≤ c ∧ c ≤ 122 := by
  intro l hl c hc
  rcases hl c hc with h | h
  ·have := isAn_iff h; omega
  ·omega
 have dA : ∀ {d : List Int}, Digs d → ∀ c ∈ d, isAn c = true ∨ c = 33 ∨ c = 46 ∨ c = 43 := fun hd c hc => .inl (by unfold isAn; rw [hd.2 c hc]; rfl)
 have rT : ∀ ds : List (List Int), (∀ d ∈ ds, Digs d) → ∀ c ∈ relT ds, isAn c = true ∨ c = 33 ∨ c = 46 ∨ c = 43 := by
  intro ds
  induction ds with
  | nil => intro _ c hc; simp [relT] at hc
  | cons d ds ih =>
   intro hd c hc
   cases ds with
   | nil => exact dA (hd d List.mem_cons_self) c hc
   | cons e ds =>
    simp only [relT] at hc
    rcases List.mem_append.1 hc with hc | hc
    ·exact dA (hd d List.mem_cons_self) c hc
    ·rcases List.mem_cons.1 hc with hc | hc
     ·omega
     ·exact ih (fun x hx => hd x (List.mem_cons_of_mem _ hx)) c hc
 have jT : ∀ ws : List (List Int), (∀ w ∈ ws, GoodW w) → ∀ c ∈ joinW ws, isAn c = true ∨ c = 33 ∨ c = 46 ∨ c = 43 := by
  intro ws
  induction ws with
  | nil => intro _ c hc; simp [joinW] at hc
  | cons d ds ih =>
   intro hd c hc
   cases ds with
   | nil => exact .inl ((hd d List.mem_cons_self).an c hc)
   | cons e ds =>
    simp only [joinW] at hc
    rcases List.mem_append.1 hc with hc | hc
    ·exact .inl ((hd d List.mem_cons_self).an c hc)
    ·rcases List.mem_cons.1 hc with hc | hc
     ·omega
     ·exact ih (fun x hx => hd x (List.mem_cons_of_mem _ hx)) c hc
 refine key _ (fun c hc => ?_)
 unfold Parts.text at hc
 rcases List.mem_append.1 hc with hc | hc
 ·cases e : p.ep with
  | none => rw [e] at hc; simp [epT] at hc
  | some x =>
   rw [e] at hc
   rcases List.mem_append.1 hc with hc | hc
   ·exact dA (h.ep x e) c hc
   ·have := List.mem_singleton.1 hc; omega
 rcases List.mem_append.1 hc with hc | hc
 ·exact rT _ h.rel.2 c hc
 rcases List.mem_append.1 hc with hc | hc
 ·cases e : p.pre with
  | none => rw [e] at hc; simp [preT] at hc
  | some x =>
   rw [e] at hc
   obtain ⟨h1, h2⟩ := h.pre x e
   rcases List.mem_append.1 hc with hc | hc
   ·simp only [List.mem_cons, List.not_mem_nil, or_false] at h2
    refine .inl ?_
    have k1 : ∀ c ∈ ([97] : List Int), isAn c = true := by decide
    have k2 : ∀ c ∈ ([98] : List Int), isAn c = true := by decide
    have k3 : ∀ c ∈ wRc, isAn c = true := by decide
    rcases h2 with e | e | e
    ·rw [e] at hc; exact k1 c hc
    ·rw [e] at hc; exact k2 c hc
    ·rw [e] at hc; exact k3 c hc
   ·exact dA h1 c hc
 have wT : ∀ (w d : List Int) (hw : ∀ c ∈ w, isAn c = true) (ho : Digs d) (c : Int), c ∈ 46 :: (w ++ d) → isAn c = true ∨ c = 33 ∨ c = 46 ∨ c = 43 := by
  intro w d hw ho c hc
  rcases List.mem_cons.1 hc with hc | hc
  ·omega
  ·rcases List.mem_append.1 hc with hc | hc
   ·exact .inl (hw c hc)
   ·exact dA ho c hc
 rcases List.mem_append.1 hc with hc | hc
 ·cases e : p.post with
  | none => rw [e] at hc; simp [postT] at hc
  | some x => rw [e] at hc; exact wT wPost x (by decide) (h.post x e) c hc
 rcases List.mem_append.1 hc with hc | hc
 ·cases e : p.dev with
  | none => rw [e] at hc; simp [devT] at hc
  | some x => rw [e] at hc; exact wT wDev x (by decide) (h.dev x e) c hc
 ·unfold locT at hc
  split at hc
  ·simp at hc
  ·rename_i w ws e
   rcases List.mem_cons.1 hc with hc | hc
   ·omega
   ·exact jT (w :: ws) (fun x hx => h.loc x (by rw [e]; exact hx)) c hc
theorem low_byte {p : Parts} (h : p.Ok) {X : List Int} (hX : X.map low = p.text) : ∀ c ∈ X, 33 ≤ c ∧ c ≤ 122 := by
 intro c hc
 have h2 := text_byte h (low c) (by rw [← hX]; exact List.mem_map_of_mem hc)
 unfold low at h2
 split at h2 <;> omega
theorem asc_low {p : Parts} (h : p.Ok) {X : List Int} (hX : X.map low = p.text) : ascL X = true := List.all_eq_true.2 (fun c hc => decide_eq_true (by have := low_byte h hX c hc; omega))
theorem relT_len : ∀ ds : List (List Int), (∀ d ∈ ds, d.length ≤ 5) → (relT ds).length ≤ 6 * ds.length
 | [], _ => Nat.le_refl _
 | [d], h => by have := h d List.mem_cons_self; simp only [relT, List.length_cons, List.length_nil]; omega
 | d :: e :: ds, h => by
  have h1 := h d List.mem_cons_self
  have h2 := relT_len (e :: ds) (fun x hx => h x (List.mem_cons_of_mem _ hx))
  simp only [relT, List.length_append, List.length_cons] at h2 ⊢
  omega
theorem joinW_len : ∀ ws : List (List Int), (∀ w ∈ ws, w.length ≤ 1200) → (joinW ws).length ≤ 1201 * ws.length
 | [], _ => Nat.le_refl _
 | [d], h => by have := h d List.mem_cons_self; simp only [joinW, List.length_cons, List.length_nil]; omega
 | d :: e :: ds, h => by
  have h1 := h d List.mem_cons_self
  have h2 := joinW_len (e :: ds) (fun x hx => h x (List.mem_cons_of_mem _ hx))
  simp only [joinW, List.length_append, List.length_cons] at h2 ⊢
  omega
theorem locT_len (ws : List (List Int)) (h : ∀ w ∈ ws, w.length ≤ 1200) : (locT ws).length ≤ 1201 * ws.length + 1 := by
 cases ws with
 | nil => exact Nat.zero_le _
 | cons w ws =>
  have := joinW_len (w :: ws) h
  show (43 :: joinW (w :: ws)).length ≤ _
  rw [List.length_cons]
  omega
end Go.Proofs.YtlijjnjpomnphaaGreatDoorG
end
section
namespace Go.Proofs.YtlijjnjpomnphaaGreatDoorG
open Go.RowKit YtlijjnjpomnphaaGreatDoorH YtlijjnjpomnphaaGreatDoorB YtlijjnjpomnphaaGreatDoorM YtlijjnjpomnphaaGreatDoorW.PrintWords YtlijjnjpomnphaaGreatDoorW.PrintLast
def BC (n : Int) : Value := .int .u8 n
def Bs (w : World) (B : Nat) (l : List Int) : Prop := w.heap[B]? = some (.cells (l.map BC).toArray 5 (0, 0))
theorem Bs.cell {w : World} {B : Nat} {l : List Int} (h : Bs w B l) (i : Nat) (hi : i < l.length) : w.cell? ⟨B, i, none⟩ = some (.int .u8 (l.getD i 0)) := by
 unfold Bs at h
 simp [World.cell?, h, hi, BC, List.getD_eq_getElem?_getD]
theorem Bs.free {w : World} {B : Nat} {l : List Int} (h : Bs w B l) (i : Nat) : w.frozen? ⟨B, i, none⟩ = false := by
 unfold Bs at h
 simp [World.frozen?, h]
theorem Bs.set {w : World} {B : Nat} {l : List Int} (h : Bs w B l) (i : Nat) (v : Int) : Bs (w.setCell ⟨B, i, none⟩ (.int .u8 v)) B (l.set i v) := by
 unfold Bs at h ⊢
 have e1 : (w.setCell ⟨B, i, none⟩ (.int .u8 v)).heap[B]? = some (.cells ((l.map BC).toArray.setIfInBounds i (BC v)) 5 (0, 0)) := by
  simp [World.setCell, Array.getElem?_modify, h, BC]
 rw [e1]
 congr 2
 apply Array.toList_inj.1
 simp [List.map_set]
theorem Bs.below {w w' : World} {B : Nat} {l : List Int} (h : Bs w B l) (hb : Below w.heap.size w w') : Bs w' B l := by
 unfold Bs at h ⊢
 rw [hb.block B (Array.getElem?_eq_some_iff.1 h).1]
 exact h
def b8 (x j : Nat) : Int := ((x / 256 ^ j % 256 : Nat) : Int)
def bsx (x : Nat) : Nat → List Int
 | 0 => []
 | j + 1 => bsx x j ++ [b8 x j]
theorem bsx_len (x : Nat) : ∀ j, (bsx x j).length = j
 | 0 => rfl
 | j + 1 => by simp [bsx, bsx_len x j]
theorem bsx_byt (x : Nat) : ∀ j, Byt (bsx x j)
  | 0 => fun c hc => by simp [bsx] at hc
  | j + 1 => (bsx_byt x j).append (fun c hc => by have : c = b8 x j := by simpa using hc
                                                  subst this; unfold b8; omega)
theorem bsx_val (x : Nat) : ∀ j, val (bsx x j) = x % 256 ^ j
 | 0 => by simp [bsx, val, Nat.mod_one]
 | j + 1 => by
  simp only [bsx]
  rw [zbh, bsx_val x j, bsx_len]
  unfold b8
  rw [Int.toNat_natCast, Nat.pow_succ, Nat.mod_mul]
def lb : List Nat → List Int
 | [] => []
 | x :: l => bsx x 8 ++ lb l
theorem lb_len : ∀ l, (lb l).length = 8 * l.length
 | [] => rfl
 | x :: l => by simp only [lb, List.length_append, bsx_len, lb_len l, List.length_cons]; omega
theorem lb_byt : ∀ l, Byt (lb l)
 | [] => fun c hc => by simp [lb] at hc
 | x :: l => (bsx_byt x 8).append (lb_byt l)
theorem lb_snoc : ∀ (l : List Nat) (x : Nat), lb (l ++ [x]) = lb l ++ bsx x 8
 | [], x => by simp [lb]
 | y :: l, x => by simp only [List.cons_append, lb, lb_snoc l x, List.append_assoc]
theorem val_append : ∀ (a b : List Int), val (a ++ b) = val a + 256 ^ a.length * val b
 | [], b => by simp [val]
 | x :: a, b => by
  simp only [List.cons_append, val, val_append a b, List.length_cons, Nat.pow_succ]
  rw [Nat.mul_add, Nat.mul_comm (256 ^ a.length) 256, Nat.mul_assoc, Nat.add_assoc]
theorem lb_val : ∀ l : List Nat, (∀ x ∈ l, IsW x) → val (lb l) = num l
 | [], _ => rfl
 | x :: l, h => by
  simp only [lb, num]
  have hx := h x List.mem_cons_self
  unfold IsW at hx
  have e : (256 : Nat) ^ 8 = W64 := by decide
  rw [val_append, bsx_val, bsx_len, lb_val l (fun y hy => h y (List.mem_cons_of_mem _ hy)), e, Nat.mod_eq_of_lt hx]
def zmd (L : Nat) (t : List Int) : List Int := List.replicate (L - t.length) 0 ++ t.reverse
theorem content_len {L : Nat} {t : List Int} (h : t.length ≤ L) : (zmd L t).length = L := by simp [zmd]; omega
theorem zoh {L : Nat} {t : List Int} (b : Int) (h : t.length < L) : (zmd L t).set (L - t.length - 1) b = zmd L (t ++ [b]) := by
 unfold zmd
 have e : L - t.length = (L - t.length - 1) + 1 := by omega
 have e2 : L - (t ++ [b]).length = L - t.length - 1 := by simp; omega
 rw [e2, e, List.replicate_succ', List.append_assoc, List.reverse_append]
 rw [List.set_append]
 simp
theorem zmh (L : Nat) {t : List Int} (h : t.length = L) : zmd L t = t.reverse := by
 unfold zmd
 rw [h, Nat.sub_self]
 rfl
theorem meas8 (j : Nat) (h : j < 8) : 8 - (intOf (.int .i64 ((j + 1 : Nat) : Int))).toNat < 8 - (intOf (.int .i64 (j : Int))).toNat := by
 simp only [intOf]
 omega
theorem shr8 (x j : Nat) : x / 256 ^ j / 256 = x / 256 ^ (j + 1) := by rw [Nat.pow_succ, Nat.div_div_eq_div_mul]
theorem zag (l : List Int) (i : Nat) (h : ∀ j, j < i → l.getD j 0 = 0) (hi : i ≤ l.length) (hs : i = l.length ∨ l.getD i 0 ≠ 0) : l.drop i = l.dropWhile (fun x => decide (x = 0)) := by
 induction l generalizing i with
 | nil => simp
 | cons x l ih =>
  cases i with
  | zero =>
   rcases hs with hs | hs
   ·simp at hs
   ·have : x ≠ 0 := hs
    rw [List.dropWhile_cons_of_neg (by simpa using this)]
    rfl
  | succ i =>
   have hx : x = 0 := h 0 (by omega)
   rw [List.dropWhile_cons_of_pos (by simpa using hx), List.drop_succ_cons]
   refine ih i (fun j hj => h (j + 1) (by omega)) (by simpa using hi) ?_
   rcases hs with hs | hs
   ·left; simpa using hs
   ·right; exact hs
theorem bytes_ (w : World) (B By : Nat) (vx : Value) (l : List Nat) (hx : NatS w By vx l) (hl : l.length ≤ 1000000) (hB : Bs w B (List.replicate (8 * l.length) 0)) (hne : ∀ g n c, vx = .slice (some ⟨g, 0, none⟩) n c → g ≠ B) :
  Calls Tryz.prog 138 #[vx, .slice (some ⟨B, 0, none⟩) (8 * l.length) (8 * l.length)] w fun e w' => ∃ i : Nat, e = .returned (.int .i64 (i : Int)) ∧ i ≤ 8 * l.length ∧ Bs w' B (lb l).reverse ∧ (lb l).reverse.drop i = (lb l).reverse.dropWhile (fun x => decide (x = 0)) ∧ w.grownBy w' (some B) := by
 obtain ⟨g, c, p, rfl, rx⟩ := hx.reads
 have hne2 : l.length ≠ 0 → g ≠ B := fun h => hne g _ _ (by rw [(rx h).1])
 obtain ⟨L, hL⟩ : ∃ L, L = 8 * l.length := ⟨_, rfl⟩
 rw [← hL] at hB
 have eL : ((8 * l.length : Nat)) = L := hL.symm
 rw [eL]
 have RX := za.mk rx
 have NE := za.mk hne2
 have HL := za.mk (And.intro hL hl)
 have HB := za.mk hB
 clear hne2 hne rx hB hL eL hl hx
 go_enter Tryz.func138, Tryz.ntmps138
 go_wp2
 go_loopw [4, 12] (fun iv kv wr => ∃ k : Nat, k ≤ l.length ∧ iv = .int .i64 ((L - 8 * k : Nat) : Int) ∧ kv = .int .i64 (k : Int) ∧ za (Bs wr B (zmd L (lb (l.take k)))) ∧ za (w.grownBy wr (some B))) (fun _ kv _ => l.length - (intOf kv).toNat)
 case atStart => exact ⟨0, Nat.zero_le _, by simp, rfl, ⟨by simpa [zmd, lb] using HB.out⟩, ⟨gr_refl w _⟩⟩
 case round =>
  obtain ⟨k, hk, rfl, rfl, hb, hg⟩ := hrel
  by_cases hlt : k < l.length
  ·obtain ⟨hp, hc⟩ := RX.out (by omega)
   subst hp
   have hgB := NE.out (by omega)
   have hc0 := hc k hlt
   have hgl : g < w.heap.size := by
    rcases Nat.lt_or_ge g w.heap.size with h | h
    ·exact h
    ·unfold World.cell? at hc0
     rw [Array.getElem?_eq_none h] at hc0
     cases hc0
   have hcw : wr.cell? ⟨g, k, none⟩ = some (.int .u64 (l.getD k 0 : Nat)) := by
    rw [← hc0]
    exact World.cell?_of_block (hg.out.block g hgl (fun e => hgB (Option.some.inj e)))
   obtain ⟨x, hx⟩ : ∃ x, x = l.getD k 0 := ⟨_, rfl⟩
   rw [← hx] at hcw
   have HX := za.mk hx
   have LT := za.mk hlt
   have i3 : decide ((k : Int) < (l.length : Int)) = true := decide_eq_true (by omega)
   have i4 : ((k : Int) < (l.length : Int)) = True := eq_true (by omega)
   have i5 : (0 ≤ (k : Int)) = True := eq_true (by omega)
   have START : za (Bs wr B (zmd L (lb (l.take k) ++ bsx x 0))) := ⟨by simpa [bsx] using hb.out⟩
   clear hc hc0 hgl hgB hx hlt hk
   go_wp2
   go_loopw [4, 6, 7] (fun iv dv jv wr2 => ∃ j : Nat, j ≤ 8 ∧ iv = .int .i64 ((L - 8 * k - j : Nat) : Int) ∧ dv = .int .u64 ((x / 256 ^ j : Nat) : Int) ∧ jv = .int .i64 (j : Int) ∧ za (Bs wr2 B (zmd L (lb (l.take k) ++ bsx x j))) ∧ za (w.grownBy wr2 (some B))) (fun _ _ jv _ => 8 - (intOf jv).toNat)
   case atStart => exact ⟨0, Nat.zero_le _, by simp, by simp, rfl, START, hg⟩
   case round =>
    obtain ⟨j, hj, rfl, rfl, rfl, hb2, hg2⟩ := hrel
    clear hb hg
    by_cases hj8 : j < 8
    ·have F := za.mk (And.intro hj8 (And.intro HL.out.1 LT.out))
     have htl : (lb (l.take k) ++ bsx x j).length = 8 * k + j := by
      rw [List.length_append, lb_len, bsx_len, List.length_take]
      have := LT.out
      omega
     have hct : (zmd L (lb (l.take k) ++ bsx x j)).length = L := content_len (by rw [htl]; have := F.out; omega)
     obtain ⟨i, hi⟩ : ∃ i, i = L - 8 * k - j - 1 := ⟨_, rfl⟩
     have e1 : ((L - 8 * k - j : Nat) : Int) - 1 = (i : Int) := by have := F.out; omega
     have e2 : wrap64 (i : Int) = (i : Int) := by have := HL.out; unfold wrap64; omega
     have j1 : decide ((j : Int) < 8) = true := decide_eq_true (by omega)
     have j2 : decide (j < 8) = true := decide_eq_true hj8
     have i0 : decide (0 ≤ (i : Int)) = true := decide_eq_true (by omega)
     have i1 : (0 ≤ (i : Int)) = True := eq_true (by omega)
     have i2 : ((i : Int) < (L : Int)) = True := eq_true (by have := F.out; omega)
     have yc := hb2.out.cell i (by rw [hct]; have := F.out; omega)
     have yf := hb2.out.free i
     obtain ⟨d, hd⟩ : ∃ d, d = x / 256 ^ j := ⟨_, rfl⟩
     have hset := hb2.out.set i ((d : Int) % 256)
     have hb8 : (d : Int) % 256 = b8 x j := by unfold b8; rw [← hd]; omega
     have hbi : i = L - (lb (l.take k) ++ bsx x j).length - 1 := by rw [htl]; omega
     rw [hb8] at hset
     rw [hbi, zoh _ (by rw [htl]; have := F.out; omega), ← hbi, List.append_assoc] at hset
     have hset2 : Bs (wr.setCell ⟨B, i, none⟩ (.int .u8 ((d : Int) % 256))) B (zmd L (lb (l.take k) ++ bsx x (j + 1))) := by rw [hb8]; exact hset
     have SET := za.mk hset2
     have HD := za.mk hd
     have HI := za.mk hi
     have ej : wrap64 ((j : Int) + 1) = ((j + 1 : Nat) : Int) := by unfold wrap64; omega
     rw [← hd]
     clear hj8 hj hi hset hset2 hb8 hbi hct htl hd hb2
     go_wp2
     go_roundw
     case rel =>
      refine ⟨j + 1, F.out.1, ?_, ?_, by first | rfl | go_num | rw [ej], SET, ⟨gr_set hg2.out (.inl rfl) _ _⟩⟩
      ·have h1 := HI.out; have h2 := F.out; congr 1; omega
      ·rw [← shr8, ← HD.out]; congr 1
     case measure => first | exact meas8 j F.out.1 | (rw [ej]; exact meas8 j F.out.1)
    ·obtain rfl : j = 8 := by omega
     have hdone : Bs wr B (zmd L (lb (l.take (k + 1)))) := by
      have e : l.take (k + 1) = l.take k ++ [x] := by
       rw [List.take_add_one, HX.out, List.getD_eq_getElem?_getD, List.getElem?_eq_getElem LT.out]
       rfl
      rw [e, lb_snoc]
      exact hb2.out
     have DONE := za.mk hdone
     have j1 : decide ((8 : Int) < 8) = false := by decide
     have ek : wrap64 ((k : Int) + 1) = ((k + 1 : Nat) : Int) := by have := HL.out; have := LT.out; unfold wrap64; omega
     have IE : za (((L - 8 * k - 8 : Nat) : Int) = ((L - 8 * (k + 1) : Nat) : Int)) := ⟨by congr 1⟩
     clear hj8 hj hdone hb2
     go_wp2
     go_roundw
     case rel => exact ⟨k + 1, LT.out, by rw [← IE.out], by first | rfl | go_num | rw [ek], DONE, hg2⟩
     case measure => first | exact znf _ k LT.out | exact meas_up1 _ k LT.out | exact zfg _ k LT.out ek
  ·obtain rfl : k = l.length := by omega
   have i3 : decide ((l.length : Int) < (l.length : Int)) = false := decide_eq_false (by omega)
   have i4 : ((l.length : Int) < (l.length : Int)) = False := eq_false (by omega)
   have e0 : ((L - 8 * l.length : Nat) : Int) = 0 := by have := HL.out; omega
   have hdone : Bs wr B (lb l).reverse := by
    have h := hb.out
    rw [List.take_length, zmh L (by rw [lb_len]; exact HL.out.1.symm)] at h
    exact h
   have hlen : (lb l).reverse.length = L := by rw [List.length_reverse, lb_len]; exact HL.out.1.symm
   obtain ⟨bs, hbs⟩ : ∃ bs, bs = (lb l).reverse := ⟨_, rfl⟩
   rw [← hbs] at hdone hlen
   rw [e0]
   have HBS := za.mk hbs
   have DONE := za.mk hdone
   have LEN := za.mk hlen
   clear hb hk hlt hdone hlen hbs e0
   go_wp2
   go_loopw [4] (fun iv wr2 => ∃ i : Nat, i ≤ L ∧ iv = .int .i64 (i : Int) ∧ za (∀ j, j < i → bs.getD j 0 = 0) ∧ za (Bs wr2 B bs) ∧ za (w.grownBy wr2 (some B))) (fun iv _ => L - (intOf iv).toNat)
   case atStart => exact ⟨0, Nat.zero_le _, rfl, ⟨fun j hj => by omega⟩, DONE, hg⟩
   case round =>
    obtain ⟨i, hi, rfl, hz, hb2, hg2⟩ := hrel
    clear hg
    have hi2 := za.mk hi
    by_cases hlt : i < L
    ·have LT := za.mk hlt
     have i5 : decide ((i : Int) < (L : Int)) = true := decide_eq_true (by omega)
     have i5n : decide (i < L) = true := decide_eq_true hlt
     have i6 : ((i : Int) < (L : Int)) = True := eq_true (by omega)
     have i7 : (0 ≤ (i : Int)) = True := eq_true (by omega)
     have yc := hb2.out.cell i (by rw [LEN.out]; exact hlt)
     obtain ⟨y, hy⟩ : ∃ y, y = bs.getD i 0 := ⟨_, rfl⟩
     rw [← hy] at yc
     have HY := za.mk hy
     have ei : wrap64 ((i : Int) + 1) = ((i + 1 : Nat) : Int) := by have := HL.out; unfold wrap64; omega
     by_cases h0 : y = 0
     ·have y1 : (y == 0) = true := by simpa using h0
      have H0 := za.mk h0
      clear hlt hi hy h0
      go_wp2
      (try go_quiet (fail))
      go_wp2
      go_roundw
      case rel =>
       refine ⟨i + 1, LT.out, by first | rfl | go_num | rw [ei], ⟨fun j hj => ?_⟩, ⟨hb2.out.below (by repeat (first | exact Below.refl _ _ | apply ze | apply zvb))⟩, ⟨gr_below hg2.out (by repeat (first | exact Below.refl _ _ | apply ze | apply zvb))⟩⟩
       rcases Nat.lt_or_ge j i with h | h
       ·exact hz.out j h
       ·have : j = i := by omega
        rw [this, ← HY.out]; exact H0.out
      case measure => first | exact znf _ i LT.out | exact meas_up1 _ i LT.out | exact zfg _ i LT.out ei
     ·have y1 : (y == 0) = false := by simpa using h0
      have H0 := za.mk h0
      clear hlt hi hy h0
      go_wp2
      (try go_quiet (fail))
      go_wp2
      go_ret
      rw [← HBS.out]
      refine ⟨i, rfl, hi2.out, hb2.out.below (by repeat (first | exact Below.refl _ _ | apply ze | apply zvb)), zag bs i hz.out (by rw [LEN.out]; exact hi2.out) (.inr (by rw [← HY.out]; exact H0.out)), gr_below hg2.out (by repeat (first | exact Below.refl _ _ | apply ze | apply zvb))⟩
    ·obtain rfl : i = L := by omega
     have i5 : decide ((i : Int) < (i : Int)) = false := decide_eq_false (by omega)
     have i6 : ((i : Int) < (i : Int)) = False := eq_false (by omega)
     clear hlt hi
     go_wp2
     (try go_quiet (fail))
     go_wp2
     go_ret
     rw [← HBS.out]
     refine ⟨i, rfl, hi2.out, hb2.out.below (by repeat (first | exact Below.refl _ _ | apply ze | apply zvb)), zag bs i hz.out (by rw [LEN.out]; exact hi2.out) (.inl LEN.out.symm), gr_below hg2.out (by repeat (first | exact Below.refl _ _ | apply ze | apply zvb))⟩
def SgAt (w : World) (a : Nat) (ng : Bool) (n : Nat) : Prop := ∃ v l, Bg w a ng v ∧ NatS w 0 v l ∧ num l = n ∧ l = trimW l ∧ l.length ≤ 1000000 ∧ (n = 0 → ng = false)
theorem NatS.weak {w : World} {B : Nat} {v : Value} {l : List Nat} (h : NatS w B v l) : NatS w 0 v l := by
 rcases h with h | ⟨g, full, h1, h2, h3⟩
 ·exact .inl h
 ·exact .inr ⟨g, full, h1, Nat.zero_le _, h3⟩
theorem BigAt.sg {w : World} {a n : Nat} (h : BigAt w a n) : SgAt w a false n := by
 obtain ⟨v, l, h1, h2, h3⟩ := h
 exact ⟨v, l, h1, h2.weak, h3.1, h3.2.1, h3.2.2, fun _ => rfl⟩
theorem BigM.sg {w : World} {a : Nat} (h : BigM w a) : SgAt w a true 1 := by
 obtain ⟨v, h1, h2⟩ := h
 exact ⟨v, [1], h1, h2, by decide, by decide, by decide, fun e => by cases e⟩
theorem SgAt.below {w w' : World} {a n : Nat} {ng : Bool} (h : SgAt w a ng n) (hb : Below w.heap.size w w') : SgAt w' a ng n := by
 obtain ⟨v, l, h1, h2, h3⟩ := h
 exact ⟨v, l, h1.same (hb.block a h1.lt), h2.lt hb, h3⟩
def sgn (ng : Bool) (n : Nat) : Int := if n = 0 then 0 else if ng = true then -1 else 1
theorem sign_ (w : World) (a n : Nat) (ng : Bool) (h : SgAt w a ng n) :
  Calls Tryz.prog 111 #[.pointer (some ⟨a, 0, none⟩)] w fun e w' => e = .returned (.int .i64 (sgn ng n)) ∧ Below w.heap.size w w' := by
 obtain ⟨v, l, h1, h2, h3, h4, h5, h6⟩ := h
 have HB := za.mk (Below.refl w.heap.size w)
 obtain ⟨g, c, p, rfl, _⟩ := h2.reads
 unfold Bg at h1
 have x0 := (zf h1 0).trans rfl
 have x1 := (zf h1 1).trans rfl
 by_cases h0 : l.length = 0
 ·have hl : l = [] := List.length_eq_zero_iff.1 h0
  have hn : n = 0 := by rw [← h3, hl]; rfl
  unfold sgn
  rw [if_pos hn]
  have b1 : ((l.length : Int) == 0) = true := by rw [beq_iff_eq]; omega
  have b2 : ((l.length : Int) = 0) = True := eq_true (by omega)
  clear h2 h3 h4 h1 hl hn h0 h5 h6
  go_enter Tryz.func111, Tryz.ntmps111
  go_wp2
  go_ret
  exact ⟨rfl, HB.out⟩
 ·have hn : n ≠ 0 := by
   rw [← h3]
   have := num_low l h4 (by omega)
   have h5 : 0 < W64 ^ (l.length - 1) := Nat.pow_pos W64_pos
   omega
  unfold sgn
  rw [if_neg hn]
  have b1 : ((l.length : Int) == 0) = false := by rw [beq_eq_false_iff_ne]; omega
  have b2 : ((l.length : Int) = 0) = False := eq_false (by omega)
  clear h2 h3 h4 h1 h5 h6 hn h0
  cases ng with
  | true =>
   go_enter Tryz.func111, Tryz.ntmps111
   go_wp2
   go_ret
   exact ⟨rfl, HB.out⟩
  | false =>
   go_enter Tryz.func111, Tryz.ntmps111
   go_wp2
   go_ret
   exact ⟨rfl, HB.out⟩
theorem infoByte : (Tryz.prog.info? 5).map (fun i => (i.zero, i.size, i.bytes)) = some (some (.int .u8 0), 1, 1) := by kernel_rfl
theorem make_bytes (n : Nat) (hn : n ≤ 1099511627776) : ∀ W : World, (Instr.makeSlice 116 (.int .i64 (n : Int)) (.int .i64 (n : Int))).run Tryz.prog W = .ok (.slice (some ⟨W.heap.size, 0, none⟩) n n) (W.alloc (.cells (Array.replicate n (BC 0)) 5)) := by
 intro W
 obtain ⟨i, hi, hzz⟩ := Option.map_eq_some_iff.1 infoByte
 simp only [Prod.mk.injEq] at hzz
 obtain ⟨hz0, hz1, hz2⟩ := hzz
 have h := run_make (P := Tryz.prog) W 116 5 i _ Tryz.underlying116 hi hz0 .i64 .i64 (n : Int) (n : Int) (by omega) (by omega) (by rw [hz2]; omega) (by omega)
 rw [h]
 simp only [Int.toNat_natCast, hz1, Nat.mul_one]
 congr 3
 apply Array.toList_inj.1
 apply List.ext_getElem
 ·simp [madeCells]
 ·intro i h1 h2
  simp [madeCells, Nat.mod_one, Value.cells, BC]
theorem bytesOf_ (w : World) (a n : Nat) (ng : Bool) (h : SgAt w a ng n) :
  Calls Tryz.prog 112 #[.pointer (some ⟨a, 0, none⟩)] w fun e w' => ∃ (A : Addr) (c : Nat), e = .returned (.slice (some A) (magL n).length c) ∧ zkd w' .u8 (some A) (magL n).length (magL n) ∧ Below w.heap.size w w' := by
 obtain ⟨v, l, h1, h2, h3, h4, h5, _⟩ := h
 have HB := za.mk (Below.refl w.heap.size w)
 have hmag : ∀ i : Nat, (lb l).reverse.drop i = (lb l).reverse.dropWhile (fun x => decide (x = 0)) → (lb l).reverse.drop i = magL n := fun i e => by
  rw [e]
  exact mag_drop (lb_byt l) ((lb_val l h2.words).trans h3)
 have hC := za.mk (fun W (hb : Below w.heap.size w W) (hB : Bs W w.heap.size (List.replicate (8 * l.length) 0)) => bytes_ W w.heap.size 0 v l (h2.lt hb) h5 hB (fun g m c e => by
  subst e
  rcases h2 with ⟨h, _⟩ | ⟨g2, full, h, _, hw, _⟩
  ·cases h
  ·have := hw.lt
   injection h with h _ _
   injection h with h
   injection h with h
   omega))
 have HBS : za (Bs (w.alloc (.cells (Array.replicate (8 * l.length) (BC 0)) 5)) w.heap.size (List.replicate (8 * l.length) 0)) := ⟨by
  unfold Bs
  rw [show ((List.replicate (8 * l.length) (0 : Int)).map BC).toArray = Array.replicate (8 * l.length) (BC 0) by simp]
  exact zjc w _⟩
 have hm := make_bytes (8 * l.length) (by omega)
 have em : wrap64 ((8 * l.length : Nat) : Int) = ((8 * l.length : Nat) : Int) := by unfold wrap64; omega
 have em2 : (l.length : Int) * 8 = ((8 * l.length : Nat) : Int) := by omega
 have HMAG := za.mk hmag
 have HLL := za.mk (lb_len l)
 obtain ⟨g, c, p, rfl, _⟩ := h2.reads
 unfold Bg at h1
 have x1 := (zf h1 1).trans rfl
 have y1 := (zf (zv h1 (.cells (Array.replicate (8 * l.length) (BC 0)) 5)) 1).trans rfl
 have HL5 := za.mk h5
 clear h1 h2 h3 h4 h5 hmag
 obtain ⟨L, hL⟩ : ∃ L, L = 8 * l.length := ⟨_, rfl⟩
 rw [← hL] at hC HBS hm em em2 y1 HLL
 have HL := za.mk hL
 clear hL
 go_enter Tryz.func112, Tryz.ntmps112
 go_wp2_with (first | (go_at_call 138; (with_reducible refine (hC.out _ (zg HB.out _) HBS.out).mono ?_); rintro e' w1 ⟨i, rfl, hi, hb, hd, hg⟩; have B1 := za.mk hb; have G1 := za.mk hg; have D1 := za.mk (HMAG.out i hd); have I1 := za.mk hi; clear hb hg hd))
 ·go_ret
  have hlen : (magL n).length = 0 := by rw [← D1.out, List.length_drop, List.length_reverse, HLL.out]; omega
  refine ⟨⟨w.heap.size, 0, none⟩, ⟨0, by rw [hlen]; rfl⟩, ⟨rfl, by omega, fun h => ?_⟩, gr_from (zg HB.out _) (by rw [zsc]; omega) G1.out (Nat.le_refl _)⟩
  omega
 ·go_ret
  have hlen : L - i = (magL n).length := by rw [← D1.out, List.length_drop, List.length_reverse, HLL.out]
  refine ⟨⟨w.heap.size, i, none⟩, ⟨L - i, by rw [← hlen]; rfl⟩, ⟨rfl, by have := HL.out; have := HL5.out; omega, fun _ => ⟨_, rfl, fun j hj => ?_⟩⟩, gr_from (zg HB.out _) (by rw [zsc]; omega) G1.out (Nat.le_refl _)⟩
  rw [show (⟨w.heap.size, i, none⟩ : Addr).add j = ⟨w.heap.size, i + j, none⟩ by simp [Addr.add], B1.out.cell (i + j) (by rw [List.length_reverse, HLL.out]; omega), ← D1.out]
  simp [List.getD_eq_getElem?_getD]
theorem zzPlain_ (w : World) (a n : Nat) (ng : Bool) (h : SgAt w a ng n) :
  Calls Tryz.prog 74 #[.pointer (some ⟨a, 0, none⟩)] w fun e w' => e = .returned (.agg #[.bool ng, .string (magB n)]) ∧ Below w.heap.size w w' := by
 have HB := za.mk (Below.refl w.heap.size w)
 have hS := za.mk (fun W (hb : Below w.heap.size w W) => sign_ W a n ng (h.below hb))
 have hY := za.mk (fun W (hb : Below w.heap.size w W) => bytesOf_ W a n ng (h.below hb))
 obtain ⟨s, hs⟩ : ∃ s : Int, s = sgn ng n := ⟨_, rfl⟩
 rw [← hs] at hS
 have s1 : decide (s < 0) = ng := by
  obtain ⟨_, _, _, _, _, _, _, h6⟩ := h
  rw [hs]
  unfold sgn
  by_cases h0 : n = 0
  ·rw [if_pos h0, h6 h0]; rfl
  ·rw [if_neg h0]; cases ng <;> rfl
 have MB : za (strOfNums (magL n) = magB n) := ⟨rfl⟩
 clear h hs
 go_enter Tryz.func74, Tryz.ntmps74
 go_wp2_with (first | (go_at_call 111; (with_reducible refine (hS.out _ (zg HB.out _)).mono ?_); rintro e' w1 ⟨rfl, hb⟩; have B1 := za.mk (zw (zg HB.out _) hb); have g1 := za.mk (zr (zjc w (.cells #[.bool false, .string ⟨#[]⟩] 77)) hb); clear hb) | (go_at_call 112; (with_reducible refine (hY.out _ B1.out).mono ?_); rintro e' w2 ⟨A, c, rfl, hr, hb⟩; have B2 := za.mk (zw B1.out hb); have g2 := zr g1.out hb; have cv := string_of_reads (P := Tryz.prog) (c := c) Tryz.underlying116 Tryz.underlying5 Tryz.underlying9 hr; have f0 := zi g2 0; have f1 := zi g2 1; have y0 := zf g2 0; have y1 := zf g2 1; have G2 := za.mk g2; clear hb hr g2))
 (try simp only [Exit.inBlock, Exit.then])
 refine bodyPost_ret (results_cell_row rfl _ _ w.heap.size 77 #[.bool ng, .string (strOfNums (magL n))] (0, 0) _ rfl (zm (zm G2.out 0 _ rfl) 1 _ rfl) Tryz.underlying77 rfl (by kernel_rfl)) rfl ?_
 exact ⟨by rw [MB.out], zo (zo B2.out (Nat.le_refl _)) (Nat.le_refl _)⟩
end Go.Proofs.YtlijjnjpomnphaaGreatDoorG
end
section
namespace Go.Proofs.YtlijjnjpomnphaaGreatDoor.Q
open Go.RowKit YtlijjnjpomnphaaGreatDoorH YtlijjnjpomnphaaGreatDoorG YtlijjnjpomnphaaGreatDoorW.PrintWords YtlijjnjpomnphaaGreatDoorW.PrintLast YtlijjnjpomnphaaGreatDoorW.PrintMore
attribute [local go_sem] zgd zhd zbe zce zxc zyc zfd zid
def errW : Option Int → Value
 | none => .nilIface
 | some c => .iface 0 (.int .i64 c)
theorem znb : errW none = .nilIface := rfl
theorem zmb (c : Int) : errW (some c) = .iface 0 (.int .i64 c) := rfl
theorem info5 : (Tryz.prog.info? 5).map (fun i => (i.zero, i.size, i.bytes)) = some (some (.int .u8 0), 1, 1) := by kernel_rfl
theorem info9 : (Tryz.prog.info? 9).map (fun i => (i.zero, i.size, i.bytes)) = some (some (.string ⟨#[]⟩), 1, 16) := by kernel_rfl
theorem info29 : (Tryz.prog.info? 29).map (fun i => (i.zero, i.size, i.bytes)) = some (some (.agg #[(.bool false), (.string ⟨#[]⟩)]), 2, 24) := by kernel_rfl
structure S77 where
 f0 : Bool
 f1 : ByteArray
def z77 : S77 := ⟨false, (⟨#[]⟩ : ByteArray)⟩
def k77 : Kd S77 := Kd.iso (Kd.pair Kd.bool Kd.string) (fun x : S77 => (x.f0, x.f1))
theorem k77_open {w : World} {x : S77} {cs : List Value} (h : k77.K w x cs) : cs = [.bool x.f0, .string x.f1] := by
 obtain ⟨_, _, rfl, rfl, rfl⟩ := h
 exact rfl
theorem k77_mkM (w : World) (base : Nat) (ok : Nat → Prop) (x : S77)  : k77.M w base ok x [.bool x.f0, .string x.f1] := ⟨[.bool x.f0], [.string x.f1], rfl, rfl, rfl⟩
def zme (xs : List S77) (i : Int) : S77 := xs.getD i.toNat z77
theorem at_T77 {w : World} {A : Option Addr} {n : Nat} {xs : List S77} (h : Kd.C k77 w A n xs) (i : Int) (h0 : 0 ≤ i) (h1 : i < n) : ∃ ad , A = some ad ∧ w.cell? (ad.add (i.toNat * 2)) = some (.bool (zme xs i).f0) ∧ w.cell? ⟨(ad.add (i.toNat * 2)).block, (ad.add (i.toNat * 2)).off + 1, none⟩ = some (.string (zme xs i).f1) := by
 obtain ⟨ad, c, e, _, hK, hc0⟩ := Kd.C_get h z77 i h0 h1
 have hc : ∀ j u, c[j]? = some u → w.cell? (ad.add (i.toNat * 2 + j)) = some u := hc0
 obtain rfl := k77_open hK
 exact ⟨ad, e, hc 0 _ rfl, by rw [← add_field _ _ 1 (by omega)]; exact hc 1 _ rfl⟩
structure S29 where
 f0 : Bool
 f1 : ByteArray
def z29 : S29 := ⟨false, (⟨#[]⟩ : ByteArray)⟩
def k29 : Kd S29 := Kd.iso (Kd.pair Kd.bool Kd.string) (fun x : S29 => (x.f0, x.f1))
theorem k29_open {w : World} {x : S29} {cs : List Value} (h : k29.K w x cs) : cs = [.bool x.f0, .string x.f1] := by
 obtain ⟨_, _, rfl, rfl, rfl⟩ := h
 exact rfl
theorem k29_mkM (w : World) (base : Nat) (ok : Nat → Prop) (x : S29)  : k29.M w base ok x [.bool x.f0, .string x.f1] := ⟨[.bool x.f0], [.string x.f1], rfl, rfl, rfl⟩
def zfe (xs : List S29) (i : Int) : S29 := xs.getD i.toNat z29
theorem at_T29 {w : World} {A : Option Addr} {n : Nat} {xs : List S29} (h : Kd.C k29 w A n xs) (i : Int) (h0 : 0 ≤ i) (h1 : i < n) : ∃ ad , A = some ad ∧ w.cell? (ad.add (i.toNat * 2)) = some (.bool (zfe xs i).f0) ∧ w.cell? ⟨(ad.add (i.toNat * 2)).block, (ad.add (i.toNat * 2)).off + 1, none⟩ = some (.string (zfe xs i).f1) := by
 obtain ⟨ad, c, e, _, hK, hc0⟩ := Kd.C_get h z29 i h0 h1
 have hc : ∀ j u, c[j]? = some u → w.cell? (ad.add (i.toNat * 2 + j)) = some u := hc0
 obtain rfl := k29_open hK
 exact ⟨ad, e, hc 0 _ rfl, by rw [← add_field _ _ 1 (by omega)]; exact hc 1 _ rfl⟩
end Go.Proofs.YtlijjnjpomnphaaGreatDoor.Q
end
section
namespace Go.Proofs.YtlijjnjpomnphaaGreatDoor.Q
open Go.RowKit YtlijjnjpomnphaaGreatDoorH YtlijjnjpomnphaaGreatDoorG YtlijjnjpomnphaaGreatDoorW.PrintWords YtlijjnjpomnphaaGreatDoorW.PrintLast YtlijjnjpomnphaaGreatDoorW.PrintMore
attribute [local go_sem] zgd zhd zbe zce zxc zyc zfd zid
def zzb.l0 : Nat → List (S29) → List (S77) → Int → Int → Option ((List (S29)))
 | 0, _, _, _, _ => none
 | k + 1, x3, x6, x7, x8 => if x8 < x7 then (if 0 ≤ x8 then (if x8 < (x6.length : Int) then (if x3.length < 5864062014805 then (zzb.l0 k (x3 ++ [(⟨(zme x6 x8).f0, (zme x6 x8).f1⟩ : S29)]) x6 x7 (wrap64 (x8 + 1))) else (none)) else (none)) else (none)) else (some x3)
def zzb.f (k : Nat) (l0 : List (S77)) : Option ((List (S29))) := zzb.l0 k ([] : List (S29)) l0 (l0.length : Int) 0
theorem zzb.calls (k : Nat) (A0 : Option Addr) (c0 : Nat) (l0 : List (S77)) (r : List (S29)) (w : World) (hr0 : Kd.C k77 w A0 l0.length l0) (hc0 : l0.length ≤ c0) (h : zzb.f k l0 = some r) :
  Calls Tryz.prog 41 #[.slice A0 l0.length c0] w fun e w' => ∃ v0_ : Value, e = .returned (v0_) ∧ Kd.R k29 29 w' w.heap.size (fun _ => True) v0_ r ∧ Below w.heap.size w w' := by
 have hu77 := Tryz.underlying77
 have HR0 := za.mk hr0
 have HC0 := za.mk hc0
 clear hr0 hc0
 have HB := za.mk (Below.refl w.heap.size w)
 have H : (zzb.l0 k ([] : List (S29)) l0 (l0.length : Int) 0) = some r := h
 clear h
 have H' := za.mk H
 clear H
 go_enter Tryz.func41, Tryz.ntmps41
 go_wp2
 (try simp only [Act.put, List.setIfInBounds_toArray, List.set_cons_zero, List.set_cons_succ])
 go_loopg [3, 8] k (fun kq v3 v8 w' => ∃ (x3_1 : List (S29)) (x8_1 : Int), v8 = .int .i64 x8_1 ∧ za (zzb.l0 kq x3_1 l0 (l0.length : Int) x8_1 = some r) ∧ za (kq ≤ k) ∧ za (Kd.R k29 29 w' w.heap.size (fun _ => True) v3 x3_1) ∧ za (Below w.heap.size w w'))
 case atStart => exact ⟨(([] : List (S29))), (0), (by first | rfl | (simp; done) | (simp [*]; done) | (simp [zc]; done) | (simp [zc, *]; done)), H', ⟨Nat.le_refl _⟩, ⟨by first | exact Kd.R_nil _ _ _ _ _ | exact Kd.N_nil _ _ _ _ _ | exact Kd.V_nil _ _ _ _ _ | exact Kd.Q_nil _ _ _ _ _ | exact Kd.S_nil _ _ _ _ _⟩, ⟨by repeat (first | (with_reducible first | exact HB.out | apply zg | apply ze | apply below_drew1) | exact HB.out)⟩⟩
 case round =>
  clear H'
  obtain ⟨x3_1, x8_1, rfl, HA, HK1, HO_3, HB⟩ := hrel
  cases gk with
  | zero => exact absurd HA.out (by simp [zzb.l0])
  | succ k1 =>
   have H := HA.out
   clear HA
   simp only [zzb.l0] at H
   by_cases c2 : x8_1 < (l0.length : Int)
   ·rw [if_pos c2] at H
    have c2b0 : decide (x8_1 < (l0.length : Int)) = true := decide_eq_true c2
    clear c2
    by_cases c3 : 0 ≤ x8_1
    ·rw [if_pos c3] at H
     have c3b0 : decide (0 ≤ x8_1) = true := decide_eq_true c3
     clear c3
     by_cases c4 : x8_1 < (l0.length : Int)
     ·rw [if_pos c4] at H
      have c4b0 : decide (x8_1 < (l0.length : Int)) = true := decide_eq_true c4
      clear c4
      by_cases c5 : x3_1.length < 5864062014805
      ·rw [if_pos c5] at H
       have LMc5 := za.mk c5
       clear c5
       obtain ⟨y103, hy103⟩ : ∃ y_ : List (S29), y_ = (x3_1 ++ [(⟨(zme l0 x8_1).f0, (zme l0 x8_1).f1⟩ : S29)]) := ⟨_, rfl⟩
       replace H : (zzb.l0 k1 y103 l0 (l0.length : Int) (wrap64 (x8_1 + 1))) = some r := by first | (rw [hy103]; with_reducible exact H) | (have H2_ := (Option.bind_some _ _).symm.trans H; rw [hy103]; with_reducible exact H2_) | (have H2_ := (Option.bind_some _ _).symm.trans H; with_reducible exact H2_) | with_reducible exact H | (rw [hy103]; exact H) | exact H
       have Ny103 := za.mk hy103
       clear hy103
       have H' := za.mk H
       clear H
       have p101 : 0 ≤ (x8_1 : Int) := of_decide_eq_true (by first | (with_reducible assumption) | assumption)
       have q101 : x8_1 < (l0.length : Int) := of_decide_eq_true (by first | (with_reducible assumption) | assumption)
       obtain ⟨ad101, e101, hx101_0, hx101_1⟩ := at_T77 HR0.out x8_1 p101 q101
       cases e101
       replace hx101_0 := (HB.out.cell (World.block_lt_of_cell? w _ hx101_0)).trans hx101_0
       replace hx101_1 := (HB.out.cell (World.block_lt_of_cell? w _ hx101_1)).trans hx101_1
       replace p101 := eq_true p101
       replace q101 := eq_true q101
       go_wp2_with (first | ((with_reducible refine zrb (N := 5) rfl ?_); refine ztb ?hg (N := 5) ?hd (cs := #[.bool false, .string (⟨#[]⟩ : ByteArray)]) (t := 77) ?hr ?_; (case hd => rfl); (case hg => rfl); (case hr => first | (go_simp; done) | (go_simp; rfl)); intro gb102 hg w6 hbox hb; have n0_ := za.mk (Kd.R_below (by (with_reducible repeat (first | apply Kd.R_alloc | apply Kd.R_drewN | apply Kd.R_drew)); exact HO_3.out) hb); have n1_ := za.mk (zw (by repeat (first | (with_reducible first | exact HB.out | apply zg | apply ze | apply below_drew1) | exact HB.out)) hb); have n2_ := za.mk (hbox); have n3_ := za.mk ((by rw [hg]; exact (zab (by repeat (first | (with_reducible first | exact HB.out | apply zg | apply ze | apply below_drew1) | exact HB.out))) : w.heap.size ≤ gb102)); have n4_ := za.mk ((by rw [hg]; exact (zab (by repeat (first | (with_reducible first | exact HB.out | apply zg | apply ze | apply below_drew1) | exact HB.out))) : w.heap.size ≤ gb102)); clear HO_3; clear HB; have HO_3 := n0_; have HB := n1_; have BK102 := n2_; have GW102 := n3_; have GE102 := n4_; clear n0_ n1_ n2_ n3_ n4_; clear hb hbox hg; have hcz7_0 : w6.cell? ⟨gb102, 0, none⟩ = some (.bool false) := (zf BK102.out 0).trans rfl; have hcz7_1 : w6.cell? ⟨gb102, 1, none⟩ = some (.string (⟨#[]⟩ : ByteArray)) := (zf BK102.out 1).trans rfl; have hfz7_0 := zi BK102.out 0; have hfz7_1 := zi BK102.out 1) | ((with_reducible refine zub (b := .append) (xs := #[.tmp 12, .tmp 14]) rfl ?_); at_builtin; refine Kd.R_append k29 (w0 := w) w.heap.size rfl (.tmp 12) (.tmp 14) 30 29 (.agg #[(.bool false), (.string ⟨#[]⟩)]) 24 rfl Tryz.underlying30 info29 rfl (by decide) (by omega) u3 x3_1 (⟨(zme l0 x8_1).f0, (zme l0 x8_1).f1⟩ : S29) [.bool ((zme l0 x8_1).f0), .string ((zme l0 x8_1).f1)] (fun _ => True) (fun _ => False) rfl (by first | (go_simp; done) | (go_simp; rfl)) ?aP (fun _ hk => hk.elim) ?aF ?aO ?aB ?aS ?aL ?_; (case aP => exact k29_mkM _ _ _ (⟨(zme l0 x8_1).f0, (zme l0 x8_1).f1⟩ : S29)); (case aB => exact (by repeat (first | (with_reducible first | exact HB.out | apply zg | apply ze | apply below_drew1 | refine zo ?_ GE102.out) | exact HB.out))); (case aF => exact (fun _ _ => trivial)); (case aO => exact (by (with_reducible repeat (first | apply Kd.R_alloc | apply Kd.R_drewN | apply Kd.R_drew)); exact Kd.R_mono (Kd.R_far (p := ⟨gb102, 1, none⟩) (Kd.R_far (p := ⟨gb102, 0, none⟩) (Kd.R_types HO_3.out BK102.out (by decide)) (fun _ hk => hk.2) (.bool ((zme l0 x8_1).f0))) (fun _ hk => hk.2) (.string ((zme l0 x8_1).f1))) (fun _ hk => trivial))); (case aS => exact (zab (by repeat (first | (with_reducible first | exact HB.out | apply zg | apply ze | apply below_drew1 | refine zo ?_ GE102.out) | exact HB.out)))); (case aL => have := LMc5.out; omega); intro v104 w8 ho hb hg hat; rw [← Ny103.out] at ho; have n0_ := za.mk (ztg (g := gb102) (o := .cells #[.bool ((zme l0 x8_1).f0), .string ((zme l0 x8_1).f1)] 77 (0, 0)) (by (with_reducible repeat (first | refine zl ?_ _ | refine zt ?_ | refine zv ?_ _)); refine zm (cs := #[.bool ((zme l0 x8_1).f0), .string (⟨#[]⟩ : ByteArray)]) ?_ 1 _ rfl; (with_reducible repeat (first | refine zl ?_ _ | refine zt ?_ | refine zv ?_ _)); refine zm (cs := #[.bool false, .string (⟨#[]⟩ : ByteArray)]) ?_ 0 _ rfl; (with_reducible repeat (first | refine zl ?_ _ | refine zt ?_ | refine zv ?_ _)); exact BK102.out) hg (Kd.R_ne HO_3.out BK102.out (by decide))); have n1_ := za.mk (hb); have n2_ := za.mk (ho); clear BK102; clear HB; clear HO_3; have BK102 := n0_; have HB := n1_; have HO105 := n2_; clear n0_ n1_ n2_; clear ho hb hg hat))
       go_roundg k1
       case measure => have := HK1.out; omega
       case rel => exact ⟨(y103), (wrap64 (x8_1 + 1)), (by first | rfl | (simp; done) | (simp [*]; done) | (simp [zc]; done) | (simp [zc, *]; done)), H', ⟨by have := HK1.out; omega⟩, ⟨by (with_reducible repeat (first | apply Kd.R_alloc | apply Kd.R_drewN | apply Kd.R_drew)); exact HO105.out⟩, ⟨by repeat (first | (with_reducible first | exact HB.out | apply zg | apply ze | apply below_drew1 | refine zo ?_ GE102.out) | exact HB.out)⟩⟩
      ·rw [if_neg c5] at H
       exact absurd H (by simp)
     ·rw [if_neg c4] at H
      exact absurd H (by simp)
    ·rw [if_neg c3] at H
     exact absurd H (by simp)
   ·rw [if_neg c2] at H
    have c2b0 : decide (x8_1 < (l0.length : Int)) = false := decide_eq_false c2
    clear c2
    obtain rfl := Option.some.inj H
    go_wp2
    go_ret
    exact ⟨_, by first | rfl | (simp [znb, zmb] <;> rfl) | (simp [*, znb, zmb] <;> rfl) | (simp [zc]; done), by (with_reducible repeat (first | apply Kd.R_alloc | apply Kd.R_drewN | apply Kd.R_drew)); exact HO_3.out, by repeat (first | (with_reducible first | exact HB.out | apply zg | apply ze | apply below_drew1) | exact HB.out)⟩
def zld.f (a0_0 : Bool) (a0_1 : ByteArray) (a0_2 : Bool) (a0_3 : ByteArray) : Option (Bool × ByteArray × Bool × ByteArray) := some (a0_0, a0_1, a0_2, a0_3)
theorem zld.calls (a0_0 : Bool) (a0_1 : ByteArray) (a0_2 : Bool) (a0_3 : ByteArray) (r1 : Bool) (r2 : ByteArray) (r3 : Bool) (r4 : ByteArray) (w : World) (h : zld.f a0_0 a0_1 a0_2 a0_3 = some (r1, r2, r3, r4)) :
  Calls Tryz.prog 42 #[.agg #[.bool a0_0, .string a0_1, .bool a0_2, .string a0_3]] w fun e w' => e = .returned (.agg #[.bool r1, .string r2, .bool r3, .string r4]) ∧ Below w.heap.size w w' := by
 have hu80 := Tryz.underlying80
 have hu32 := Tryz.underlying32
 have hu77 := Tryz.underlying77
 have HB := za.mk (Below.refl w.heap.size w)
 have H : (some (a0_0, a0_1, a0_2, a0_3)) = some (r1, r2, r3, r4) := h
 clear h
 simp only [Option.some.injEq, Prod.mk.injEq] at H
 obtain ⟨rfl, rfl, rfl, rfl⟩ := H
 go_enter Tryz.func42, Tryz.ntmps42
 go_wp2_with (first | ((with_reducible refine zrb (N := 1) rfl ?_); refine ztb ?hg (N := 1) ?hd (cs := #[.bool a0_0, .string a0_1, .bool a0_2, .string a0_3]) (t := 80) ?hr ?_; (case hd => rfl); (case hg => rfl); (case hr => first | (go_simp; done) | (go_simp; rfl)); intro gb106 hg w2 hbox hb; have n0_ := za.mk (zw (by repeat (first | (with_reducible first | exact HB.out | apply zg | apply ze | apply below_drew1) | exact HB.out)) hb); have n1_ := za.mk (hbox); have n2_ := za.mk ((by rw [hg]; exact (zab (by repeat (first | (with_reducible first | exact HB.out | apply zg | apply ze | apply below_drew1) | exact HB.out))) : w.heap.size ≤ gb106)); have n3_ := za.mk ((by rw [hg]; exact (zab (by repeat (first | (with_reducible first | exact HB.out | apply zg | apply ze | apply below_drew1) | exact HB.out))) : w.heap.size ≤ gb106)); clear HB; have HB := n0_; have BK106 := n1_; have GW106 := n2_; have GE106 := n3_; clear n0_ n1_ n2_ n3_; clear hb hbox hg) | ((with_reducible refine zrb (N := 2) rfl ?_); refine ztb ?hg (N := 2) ?hd (cs := #[.bool false, .string (⟨#[]⟩ : ByteArray), .bool false, .string (⟨#[]⟩ : ByteArray)]) (t := 32) ?hr ?_; (case hd => rfl); (case hg => rfl); (case hr => first | (go_simp; done) | (go_simp; rfl)); intro gb107 hg w3 hbox hb; have n0_ := za.mk (zr (g := gb106) (o := .cells #[.bool a0_0, .string a0_1, .bool a0_2, .string a0_3] 80 (0, 0)) (by (with_reducible repeat (first | refine zl ?_ _ | refine zt ?_ | refine zv ?_ _)); exact BK106.out) hb); have n1_ := za.mk (zw (by repeat (first | (with_reducible first | exact HB.out | apply zg | apply ze | apply below_drew1 | refine zo ?_ GE106.out) | exact HB.out)) hb); have n2_ := za.mk (hbox); have n3_ := za.mk ((by rw [hg]; exact (zab (by repeat (first | (with_reducible first | exact HB.out | apply zg | apply ze | apply below_drew1 | refine zo ?_ GE106.out) | exact HB.out))) : w.heap.size ≤ gb107)); have n4_ := za.mk ((by rw [hg]; exact (zab (by repeat (first | (with_reducible first | exact HB.out | apply zg | apply ze | apply below_drew1 | refine zo ?_ GE106.out) | exact HB.out))) : w.heap.size ≤ gb107)); have n5_ := za.mk ((by rw [hg]; exact Nat.ne_of_lt (zhf (g := gb106) (o := .cells #[.bool a0_0, .string a0_1, .bool a0_2, .string a0_3] 80 (0, 0)) (by (with_reducible repeat (first | refine zl ?_ _ | refine zt ?_ | refine zv ?_ _)); exact BK106.out)) : gb106 ≠ gb107)); have n6_ := za.mk ((by rw [hg]; exact Nat.ne_of_gt (zhf (g := gb106) (o := .cells #[.bool a0_0, .string a0_1, .bool a0_2, .string a0_3] 80 (0, 0)) (by (with_reducible repeat (first | refine zl ?_ _ | refine zt ?_ | refine zv ?_ _)); exact BK106.out)) : gb107 ≠ gb106)); clear BK106; clear HB; have BK106 := n0_; have HB := n1_; have BK107 := n2_; have GW107 := n3_; have GE107 := n4_; have NB106_107 := n5_; have NB107_106 := n6_; clear n0_ n1_ n2_ n3_ n4_ n5_ n6_; clear hb hbox hg; have hnb4 := NB106_107.out; have hnc4 := NB107_106.out; have hcz5_0 : w3.cell? ⟨gb106, 0, none⟩ = some (.bool a0_0) := (zf BK106.out 0).trans rfl; have hcz5_1 : w3.cell? ⟨gb106, 1, none⟩ = some (.string a0_1) := (zf BK106.out 1).trans rfl; have hcz5_2 : w3.cell? ⟨gb106, 2, none⟩ = some (.bool a0_2) := (zf BK106.out 2).trans rfl; have hcz5_3 : w3.cell? ⟨gb106, 3, none⟩ = some (.string a0_3) := (zf BK106.out 3).trans rfl; have hfz5_0 := zi BK106.out 0; have hfz5_1 := zi BK106.out 1; have hfz5_2 := zi BK106.out 2; have hfz5_3 := zi BK106.out 3; have hcz6_0 : w3.cell? ⟨gb107, 0, none⟩ = some (.bool false) := (zf BK107.out 0).trans rfl; have hcz6_1 : w3.cell? ⟨gb107, 1, none⟩ = some (.string (⟨#[]⟩ : ByteArray)) := (zf BK107.out 1).trans rfl; have hcz6_2 : w3.cell? ⟨gb107, 2, none⟩ = some (.bool false) := (zf BK107.out 2).trans rfl; have hcz6_3 : w3.cell? ⟨gb107, 3, none⟩ = some (.string (⟨#[]⟩ : ByteArray)) := (zf BK107.out 3).trans rfl; have hfz6_0 := zi BK107.out 0; have hfz6_1 := zi BK107.out 1; have hfz6_2 := zi BK107.out 2; have hfz6_3 := zi BK107.out 3))
 refine bodyPost_ret (results_cell_row rfl _ _ gb107 32 #[.bool a0_0, .string a0_1, .bool a0_2, .string a0_3] (0, 0) _ rfl (by (with_reducible repeat (first | refine zl ?_ _ | refine zt ?_ | refine zv ?_ _)); refine zm (cs := #[.bool a0_0, .string a0_1, .bool a0_2, .string (⟨#[]⟩ : ByteArray)]) ?_ 3 _ rfl; (with_reducible repeat (first | refine zl ?_ _ | refine zt ?_ | refine zv ?_ _)); refine zm (cs := #[.bool a0_0, .string a0_1, .bool false, .string (⟨#[]⟩ : ByteArray)]) ?_ 2 _ rfl; (with_reducible repeat (first | refine zl ?_ _ | refine zt ?_ | refine zv ?_ _)); refine zm (cs := #[.bool a0_0, .string (⟨#[]⟩ : ByteArray), .bool false, .string (⟨#[]⟩ : ByteArray)]) ?_ 1 _ rfl; (with_reducible repeat (first | refine zl ?_ _ | refine zt ?_ | refine zv ?_ _)); refine zm (cs := #[.bool false, .string (⟨#[]⟩ : ByteArray), .bool false, .string (⟨#[]⟩ : ByteArray)]) ?_ 0 _ rfl; (with_reducible repeat (first | refine zl ?_ _ | refine zt ?_ | refine zv ?_ _)); exact BK107.out) Tryz.underlying32 rfl (by kernel_rfl)) rfl ?_
 exact ⟨by first | rfl | (simp [znb, zmb] <;> rfl) | (simp [*, znb, zmb] <;> rfl) | (simp [zc]; done), by repeat (first | (with_reducible first | exact HB.out | apply zg | apply ze | apply below_drew1 | refine zo ?_ GE106.out | refine zo ?_ GE107.out) | exact HB.out)⟩
def impl_bigs.l0 : Nat → List (S77) → List (S29) → Int → Int → Option ((List (S77)))
 | 0, _, _, _, _ => none
 | k + 1, x3, x6, x7, x8 => if x8 < x7 then (if 0 ≤ x8 then (if x8 < (x6.length : Int) then (if x3.length < 5864062014805 then (impl_bigs.l0 k (x3 ++ [(⟨(zfe x6 x8).f0, (zfe x6 x8).f1⟩ : S77)]) x6 x7 (wrap64 (x8 + 1))) else (none)) else (none)) else (none)) else (some x3)
def impl_bigs.f (k : Nat) (l0 : List (S29)) : Option ((List (S77))) := impl_bigs.l0 k ([] : List (S77)) l0 (l0.length : Int) 0
def impl_letter.f (a0_0 : Bool) (a0_1 : ByteArray) (a0_2 : Bool) (a0_3 : ByteArray) : Option (Bool × ByteArray × Bool × ByteArray) := some (a0_0, a0_1, a0_2, a0_3)
def zob.l0 : Nat → List ByteArray → Int → Int → Option (Bool)
 | 0, _, _, _ => none
 | k + 1, x8, x9, x10 => if x10 < x9 then (if 0 ≤ x10 then (if x10 < (x8.length : Int) then (if ((rdOf ByteArray.empty x8 x10).size : Int) > 2147483647 then (some false) else (zob.l0 k x8 x9 (wrap64 (x10 + 1)))) else (none)) else (none)) else (some true)
def zob.f (k : Nat) (l0 : List ByteArray) : Option (Bool) := if (l0.length : Int) > 2147483647 then (some false) else (zob.l0 k l0 (l0.length : Int) 0)
theorem zob.calls (k : Nat) (A0 : Option Addr) (c0 : Nat) (l0 : List ByteArray) (r : Bool) (w : World) (hr0 : Kd.C Kd.string w A0 l0.length l0) (hc0 : l0.length ≤ c0) (h : zob.f k l0 = some r) :
  Calls Tryz.prog 35 #[.slice A0 l0.length c0] w fun e w' => e = .returned (.bool r) ∧ zk w w' := by
 have HR0 := za.mk hr0
 have HC0 := za.mk hc0
 clear hr0 hc0
 have H : (if (l0.length : Int) > 2147483647 then (some false) else (zob.l0 k l0 (l0.length : Int) 0)) = some r := h
 clear h
 by_cases c2 : (l0.length : Int) > 2147483647
 ·rw [if_pos c2] at H
  have c2b0 : decide (2147483647 < (l0.length : Int)) = true := decide_eq_true c2
  have c2b1 : decide (2147483647 < l0.length) = true := decide_eq_true (by omega)
  clear c2
  obtain rfl := Option.some.inj H
  go_enter Tryz.func35, Tryz.ntmps35
  go_wp2
  go_ret
  exact ⟨by first | rfl | (simp; done) | (simp [*]; done) | (simp [zc]; done) | (simp [zc, *]; done), by repeat (first | exact zk.refl _ | apply zk.step)⟩
 ·rw [if_neg c2] at H
  have c2b0 : decide (2147483647 < (l0.length : Int)) = false := decide_eq_false c2
  have c2b1 : decide (2147483647 < l0.length) = false := decide_eq_false (by omega)
  clear c2
  have H' := za.mk H
  clear H
  go_enter Tryz.func35, Tryz.ntmps35
  go_wp2
  (try simp only [Act.put, List.setIfInBounds_toArray, List.set_cons_zero, List.set_cons_succ])
  go_loopg [10] k (fun kq v10 w' => ∃ (x10_1 : Int), v10 = .int .i64 x10_1 ∧ za (zob.l0 kq l0 (l0.length : Int) x10_1 = some r) ∧ za (kq ≤ k) ∧ zk w w')
  case atStart => exact ⟨(0), (by first | rfl | (simp; done) | (simp [*]; done) | (simp [zc]; done) | (simp [zc, *]; done)), H', ⟨Nat.le_refl _⟩, by repeat (first | exact zk.refl _ | apply zk.step)⟩
  case round =>
   clear H'
   try clear c2
   try clear c2b0
   try clear c2b1
   try clear p2
   obtain ⟨x10_1, rfl, HA, HK1, ⟨m1, rfl⟩⟩ := hrel
   cases gk with
   | zero => exact absurd HA.out (by simp [zob.l0])
   | succ k1 =>
    have H := HA.out
    clear HA
    simp only [zob.l0] at H
    by_cases c3 : x10_1 < (l0.length : Int)
    ·rw [if_pos c3] at H
     have c3b0 : decide (x10_1 < (l0.length : Int)) = true := decide_eq_true c3
     clear c3
     by_cases c4 : 0 ≤ x10_1
     ·rw [if_pos c4] at H
      have c4b0 : decide (0 ≤ x10_1) = true := decide_eq_true c4
      clear c4
      by_cases c5 : x10_1 < (l0.length : Int)
      ·rw [if_pos c5] at H
       have c5b0 : decide (x10_1 < (l0.length : Int)) = true := decide_eq_true c5
       clear c5
       by_cases c6 : ((rdOf ByteArray.empty l0 x10_1).size : Int) > 2147483647
       ·rw [if_pos c6] at H
        have c6b0 : decide (2147483647 < ((rdOf ByteArray.empty l0 x10_1).size : Int)) = true := decide_eq_true c6
        have c6b1 : decide (2147483647 < (rdOf ByteArray.empty l0 x10_1).size) = true := decide_eq_true (by omega)
        clear c6
        obtain rfl := Option.some.inj H
        have p115 : 0 ≤ (x10_1 : Int) := of_decide_eq_true (by first | (with_reducible assumption) | assumption)
        have q115 : x10_1 < (l0.length : Int) := of_decide_eq_true (by first | (with_reducible assumption) | assumption)
        obtain ⟨ad115, e115, hx115_0⟩ := Kd.at_string HR0.out x10_1 p115 q115
        cases e115
        replace p115 := eq_true p115
        replace q115 := eq_true q115
        go_wp2
        go_ret
        exact ⟨by first | rfl | (simp; done) | (simp [*]; done) | (simp [zc]; done) | (simp [zc, *]; done), by repeat (first | exact zk.refl _ | apply zk.step)⟩
       ·rw [if_neg c6] at H
        have c6b0 : decide (2147483647 < ((rdOf ByteArray.empty l0 x10_1).size : Int)) = false := decide_eq_false c6
        have c6b1 : decide (2147483647 < (rdOf ByteArray.empty l0 x10_1).size) = false := decide_eq_false (by omega)
        clear c6
        have H' := za.mk H
        clear H
        have p115 : 0 ≤ (x10_1 : Int) := of_decide_eq_true (by first | (with_reducible assumption) | assumption)
        have q115 : x10_1 < (l0.length : Int) := of_decide_eq_true (by first | (with_reducible assumption) | assumption)
        obtain ⟨ad115, e115, hx115_0⟩ := Kd.at_string HR0.out x10_1 p115 q115
        cases e115
        replace p115 := eq_true p115
        replace q115 := eq_true q115
        go_wp2
        go_roundg k1
        case measure => have := HK1.out; omega
        case rel => exact ⟨(wrap64 (x10_1 + 1)), (by first | rfl | (simp; done) | (simp [*]; done) | (simp [zc]; done) | (simp [zc, *]; done)), H', ⟨by have := HK1.out; omega⟩, by repeat (first | exact zk.refl _ | apply zk.step)⟩
      ·rw [if_neg c5] at H
       exact absurd H (by simp)
     ·rw [if_neg c4] at H
      exact absurd H (by simp)
    ·rw [if_neg c3] at H
     have c3b0 : decide (x10_1 < (l0.length : Int)) = false := decide_eq_false c3
     clear c3
     obtain rfl := Option.some.inj H
     go_wp2
     go_ret
     exact ⟨by first | rfl | (simp; done) | (simp [*]; done) | (simp [zc]; done) | (simp [zc, *]; done), by repeat (first | exact zk.refl _ | apply zk.step)⟩
def zbf.f (k : Nat) (a0_0 : Int) (l0_1 : List Int) (a0_2 : Int) (a0_3 : Int) (a0_4 : Int) (a0_5 : Int) (a0_6 : Bool) (a0_7 : Bool) (l0_8 : List ByteArray) : Option (Bool) := if (l0_1.length : Int) > 2147483647 then (some false) else ((zob.f k l0_8).bind fun t117 => (if t117 = true then (some true) else (some false)))
theorem zbf.calls (k : Nat) (a0_0 : Int) (A0_1 : Option Addr) (c0_1 : Nat) (l0_1 : List Int) (a0_2 : Int) (a0_3 : Int) (a0_4 : Int) (a0_5 : Int) (a0_6 : Bool) (a0_7 : Bool) (A0_8 : Option Addr) (c0_8 : Nat) (l0_8 : List ByteArray) (r : Bool) (w : World) (hr0_1 : Kd.C (Kd.int .u16) w A0_1 l0_1.length l0_1) (hc0_1 : l0_1.length ≤ c0_1) (hr0_8 : Kd.C Kd.string w A0_8 l0_8.length l0_8) (hc0_8 : l0_8.length ≤ c0_8) (h : zbf.f k a0_0 l0_1 a0_2 a0_3 a0_4 a0_5 a0_6 a0_7 l0_8 = some r) :
  Calls Tryz.prog 14 #[.agg #[.int .u16 a0_0, .slice A0_1 l0_1.length c0_1, .int .u8 a0_2, .int .u16 a0_3, .int .u16 a0_4, .int .u16 a0_5, .bool a0_6, .bool a0_7, .slice A0_8 l0_8.length c0_8]] w fun e w' => e = .returned (.bool r) ∧ Below w.heap.size w w' := by
 have hu26 := Tryz.underlying26
 have HR0_1 := za.mk hr0_1
 have HC0_1 := za.mk hc0_1
 clear hr0_1 hc0_1
 have HR0_8 := za.mk hr0_8
 have HC0_8 := za.mk hc0_8
 clear hr0_8 hc0_8
 have HB := za.mk (Below.refl w.heap.size w)
 have H : (if (l0_1.length : Int) > 2147483647 then (some false) else ((zob.f k l0_8).bind fun t117 => (if t117 = true then (some true) else (some false)))) = some r := h
 clear h
 by_cases c2 : (l0_1.length : Int) > 2147483647
 ·rw [if_pos c2] at H
  have c2b0 : decide (2147483647 < (l0_1.length : Int)) = true := decide_eq_true c2
  have c2b1 : decide (2147483647 < l0_1.length) = true := decide_eq_true (by omega)
  clear c2
  obtain rfl := Option.some.inj H
  go_enter Tryz.func14, Tryz.ntmps14
  go_wp2_with (first | ((with_reducible refine zrb (N := 1) rfl ?_); refine ztb ?hg (N := 1) ?hd (cs := #[.int .u16 a0_0, .slice A0_1 l0_1.length c0_1, .int .u8 a0_2, .int .u16 a0_3, .int .u16 a0_4, .int .u16 a0_5, .bool a0_6, .bool a0_7, .slice A0_8 l0_8.length c0_8]) (t := 26) ?hr ?_; (case hd => rfl); (case hg => rfl); (case hr => first | (go_simp; done) | (go_simp; rfl)); intro gb116 hg w3 hbox hb; have n0_ := za.mk (zw (by repeat (first | (with_reducible first | exact HB.out | apply zg | apply ze | apply below_drew1) | exact HB.out)) hb); have n1_ := za.mk (hbox); have n2_ := za.mk ((by rw [hg]; exact (zab (by repeat (first | (with_reducible first | exact HB.out | apply zg | apply ze | apply below_drew1) | exact HB.out))) : w.heap.size ≤ gb116)); have n3_ := za.mk ((by rw [hg]; exact (zab (by repeat (first | (with_reducible first | exact HB.out | apply zg | apply ze | apply below_drew1) | exact HB.out))) : w.heap.size ≤ gb116)); clear HB; have HB := n0_; have BK116 := n1_; have GW116 := n2_; have GE116 := n3_; clear n0_ n1_ n2_ n3_; clear hb hbox hg; have hcz4_0 : w3.cell? ⟨gb116, 0, none⟩ = some (.int .u16 a0_0) := (zf BK116.out 0).trans rfl; have hcz4_1 : w3.cell? ⟨gb116, 1, none⟩ = some (.slice A0_1 l0_1.length c0_1) := (zf BK116.out 1).trans rfl; have hcz4_2 : w3.cell? ⟨gb116, 2, none⟩ = some (.int .u8 a0_2) := (zf BK116.out 2).trans rfl; have hcz4_3 : w3.cell? ⟨gb116, 3, none⟩ = some (.int .u16 a0_3) := (zf BK116.out 3).trans rfl; have hcz4_4 : w3.cell? ⟨gb116, 4, none⟩ = some (.int .u16 a0_4) := (zf BK116.out 4).trans rfl; have hcz4_5 : w3.cell? ⟨gb116, 5, none⟩ = some (.int .u16 a0_5) := (zf BK116.out 5).trans rfl; have hcz4_6 : w3.cell? ⟨gb116, 6, none⟩ = some (.bool a0_6) := (zf BK116.out 6).trans rfl; have hcz4_7 : w3.cell? ⟨gb116, 7, none⟩ = some (.bool a0_7) := (zf BK116.out 7).trans rfl; have hcz4_8 : w3.cell? ⟨gb116, 8, none⟩ = some (.slice A0_8 l0_8.length c0_8) := (zf BK116.out 8).trans rfl; have hfz4_0 := zi BK116.out 0; have hfz4_1 := zi BK116.out 1; have hfz4_2 := zi BK116.out 2; have hfz4_3 := zi BK116.out 3; have hfz4_4 := zi BK116.out 4; have hfz4_5 := zi BK116.out 5; have hfz4_6 := zi BK116.out 6; have hfz4_7 := zi BK116.out 7; have hfz4_8 := zi BK116.out 8))
  go_ret
  exact ⟨by first | rfl | (simp [znb, zmb] <;> rfl) | (simp [*, znb, zmb] <;> rfl) | (simp [zc]; done), by repeat (first | (with_reducible first | exact HB.out | apply zg | apply ze | apply below_drew1 | refine zo ?_ GE116.out) | exact HB.out)⟩
 ·rw [if_neg c2] at H
  have c2b0 : decide (2147483647 < (l0_1.length : Int)) = false := decide_eq_false c2
  have c2b1 : decide (2147483647 < l0_1.length) = false := decide_eq_false (by omega)
  clear c2
  replace H := Option.bind_eq_some_iff.mp H
  obtain ⟨t117, A50, H⟩ := H
  replace H : (if t117 = true then (some true) else (some false)) = some r := H
  have A5 := za.mk A50
  clear A50
  by_cases c6 : t117 = true
  ·subst c6
   have H1 : (some true) = some r := by rw [if_pos rfl] at H; exact H
   clear H
   have H := H1
   clear H1
   obtain rfl := Option.some.inj H
   go_enter Tryz.func14, Tryz.ntmps14
   go_wp2_with (first | ((with_reducible refine zrb (N := 1) rfl ?_); refine ztb ?hg (N := 1) ?hd (cs := #[.int .u16 a0_0, .slice A0_1 l0_1.length c0_1, .int .u8 a0_2, .int .u16 a0_3, .int .u16 a0_4, .int .u16 a0_5, .bool a0_6, .bool a0_7, .slice A0_8 l0_8.length c0_8]) (t := 26) ?hr ?_; (case hd => rfl); (case hg => rfl); (case hr => first | (go_simp; done) | (go_simp; rfl)); intro gb116 hg w7 hbox hb; have n0_ := za.mk (zw (by repeat (first | (with_reducible first | exact HB.out | apply zg | apply ze | apply below_drew1) | exact HB.out)) hb); have n1_ := za.mk (hbox); have n2_ := za.mk ((by rw [hg]; exact (zab (by repeat (first | (with_reducible first | exact HB.out | apply zg | apply ze | apply below_drew1) | exact HB.out))) : w.heap.size ≤ gb116)); have n3_ := za.mk ((by rw [hg]; exact (zab (by repeat (first | (with_reducible first | exact HB.out | apply zg | apply ze | apply below_drew1) | exact HB.out))) : w.heap.size ≤ gb116)); clear HB; have HB := n0_; have BK116 := n1_; have GW116 := n2_; have GE116 := n3_; clear n0_ n1_ n2_ n3_; clear hb hbox hg; have hcz8_0 : w7.cell? ⟨gb116, 0, none⟩ = some (.int .u16 a0_0) := (zf BK116.out 0).trans rfl; have hcz8_1 : w7.cell? ⟨gb116, 1, none⟩ = some (.slice A0_1 l0_1.length c0_1) := (zf BK116.out 1).trans rfl; have hcz8_2 : w7.cell? ⟨gb116, 2, none⟩ = some (.int .u8 a0_2) := (zf BK116.out 2).trans rfl; have hcz8_3 : w7.cell? ⟨gb116, 3, none⟩ = some (.int .u16 a0_3) := (zf BK116.out 3).trans rfl; have hcz8_4 : w7.cell? ⟨gb116, 4, none⟩ = some (.int .u16 a0_4) := (zf BK116.out 4).trans rfl; have hcz8_5 : w7.cell? ⟨gb116, 5, none⟩ = some (.int .u16 a0_5) := (zf BK116.out 5).trans rfl; have hcz8_6 : w7.cell? ⟨gb116, 6, none⟩ = some (.bool a0_6) := (zf BK116.out 6).trans rfl; have hcz8_7 : w7.cell? ⟨gb116, 7, none⟩ = some (.bool a0_7) := (zf BK116.out 7).trans rfl; have hcz8_8 : w7.cell? ⟨gb116, 8, none⟩ = some (.slice A0_8 l0_8.length c0_8) := (zf BK116.out 8).trans rfl; have hfz8_0 := zi BK116.out 0; have hfz8_1 := zi BK116.out 1; have hfz8_2 := zi BK116.out 2; have hfz8_3 := zi BK116.out 3; have hfz8_4 := zi BK116.out 4; have hfz8_5 := zi BK116.out 5; have hfz8_6 := zi BK116.out 6; have hfz8_7 := zi BK116.out 7; have hfz8_8 := zi BK116.out 8) | ((with_reducible refine zbb (f := 35) rfl ?_); refine zcc (some 9) rfl rfl Tryz.func35 (by kernel_rfl) rfl #[.slice A0_8 l0_8.length c0_8] rfl (by (try simp only [List.map_toArray, List.map_cons, List.map_nil]); first | done | rfl | (simp only [List.length_drop, List.length_take]; rfl)) ?_; (with_reducible refine (zob.calls k _ _ l0_8 true _ ?side1 ?side2 A5.out).mono ?_); (case side1 => repeat (first | exact (Kd.C_below HR0_8.out HB.out) | (with_reducible refine Kd.C_alloc ?_ _) | (with_reducible refine Kd.C_drewN ?_ _) | (with_reducible refine Kd.C_drew ?_))); (case side2 => exact HC0_8.out); rintro e w' ⟨rfl, ⟨nd, rfl⟩⟩; refine ⟨_, rfl, ?_⟩))
   go_ret
   exact ⟨by first | rfl | (simp [znb, zmb] <;> rfl) | (simp [*, znb, zmb] <;> rfl) | (simp [zc]; done), by repeat (first | (with_reducible first | exact HB.out | apply zg | apply ze | apply below_drew1 | refine zo ?_ GE116.out) | exact HB.out)⟩
  ·replace c6 := Bool.eq_false_iff.mpr c6
   subst c6
   have H1 : (some false) = some r := by rw [if_neg (show ¬ (false = true) by decide)] at H; exact H
   clear H
   have H := H1
   clear H1
   obtain rfl := Option.some.inj H
   go_enter Tryz.func14, Tryz.ntmps14
   go_wp2_with (first | ((with_reducible refine zrb (N := 1) rfl ?_); refine ztb ?hg (N := 1) ?hd (cs := #[.int .u16 a0_0, .slice A0_1 l0_1.length c0_1, .int .u8 a0_2, .int .u16 a0_3, .int .u16 a0_4, .int .u16 a0_5, .bool a0_6, .bool a0_7, .slice A0_8 l0_8.length c0_8]) (t := 26) ?hr ?_; (case hd => rfl); (case hg => rfl); (case hr => first | (go_simp; done) | (go_simp; rfl)); intro gb116 hg w9 hbox hb; have n0_ := za.mk (zw (by repeat (first | (with_reducible first | exact HB.out | apply zg | apply ze | apply below_drew1) | exact HB.out)) hb); have n1_ := za.mk (hbox); have n2_ := za.mk ((by rw [hg]; exact (zab (by repeat (first | (with_reducible first | exact HB.out | apply zg | apply ze | apply below_drew1) | exact HB.out))) : w.heap.size ≤ gb116)); have n3_ := za.mk ((by rw [hg]; exact (zab (by repeat (first | (with_reducible first | exact HB.out | apply zg | apply ze | apply below_drew1) | exact HB.out))) : w.heap.size ≤ gb116)); clear HB; have HB := n0_; have BK116 := n1_; have GW116 := n2_; have GE116 := n3_; clear n0_ n1_ n2_ n3_; clear hb hbox hg; have hcz10_0 : w9.cell? ⟨gb116, 0, none⟩ = some (.int .u16 a0_0) := (zf BK116.out 0).trans rfl; have hcz10_1 : w9.cell? ⟨gb116, 1, none⟩ = some (.slice A0_1 l0_1.length c0_1) := (zf BK116.out 1).trans rfl; have hcz10_2 : w9.cell? ⟨gb116, 2, none⟩ = some (.int .u8 a0_2) := (zf BK116.out 2).trans rfl; have hcz10_3 : w9.cell? ⟨gb116, 3, none⟩ = some (.int .u16 a0_3) := (zf BK116.out 3).trans rfl; have hcz10_4 : w9.cell? ⟨gb116, 4, none⟩ = some (.int .u16 a0_4) := (zf BK116.out 4).trans rfl; have hcz10_5 : w9.cell? ⟨gb116, 5, none⟩ = some (.int .u16 a0_5) := (zf BK116.out 5).trans rfl; have hcz10_6 : w9.cell? ⟨gb116, 6, none⟩ = some (.bool a0_6) := (zf BK116.out 6).trans rfl; have hcz10_7 : w9.cell? ⟨gb116, 7, none⟩ = some (.bool a0_7) := (zf BK116.out 7).trans rfl; have hcz10_8 : w9.cell? ⟨gb116, 8, none⟩ = some (.slice A0_8 l0_8.length c0_8) := (zf BK116.out 8).trans rfl; have hfz10_0 := zi BK116.out 0; have hfz10_1 := zi BK116.out 1; have hfz10_2 := zi BK116.out 2; have hfz10_3 := zi BK116.out 3; have hfz10_4 := zi BK116.out 4; have hfz10_5 := zi BK116.out 5; have hfz10_6 := zi BK116.out 6; have hfz10_7 := zi BK116.out 7; have hfz10_8 := zi BK116.out 8) | ((with_reducible refine zbb (f := 35) rfl ?_); refine zcc (some 9) rfl rfl Tryz.func35 (by kernel_rfl) rfl #[.slice A0_8 l0_8.length c0_8] rfl (by (try simp only [List.map_toArray, List.map_cons, List.map_nil]); first | done | rfl | (simp only [List.length_drop, List.length_take]; rfl)) ?_; (with_reducible refine (zob.calls k _ _ l0_8 false _ ?side1 ?side2 A5.out).mono ?_); (case side1 => repeat (first | exact (Kd.C_below HR0_8.out HB.out) | (with_reducible refine Kd.C_alloc ?_ _) | (with_reducible refine Kd.C_drewN ?_ _) | (with_reducible refine Kd.C_drew ?_))); (case side2 => exact HC0_8.out); rintro e w' ⟨rfl, ⟨nd, rfl⟩⟩; refine ⟨_, rfl, ?_⟩))
   go_ret
   exact ⟨by first | rfl | (simp [znb, zmb] <;> rfl) | (simp [*, znb, zmb] <;> rfl) | (simp [zc]; done), by repeat (first | (with_reducible first | exact HB.out | apply zg | apply ze | apply below_drew1 | refine zo ?_ GE116.out) | exact HB.out)⟩
def zlc.l0 : Nat → List ByteArray → List ByteArray → Int → Int → Option (Bool)
 | 0, _, _, _, _ => none
 | k + 1, x0, x5, x6, x7 => if x7 < x6 then (if 0 ≤ x7 then (if x7 < (x5.length : Int) then (if ((rdOf ByteArray.empty x5 x7).size : Int) > 1200 then (some false) else (zlc.l0 k x0 x5 x6 (wrap64 (x7 + 1)))) else (none)) else (none)) else (some (decide ((x0.length : Int) ≤ 60)))
def zlc.f (k : Nat) (l0 : List ByteArray) : Option (Bool) := zlc.l0 k l0 l0 (l0.length : Int) 0
theorem zlc.calls (k : Nat) (A0 : Option Addr) (c0 : Nat) (l0 : List ByteArray) (r : Bool) (w : World) (hr0 : Kd.C Kd.string w A0 l0.length l0) (hc0 : l0.length ≤ c0) (h : zlc.f k l0 = some r) :
  Calls Tryz.prog 18 #[.slice A0 l0.length c0] w fun e w' => e = .returned (.bool r) ∧ zk w w' := by
 have HR0 := za.mk hr0
 have HC0 := za.mk hc0
 clear hr0 hc0
 have H : (zlc.l0 k l0 l0 (l0.length : Int) 0) = some r := h
 clear h
 have H' := za.mk H
 clear H
 go_enter Tryz.func18, Tryz.ntmps18
 go_wp2
 (try simp only [Act.put, List.setIfInBounds_toArray, List.set_cons_zero, List.set_cons_succ])
 go_loopg [7] k (fun kq v7 w' => ∃ (x7_1 : Int), v7 = .int .i64 x7_1 ∧ za (zlc.l0 kq l0 l0 (l0.length : Int) x7_1 = some r) ∧ za (kq ≤ k) ∧ zk w w')
 case atStart => exact ⟨(0), (by first | rfl | (simp; done) | (simp [*]; done) | (simp [zc]; done) | (simp [zc, *]; done)), H', ⟨Nat.le_refl _⟩, by repeat (first | exact zk.refl _ | apply zk.step)⟩
 case round =>
  clear H'
  try clear c1
  obtain ⟨x7_1, rfl, HA, HK1, ⟨m1, rfl⟩⟩ := hrel
  cases gk with
  | zero => exact absurd HA.out (by simp [zlc.l0])
  | succ k1 =>
   have H := HA.out
   clear HA
   simp only [zlc.l0] at H
   by_cases c2 : x7_1 < (l0.length : Int)
   ·rw [if_pos c2] at H
    have c2b0 : decide (x7_1 < (l0.length : Int)) = true := decide_eq_true c2
    clear c2
    by_cases c3 : 0 ≤ x7_1
    ·rw [if_pos c3] at H
     have c3b0 : decide (0 ≤ x7_1) = true := decide_eq_true c3
     clear c3
     by_cases c4 : x7_1 < (l0.length : Int)
     ·rw [if_pos c4] at H
      have c4b0 : decide (x7_1 < (l0.length : Int)) = true := decide_eq_true c4
      clear c4
      by_cases c5 : ((rdOf ByteArray.empty l0 x7_1).size : Int) > 1200
      ·rw [if_pos c5] at H
       have c5b0 : decide (1200 < ((rdOf ByteArray.empty l0 x7_1).size : Int)) = true := decide_eq_true c5
       have c5b1 : decide (1200 < (rdOf ByteArray.empty l0 x7_1).size) = true := decide_eq_true (by omega)
       clear c5
       obtain rfl := Option.some.inj H
       have p118 : 0 ≤ (x7_1 : Int) := of_decide_eq_true (by first | (with_reducible assumption) | assumption)
       have q118 : x7_1 < (l0.length : Int) := of_decide_eq_true (by first | (with_reducible assumption) | assumption)
       obtain ⟨ad118, e118, hx118_0⟩ := Kd.at_string HR0.out x7_1 p118 q118
       cases e118
       replace p118 := eq_true p118
       replace q118 := eq_true q118
       go_wp2
       go_ret
       exact ⟨by first | rfl | (simp; done) | (simp [*]; done) | (simp [zc]; done) | (simp [zc, *]; done), by repeat (first | exact zk.refl _ | apply zk.step)⟩
      ·rw [if_neg c5] at H
       have c5b0 : decide (1200 < ((rdOf ByteArray.empty l0 x7_1).size : Int)) = false := decide_eq_false c5
       have c5b1 : decide (1200 < (rdOf ByteArray.empty l0 x7_1).size) = false := decide_eq_false (by omega)
       clear c5
       have H' := za.mk H
       clear H
       have p118 : 0 ≤ (x7_1 : Int) := of_decide_eq_true (by first | (with_reducible assumption) | assumption)
       have q118 : x7_1 < (l0.length : Int) := of_decide_eq_true (by first | (with_reducible assumption) | assumption)
       obtain ⟨ad118, e118, hx118_0⟩ := Kd.at_string HR0.out x7_1 p118 q118
       cases e118
       replace p118 := eq_true p118
       replace q118 := eq_true q118
       go_wp2
       go_roundg k1
       case measure => have := HK1.out; omega
       case rel => exact ⟨(wrap64 (x7_1 + 1)), (by first | rfl | (simp; done) | (simp [*]; done) | (simp [zc]; done) | (simp [zc, *]; done)), H', ⟨by have := HK1.out; omega⟩, by repeat (first | exact zk.refl _ | apply zk.step)⟩
     ·rw [if_neg c4] at H
      exact absurd H (by simp)
    ·rw [if_neg c3] at H
     exact absurd H (by simp)
   ·rw [if_neg c2] at H
    have c2b0 : decide (x7_1 < (l0.length : Int)) = false := decide_eq_false c2
    clear c2
    obtain rfl := Option.some.inj H
    go_wp2
    go_ret
    exact ⟨by first | rfl | (simp; done) | (simp [*]; done) | (simp [zc]; done) | (simp [zc, *]; done), by repeat (first | exact zk.refl _ | apply zk.step)⟩
def zac.l0 : Nat → Int → ByteArray → Option (ByteArray)
 | 0, _, _ => none
 | k + 1, x0, x3 => if (Utf8.encode (wrap32 (IntKind.u16.wrap (48 + (Int.tmod x0 10))))).size + x3.size ≤ 9223372036854775807 then (if (IntKind.u16.wrap (Int.tdiv x0 10)) = 0 then (some ((Utf8.encode (wrap32 (IntKind.u16.wrap (48 + (Int.tmod x0 10))))) ++ x3)) else (zac.l0 k (IntKind.u16.wrap (Int.tdiv x0 10)) ((Utf8.encode (wrap32 (IntKind.u16.wrap (48 + (Int.tmod x0 10))))) ++ x3))) else (none)
def zac.f (k : Nat) (a0 : Int) : Option (ByteArray) := zac.l0 k a0 (⟨#[]⟩ : ByteArray)
theorem zac.calls (k : Nat) (a0 : Int) (r : ByteArray) (w : World) (h : zac.f k a0 = some r) :
  Calls Tryz.prog 21 #[.int .u16 a0] w fun e w' => e = .returned (.string r) ∧ zk w w' := by
 have H : (zac.l0 k a0 (⟨#[]⟩ : ByteArray)) = some r := h
 clear h
 have H' := za.mk H
 clear H
 go_enter Tryz.func21, Tryz.ntmps21
 go_wp2
 (try simp only [Act.put, List.setIfInBounds_toArray, List.set_cons_zero, List.set_cons_succ])
 go_loopg [0, 3] k (fun kq v0 v3 w' => ∃ (x0_1 : Int) (x3_1 : ByteArray), v0 = .int .u16 x0_1 ∧ v3 = .string x3_1 ∧ za (zac.l0 kq x0_1 x3_1 = some r) ∧ za (kq ≤ k) ∧ zk w w')
 case atStart => exact ⟨(a0), ((⟨#[]⟩ : ByteArray)), (by first | rfl | (simp; done) | (simp [*]; done) | (simp [zc]; done) | (simp [zc, *]; done)), (by first | rfl | (simp; done) | (simp [*]; done) | (simp [zc]; done) | (simp [zc, *]; done)), H', ⟨Nat.le_refl _⟩, by repeat (first | exact zk.refl _ | apply zk.step)⟩
 case round =>
  clear H'
  obtain ⟨x0_1, x3_1, rfl, rfl, HA, HK1, ⟨m1, rfl⟩⟩ := hrel
  cases gk with
  | zero => exact absurd HA.out (by simp [zac.l0])
  | succ k1 =>
   have H := HA.out
   clear HA
   simp only [zac.l0] at H
   by_cases c2 : (Utf8.encode (wrap32 (IntKind.u16.wrap (48 + (Int.tmod x0_1 10))))).size + x3_1.size ≤ 9223372036854775807
   ·rw [if_pos c2] at H
    have c2b0 := eq_true c2
    have c2b1 : decide ((Utf8.encode (wrap32 (IntKind.u16.wrap (48 + (Int.tmod x0_1 10))))).size + x3_1.size ≤ 9223372036854775807) = true := decide_eq_true c2
    try have c2b2 : (9223372036854775807 < (Utf8.encode (wrap32 (IntKind.u16.wrap (48 + (Int.tmod x0_1 10))))).size + x3_1.size) = False := eq_false (Nat.not_lt.2 c2)
    by_cases c3 : (IntKind.u16.wrap (Int.tdiv x0_1 10)) = 0
    ·rw [if_pos c3] at H
     have c3b0 : ((IntKind.u16.wrap (Int.tdiv x0_1 10)) == 0) = true := beq_iff_eq.mpr c3
     have c3b1 : ((IntKind.u16.wrap (Int.tdiv x0_1 10)) != 0) = false := bne_eq_false_iff_eq.mpr c3
     clear c3
     obtain rfl := Option.some.inj H
     have hcv4 := fun (W_ : World) => run_convert_int_string (P := Tryz.prog) W_ 21 9 .i32 (wrap32 (IntKind.u16.wrap (48 + (Int.tmod x0_1 10)))) (by rw [Tryz.underlying21]; rfl) Tryz.underlying9
     go_wp2
     go_ret
     exact ⟨by first | rfl | (simp; done) | (simp [*]; done) | (simp [zc]; done) | (simp [zc, *]; done), by repeat (first | exact zk.refl _ | apply zk.step)⟩
    ·rw [if_neg c3] at H
     have c3b0 : ((IntKind.u16.wrap (Int.tdiv x0_1 10)) == 0) = false := beq_eq_false_iff_ne.mpr c3
     have c3b1 : ((IntKind.u16.wrap (Int.tdiv x0_1 10)) != 0) = true := bne_iff_ne.mpr c3
     have H' := za.mk H
     clear H
     have hcv5 := fun (W_ : World) => run_convert_int_string (P := Tryz.prog) W_ 21 9 .i32 (wrap32 (IntKind.u16.wrap (48 + (Int.tmod x0_1 10)))) (by rw [Tryz.underlying21]; rfl) Tryz.underlying9
     go_wp2
     go_roundg k1
     case measure => have := HK1.out; omega
     case rel => exact ⟨(IntKind.u16.wrap (Int.tdiv x0_1 10)), ((Utf8.encode (wrap32 (IntKind.u16.wrap (48 + (Int.tmod x0_1 10))))) ++ x3_1), (by first | rfl | (simp; done) | (simp [*]; done) | (simp [zc]; done) | (simp [zc, *]; done)), (by first | rfl | (simp; done) | (simp [*]; done) | (simp [zc]; done) | (simp [zc, *]; done)), H', ⟨by have := HK1.out; omega⟩, by repeat (first | exact zk.refl _ | apply zk.step)⟩
   ·rw [if_neg c2] at H
    exact absurd H (by simp)
def zxb.l0 : Nat → ByteArray → ByteArray → Int → Option (ByteArray)
 | 0, _, _, _ => none
 | k + 1, x0, x3, x4 => if x4 < (x0.size : Int) then (if 0 ≤ x4 then (if (bt x0 x4) ≥ 65 then (if (bt x0 x4) ≤ 90 then (if x3.size + (Utf8.encode (((bt x0 x4) + 32) % 256)).size ≤ 9223372036854775807 then (zxb.l0 k x0 (x3 ++ (Utf8.encode (((bt x0 x4) + 32) % 256))) (wrap64 (x4 + 1))) else (none)) else (if x3.size + (Utf8.encode (wrap32 (bt x0 x4))).size ≤ 9223372036854775807 then (zxb.l0 k x0 (x3 ++ (Utf8.encode (wrap32 (bt x0 x4)))) (wrap64 (x4 + 1))) else (none))) else (if x3.size + (Utf8.encode (wrap32 (bt x0 x4))).size ≤ 9223372036854775807 then (zxb.l0 k x0 (x3 ++ (Utf8.encode (wrap32 (bt x0 x4)))) (wrap64 (x4 + 1))) else (none))) else (none)) else (some x3)
def zxb.f (k : Nat) (a0 : ByteArray) : Option (ByteArray) := zxb.l0 k a0 (⟨#[]⟩ : ByteArray) 0
theorem zxb.calls (k : Nat) (a0 : ByteArray) (r : ByteArray) (w : World) (h : zxb.f k a0 = some r) :
  Calls Tryz.prog 31 #[.string a0] w fun e w' => e = .returned (.string r) ∧ zk w w' := by
 have H : (zxb.l0 k a0 (⟨#[]⟩ : ByteArray) 0) = some r := h
 clear h
 have H' := za.mk H
 clear H
 go_enter Tryz.func31, Tryz.ntmps31
 go_wp2
 (try simp only [Act.put, List.setIfInBounds_toArray, List.set_cons_zero, List.set_cons_succ])
 go_loopg [3, 4] k (fun kq v3 v4 w' => ∃ (x3_1 : ByteArray) (x4_1 : Int), v3 = .string x3_1 ∧ v4 = .int .i64 x4_1 ∧ za (zxb.l0 kq a0 x3_1 x4_1 = some r) ∧ za (kq ≤ k) ∧ zk w w')
 case atStart => exact ⟨((⟨#[]⟩ : ByteArray)), (0), (by first | rfl | (simp; done) | (simp [*]; done) | (simp [zc]; done) | (simp [zc, *]; done)), (by first | rfl | (simp; done) | (simp [*]; done) | (simp [zc]; done) | (simp [zc, *]; done)), H', ⟨Nat.le_refl _⟩, by repeat (first | exact zk.refl _ | apply zk.step)⟩
 case round =>
  clear H'
  obtain ⟨x3_1, x4_1, rfl, rfl, HA, HK1, ⟨m1, rfl⟩⟩ := hrel
  cases gk with
  | zero => exact absurd HA.out (by simp [zxb.l0])
  | succ k1 =>
   have H := HA.out
   clear HA
   simp only [zxb.l0] at H
   by_cases c2 : x4_1 < (a0.size : Int)
   ·rw [if_pos c2] at H
    have c2b0 : decide (x4_1 < (a0.size : Int)) = true := decide_eq_true c2
    clear c2
    by_cases c3 : 0 ≤ x4_1
    ·rw [if_pos c3] at H
     have c3b0 : decide (0 ≤ x4_1) = true := decide_eq_true c3
     clear c3
     by_cases c5 : (bt a0 x4_1) ≥ 65
     ·rw [if_pos c5] at H
      have c5b0 : decide (65 ≤ (bt a0 x4_1)) = true := decide_eq_true c5
      clear c5
      by_cases c6 : (bt a0 x4_1) ≤ 90
      ·rw [if_pos c6] at H
       have c6b0 : decide ((bt a0 x4_1) ≤ 90) = true := decide_eq_true c6
       clear c6
       by_cases c7 : x3_1.size + (Utf8.encode (((bt a0 x4_1) + 32) % 256)).size ≤ 9223372036854775807
       ·rw [if_pos c7] at H
        have c7b0 := eq_true c7
        have c7b1 : decide (x3_1.size + (Utf8.encode (((bt a0 x4_1) + 32) % 256)).size ≤ 9223372036854775807) = true := decide_eq_true c7
        try have c7b2 : (9223372036854775807 < x3_1.size + (Utf8.encode (((bt a0 x4_1) + 32) % 256)).size) = False := eq_false (Nat.not_lt.2 c7)
        have H' := za.mk H
        clear H
        have p4 : 0 ≤ (x4_1 : Int) := of_decide_eq_true (by first | (with_reducible assumption) | assumption)
        have q4 : x4_1 < (a0.size : Int) := of_decide_eq_true (by first | (with_reducible assumption) | assumption)
        have hx4 := bt_at a0 x4_1
        replace p4 := eq_true p4
        replace q4 := eq_true q4
        have hcv8 := fun (W_ : World) => run_convert_int_string (P := Tryz.prog) W_ 21 9 .i32 (((bt a0 x4_1) + 32) % 256) (by rw [Tryz.underlying21]; rfl) Tryz.underlying9
        go_wp2
        go_roundg k1
        case measure => have := HK1.out; omega
        case rel => exact ⟨(x3_1 ++ (Utf8.encode (((bt a0 x4_1) + 32) % 256))), (wrap64 (x4_1 + 1)), (by first | rfl | (simp; done) | (simp [*]; done) | (simp [zc]; done) | (simp [zc, *]; done)), (by first | rfl | (simp; done) | (simp [*]; done) | (simp [zc]; done) | (simp [zc, *]; done)), H', ⟨by have := HK1.out; omega⟩, by repeat (first | exact zk.refl _ | apply zk.step)⟩
       ·rw [if_neg c7] at H
        exact absurd H (by simp)
      ·rw [if_neg c6] at H
       have c6b0 : decide ((bt a0 x4_1) ≤ 90) = false := decide_eq_false c6
       clear c6
       by_cases c9 : x3_1.size + (Utf8.encode (wrap32 (bt a0 x4_1))).size ≤ 9223372036854775807
       ·rw [if_pos c9] at H
        have c9b0 := eq_true c9
        have c9b1 : decide (x3_1.size + (Utf8.encode (wrap32 (bt a0 x4_1))).size ≤ 9223372036854775807) = true := decide_eq_true c9
        try have c9b2 : (9223372036854775807 < x3_1.size + (Utf8.encode (wrap32 (bt a0 x4_1))).size) = False := eq_false (Nat.not_lt.2 c9)
        have H' := za.mk H
        clear H
        have p4 : 0 ≤ (x4_1 : Int) := of_decide_eq_true (by first | (with_reducible assumption) | assumption)
        have q4 : x4_1 < (a0.size : Int) := of_decide_eq_true (by first | (with_reducible assumption) | assumption)
        have hx4 := bt_at a0 x4_1
        replace p4 := eq_true p4
        replace q4 := eq_true q4
        have hcv10 := fun (W_ : World) => run_convert_int_string (P := Tryz.prog) W_ 21 9 .i32 (wrap32 (bt a0 x4_1)) (by rw [Tryz.underlying21]; rfl) Tryz.underlying9
        go_wp2
        go_roundg k1
        case measure => have := HK1.out; omega
        case rel => exact ⟨(x3_1 ++ (Utf8.encode (wrap32 (bt a0 x4_1)))), (wrap64 (x4_1 + 1)), (by first | rfl | (simp; done) | (simp [*]; done) | (simp [zc]; done) | (simp [zc, *]; done)), (by first | rfl | (simp; done) | (simp [*]; done) | (simp [zc]; done) | (simp [zc, *]; done)), H', ⟨by have := HK1.out; omega⟩, by repeat (first | exact zk.refl _ | apply zk.step)⟩
       ·rw [if_neg c9] at H
        exact absurd H (by simp)
     ·rw [if_neg c5] at H
      have c5b0 : decide (65 ≤ (bt a0 x4_1)) = false := decide_eq_false c5
      clear c5
      by_cases c11 : x3_1.size + (Utf8.encode (wrap32 (bt a0 x4_1))).size ≤ 9223372036854775807
      ·rw [if_pos c11] at H
       have c11b0 := eq_true c11
       have c11b1 : decide (x3_1.size + (Utf8.encode (wrap32 (bt a0 x4_1))).size ≤ 9223372036854775807) = true := decide_eq_true c11
       try have c11b2 : (9223372036854775807 < x3_1.size + (Utf8.encode (wrap32 (bt a0 x4_1))).size) = False := eq_false (Nat.not_lt.2 c11)
       have H' := za.mk H
       clear H
       have p4 : 0 ≤ (x4_1 : Int) := of_decide_eq_true (by first | (with_reducible assumption) | assumption)
       have q4 : x4_1 < (a0.size : Int) := of_decide_eq_true (by first | (with_reducible assumption) | assumption)
       have hx4 := bt_at a0 x4_1
       replace p4 := eq_true p4
       replace q4 := eq_true q4
       have hcv12 := fun (W_ : World) => run_convert_int_string (P := Tryz.prog) W_ 21 9 .i32 (wrap32 (bt a0 x4_1)) (by rw [Tryz.underlying21]; rfl) Tryz.underlying9
       go_wp2
       go_roundg k1
       case measure => have := HK1.out; omega
       case rel => exact ⟨(x3_1 ++ (Utf8.encode (wrap32 (bt a0 x4_1)))), (wrap64 (x4_1 + 1)), (by first | rfl | (simp; done) | (simp [*]; done) | (simp [zc]; done) | (simp [zc, *]; done)), (by first | rfl | (simp; done) | (simp [*]; done) | (simp [zc]; done) | (simp [zc, *]; done)), H', ⟨by have := HK1.out; omega⟩, by repeat (first | exact zk.refl _ | apply zk.step)⟩
      ·rw [if_neg c11] at H
       exact absurd H (by simp)
    ·rw [if_neg c3] at H
     exact absurd H (by simp)
   ·rw [if_neg c2] at H
    have c2b0 : decide (x4_1 < (a0.size : Int)) = false := decide_eq_false c2
    clear c2
    obtain rfl := Option.some.inj H
    go_wp2
    go_ret
    exact ⟨by first | rfl | (simp; done) | (simp [*]; done) | (simp [zc]; done) | (simp [zc, *]; done), by repeat (first | exact zk.refl _ | apply zk.step)⟩
def zod.f (a0 : Int) : Option (Bool) := if a0 ≥ 48 then (some (decide (a0 ≤ 57))) else (some false)
theorem zod.calls (a0 : Int) (r : Bool) (w : World) (h : zod.f a0 = some r) :
  Calls Tryz.prog 115 #[.int .u8 a0] w fun e w' => e = .returned (.bool r) ∧ zk w w' := by
 have H : (if a0 ≥ 48 then (some (decide (a0 ≤ 57))) else (some false)) = some r := h
 clear h
 by_cases c2 : a0 ≥ 48
 ·rw [if_pos c2] at H
  have c2b0 : decide (48 ≤ a0) = true := decide_eq_true c2
  clear c2
  obtain rfl := Option.some.inj H
  go_enter Tryz.func115, Tryz.ntmps115
  go_wp2
  go_ret
  exact ⟨by first | rfl | (simp; done) | (simp [*]; done) | (simp [zc]; done) | (simp [zc, *]; done), by repeat (first | exact zk.refl _ | apply zk.step)⟩
 ·rw [if_neg c2] at H
  have c2b0 : decide (48 ≤ a0) = false := decide_eq_false c2
  clear c2
  obtain rfl := Option.some.inj H
  go_enter Tryz.func115, Tryz.ntmps115
  go_wp2
  go_ret
  exact ⟨by first | rfl | (simp; done) | (simp [*]; done) | (simp [zc]; done) | (simp [zc, *]; done), by repeat (first | exact zk.refl _ | apply zk.step)⟩
end Go.Proofs.YtlijjnjpomnphaaGreatDoor.Q
end
