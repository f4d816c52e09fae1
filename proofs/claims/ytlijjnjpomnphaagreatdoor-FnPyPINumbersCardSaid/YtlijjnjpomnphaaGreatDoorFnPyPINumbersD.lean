/- Proved here, for the row of the law FnPyPINumbers: contracts of the Go functions that it reaches, each as its theorem 'calls' says, and the words and plain laws that they need (K6, K7, K8, K9, K10, K11, K12, K13, K14, K15, KN, YC, Y1, Y2, Y3, Y4, Y5, Y6, Y0, Y7, Y8, Y9). -/
import Derived.Test.YtlijjnjpomnphaaGreatDoorFnPyPINumbersC
import Derived.LaidEql
import Derived.LaidEqlPtr
import Derived.StillTailTactics
import Derived.Deep.RegionWith
import Derived.Laws.ResultCell
set_option linter.unusedVariables false
set_option linter.unusedSimpArgs false
set_option maxHeartbeats 8000000
set_option maxRecDepth 100000
section
namespace Go.Proofs.YtlijjnjpomnphaaGreatDoorG
open Go.RowKit YtlijjnjpomnphaaGreatDoorW.PrintWords YtlijjnjpomnphaaGreatDoorW.PrintLast
theorem zwe (p : Option Addr) (W : World) : (method 359 169 (.pointer p) "ReadByte").run Tryz.prog W = .ok (217, .pointer p) W := by kernel_rfl
theorem zkg (p : Option Addr) (W : World) : (method 359 169 (.pointer p) "UnreadByte").run Tryz.prog W = .ok (218, .pointer p) W := by kernel_rfl
theorem zxe (xs : Array Value) (W : World) : (callFunc 217 xs).run Tryz.prog W = .ok (.enter 217 xs) W := enters_ Tryz.func217 (by kernel_rfl) rfl xs W
theorem zlg (xs : Array Value) (W : World) : (callFunc 218 xs).run Tryz.prog W = .ok (.enter 218 xs) W := enters_ Tryz.func218 (by kernel_rfl) rfl xs W
theorem scanSign_ (w : World) (b : Nat) (s : ByteArray) (p : Int) (h : Rd w b s 0 p) (hi : 0 < s.size) (hs : s.size ≤ 140737488355328) (h1 : bt s 0 ≠ 45) (h2 : bt s 0 ≠ 43) :
  Calls Tryz.prog 168 #[.iface 169 (.pointer (some ⟨b, 0, none⟩))] w fun e w' => e = .returned (.tuple #[.bool false, .nilIface]) ∧ Rd w' b s 0 (-1) ∧ w.grownBy w' (some b) := by
 have HR := za.mk (readByte_ w b 0 s p h hi hs)
 have HU := za.mk (fun w1 p1 (h : Rd w1 b s 1 p1) => unreadByte_ w1 b 0 s p1 h (by omega))
 have e0 : ((0 : Nat) : Int) = 0 := rfl
 rw [e0] at HR
 obtain ⟨c, hc⟩ : ∃ c, c = bt s 0 := ⟨_, rfl⟩
 rw [← hc] at h1 h2 HR
 have b1 : (c == 45) = false := by rw [beq_eq_false_iff_ne]; exact h1
 have b2 : (c == 43) = false := by rw [beq_eq_false_iff_ne]; exact h2
 have i1 := zwe (some ⟨b, 0, none⟩)
 have i2 := zkg (some ⟨b, 0, none⟩)
 have i3 := zxe
 have i4 := zlg
 clear h hc
 go_enter Tryz.func168, Tryz.ntmps168
 go_wp2_with (first
  | (go_at_call 217; refine HR.out.mono ?_; rintro e' w1 ⟨rfl, r1, g1⟩; have R1 := za.mk r1; have G1 := za.mk g1; clear r1 g1)
  | (go_at_call 218; refine (HU.out _ _ R1.out).mono ?_; rintro e' w2 ⟨rfl, r2, g2⟩; have R2 := za.mk r2; have G2 := za.mk g2; clear r2 g2))
 go_ret2
 exact ⟨rfl, R2.out, G1.out.trans G2.out⟩
end Go.Proofs.YtlijjnjpomnphaaGreatDoorG
end
section
namespace Go.Proofs.YtlijjnjpomnphaaGreatDoorG
open Go.RowKit YtlijjnjpomnphaaGreatDoorW.PrintWords YtlijjnjpomnphaaGreatDoorW.PrintLast
theorem zkb {fn : Func} {t u v x : Tmp} (h : fn.results = #[.tmp t, .tmp u, .tmp v, .tmp x]) (tmps : Array Value) (P : Program) (w : World) :
  (results fn tmps).run P w = .ok (.tuple #[tmps.getD t undef, tmps.getD u undef, tmps.getD v undef, tmps.getD x undef]) w := by
 simp [results, h]
theorem errInfo : (Tryz.prog.info? 243).map (fun i => i.comparable) = some true := by kernel_rfl
theorem errPointee : (Tryz.prog.info? 258).isSome = true := by kernel_rfl
def ErrV (a : Addr) : Value := .iface 243 (.pointer (some a))
theorem eq_err (a : Addr) (W : World) : (binOp .eql 74 (.iface 243 (.pointer (some a))) (.iface 243 (.pointer (some a)))).run Tryz.prog W = .ok (.bool true) W := by
 obtain ⟨i, hi, hc⟩ := Option.map_eq_some_iff.1 errInfo
 obtain ⟨j, hj⟩ := Option.isSome_iff_exists.1 errPointee
 exact run_eql_iface_ptr_same W a Tryz.underlying74 Tryz.underlying243 hi hc hj
theorem eq_nil_err (a : Addr) (W : World) : (binOp .eql 74 .nilIface (.iface 243 (.pointer (some a)))).run Tryz.prog W = .ok (.bool false) W :=
 run_eql_iface_nil_left W 243 _ Tryz.underlying74
structure Bel (B b : Nat) (w w' : World) : Prop where
 os : w'.os = w.os
 tape : w'.tape = w.tape
 output : w'.output = w.output
 size : w.heap.size ≤ w'.heap.size
 block : ∀ k, k < B → k ≠ b → w'.heap[k]? = w.heap[k]?
theorem Bel.refl (B b : Nat) (w : World) : Bel B b w w := ⟨rfl, rfl, rfl, Nat.le_refl _, fun _ _ _ => rfl⟩
theorem Bel.below {B b : Nat} {w w1 w2 : World} (h : Bel B b w w1) (k : Below B w1 w2) : Bel B b w w2 :=
 ⟨k.os.trans h.os, k.tape.trans h.tape, k.output.trans h.output, Nat.le_trans h.size k.size, fun j h1 h2 => (k.block j h1).trans (h.block j h1 h2)⟩
theorem Bel.grown {B b : Nat} {w w1 w2 : World} (h : Bel B b w w1) (k : w1.grownBy w2 (some b)) (hb : b < w1.heap.size) (hB : B ≤ w1.heap.size) : Bel B b w w2 :=
 ⟨k.os.trans h.os, k.tape.trans h.tape, k.output.trans h.output, Nat.le_trans h.size k.size, fun j h1 h2 => (k.block j (by omega) (fun e => h2 (Option.some.inj e))).trans (h.block j h1 h2)⟩
theorem Bel.cell {B b : Nat} {w w1 : World} (h : Bel B b w w1) {p : Addr} (hp : p.block < B) (hb : p.block ≠ b) : w1.cell? p = w.cell? p := World.cell?_of_block (h.block _ hp hb)
def Dig (c : Int) : Prop := 48 ≤ c ∧ c ≤ 57
instance (c : Int) : Decidable (Dig c) := inferInstanceAs (Decidable (_ ∧ _))
def dv (s : ByteArray) : Nat → Nat
 | 0 => 0
 | k + 1 => dv s k * 10 + (bt s k - 48).toNat
theorem NatS.grown {w w' : World} {B b : Nat} {v : Value} {l : List Nat} (h : NatS w B v l) (k : w.grownBy w' (some b)) (hb : b < B) : NatS w' B v l := by
 rcases h with h | ⟨g, full, h1, h2, h3, h4⟩
 ·exact .inl h
 ·exact .inr ⟨g, full, h1, h2, h3.same (k.block g h3.lt (fun e => by have := Option.some.inj e; omega)), h4⟩
structure Sc (B b : Nat) (w wr : World) (s : ByteArray) (v : Value) (k d i : Nat) : Prop where
 nat : ∃ l, NatS wr B v l ∧ num l * 10 ^ i + d = dv s k ∧ l = trimW l ∧ l.length ≤ k
 i19 : i < 19
 dlt : d < 10 ^ i
 ile : i ≤ k
 dig : ∀ j : Nat, j < k → Dig (bt s j)
 bel : Bel B b w wr
theorem pow19 {i : Nat} (h : i < 19) : 10 ^ i ≤ 1000000000000000000 := by
 have : 10 ^ i ≤ 10 ^ 18 := Nat.pow_le_pow_right (by omega) (by omega)
 simpa using this
theorem Sc.word {B b : Nat} {w wr : World} {s : ByteArray} {v : Value} {k d i : Nat} (h : Sc B b w wr s v k d i) : d < 1000000000000000000 := Nat.lt_of_lt_of_le h.dlt (pow19 h.i19)
theorem Sc.grown {B b : Nat} {w w1 w2 : World} {s : ByteArray} {v : Value} {k d i : Nat} (h : Sc B b w w1 s v k d i) (g : w1.grownBy w2 (some b)) (hb : b < B) (hB : B ≤ w.heap.size) : Sc B b w w2 s v k d i := by
 obtain ⟨l, h1, h2⟩ := h.nat
 exact ⟨⟨l, h1.grown g hb, h2⟩, h.i19, h.dlt, h.ile, h.dig, h.bel.grown g (by have := h.bel.size; omega) (by have := h.bel.size; omega)⟩
theorem Sc.digit {B b : Nat} {w wr : World} {s : ByteArray} {v : Value} {k d i : Nat} (h : Sc B b w wr s v k d i) (hd : Dig (bt s k)) (hi : i + 1 < 19) : Sc B b w wr s v (k + 1) (d * 10 + (bt s k - 48).toNat) (i + 1) := by
 obtain ⟨l, h1, h2, h3, h4⟩ := h.nat
 have hx : (bt s k - 48).toNat ≤ 9 := by have := hd.2; have := hd.1; omega
 have hdl := h.dlt
 refine ⟨⟨l, h1, ?_, h3, by omega⟩, hi, ?_, by have := h.ile; omega, fun j hj => ?_, h.bel⟩
 ·simp only [dv]
  rw [← h2, Nat.pow_succ, Nat.add_mul, Nat.mul_assoc]
  omega
 ·rw [Nat.pow_succ]; omega
 ·by_cases e : j = k
  ·rw [e]; exact hd
  ·exact h.dig j (by omega)
theorem ten19 : (10 : Nat) ^ 18 * 10 = 10000000000000000000 := by rfl
theorem full_word (a d x : Nat) : (a * 10000000000000000000 + (d * 10 + x)) * 10 ^ 0 + 0 = (a * 10 ^ 18 + d) * 10 + x := by
 rw [Nat.pow_zero, Nat.mul_one, Nat.add_zero, Nat.add_mul, Nat.mul_assoc, ten19, Nat.add_assoc]
end Go.Proofs.YtlijjnjpomnphaaGreatDoorG
end
section
namespace Go.Proofs.YtlijjnjpomnphaaGreatDoorG
open Go.RowKit YtlijjnjpomnphaaGreatDoorW.PrintWords YtlijjnjpomnphaaGreatDoorW.PrintLast
theorem zff {d : Nat} (h : d < 1000000000000000000) : IsW d := by unfold IsW W64; omega
theorem zle {i : Nat} (h : i < 19) : IsW (10 ^ i) := by
 have := pow19 h
 unfold IsW W64
 omega
theorem pow_ne (i : Nat) : 10 ^ i ≠ 0 := by
 have := Nat.pow_pos (n := i) (show 0 < 10 by omega)
 omega
def ten19i : Nat := 10000000000000000000
theorem ten19i_cast : ((ten19i : Nat) : Int) = 10000000000000000000 := by unfold ten19i; simp
theorem mulAdd19_ (w : World) (B : Nat) (v : Value) (l : List Nat) (r : Nat) (h : NatS w B v l) (hBs : B ≤ w.heap.size) (hr : IsW r) (hl : l.length ≤ 1000000) :
  Calls Tryz.prog 177 #[v, v, .int .u64 10000000000000000000, .int .u64 (r : Int)] w fun e w' => ∃ v' l', e = .returned v' ∧ NatS w' B v' l' ∧ num l' = num l * ten19i + r ∧ l' = trimW l' ∧ l'.length ≤ l.length + 1 ∧ Below B w w' := by
 have t := znd w B v l ten19i r h hBs (by unfold ten19i IsW W64; omega) (by unfold ten19i; omega) hr hl
 rw [ten19i_cast] at t
 exact t
theorem cast_one (k : Nat) : Value.int .i64 ((k : Int) + 1) = Value.int .i64 ((k + 1 : Nat) : Int) := rfl
theorem meas_one (k n : Nat) (h : k < n) : n - (intOf (.int .i64 ((k : Int) + 1))).toNat < n - (intOf (.int .i64 (k : Int))).toNat := by
 simp only [intOf]
 omega
theorem Sc.fill {B b : Nat} {w wr w5 : World} {s : ByteArray} {v v5 : Value} {k d i : Nat} {l l5 : List Nat} (h : Sc B b w wr s v k d i) (hd : Dig (bt s k)) (hi : i + 1 = 19) (m1 : NatS w5 B v5 l5) (m3 : l5 = trimW l5) (m4 : l5.length ≤ l.length + 1) (m5 : Below B wr w5)
  (m2 : num l5 = num l * ten19i + (d * 10 + (bt s k - 48).toNat)) (n2 : num l * 10 ^ i + d = dv s k) (n4 : l.length ≤ k) : Sc B b w w5 s v5 (k + 1) 0 0 := by
 refine ⟨⟨l5, m1, ?_, m3, by omega⟩, by omega, by simp, by omega, fun j hj => ?_, h.bel.below m5⟩
 ·have e : i = 18 := by omega
  have e3 : dv s (k + 1) = dv s k * 10 + (bt s k - 48).toNat := rfl
  rw [e3, m2, ← n2, e]
  unfold ten19i
  exact full_word _ _ _
 ·by_cases ej : j = k
  ·rw [ej]; exact hd
  ·exact h.dig j (by omega)
def Head (w : World) (b : Nat) (s : ByteArray) (k : Nat) (ch er : Value) (EP : Addr) : Prop :=
 (k < s.size ∧ er = .nilIface ∧ ch = .int .u8 (bt s k) ∧ Rd w b s (k + 1) (-1)) ∨ (k = s.size ∧ er = ErrV EP ∧ ch = .int .u8 0 ∧ Rd w b s s.size (-1))
theorem next_ (w : World) (b k : Nat) (s : ByteArray) (p : Int) (EP : Addr) (h : Rd w b s k p) (hk : k ≤ s.size) (hs : s.size ≤ 1000000) (hE : w.cell? ⟨2, 0, none⟩ = some (ErrV EP)) (hb : b ≠ 2) :
  Calls Tryz.prog 217 #[.pointer (some ⟨b, 0, none⟩)] w fun e w' => ∃ ch er, e = .returned (.tuple #[ch, er]) ∧ Head w' b s k ch er EP ∧ w.grownBy w' (some b) := by
 rcases Nat.lt_or_ge k s.size with h1 | h1
 ·refine (readByte_ w b k s p h h1 (by omega)).mono ?_
  rintro e w' ⟨rfl, h2, h3⟩
  exact ⟨_, _, rfl, .inl ⟨h1, rfl, rfl, h2⟩, h3⟩
 ·obtain rfl : k = s.size := by omega
  refine (zph w b s p _ h hE hb (by omega)).mono ?_
  rintro e w' ⟨rfl, h2, h3⟩
  exact ⟨_, _, rfl, .inr ⟨rfl, rfl, rfl, h2⟩, h3⟩
def Out (B b : Nat) (w : World) (s : ByteArray) (NP : Addr) (e : Ending) (w' : World) : Prop :=
 ∃ (v er : Value) (l : List Nat) (r : Nat), e = .returned (.tuple #[v, .int .i64 10, .int .i64 (r : Int), er]) ∧ NatS w' B v l ∧ num l = dv s r ∧ l = trimW l ∧ r ≤ s.size ∧ (∀ j : Nat, j < r → Dig (bt s j)) ∧ (r < s.size → ¬ Dig (bt s r)) ∧
  (r = 0 → er = ErrV NP) ∧ (0 < r → er = .nilIface) ∧ (∃ q, Rd w' b s r q) ∧ Bel B b w w'
theorem natScan_ (w : World) (B b : Nat) (s : ByteArray) (p : Int) (EP NP : Addr) (h : Rd w b s 0 p) (h0 : 0 < s.size) (hs : s.size ≤ 1000000) (hb : b < B) (hBs : B ≤ w.heap.size)
  (hE : w.cell? ⟨2, 0, none⟩ = some (ErrV EP)) (hN : w.cell? ⟨7, 0, none⟩ = some (ErrV NP)) (hbg : 7 < b) :
  Calls Tryz.prog 169 #[.slice none 0 0, .iface 169 (.pointer (some ⟨b, 0, none⟩)), .int .i64 10, .bool false] w (Out B b w s NP) := by
 have HFIRST := za.mk (readByte_ w b 0 s p h h0 (by omega))
 have e0 : ((0 : Nat) : Int) = 0 := rfl
 rw [e0] at HFIRST
 have i1 := zwe (some ⟨b, 0, none⟩)
 have i2 := zkg (some ⟨b, 0, none⟩)
 have i3 := zxe
 have i4 := zlg
 have HE := za.mk hE
 have HN := za.mk hN
 clear h hE hN
 go_enter Tryz.func169, Tryz.ntmps169
 go_wp2_with (first
  | (go_at_call 217; refine HFIRST.out.mono ?_; rintro e' w1 ⟨rfl, r1, g1⟩; have R1 := za.mk r1; have G1 := za.mk g1; clear r1 g1)
  | (go_at_call 176; refine (maxPow_ _).mono ?_; rintro e' w2 ⟨rfl, rfl⟩))
 have HB0 : za (B ≤ w.heap.size) := ⟨hBs⟩
 have HBB : za (b < B ∧ 7 < b ∧ s.size ≤ 1000000 ∧ 0 < s.size) := ⟨⟨hb, hbg, hs, h0⟩⟩
 have START : za (Sc B b w w2 s (.slice none 0 0) 0 0 0 ∧ Head w2 b s 0 (.int .u8 (bt s 0)) .nilIface EP) := ⟨⟨⟨⟨[], .inl ⟨rfl, rfl⟩, by simp [num, dv], rfl, by simp⟩, by omega, by simp, by omega, fun j hj => by omega, (Bel.refl B b w).grown G1.out (by omega) hBs⟩, .inl ⟨h0, rfl, rfl, R1.out⟩⟩⟩
 clear R1 G1 HFIRST h0 hs hb hBs hbg
 go_loopw [0, 3, 10, 11, 13, 14, 15, 20, 21, 22] (fun z fr cnt er pv iv ch di ii dp wr => ∃ k d i : Nat, k ≤ s.size ∧ fr = .bool false ∧ cnt = .int .i64 k ∧ (∃ pr : Int, pv = .int .i32 pr ∧ pr ≠ 95) ∧ iv = .bool false ∧ di = .int .u64 (d : Int) ∧ ii = .int .i64 (i : Int) ∧ dp = .int .i64 (-1) ∧ za (Sc B b w wr s z k d i) ∧ za (Head wr b s k ch er EP)) (fun _ _ cnt _ _ _ _ _ _ _ _ => s.size - (intOf cnt).toNat)
 case atStart => exact ⟨0, 0, 0, Nat.zero_le _, rfl, rfl, ⟨46, rfl, by decide⟩, rfl, rfl, rfl, rfl, ⟨START.out.1⟩, ⟨START.out.2⟩⟩
 case round =>
  clear START
  obtain ⟨k, d, i, hk, rfl, rfl, ⟨pr, rfl, hpr⟩, rfl, rfl, rfl, rfl, hsc, hhd⟩ := hrel
  have q1 := eq_err EP
  have q2 := eq_nil_err EP
  have q3 : (pr == 95) = false := by rw [beq_eq_false_iff_ne]; exact hpr
  rcases hhd.out with ⟨hks, he, hch, hr⟩ | ⟨hks, he, hch, hr⟩
  ·subst he
   subst hch
   have HR := za.mk hr
   have HUN := za.mk (unreadByte_ wr b k s (-1) hr (by have h_ := HBB.out.2.2.1; omega))
   clear hr hhd
   by_cases hdig : Dig (bt s k)
   ·have HDIG := za.mk hdig
    have HNEXT := za.mk (fun w3 (h : Rd w3 b s (k + 1) (-1)) (hE : w3.cell? ⟨2, 0, none⟩ = some (ErrV EP)) => next_ w3 b (k + 1) s (-1) EP h hks HBB.out.2.2.1 hE (by have h_ := HBB.out.2.1; omega))
    obtain ⟨x, hx⟩ : ∃ x : Nat, x = (bt s k - 48).toNat := ⟨_, rfl⟩
    obtain ⟨c, hc⟩ : ∃ c, c = bt s k := ⟨_, rfl⟩
    rw [← hc]
    have hd1 : 48 ≤ c := by rw [hc]; exact hdig.1
    have hd2 : c ≤ 57 := by rw [hc]; exact hdig.2
    have hxc : (x : Int) = c - 48 := by rw [hx, ← hc]; omega
    have HX := za.mk hx
    have f1 : (c == 46) = false := by rw [beq_eq_false_iff_ne]; omega
    have f2 : (c == 95) = false := by rw [beq_eq_false_iff_ne]; omega
    have f3 : decide (48 ≤ c) = true := decide_eq_true hd1
    have f4 : decide (c ≤ 57) = true := decide_eq_true hd2
    have f5 : (c - 48) % 256 = (x : Int) := by omega
    have f6 : IntKind.u64.wrap (x : Int) = (x : Int) := wrap_W (by unfold W64; omega)
    have hw := hsc.out.word
    obtain ⟨m, hm⟩ : ∃ m : Nat, m = d * 10 := ⟨_, rfl⟩
    obtain ⟨d2, hd⟩ : ∃ d2 : Nat, d2 = d * 10 + x := ⟨_, rfl⟩
    have f7 : IntKind.u64.wrap ((d : Int) * 10) = (m : Int) := by
     have e : (d : Int) * 10 = (m : Int) := by omega
     rw [e]
     exact wrap_W (by unfold W64; omega)
    have f8 : IntKind.u64.wrap ((m : Int) + (x : Int)) = (d2 : Int) := by
     have e : (m : Int) + (x : Int) = (d2 : Int) := by omega
     rw [e]
     exact wrap_W (by unfold W64; omega)
    have f9 : decide ((x : Int) ≥ 10) = false := decide_eq_false (by omega)
    have f9b : (10 ≤ (x : Int)) = False := eq_false (by omega)
    have f10 : wrap64 ((k : Int) + 1) = (k : Int) + 1 := by have h_ := HBB.out.2.2.1; unfold wrap64; omega
    have f11 : wrap64 ((i : Int) + 1) = (i : Int) + 1 := by have h_ := hsc.out.i19; unfold wrap64; omega
    have HD2 := za.mk hd
    have HW2 : za (IsW d2) := ⟨by unfold IsW W64; omega⟩
    have hEw : wr.cell? ⟨2, 0, none⟩ = some (ErrV EP) := by
     rw [hsc.out.bel.cell (p := ⟨2, 0, none⟩) (by have h_ := HBB.out.1; have h2_ := HBB.out.2.1; show 2 < B; omega) (by have h2_ := HBB.out.2.1; show 2 ≠ b; omega)]
     exact HE.out
    have HEW := za.mk hEw
    have HI := za.mk hsc.out.i19
    clear hEw hx hc hdig hm hd hw hd1 hd2 hxc
    by_cases hi : i + 1 = 19
    ·have g1 : ((i : Int) + 1 == 19) = true := by rw [beq_iff_eq]; omega
     have g2 : (i : Int) + 1 = 19 := by omega
     go_wp2_with (first
      | (go_at_call 177; obtain ⟨l, hl1, hl2, hl3, hl4⟩ := hsc.out.nat; refine (mulAdd19_ wr B u0 l d2 hl1 (Nat.le_trans HB0.out hsc.out.bel.size) HW2.out (Nat.le_trans hl4 (Nat.le_trans (Nat.le_of_lt hks) HBB.out.2.2.1))).mono ?_; rintro e' w5 ⟨v5, l5, rfl, m1, m2, m3, m4, m5⟩; have M := za.mk (And.intro m1 (And.intro m2 (And.intro m3 (And.intro m4 m5)))); have R5 : za (Rd w5 b s (k + 1) (-1)) := ⟨HR.out.same (m5.block b HBB.out.1)⟩; have E5 : za (w5.cell? ⟨2, 0, none⟩ = some (ErrV EP)) := ⟨by rw [← HEW.out]; exact World.cell?_of_block (m5.block _ (by have h_ := HBB.out.1; have h2_ := HBB.out.2.1; show 2 < B; omega))⟩; have L := za.mk (And.intro hl2 (And.intro hl4 hl1)); clear m1 m2 m3 m4 m5 hl1 hl2 hl3 hl4)
      | (go_at_call 217; refine (HNEXT.out _ R5.out E5.out).mono ?_; rintro e' w6 ⟨ch6, er6, rfl, hh6, hg6⟩; have H6 := za.mk hh6; have G6 := za.mk hg6; clear hh6 hg6))
     go_roundw
     case rel =>
      obtain ⟨m1, m2, m3, m4, m5⟩ := M.out
      obtain ⟨n2, n4, n1⟩ := L.out
      have hs2 : Sc B b w w5 s v5 (k + 1) 0 0 := hsc.out.fill HDIG.out hi m1 m3 m4 m5 (by rw [m2, HD2.out, HX.out]) n2 n4
      exact ⟨k + 1, 0, 0, Nat.succ_le_of_lt hks, rfl, cast_one k, ⟨48, rfl, by decide⟩, rfl, rfl, rfl, rfl, ⟨hs2.grown G6.out HBB.out.1 HB0.out⟩, H6⟩
     case measure => exact meas_one k s.size hks
    ·have HI19 : za (i + 1 < 19) := ⟨by have h_ := HI.out; omega⟩
     have g1 : ((i : Int) + 1 == 19) = false := by rw [beq_eq_false_iff_ne]; omega
     have g2 : ¬ ((i : Int) + 1 = 19) := by omega
     go_wp2_with (first
      | (go_at_call 217; refine (HNEXT.out _ HR.out HEW.out).mono ?_; rintro e' w6 ⟨ch6, er6, rfl, hh6, hg6⟩; have H6 := za.mk hh6; have G6 := za.mk hg6; clear hh6 hg6))
     go_roundw
     case rel =>
      have hs2 := (hsc.out.digit HDIG.out HI19.out).grown G6.out HBB.out.1 HB0.out
      exact ⟨k + 1, d2, i + 1, Nat.succ_le_of_lt hks, rfl, cast_one k, ⟨48, rfl, by decide⟩, rfl, rfl, cast_one i, rfl, ⟨by rw [HD2.out, HX.out]; exact hs2⟩, H6⟩
     case measure => exact meas_one k s.size hks
   ·have HND := za.mk hdig
    obtain ⟨c, hc⟩ : ∃ c, c = bt s k := ⟨_, rfl⟩
    have hr0 := bt_range s k
    rw [← hc] at hr0 ⊢
    have hnd : ¬ (48 ≤ c ∧ c ≤ 57) := by rw [hc]; exact hdig
    clear hdig hc hks
    by_cases hcc : c = 46
    ·subst hcc
     clear hnd hr0
     go_upto_region 80 with (first | (go_at_call 218; refine HUN.out.mono ?_; rintro e' w3 ⟨rfl, r3, g3⟩; have R3 := za.mk r3; have S3 : za (Sc B b w w3 s u0 k d i) := ⟨hsc.out.grown g3 HBB.out.1 HB0.out⟩; have hE3 : w3.cell? ⟨2, 0, none⟩ = some (.iface 243 (.pointer (some EP))) := (S3.out.bel.cell (p := ⟨2, 0, none⟩) (by have h_ := HBB.out.1; have h2_ := HBB.out.2.1; show 2 < B; omega) (by have h2_ := HBB.out.2.1; show 2 ≠ b; omega)).trans HE.out; have hN3 : w3.cell? ⟨7, 0, none⟩ = some (.iface 243 (.pointer (some NP))) := (S3.out.bel.cell (p := ⟨7, 0, none⟩) (by have h_ := HBB.out.1; have h2_ := HBB.out.2.1; show 7 < B; omega) (by have h2_ := HBB.out.2.1; show 7 ≠ b; omega)).trans HN.out; clear r3 g3))
     by_cases hk0 : k = 0
     ·have hi0 := S3.out.ile
      have c1 : ((k : Int) == 0) = true := by rw [beq_iff_eq]; omega
      have c2 : (k : Int) = 0 := by omega
      have c3 : (i : Int) = 0 := by omega
      have c4 : decide (0 < (i : Int)) = false := decide_eq_false (by omega)
      go_wp2
      (try simp only [Exit.inBlock, Exit.then])
      refine bodyPost_ret (zkb rfl _ _ _) rfl ?_
      obtain ⟨l, hl1, hl2, hl3, hl4⟩ := S3.out.nat
      obtain rfl : k = 0 := by omega
      obtain rfl : i = 0 := by omega
      exact ⟨_, _, l, 0, rfl, hl1, by have h_ := S3.out.dlt; simp at h_; rw [h_] at hl2; simpa using hl2, hl3, hk, S3.out.dig, (fun _ => HND.out), fun _ => rfl, (fun h => absurd h (Nat.lt_irrefl _)), ⟨-1, R3.out⟩, S3.out.bel⟩
     ·by_cases hi0 : i = 0
      ·have c1 : ((k : Int) == 0) = false := by rw [beq_eq_false_iff_ne]; omega
       have c2 : ¬ ((k : Int) = 0) := by omega
       have c3 : (i : Int) = 0 := by omega
       have c4 : decide (0 < (i : Int)) = false := decide_eq_false (by omega)
       go_wp2
       (try simp only [Exit.inBlock, Exit.then])
       refine bodyPost_ret (zkb rfl _ _ _) rfl ?_
       obtain ⟨l, hl1, hl2, hl3, hl4⟩ := S3.out.nat
       obtain rfl : i = 0 := by omega
       exact ⟨_, _, l, k, rfl, hl1, by have h_ := S3.out.dlt; simp at h_; rw [h_] at hl2; simpa using hl2, hl3, hk, S3.out.dig, (fun _ => HND.out), (fun h => absurd h (by omega)), fun _ => rfl, ⟨-1, R3.out⟩, S3.out.bel⟩
      ·have c1 : ((k : Int) == 0) = false := by rw [beq_eq_false_iff_ne]; omega
       have c2 : ¬ ((k : Int) = 0) := by omega
       have c4 : decide (0 < (i : Int)) = true := decide_eq_true (by omega)
       have c5 := S3.out.i19
       go_wp2_with (first | (go_at_call 178; refine (pow_ i (by omega) (by omega) _).mono ?_; rintro e' w4 ⟨rfl, hw4⟩; have hw4 := hw4.symm; subst hw4) | (go_at_call 177; obtain ⟨l, hl1, hl2, hl3, hl4⟩ := S3.out.nat; refine (znd w3 B u0 l (10 ^ i) d hl1 (Nat.le_trans HB0.out S3.out.bel.size) (zle S3.out.i19) (pow_ne i) (zff S3.out.word) (Nat.le_trans hl4 (Nat.le_trans hk HBB.out.2.2.1))).mono ?_; rintro e' w5 ⟨v5, l5, rfl, m1, m2, m3, m4, m5⟩; have M := za.mk (And.intro m1 (And.intro (m2.trans hl2) (And.intro m3 m5))); clear m1 m2 m3 m4 m5 hl1 hl2 hl3 hl4))
       (try simp only [Exit.inBlock, Exit.then])
       refine bodyPost_ret (zkb rfl _ _ _) rfl ?_
       obtain ⟨m1, m2, m3, m5⟩ := M.out
       exact ⟨_, _, l5, k, rfl, m1, m2, m3, hk, S3.out.dig, (fun _ => HND.out), (fun h => absurd h (by omega)), fun _ => rfl, ⟨-1, R3.out.same (m5.block b HBB.out.1)⟩, S3.out.bel.below m5⟩
    ·have hn8 := hcc
     clear hcc
     by_cases hcc : c = 95
     ·subst hcc
      clear hnd hr0
      go_upto_region 80 with (first | (go_at_call 218; refine HUN.out.mono ?_; rintro e' w3 ⟨rfl, r3, g3⟩; have R3 := za.mk r3; have S3 : za (Sc B b w w3 s u0 k d i) := ⟨hsc.out.grown g3 HBB.out.1 HB0.out⟩; have hE3 : w3.cell? ⟨2, 0, none⟩ = some (.iface 243 (.pointer (some EP))) := (S3.out.bel.cell (p := ⟨2, 0, none⟩) (by have h_ := HBB.out.1; have h2_ := HBB.out.2.1; show 2 < B; omega) (by have h2_ := HBB.out.2.1; show 2 ≠ b; omega)).trans HE.out; have hN3 : w3.cell? ⟨7, 0, none⟩ = some (.iface 243 (.pointer (some NP))) := (S3.out.bel.cell (p := ⟨7, 0, none⟩) (by have h_ := HBB.out.1; have h2_ := HBB.out.2.1; show 7 < B; omega) (by have h2_ := HBB.out.2.1; show 7 ≠ b; omega)).trans HN.out; clear r3 g3))
      by_cases hk0 : k = 0
      ·have hi0 := S3.out.ile
       have c1 : ((k : Int) == 0) = true := by rw [beq_iff_eq]; omega
       have c2 : (k : Int) = 0 := by omega
       have c3 : (i : Int) = 0 := by omega
       have c4 : decide (0 < (i : Int)) = false := decide_eq_false (by omega)
       go_wp2
       (try simp only [Exit.inBlock, Exit.then])
       refine bodyPost_ret (zkb rfl _ _ _) rfl ?_
       obtain ⟨l, hl1, hl2, hl3, hl4⟩ := S3.out.nat
       obtain rfl : k = 0 := by omega
       obtain rfl : i = 0 := by omega
       exact ⟨_, _, l, 0, rfl, hl1, by have h_ := S3.out.dlt; simp at h_; rw [h_] at hl2; simpa using hl2, hl3, hk, S3.out.dig, (fun _ => HND.out), fun _ => rfl, (fun h => absurd h (Nat.lt_irrefl _)), ⟨-1, R3.out⟩, S3.out.bel⟩
      ·by_cases hi0 : i = 0
       ·have c1 : ((k : Int) == 0) = false := by rw [beq_eq_false_iff_ne]; omega
        have c2 : ¬ ((k : Int) = 0) := by omega
        have c3 : (i : Int) = 0 := by omega
        have c4 : decide (0 < (i : Int)) = false := decide_eq_false (by omega)
        go_wp2
        (try simp only [Exit.inBlock, Exit.then])
        refine bodyPost_ret (zkb rfl _ _ _) rfl ?_
        obtain ⟨l, hl1, hl2, hl3, hl4⟩ := S3.out.nat
        obtain rfl : i = 0 := by omega
        exact ⟨_, _, l, k, rfl, hl1, by have h_ := S3.out.dlt; simp at h_; rw [h_] at hl2; simpa using hl2, hl3, hk, S3.out.dig, (fun _ => HND.out), (fun h => absurd h (by omega)), fun _ => rfl, ⟨-1, R3.out⟩, S3.out.bel⟩
       ·have c1 : ((k : Int) == 0) = false := by rw [beq_eq_false_iff_ne]; omega
        have c2 : ¬ ((k : Int) = 0) := by omega
        have c4 : decide (0 < (i : Int)) = true := decide_eq_true (by omega)
        have c5 := S3.out.i19
        go_wp2_with (first | (go_at_call 178; refine (pow_ i (by omega) (by omega) _).mono ?_; rintro e' w4 ⟨rfl, hw4⟩; have hw4 := hw4.symm; subst hw4) | (go_at_call 177; obtain ⟨l, hl1, hl2, hl3, hl4⟩ := S3.out.nat; refine (znd w3 B u0 l (10 ^ i) d hl1 (Nat.le_trans HB0.out S3.out.bel.size) (zle S3.out.i19) (pow_ne i) (zff S3.out.word) (Nat.le_trans hl4 (Nat.le_trans hk HBB.out.2.2.1))).mono ?_; rintro e' w5 ⟨v5, l5, rfl, m1, m2, m3, m4, m5⟩; have M := za.mk (And.intro m1 (And.intro (m2.trans hl2) (And.intro m3 m5))); clear m1 m2 m3 m4 m5 hl1 hl2 hl3 hl4))
        (try simp only [Exit.inBlock, Exit.then])
        refine bodyPost_ret (zkb rfl _ _ _) rfl ?_
        obtain ⟨m1, m2, m3, m5⟩ := M.out
        exact ⟨_, _, l5, k, rfl, m1, m2, m3, hk, S3.out.dig, (fun _ => HND.out), (fun h => absurd h (by omega)), fun _ => rfl, ⟨-1, R3.out.same (m5.block b HBB.out.1)⟩, S3.out.bel.below m5⟩
     ·have hn7 := hcc
      clear hcc
      by_cases hcc : 97 ≤ c ∧ c ≤ 122
      ·have f1 : (c == 46) = false := by rw [beq_eq_false_iff_ne]; omega
       have f2 : (c == 95) = false := by rw [beq_eq_false_iff_ne]; omega
       have f3 : decide (48 ≤ c) = true := decide_eq_true (by omega)
       have f4 : decide (c ≤ 57) = false := decide_eq_false (by omega)
       have f5 : decide (97 ≤ c) = true := decide_eq_true (by omega)
       have f6 : decide (c ≤ 122) = true := decide_eq_true (by omega)
       obtain ⟨y, hy⟩ : ∃ y : Nat, y = (c - 97).toNat := ⟨_, rfl⟩
       obtain ⟨x, hx⟩ : ∃ x : Nat, x = y + 10 := ⟨_, rfl⟩
       have f7 : (c - 97) % 256 = (y : Int) := by omega
       have f8 : ((y : Int) + 10) % 256 = (x : Int) := by omega
       have f9 : IntKind.u64.wrap (x : Int) = (x : Int) := wrap_W (by unfold W64; omega)
       have f10 : decide ((x : Int) ≥ 10) = true := decide_eq_true (by omega)
       have f10b : (10 ≤ (x : Int)) = True := eq_true (by omega)
       clear hx hy hcc
       clear hnd hr0
       go_upto_region 80 with (first | (go_at_call 218; refine HUN.out.mono ?_; rintro e' w3 ⟨rfl, r3, g3⟩; have R3 := za.mk r3; have S3 : za (Sc B b w w3 s u0 k d i) := ⟨hsc.out.grown g3 HBB.out.1 HB0.out⟩; have hE3 : w3.cell? ⟨2, 0, none⟩ = some (.iface 243 (.pointer (some EP))) := (S3.out.bel.cell (p := ⟨2, 0, none⟩) (by have h_ := HBB.out.1; have h2_ := HBB.out.2.1; show 2 < B; omega) (by have h2_ := HBB.out.2.1; show 2 ≠ b; omega)).trans HE.out; have hN3 : w3.cell? ⟨7, 0, none⟩ = some (.iface 243 (.pointer (some NP))) := (S3.out.bel.cell (p := ⟨7, 0, none⟩) (by have h_ := HBB.out.1; have h2_ := HBB.out.2.1; show 7 < B; omega) (by have h2_ := HBB.out.2.1; show 7 ≠ b; omega)).trans HN.out; clear r3 g3))
       by_cases hk0 : k = 0
       ·have hi0 := S3.out.ile
        have c1 : ((k : Int) == 0) = true := by rw [beq_iff_eq]; omega
        have c2 : (k : Int) = 0 := by omega
        have c3 : (i : Int) = 0 := by omega
        have c4 : decide (0 < (i : Int)) = false := decide_eq_false (by omega)
        go_wp2
        (try simp only [Exit.inBlock, Exit.then])
        refine bodyPost_ret (zkb rfl _ _ _) rfl ?_
        obtain ⟨l, hl1, hl2, hl3, hl4⟩ := S3.out.nat
        obtain rfl : k = 0 := by omega
        obtain rfl : i = 0 := by omega
        exact ⟨_, _, l, 0, rfl, hl1, by have h_ := S3.out.dlt; simp at h_; rw [h_] at hl2; simpa using hl2, hl3, hk, S3.out.dig, (fun _ => HND.out), fun _ => rfl, (fun h => absurd h (Nat.lt_irrefl _)), ⟨-1, R3.out⟩, S3.out.bel⟩
       ·by_cases hi0 : i = 0
        ·have c1 : ((k : Int) == 0) = false := by rw [beq_eq_false_iff_ne]; omega
         have c2 : ¬ ((k : Int) = 0) := by omega
         have c3 : (i : Int) = 0 := by omega
         have c4 : decide (0 < (i : Int)) = false := decide_eq_false (by omega)
         go_wp2
         (try simp only [Exit.inBlock, Exit.then])
         refine bodyPost_ret (zkb rfl _ _ _) rfl ?_
         obtain ⟨l, hl1, hl2, hl3, hl4⟩ := S3.out.nat
         obtain rfl : i = 0 := by omega
         exact ⟨_, _, l, k, rfl, hl1, by have h_ := S3.out.dlt; simp at h_; rw [h_] at hl2; simpa using hl2, hl3, hk, S3.out.dig, (fun _ => HND.out), (fun h => absurd h (by omega)), fun _ => rfl, ⟨-1, R3.out⟩, S3.out.bel⟩
        ·have c1 : ((k : Int) == 0) = false := by rw [beq_eq_false_iff_ne]; omega
         have c2 : ¬ ((k : Int) = 0) := by omega
         have c4 : decide (0 < (i : Int)) = true := decide_eq_true (by omega)
         have c5 := S3.out.i19
         go_wp2_with (first | (go_at_call 178; refine (pow_ i (by omega) (by omega) _).mono ?_; rintro e' w4 ⟨rfl, hw4⟩; have hw4 := hw4.symm; subst hw4) | (go_at_call 177; obtain ⟨l, hl1, hl2, hl3, hl4⟩ := S3.out.nat; refine (znd w3 B u0 l (10 ^ i) d hl1 (Nat.le_trans HB0.out S3.out.bel.size) (zle S3.out.i19) (pow_ne i) (zff S3.out.word) (Nat.le_trans hl4 (Nat.le_trans hk HBB.out.2.2.1))).mono ?_; rintro e' w5 ⟨v5, l5, rfl, m1, m2, m3, m4, m5⟩; have M := za.mk (And.intro m1 (And.intro (m2.trans hl2) (And.intro m3 m5))); clear m1 m2 m3 m4 m5 hl1 hl2 hl3 hl4))
         (try simp only [Exit.inBlock, Exit.then])
         refine bodyPost_ret (zkb rfl _ _ _) rfl ?_
         obtain ⟨m1, m2, m3, m5⟩ := M.out
         exact ⟨_, _, l5, k, rfl, m1, m2, m3, hk, S3.out.dig, (fun _ => HND.out), (fun h => absurd h (by omega)), fun _ => rfl, ⟨-1, R3.out.same (m5.block b HBB.out.1)⟩, S3.out.bel.below m5⟩
      ·have hn6 := hcc
       clear hcc
       by_cases hcc : 65 ≤ c ∧ c ≤ 90
       ·have f1 : (c == 46) = false := by rw [beq_eq_false_iff_ne]; omega
        have f2 : (c == 95) = false := by rw [beq_eq_false_iff_ne]; omega
        have f3 : decide (48 ≤ c) = true := decide_eq_true (by omega)
        have f4 : decide (c ≤ 57) = false := decide_eq_false (by omega)
        have f5 : decide (97 ≤ c) = false := decide_eq_false (by omega)
        have f6 : decide (65 ≤ c) = true := decide_eq_true (by omega)
        have f6b : decide (c ≤ 90) = true := decide_eq_true (by omega)
        obtain ⟨y, hy⟩ : ∃ y : Nat, y = (c - 65).toNat := ⟨_, rfl⟩
        obtain ⟨x, hx⟩ : ∃ x : Nat, x = y + 10 := ⟨_, rfl⟩
        have f7 : (c - 65) % 256 = (y : Int) := by omega
        have f8 : ((y : Int) + 10) % 256 = (x : Int) := by omega
        have f9 : IntKind.u64.wrap (x : Int) = (x : Int) := wrap_W (by unfold W64; omega)
        have f10 : decide ((x : Int) ≥ 10) = true := decide_eq_true (by omega)
        have f10b : (10 ≤ (x : Int)) = True := eq_true (by omega)
        clear hx hy hcc
        clear hnd hr0
        go_upto_region 80 with (first | (go_at_call 218; refine HUN.out.mono ?_; rintro e' w3 ⟨rfl, r3, g3⟩; have R3 := za.mk r3; have S3 : za (Sc B b w w3 s u0 k d i) := ⟨hsc.out.grown g3 HBB.out.1 HB0.out⟩; have hE3 : w3.cell? ⟨2, 0, none⟩ = some (.iface 243 (.pointer (some EP))) := (S3.out.bel.cell (p := ⟨2, 0, none⟩) (by have h_ := HBB.out.1; have h2_ := HBB.out.2.1; show 2 < B; omega) (by have h2_ := HBB.out.2.1; show 2 ≠ b; omega)).trans HE.out; have hN3 : w3.cell? ⟨7, 0, none⟩ = some (.iface 243 (.pointer (some NP))) := (S3.out.bel.cell (p := ⟨7, 0, none⟩) (by have h_ := HBB.out.1; have h2_ := HBB.out.2.1; show 7 < B; omega) (by have h2_ := HBB.out.2.1; show 7 ≠ b; omega)).trans HN.out; clear r3 g3))
        by_cases hk0 : k = 0
        ·have hi0 := S3.out.ile
         have c1 : ((k : Int) == 0) = true := by rw [beq_iff_eq]; omega
         have c2 : (k : Int) = 0 := by omega
         have c3 : (i : Int) = 0 := by omega
         have c4 : decide (0 < (i : Int)) = false := decide_eq_false (by omega)
         go_wp2
         (try simp only [Exit.inBlock, Exit.then])
         refine bodyPost_ret (zkb rfl _ _ _) rfl ?_
         obtain ⟨l, hl1, hl2, hl3, hl4⟩ := S3.out.nat
         obtain rfl : k = 0 := by omega
         obtain rfl : i = 0 := by omega
         exact ⟨_, _, l, 0, rfl, hl1, by have h_ := S3.out.dlt; simp at h_; rw [h_] at hl2; simpa using hl2, hl3, hk, S3.out.dig, (fun _ => HND.out), fun _ => rfl, (fun h => absurd h (Nat.lt_irrefl _)), ⟨-1, R3.out⟩, S3.out.bel⟩
        ·by_cases hi0 : i = 0
         ·have c1 : ((k : Int) == 0) = false := by rw [beq_eq_false_iff_ne]; omega
          have c2 : ¬ ((k : Int) = 0) := by omega
          have c3 : (i : Int) = 0 := by omega
          have c4 : decide (0 < (i : Int)) = false := decide_eq_false (by omega)
          go_wp2
          (try simp only [Exit.inBlock, Exit.then])
          refine bodyPost_ret (zkb rfl _ _ _) rfl ?_
          obtain ⟨l, hl1, hl2, hl3, hl4⟩ := S3.out.nat
          obtain rfl : i = 0 := by omega
          exact ⟨_, _, l, k, rfl, hl1, by have h_ := S3.out.dlt; simp at h_; rw [h_] at hl2; simpa using hl2, hl3, hk, S3.out.dig, (fun _ => HND.out), (fun h => absurd h (by omega)), fun _ => rfl, ⟨-1, R3.out⟩, S3.out.bel⟩
         ·have c1 : ((k : Int) == 0) = false := by rw [beq_eq_false_iff_ne]; omega
          have c2 : ¬ ((k : Int) = 0) := by omega
          have c4 : decide (0 < (i : Int)) = true := decide_eq_true (by omega)
          have c5 := S3.out.i19
          go_wp2_with (first | (go_at_call 178; refine (pow_ i (by omega) (by omega) _).mono ?_; rintro e' w4 ⟨rfl, hw4⟩; have hw4 := hw4.symm; subst hw4) | (go_at_call 177; obtain ⟨l, hl1, hl2, hl3, hl4⟩ := S3.out.nat; refine (znd w3 B u0 l (10 ^ i) d hl1 (Nat.le_trans HB0.out S3.out.bel.size) (zle S3.out.i19) (pow_ne i) (zff S3.out.word) (Nat.le_trans hl4 (Nat.le_trans hk HBB.out.2.2.1))).mono ?_; rintro e' w5 ⟨v5, l5, rfl, m1, m2, m3, m4, m5⟩; have M := za.mk (And.intro m1 (And.intro (m2.trans hl2) (And.intro m3 m5))); clear m1 m2 m3 m4 m5 hl1 hl2 hl3 hl4))
          (try simp only [Exit.inBlock, Exit.then])
          refine bodyPost_ret (zkb rfl _ _ _) rfl ?_
          obtain ⟨m1, m2, m3, m5⟩ := M.out
          exact ⟨_, _, l5, k, rfl, m1, m2, m3, hk, S3.out.dig, (fun _ => HND.out), (fun h => absurd h (by omega)), fun _ => rfl, ⟨-1, R3.out.same (m5.block b HBB.out.1)⟩, S3.out.bel.below m5⟩
       ·have hn5 := hcc
        clear hcc
        by_cases hcc : c < 48
        ·have f1 : (c == 46) = false := by rw [beq_eq_false_iff_ne]; omega
         have f2 : (c == 95) = false := by rw [beq_eq_false_iff_ne]; omega
         have f3 : decide (48 ≤ c) = false := decide_eq_false (by omega)
         have f4 : decide (97 ≤ c) = false := decide_eq_false (by omega)
         have f5 : decide (65 ≤ c) = false := decide_eq_false (by omega)
         clear hcc
         clear hnd hr0
         go_upto_region 80 with (first | (go_at_call 218; refine HUN.out.mono ?_; rintro e' w3 ⟨rfl, r3, g3⟩; have R3 := za.mk r3; have S3 : za (Sc B b w w3 s u0 k d i) := ⟨hsc.out.grown g3 HBB.out.1 HB0.out⟩; have hE3 : w3.cell? ⟨2, 0, none⟩ = some (.iface 243 (.pointer (some EP))) := (S3.out.bel.cell (p := ⟨2, 0, none⟩) (by have h_ := HBB.out.1; have h2_ := HBB.out.2.1; show 2 < B; omega) (by have h2_ := HBB.out.2.1; show 2 ≠ b; omega)).trans HE.out; have hN3 : w3.cell? ⟨7, 0, none⟩ = some (.iface 243 (.pointer (some NP))) := (S3.out.bel.cell (p := ⟨7, 0, none⟩) (by have h_ := HBB.out.1; have h2_ := HBB.out.2.1; show 7 < B; omega) (by have h2_ := HBB.out.2.1; show 7 ≠ b; omega)).trans HN.out; clear r3 g3))
         by_cases hk0 : k = 0
         ·have hi0 := S3.out.ile
          have c1 : ((k : Int) == 0) = true := by rw [beq_iff_eq]; omega
          have c2 : (k : Int) = 0 := by omega
          have c3 : (i : Int) = 0 := by omega
          have c4 : decide (0 < (i : Int)) = false := decide_eq_false (by omega)
          go_wp2
          (try simp only [Exit.inBlock, Exit.then])
          refine bodyPost_ret (zkb rfl _ _ _) rfl ?_
          obtain ⟨l, hl1, hl2, hl3, hl4⟩ := S3.out.nat
          obtain rfl : k = 0 := by omega
          obtain rfl : i = 0 := by omega
          exact ⟨_, _, l, 0, rfl, hl1, by have h_ := S3.out.dlt; simp at h_; rw [h_] at hl2; simpa using hl2, hl3, hk, S3.out.dig, (fun _ => HND.out), fun _ => rfl, (fun h => absurd h (Nat.lt_irrefl _)), ⟨-1, R3.out⟩, S3.out.bel⟩
         ·by_cases hi0 : i = 0
          ·have c1 : ((k : Int) == 0) = false := by rw [beq_eq_false_iff_ne]; omega
           have c2 : ¬ ((k : Int) = 0) := by omega
           have c3 : (i : Int) = 0 := by omega
           have c4 : decide (0 < (i : Int)) = false := decide_eq_false (by omega)
           go_wp2
           (try simp only [Exit.inBlock, Exit.then])
           refine bodyPost_ret (zkb rfl _ _ _) rfl ?_
           obtain ⟨l, hl1, hl2, hl3, hl4⟩ := S3.out.nat
           obtain rfl : i = 0 := by omega
           exact ⟨_, _, l, k, rfl, hl1, by have h_ := S3.out.dlt; simp at h_; rw [h_] at hl2; simpa using hl2, hl3, hk, S3.out.dig, (fun _ => HND.out), (fun h => absurd h (by omega)), fun _ => rfl, ⟨-1, R3.out⟩, S3.out.bel⟩
          ·have c1 : ((k : Int) == 0) = false := by rw [beq_eq_false_iff_ne]; omega
           have c2 : ¬ ((k : Int) = 0) := by omega
           have c4 : decide (0 < (i : Int)) = true := decide_eq_true (by omega)
           have c5 := S3.out.i19
           go_wp2_with (first | (go_at_call 178; refine (pow_ i (by omega) (by omega) _).mono ?_; rintro e' w4 ⟨rfl, hw4⟩; have hw4 := hw4.symm; subst hw4) | (go_at_call 177; obtain ⟨l, hl1, hl2, hl3, hl4⟩ := S3.out.nat; refine (znd w3 B u0 l (10 ^ i) d hl1 (Nat.le_trans HB0.out S3.out.bel.size) (zle S3.out.i19) (pow_ne i) (zff S3.out.word) (Nat.le_trans hl4 (Nat.le_trans hk HBB.out.2.2.1))).mono ?_; rintro e' w5 ⟨v5, l5, rfl, m1, m2, m3, m4, m5⟩; have M := za.mk (And.intro m1 (And.intro (m2.trans hl2) (And.intro m3 m5))); clear m1 m2 m3 m4 m5 hl1 hl2 hl3 hl4))
           (try simp only [Exit.inBlock, Exit.then])
           refine bodyPost_ret (zkb rfl _ _ _) rfl ?_
           obtain ⟨m1, m2, m3, m5⟩ := M.out
           exact ⟨_, _, l5, k, rfl, m1, m2, m3, hk, S3.out.dig, (fun _ => HND.out), (fun h => absurd h (by omega)), fun _ => rfl, ⟨-1, R3.out.same (m5.block b HBB.out.1)⟩, S3.out.bel.below m5⟩
        ·have hn4 := hcc
         clear hcc
         by_cases hcc : c ≤ 64
         ·have f1 : (c == 46) = false := by rw [beq_eq_false_iff_ne]; omega
          have f2 : (c == 95) = false := by rw [beq_eq_false_iff_ne]; omega
          have f3 : decide (48 ≤ c) = true := decide_eq_true (by omega)
          have f4 : decide (c ≤ 57) = false := decide_eq_false (by omega)
          have f5 : decide (97 ≤ c) = false := decide_eq_false (by omega)
          have f6 : decide (65 ≤ c) = false := decide_eq_false (by omega)
          clear hcc
          clear hnd hr0
          go_upto_region 80 with (first | (go_at_call 218; refine HUN.out.mono ?_; rintro e' w3 ⟨rfl, r3, g3⟩; have R3 := za.mk r3; have S3 : za (Sc B b w w3 s u0 k d i) := ⟨hsc.out.grown g3 HBB.out.1 HB0.out⟩; have hE3 : w3.cell? ⟨2, 0, none⟩ = some (.iface 243 (.pointer (some EP))) := (S3.out.bel.cell (p := ⟨2, 0, none⟩) (by have h_ := HBB.out.1; have h2_ := HBB.out.2.1; show 2 < B; omega) (by have h2_ := HBB.out.2.1; show 2 ≠ b; omega)).trans HE.out; have hN3 : w3.cell? ⟨7, 0, none⟩ = some (.iface 243 (.pointer (some NP))) := (S3.out.bel.cell (p := ⟨7, 0, none⟩) (by have h_ := HBB.out.1; have h2_ := HBB.out.2.1; show 7 < B; omega) (by have h2_ := HBB.out.2.1; show 7 ≠ b; omega)).trans HN.out; clear r3 g3))
          by_cases hk0 : k = 0
          ·have hi0 := S3.out.ile
           have c1 : ((k : Int) == 0) = true := by rw [beq_iff_eq]; omega
           have c2 : (k : Int) = 0 := by omega
           have c3 : (i : Int) = 0 := by omega
           have c4 : decide (0 < (i : Int)) = false := decide_eq_false (by omega)
           go_wp2
           (try simp only [Exit.inBlock, Exit.then])
           refine bodyPost_ret (zkb rfl _ _ _) rfl ?_
           obtain ⟨l, hl1, hl2, hl3, hl4⟩ := S3.out.nat
           obtain rfl : k = 0 := by omega
           obtain rfl : i = 0 := by omega
           exact ⟨_, _, l, 0, rfl, hl1, by have h_ := S3.out.dlt; simp at h_; rw [h_] at hl2; simpa using hl2, hl3, hk, S3.out.dig, (fun _ => HND.out), fun _ => rfl, (fun h => absurd h (Nat.lt_irrefl _)), ⟨-1, R3.out⟩, S3.out.bel⟩
          ·by_cases hi0 : i = 0
           ·have c1 : ((k : Int) == 0) = false := by rw [beq_eq_false_iff_ne]; omega
            have c2 : ¬ ((k : Int) = 0) := by omega
            have c3 : (i : Int) = 0 := by omega
            have c4 : decide (0 < (i : Int)) = false := decide_eq_false (by omega)
            go_wp2
            (try simp only [Exit.inBlock, Exit.then])
            refine bodyPost_ret (zkb rfl _ _ _) rfl ?_
            obtain ⟨l, hl1, hl2, hl3, hl4⟩ := S3.out.nat
            obtain rfl : i = 0 := by omega
            exact ⟨_, _, l, k, rfl, hl1, by have h_ := S3.out.dlt; simp at h_; rw [h_] at hl2; simpa using hl2, hl3, hk, S3.out.dig, (fun _ => HND.out), (fun h => absurd h (by omega)), fun _ => rfl, ⟨-1, R3.out⟩, S3.out.bel⟩
           ·have c1 : ((k : Int) == 0) = false := by rw [beq_eq_false_iff_ne]; omega
            have c2 : ¬ ((k : Int) = 0) := by omega
            have c4 : decide (0 < (i : Int)) = true := decide_eq_true (by omega)
            have c5 := S3.out.i19
            go_wp2_with (first | (go_at_call 178; refine (pow_ i (by omega) (by omega) _).mono ?_; rintro e' w4 ⟨rfl, hw4⟩; have hw4 := hw4.symm; subst hw4) | (go_at_call 177; obtain ⟨l, hl1, hl2, hl3, hl4⟩ := S3.out.nat; refine (znd w3 B u0 l (10 ^ i) d hl1 (Nat.le_trans HB0.out S3.out.bel.size) (zle S3.out.i19) (pow_ne i) (zff S3.out.word) (Nat.le_trans hl4 (Nat.le_trans hk HBB.out.2.2.1))).mono ?_; rintro e' w5 ⟨v5, l5, rfl, m1, m2, m3, m4, m5⟩; have M := za.mk (And.intro m1 (And.intro (m2.trans hl2) (And.intro m3 m5))); clear m1 m2 m3 m4 m5 hl1 hl2 hl3 hl4))
            (try simp only [Exit.inBlock, Exit.then])
            refine bodyPost_ret (zkb rfl _ _ _) rfl ?_
            obtain ⟨m1, m2, m3, m5⟩ := M.out
            exact ⟨_, _, l5, k, rfl, m1, m2, m3, hk, S3.out.dig, (fun _ => HND.out), (fun h => absurd h (by omega)), fun _ => rfl, ⟨-1, R3.out.same (m5.block b HBB.out.1)⟩, S3.out.bel.below m5⟩
         ·have hn3 := hcc
          clear hcc
          by_cases hcc : c ≤ 96
          ·have f1 : (c == 46) = false := by rw [beq_eq_false_iff_ne]; omega
           have f2 : (c == 95) = false := by rw [beq_eq_false_iff_ne]; omega
           have f3 : decide (48 ≤ c) = true := decide_eq_true (by omega)
           have f4 : decide (c ≤ 57) = false := decide_eq_false (by omega)
           have f5 : decide (97 ≤ c) = false := decide_eq_false (by omega)
           have f6 : decide (65 ≤ c) = true := decide_eq_true (by omega)
           have f7 : decide (c ≤ 90) = false := decide_eq_false (by omega)
           clear hcc
           clear hnd hr0
           go_upto_region 80 with (first | (go_at_call 218; refine HUN.out.mono ?_; rintro e' w3 ⟨rfl, r3, g3⟩; have R3 := za.mk r3; have S3 : za (Sc B b w w3 s u0 k d i) := ⟨hsc.out.grown g3 HBB.out.1 HB0.out⟩; have hE3 : w3.cell? ⟨2, 0, none⟩ = some (.iface 243 (.pointer (some EP))) := (S3.out.bel.cell (p := ⟨2, 0, none⟩) (by have h_ := HBB.out.1; have h2_ := HBB.out.2.1; show 2 < B; omega) (by have h2_ := HBB.out.2.1; show 2 ≠ b; omega)).trans HE.out; have hN3 : w3.cell? ⟨7, 0, none⟩ = some (.iface 243 (.pointer (some NP))) := (S3.out.bel.cell (p := ⟨7, 0, none⟩) (by have h_ := HBB.out.1; have h2_ := HBB.out.2.1; show 7 < B; omega) (by have h2_ := HBB.out.2.1; show 7 ≠ b; omega)).trans HN.out; clear r3 g3))
           by_cases hk0 : k = 0
           ·have hi0 := S3.out.ile
            have c1 : ((k : Int) == 0) = true := by rw [beq_iff_eq]; omega
            have c2 : (k : Int) = 0 := by omega
            have c3 : (i : Int) = 0 := by omega
            have c4 : decide (0 < (i : Int)) = false := decide_eq_false (by omega)
            go_wp2
            (try simp only [Exit.inBlock, Exit.then])
            refine bodyPost_ret (zkb rfl _ _ _) rfl ?_
            obtain ⟨l, hl1, hl2, hl3, hl4⟩ := S3.out.nat
            obtain rfl : k = 0 := by omega
            obtain rfl : i = 0 := by omega
            exact ⟨_, _, l, 0, rfl, hl1, by have h_ := S3.out.dlt; simp at h_; rw [h_] at hl2; simpa using hl2, hl3, hk, S3.out.dig, (fun _ => HND.out), fun _ => rfl, (fun h => absurd h (Nat.lt_irrefl _)), ⟨-1, R3.out⟩, S3.out.bel⟩
           ·by_cases hi0 : i = 0
            ·have c1 : ((k : Int) == 0) = false := by rw [beq_eq_false_iff_ne]; omega
             have c2 : ¬ ((k : Int) = 0) := by omega
             have c3 : (i : Int) = 0 := by omega
             have c4 : decide (0 < (i : Int)) = false := decide_eq_false (by omega)
             go_wp2
             (try simp only [Exit.inBlock, Exit.then])
             refine bodyPost_ret (zkb rfl _ _ _) rfl ?_
             obtain ⟨l, hl1, hl2, hl3, hl4⟩ := S3.out.nat
             obtain rfl : i = 0 := by omega
             exact ⟨_, _, l, k, rfl, hl1, by have h_ := S3.out.dlt; simp at h_; rw [h_] at hl2; simpa using hl2, hl3, hk, S3.out.dig, (fun _ => HND.out), (fun h => absurd h (by omega)), fun _ => rfl, ⟨-1, R3.out⟩, S3.out.bel⟩
            ·have c1 : ((k : Int) == 0) = false := by rw [beq_eq_false_iff_ne]; omega
             have c2 : ¬ ((k : Int) = 0) := by omega
             have c4 : decide (0 < (i : Int)) = true := decide_eq_true (by omega)
             have c5 := S3.out.i19
             go_wp2_with (first | (go_at_call 178; refine (pow_ i (by omega) (by omega) _).mono ?_; rintro e' w4 ⟨rfl, hw4⟩; have hw4 := hw4.symm; subst hw4) | (go_at_call 177; obtain ⟨l, hl1, hl2, hl3, hl4⟩ := S3.out.nat; refine (znd w3 B u0 l (10 ^ i) d hl1 (Nat.le_trans HB0.out S3.out.bel.size) (zle S3.out.i19) (pow_ne i) (zff S3.out.word) (Nat.le_trans hl4 (Nat.le_trans hk HBB.out.2.2.1))).mono ?_; rintro e' w5 ⟨v5, l5, rfl, m1, m2, m3, m4, m5⟩; have M := za.mk (And.intro m1 (And.intro (m2.trans hl2) (And.intro m3 m5))); clear m1 m2 m3 m4 m5 hl1 hl2 hl3 hl4))
             (try simp only [Exit.inBlock, Exit.then])
             refine bodyPost_ret (zkb rfl _ _ _) rfl ?_
             obtain ⟨m1, m2, m3, m5⟩ := M.out
             exact ⟨_, _, l5, k, rfl, m1, m2, m3, hk, S3.out.dig, (fun _ => HND.out), (fun h => absurd h (by omega)), fun _ => rfl, ⟨-1, R3.out.same (m5.block b HBB.out.1)⟩, S3.out.bel.below m5⟩
          ·have hn2 := hcc
           clear hcc
           have f1 : (c == 46) = false := by rw [beq_eq_false_iff_ne]; omega
           have f2 : (c == 95) = false := by rw [beq_eq_false_iff_ne]; omega
           have f3 : decide (48 ≤ c) = true := decide_eq_true (by omega)
           have f4 : decide (c ≤ 57) = false := decide_eq_false (by omega)
           have f5 : decide (97 ≤ c) = true := decide_eq_true (by omega)
           have f6 : decide (c ≤ 122) = false := decide_eq_false (by omega)
           have f7 : decide (65 ≤ c) = true := decide_eq_true (by omega)
           have f8 : decide (c ≤ 90) = false := decide_eq_false (by omega)

           clear hnd hr0
           go_upto_region 80 with (first | (go_at_call 218; refine HUN.out.mono ?_; rintro e' w3 ⟨rfl, r3, g3⟩; have R3 := za.mk r3; have S3 : za (Sc B b w w3 s u0 k d i) := ⟨hsc.out.grown g3 HBB.out.1 HB0.out⟩; have hE3 : w3.cell? ⟨2, 0, none⟩ = some (.iface 243 (.pointer (some EP))) := (S3.out.bel.cell (p := ⟨2, 0, none⟩) (by have h_ := HBB.out.1; have h2_ := HBB.out.2.1; show 2 < B; omega) (by have h2_ := HBB.out.2.1; show 2 ≠ b; omega)).trans HE.out; have hN3 : w3.cell? ⟨7, 0, none⟩ = some (.iface 243 (.pointer (some NP))) := (S3.out.bel.cell (p := ⟨7, 0, none⟩) (by have h_ := HBB.out.1; have h2_ := HBB.out.2.1; show 7 < B; omega) (by have h2_ := HBB.out.2.1; show 7 ≠ b; omega)).trans HN.out; clear r3 g3))
           by_cases hk0 : k = 0
           ·have hi0 := S3.out.ile
            have c1 : ((k : Int) == 0) = true := by rw [beq_iff_eq]; omega
            have c2 : (k : Int) = 0 := by omega
            have c3 : (i : Int) = 0 := by omega
            have c4 : decide (0 < (i : Int)) = false := decide_eq_false (by omega)
            go_wp2
            (try simp only [Exit.inBlock, Exit.then])
            refine bodyPost_ret (zkb rfl _ _ _) rfl ?_
            obtain ⟨l, hl1, hl2, hl3, hl4⟩ := S3.out.nat
            obtain rfl : k = 0 := by omega
            obtain rfl : i = 0 := by omega
            exact ⟨_, _, l, 0, rfl, hl1, by have h_ := S3.out.dlt; simp at h_; rw [h_] at hl2; simpa using hl2, hl3, hk, S3.out.dig, (fun _ => HND.out), fun _ => rfl, (fun h => absurd h (Nat.lt_irrefl _)), ⟨-1, R3.out⟩, S3.out.bel⟩
           ·by_cases hi0 : i = 0
            ·have c1 : ((k : Int) == 0) = false := by rw [beq_eq_false_iff_ne]; omega
             have c2 : ¬ ((k : Int) = 0) := by omega
             have c3 : (i : Int) = 0 := by omega
             have c4 : decide (0 < (i : Int)) = false := decide_eq_false (by omega)
             go_wp2
             (try simp only [Exit.inBlock, Exit.then])
             refine bodyPost_ret (zkb rfl _ _ _) rfl ?_
             obtain ⟨l, hl1, hl2, hl3, hl4⟩ := S3.out.nat
             obtain rfl : i = 0 := by omega
             exact ⟨_, _, l, k, rfl, hl1, by have h_ := S3.out.dlt; simp at h_; rw [h_] at hl2; simpa using hl2, hl3, hk, S3.out.dig, (fun _ => HND.out), (fun h => absurd h (by omega)), fun _ => rfl, ⟨-1, R3.out⟩, S3.out.bel⟩
            ·have c1 : ((k : Int) == 0) = false := by rw [beq_eq_false_iff_ne]; omega
             have c2 : ¬ ((k : Int) = 0) := by omega
             have c4 : decide (0 < (i : Int)) = true := decide_eq_true (by omega)
             have c5 := S3.out.i19
             go_wp2_with (first | (go_at_call 178; refine (pow_ i (by omega) (by omega) _).mono ?_; rintro e' w4 ⟨rfl, hw4⟩; have hw4 := hw4.symm; subst hw4) | (go_at_call 177; obtain ⟨l, hl1, hl2, hl3, hl4⟩ := S3.out.nat; refine (znd w3 B u0 l (10 ^ i) d hl1 (Nat.le_trans HB0.out S3.out.bel.size) (zle S3.out.i19) (pow_ne i) (zff S3.out.word) (Nat.le_trans hl4 (Nat.le_trans hk HBB.out.2.2.1))).mono ?_; rintro e' w5 ⟨v5, l5, rfl, m1, m2, m3, m4, m5⟩; have M := za.mk (And.intro m1 (And.intro (m2.trans hl2) (And.intro m3 m5))); clear m1 m2 m3 m4 m5 hl1 hl2 hl3 hl4))
             (try simp only [Exit.inBlock, Exit.then])
             refine bodyPost_ret (zkb rfl _ _ _) rfl ?_
             obtain ⟨m1, m2, m3, m5⟩ := M.out
             exact ⟨_, _, l5, k, rfl, m1, m2, m3, hk, S3.out.dig, (fun _ => HND.out), (fun h => absurd h (by omega)), fun _ => rfl, ⟨-1, R3.out.same (m5.block b HBB.out.1)⟩, S3.out.bel.below m5⟩
  ·subst he
   subst hch
   have HR : za (Rd wr b s k (-1)) := ⟨by rw [hks]; exact hr⟩
   have hE3 : wr.cell? ⟨2, 0, none⟩ = some (.iface 243 (.pointer (some EP))) := (hsc.out.bel.cell (p := ⟨2, 0, none⟩) (by have h_ := HBB.out.1; have h2_ := HBB.out.2.1; show 2 < B; omega) (by have h2_ := HBB.out.2.1; show 2 ≠ b; omega)).trans HE.out
   have hN3 : wr.cell? ⟨7, 0, none⟩ = some (.iface 243 (.pointer (some NP))) := (hsc.out.bel.cell (p := ⟨7, 0, none⟩) (by have h_ := HBB.out.1; have h2_ := HBB.out.2.1; show 7 < B; omega) (by have h2_ := HBB.out.2.1; show 7 ≠ b; omega)).trans HN.out
   have HKS := za.mk hks
   simp only [ErrV]
   clear hr hhd hks
   go_upto_region 80 with (fail)
   by_cases hk0 : k = 0
   ·have hi0 := hsc.out.ile
    have c1 : ((k : Int) == 0) = true := by rw [beq_iff_eq]; omega
    have c2 : (k : Int) = 0 := by omega
    have c3 : (i : Int) = 0 := by omega
    have c4 : decide (0 < (i : Int)) = false := decide_eq_false (by omega)
    go_wp2
    (try simp only [Exit.inBlock, Exit.then])
    refine bodyPost_ret (zkb rfl _ _ _) rfl ?_
    obtain ⟨l, hl1, hl2, hl3, hl4⟩ := hsc.out.nat
    obtain rfl : k = 0 := by omega
    obtain rfl : i = 0 := by omega
    exact ⟨_, _, l, 0, rfl, hl1, by have h_ := hsc.out.dlt; simp at h_; rw [h_] at hl2; simpa using hl2, hl3, hk, hsc.out.dig, (fun h => absurd h (by rw [HKS.out]; exact Nat.lt_irrefl _)), fun _ => rfl, (fun h => absurd h (Nat.lt_irrefl _)), ⟨-1, HR.out⟩, hsc.out.bel⟩
   ·by_cases hi0 : i = 0
    ·have c1 : ((k : Int) == 0) = false := by rw [beq_eq_false_iff_ne]; omega
     have c2 : ¬ ((k : Int) = 0) := by omega
     have c3 : (i : Int) = 0 := by omega
     have c4 : decide (0 < (i : Int)) = false := decide_eq_false (by omega)
     go_wp2
     (try simp only [Exit.inBlock, Exit.then])
     refine bodyPost_ret (zkb rfl _ _ _) rfl ?_
     obtain ⟨l, hl1, hl2, hl3, hl4⟩ := hsc.out.nat
     obtain rfl : i = 0 := by omega
     exact ⟨_, _, l, k, rfl, hl1, by have h_ := hsc.out.dlt; simp at h_; rw [h_] at hl2; simpa using hl2, hl3, hk, hsc.out.dig, (fun h => absurd h (by rw [HKS.out]; exact Nat.lt_irrefl _)), (fun h => absurd h (by omega)), fun _ => rfl, ⟨-1, HR.out⟩, hsc.out.bel⟩
    ·have c1 : ((k : Int) == 0) = false := by rw [beq_eq_false_iff_ne]; omega
     have c2 : ¬ ((k : Int) = 0) := by omega
     have c4 : decide (0 < (i : Int)) = true := decide_eq_true (by omega)
     have c5 := hsc.out.i19
     go_wp2_with (first | (go_at_call 178; refine (pow_ i (by omega) (by omega) _).mono ?_; rintro e' w4 ⟨rfl, hw4⟩; have hw4 := hw4.symm; subst hw4) | (go_at_call 177; obtain ⟨l, hl1, hl2, hl3, hl4⟩ := hsc.out.nat; refine (znd wr B u0 l (10 ^ i) d hl1 (Nat.le_trans HB0.out hsc.out.bel.size) (zle hsc.out.i19) (pow_ne i) (zff hsc.out.word) (Nat.le_trans hl4 (Nat.le_trans hk HBB.out.2.2.1))).mono ?_; rintro e' w5 ⟨v5, l5, rfl, m1, m2, m3, m4, m5⟩; have M := za.mk (And.intro m1 (And.intro (m2.trans hl2) (And.intro m3 m5))); clear m1 m2 m3 m4 m5 hl1 hl2 hl3 hl4))
     (try simp only [Exit.inBlock, Exit.then])
     refine bodyPost_ret (zkb rfl _ _ _) rfl ?_
     obtain ⟨m1, m2, m3, m5⟩ := M.out
     exact ⟨_, _, l5, k, rfl, m1, m2, m3, hk, hsc.out.dig, (fun h => absurd h (by rw [HKS.out]; exact Nat.lt_irrefl _)), (fun h => absurd h (by omega)), fun _ => rfl, ⟨-1, HR.out.same (m5.block b HBB.out.1)⟩, hsc.out.bel.below m5⟩
end Go.Proofs.YtlijjnjpomnphaaGreatDoorG
end
section
namespace Go.Proofs.YtlijjnjpomnphaaGreatDoorG
open Go.RowKit YtlijjnjpomnphaaGreatDoorW.PrintWords YtlijjnjpomnphaaGreatDoorW.PrintLast
def Bg (w : World) (a : Nat) (ng : Bool) (v : Value) : Prop := w.heap[a]? = some (.cells #[.bool ng, v] 150 (0, 0))
theorem Bg.c0 {w : World} {a : Nat} {ng : Bool} {v : Value} (h : Bg w a ng v) : w.cell? ⟨a, 0, none⟩ = some (.bool ng) := by unfold Bg at h; simp [World.cell?, h]
theorem Bg.c1 {w : World} {a : Nat} {ng : Bool} {v : Value} (h : Bg w a ng v) : w.cell? ⟨a, 1, none⟩ = some v := by unfold Bg at h; simp [World.cell?, h]
theorem Bg.free {w : World} {a : Nat} {ng : Bool} {v : Value} (h : Bg w a ng v) (j : Nat) : w.frozen? ⟨a, j, none⟩ = false := by unfold Bg at h; simp [World.frozen?, h]
theorem Bg.set1 {w : World} {a : Nat} {ng : Bool} {v : Value} (h : Bg w a ng v) (u : Value) : Bg (w.setCell ⟨a, 1, none⟩ u) a ng u := by
 unfold Bg at h ⊢
 simp [World.setCell, Array.getElem?_modify, h]
theorem Bg.set0 {w : World} {a : Nat} {ng : Bool} {v : Value} (h : Bg w a ng v) (u : Bool) : Bg (w.setCell ⟨a, 0, none⟩ (.bool u)) a u v := by
 unfold Bg at h ⊢
 simp [World.setCell, Array.getElem?_modify, h]
theorem Bg.same {w w' : World} {a : Nat} {ng : Bool} {v : Value} (h : Bg w a ng v) (hb : w'.heap[a]? = w.heap[a]?) : Bg w' a ng v := by unfold Bg at h ⊢; rw [hb]; exact h
theorem Bg.lt {w : World} {a : Nat} {ng : Bool} {v : Value} (h : Bg w a ng v) : a < w.heap.size := (Array.getElem?_eq_some_iff.1 h).1
theorem zkd {w : World} {g i k : Nat} {v : Value} (h : k ≠ g) : (w.setCell ⟨g, i, none⟩ v).heap[k]? = w.heap[k]? := by
 have : g ≠ k := fun e => h e.symm
 simp [World.setCell, Array.getElem?_modify, this]
theorem NatS.other {w w' : World} {B : Nat} {v : Value} {l : List Nat} (h : NatS w B v l) (hk : ∀ k, B ≤ k → k < w.heap.size → w'.heap[k]? = w.heap[k]?) : NatS w' B v l := by
 rcases h with h | ⟨g, full, h1, h2, h3, h4⟩
 ·exact .inl h
 ·exact .inr ⟨g, full, h1, h2, h3.same (hk g h2 h3.lt), h4⟩
theorem NatS.shape {w : World} {B : Nat} {v : Value} {l : List Nat} (h : NatS w B v l) : ∃ p c, v = .slice p l.length c := by
 rcases h with ⟨rfl, rfl⟩ | ⟨g, full, rfl, _⟩
 ·exact ⟨none, 0, rfl⟩
 ·exact ⟨_, _, rfl⟩
theorem Bel.toBelow {B b B0 : Nat} {w w' : World} (h : Bel B b w w') (h1 : B0 ≤ B) (h2 : B0 ≤ b) : Below B0 w w' := ⟨h.os, h.tape, h.output, h.size, fun k hk => h.block k (by omega) (by omega)⟩
structure Scanned (B0 H a b : Nat) (s : ByteArray) (w w' : World) (r : Nat) : Prop where
 big : ∃ v l, Bg w' a false v ∧ NatS w' H v l ∧ num l = dv s r ∧ l = trimW l
 le : r ≤ s.size
 dig : ∀ j : Nat, j < r → Dig (bt s j)
 fin : r < s.size → ¬ Dig (bt s r)
 rd : ∃ q, Rd w' b s r q
 below : Below B0 w w'
theorem intScan_ (w : World) (B0 a b : Nat) (s : ByteArray) (p : Int) (EP NP : Addr) (hz : Bg w a false (.slice none 0 0)) (h : Rd w b s 0 p) (h0 : 0 < s.size) (hs : s.size ≤ 1000000) (h1 : bt s 0 ≠ 45) (h2 : bt s 0 ≠ 43) (hab : a ≠ b) (hBa : B0 ≤ a) (hBb : B0 ≤ b)
  (hE : w.cell? ⟨2, 0, none⟩ = some (ErrV EP)) (hN : w.cell? ⟨7, 0, none⟩ = some (ErrV NP)) (hbg : 7 < b) (hag : 7 < a) :
  Calls Tryz.prog 157 #[.pointer (some ⟨a, 0, none⟩), .iface 169 (.pointer (some ⟨b, 0, none⟩)), .int .i64 10] w fun e w' => ∃ r, Scanned B0 w.heap.size a b s w w' r ∧
   (r = 0 → e = .returned (.tuple #[.pointer none, .int .i64 10, ErrV NP])) ∧ (0 < r → e = .returned (.tuple #[.pointer (some ⟨a, 0, none⟩), .int .i64 10, .nilIface])) := by
 have HS := za.mk (scanSign_ w b s p h h0 (by omega) h1 h2)
 have hb := h.lt
 have ha := hz.lt
 have HNAT := za.mk (fun w1 (r1 : Rd w1 b s 0 (-1)) (g1 : w.grownBy w1 (some b)) => natScan_ w1 w.heap.size b s (-1) EP NP r1 h0 hs hb g1.size
  ((World.cell?_of_block (g1.block 2 (by omega) (fun e => by have := Option.some.inj e; omega))).trans hE) ((World.cell?_of_block (g1.block 7 (by omega) (fun e => by have := Option.some.inj e; omega))).trans hN) hbg)
 have HZ1 := za.mk (fun w1 (g1 : w.grownBy w1 (some b)) => hz.same (w' := w1) (g1.block a ha (fun e => hab (Option.some.inj e))))
 have hc1 : ∀ w1, w.grownBy w1 (some b) → w1.cell? ⟨a, 1, none⟩ = some (.slice none 0 0) := fun w1 g1 => (HZ1.out w1 g1).c1
 have HC1 := za.mk hc1
 have F := za.mk (And.intro hb (And.intro ha (And.intro hab (And.intro hBa hBb))))
 clear h hz h0 hs h1 h2 hE hN hbg hag hb ha hc1 hab hBa hBb
 go_enter Tryz.func157, Tryz.ntmps157
 go_upto_region 5 with (first
  | (go_at_call 168; refine HS.out.mono ?_; rintro e' w1 ⟨rfl, r1, g1⟩; have R1 := za.mk r1; have G1 := za.mk g1; have c1 := HC1.out w1 g1; clear r1 g1)
  | (go_at_call 169; refine (HNAT.out w1 R1.out G1.out).mono ?_; rintro e' w2 ⟨v, er, l, r, rfl, n1, n2, n3, n4, n5, n6, n7, n8, n9, n10⟩; obtain ⟨pv, cv, hv⟩ := n1.shape; subst hv; have O := za.mk (And.intro n1 (And.intro n2 (And.intro n3 (And.intro n4 (And.intro n5 (And.intro n6 (And.intro n7 (And.intro n8 (And.intro n9 n10))))))))); have Z2 : za (Bg w2 a false (.slice none 0 0)) := ⟨(HZ1.out w1 G1.out).same (n10.block a F.out.2.1 F.out.2.2.1)⟩; have d1 := Z2.out.c1; have d2 := Z2.out.free 1; clear n1 n2 n3 n4 n5 n6 n7 n8 n9 n10 c1))
 obtain ⟨n1, n2, n3, n4, n5, n6, n7, n8, n9, n10⟩ := O.out
 obtain ⟨v, hv⟩ : ∃ v, v = Value.slice pv l.length cv := ⟨_, rfl⟩
 rw [← hv] at n1
 have Z3 := Z2.out.set1 v
 have fin : ∀ w', Bg w' a false v → (∀ k, k ≠ a → w'.heap[k]? = w2.heap[k]?) → w'.os = w2.os ∧ w'.tape = w2.tape ∧ w'.output = w2.output ∧ w'.heap.size = w2.heap.size → Scanned B0 w.heap.size a b s w w' r := by
  intro w' hb2 hk hrest
  obtain ⟨f1, f2, f3, f4, f5⟩ := F.out
  obtain ⟨q, hq⟩ := n9
  refine ⟨⟨v, l, hb2, n1.other (fun k hk1 _ => hk k (by omega)), n2, n3⟩, n4, n5, n6, ⟨q, hq.same (hk b (fun e => f3 e.symm))⟩, ?_⟩
  have hbl : Below B0 w w2 := Below.trans ⟨G1.out.os, G1.out.tape, G1.out.output, G1.out.size, fun k hk2 => G1.out.block k (by omega) (fun e => by have := Option.some.inj e; omega)⟩ (n10.toBelow (by omega) f5)
  exact ⟨hrest.1.trans hbl.os, hrest.2.1.trans hbl.tape, hrest.2.2.1.trans hbl.output, by rw [hrest.2.2.2]; exact hbl.size, fun k hk2 => (hk k (by omega)).trans (hbl.block k hk2)⟩
 have FIN := za.mk fin
 subst hv
 have e1 := Z3.c1
 have e0 := Z3.c0
 have f0 := Z3.free 0
 have Z4 := za.mk (Z3.set0 false)
 have ZZ3 := za.mk Z3
 by_cases hr0 : r = 0
 ·have her := n7 hr0
  subst her
  simp only [ErrV]
  have HR := za.mk hr0
  clear fin n1 n2 n3 n4 n5 n6 n7 n8 n9 n10 Z3 hr0
  go_wp2
  go_ret3
  exact ⟨r, FIN.out _ ZZ3.out (fun k hk => zkd hk) ⟨rfl, rfl, rfl, by simp [World.setCell]⟩, fun _ => rfl, fun h => absurd HR.out (Nat.pos_iff_ne_zero.1 h)⟩
 ·have her := n8 (Nat.pos_of_ne_zero hr0)
  subst her
  have HR := za.mk hr0
  clear fin n1 n2 n3 n4 n5 n6 n7 n8 n9 n10 Z3 hr0
  by_cases hl : 0 < l.length
  ·have b1 : decide (0 < (l.length : Int)) = true := decide_eq_true (by omega)
   go_wp2
   go_ret3
   exact ⟨r, FIN.out _ Z4.out (fun k hk => (zkd hk).trans (zkd hk)) ⟨rfl, rfl, rfl, by simp [World.setCell]⟩, fun h => absurd h HR.out, fun _ => rfl⟩
  ·have b1 : decide (0 < (l.length : Int)) = false := decide_eq_false (by omega)
   go_wp2
   go_ret3
   exact ⟨r, FIN.out _ Z4.out (fun k hk => (zkd hk).trans (zkd hk)) ⟨rfl, rfl, rfl, by simp [World.setCell]⟩, fun h => absurd h HR.out, fun _ => rfl⟩
end Go.Proofs.YtlijjnjpomnphaaGreatDoorG
end
section
namespace Go.Proofs.YtlijjnjpomnphaaGreatDoorG
open Go.RowKit YtlijjnjpomnphaaGreatDoorW.PrintWords YtlijjnjpomnphaaGreatDoorW.PrintLast
theorem neq_err (a : Addr) (W : World) : (binOp .neq 74 (.iface 243 (.pointer (some a))) (.iface 243 (.pointer (some a)))).run Tryz.prog W = .ok (.bool false) W := by
 have h := eq_err a W
 simp only [binOp] at h ⊢
 simp only [Op.equal, Op.maxDepth] at h ⊢
 obtain ⟨i, hi, hc⟩ := Option.map_eq_some_iff.1 errInfo
 obtain ⟨j, hj⟩ := Option.isSome_iff_exists.1 errPointee
 simp [run_equalIn_iface_ptr_same (P := Tryz.prog) W 9998 a Tryz.underlying74 Tryz.underlying243 hi hc hj]
theorem neq_nil_err (a : Addr) (W : World) : (binOp .neq 74 .nilIface (.iface 243 (.pointer (some a)))).run Tryz.prog W = .ok (.bool true) W := by
 have h : ∀ d : Nat, (Op.equalIn (d + 1) 74 .nilIface (.iface 243 (.pointer (some a)))).run Tryz.prog W = .ok false W := fun d => by simp [Op.equalIn, run_underlying Tryz.underlying74]
 simp only [binOp]
 simp [Op.equal, Op.maxDepth, h 9999]
theorem digits_ahead (s : ByteArray) : ∃ r, r ≤ s.size ∧ (∀ j : Nat, j < r → Dig (bt s j)) ∧ (r < s.size → ¬ Dig (bt s r)) := by
 have : ∀ n k : Nat, s.size - k = n → k ≤ s.size → (∀ j : Nat, j < k → Dig (bt s j)) → ∃ r, r ≤ s.size ∧ (∀ j : Nat, j < r → Dig (bt s j)) ∧ (r < s.size → ¬ Dig (bt s r)) := by
  intro n
  induction n with
  | zero => intro k h1 h2 h3; exact ⟨k, h2, h3, fun h => by omega⟩
  | succ n ih =>
   intro k h1 h2 h3
   by_cases hd : Dig (bt s k)
   ·refine ih (k + 1) (by omega) (by omega) (fun j hj => ?_)
    by_cases e : j = k
    ·rw [e]; exact hd
    ·exact h3 j (by omega)
   ·exact ⟨k, h2, h3, fun _ => hd⟩
 exact this _ 0 rfl (Nat.zero_le _) (fun j hj => by omega)
theorem digits_one {s : ByteArray} {r q : Nat} (h1 : r ≤ s.size) (h2 : ∀ j : Nat, j < r → Dig (bt s j)) (h3 : r < s.size → ¬ Dig (bt s r)) (k1 : q ≤ s.size) (k2 : ∀ j : Nat, j < q → Dig (bt s j)) (k3 : q < s.size → ¬ Dig (bt s q)) : r = q := by
 rcases Nat.lt_trichotomy r q with h | h | h
 ·exact absurd (k2 r h) (h3 (by omega))
 ·exact h
 ·exact absurd (h2 q h) (k3 (by omega))
def zic (s : ByteArray) : Prop := 0 < s.size ∧ ∀ j : Nat, j < s.size → Dig (bt s j)
structure Set_ (B0 H a : Nat) (s : ByteArray) (w w' : World) (e : Ending) : Prop where
 ok : zic s → e = .returned (.tuple #[.pointer (some ⟨a, 0, none⟩), .bool true]) ∧ ∃ v l, Bg w' a false v ∧ NatS w' H v l ∧ num l = dv s s.size ∧ l = trimW l
 no : ¬ zic s → e = .returned (.tuple #[.pointer none, .bool false])
 below : Below B0 w w'
theorem setFromScanner_ (w : World) (B0 a b : Nat) (s : ByteArray) (p : Int) (EP NP : Addr) (hz : Bg w a false (.slice none 0 0)) (h : Rd w b s 0 p) (h0 : 0 < s.size) (hs : s.size ≤ 1000000) (h1 : bt s 0 ≠ 45) (h2 : bt s 0 ≠ 43) (hab : a ≠ b) (hBa : B0 ≤ a) (hBb : B0 ≤ b)
  (hE : w.cell? ⟨2, 0, none⟩ = some (ErrV EP)) (hN : w.cell? ⟨7, 0, none⟩ = some (ErrV NP)) (hbg : 7 < b) (hag : 7 < a) (hg0 : 7 < B0) :
  Calls Tryz.prog 136 #[.pointer (some ⟨a, 0, none⟩), .iface 169 (.pointer (some ⟨b, 0, none⟩)), .int .i64 10] w (fun e w' => Set_ B0 w.heap.size a s w w' e) := by
 have HI := za.mk (intScan_ w B0 a b s p EP NP hz h h0 hs h1 h2 hab hBa hBb hE hN hbg hag)
 have F := za.mk (And.intro h0 (And.intro hs (And.intro hab (And.intro hBa (And.intro hBb (And.intro hg0 (And.intro hE (And.intro h.lt hbg))))))))
 have i1 := zwe (some ⟨b, 0, none⟩)
 have i3 := zxe
 have q1 := neq_err EP
 have q2 := neq_nil_err EP
 clear hz h h0 hs h1 h2 hab hBa hBb hE hN hbg hag hg0
 go_enter Tryz.func136, Tryz.ntmps136
 obtain ⟨r, hr1, hr2, hr3⟩ := digits_ahead s
 have hscan : Calls Tryz.prog 157 #[.pointer (some ⟨a, 0, none⟩), .iface 169 (.pointer (some ⟨b, 0, none⟩)), .int .i64 10] w (fun e w' => Scanned B0 w.heap.size a b s w w' r ∧ e = .returned (if r = 0 then .tuple #[.pointer none, .int .i64 10, ErrV NP] else .tuple #[.pointer (some ⟨a, 0, none⟩), .int .i64 10, .nilIface])) := by
  refine HI.out.mono ?_
  rintro e w' ⟨q, hsc, hz, hp⟩
  have e1 : q = r := digits_one hsc.le hsc.dig hsc.fin hr1 hr2 hr3
  subst e1
  refine ⟨hsc, ?_⟩
  by_cases h0 : q = 0
  ·rw [if_pos h0]; exact hz h0
  ·rw [if_neg h0]; exact hp (Nat.pos_of_ne_zero h0)
 have hnot : (r = 0 ∨ r < s.size) → ¬ zic s := by
  intro h hall
  rcases h with h | h
  ·subst h
   exact hr3 hall.1 (hall.2 0 hall.1)
  ·exact hr3 h (hall.2 r h)
 have hall : 0 < r → r = s.size → zic s := fun h1 h2 => ⟨by omega, fun j hj => hr2 j (by omega)⟩
 have HNOT := za.mk hnot
 have HALL := za.mk hall
 clear hnot hall
 have HD := za.mk (And.intro hr1 (And.intro hr2 hr3))
 clear hr1 hr2 hr3
 by_cases hr0 : r = 0
 ·rw [if_pos hr0] at hscan
  simp only [ErrV] at hscan
  have HSC := za.mk hscan
  have HR0 := za.mk hr0
  clear hscan hr0
  go_wp2_with (first | (go_at_call 157; refine HSC.out.mono ?_; rintro e' w1 ⟨hsc, rfl⟩; have SC := za.mk hsc; clear hsc))
  go_ret2
  exact ⟨fun h => absurd h (HNOT.out (.inl HR0.out)), fun _ => rfl, SC.out.below⟩
 ·rw [if_neg hr0] at hscan
  have HSC := za.mk hscan
  have HR0 := za.mk hr0
  clear hscan hr0
  have hrd : ∀ w1, Scanned B0 w.heap.size a b s w w1 r → Calls Tryz.prog 217 #[.pointer (some ⟨b, 0, none⟩)] w1 fun e w' => ∃ ch er, e = .returned (.tuple #[ch, er]) ∧ Head w' b s r ch er EP ∧ w1.grownBy w' (some b) := by
   intro w1 hsc
   obtain ⟨f1, f2, f3, f4, f5, f6, f7, f8, f9⟩ := F.out
   obtain ⟨q, hq⟩ := hsc.rd
   exact next_ w1 b r s q EP hq HD.out.1 f2 ((World.cell?_of_block (hsc.below.block 2 (by omega))).trans f7) (by omega)
  have hEw : ∀ w1 w2, Scanned B0 w.heap.size a b s w w1 r → w1.grownBy w2 (some b) → w2.cell? ⟨2, 0, none⟩ = some (.iface 243 (.pointer (some EP))) := by
   intro w1 w2 hsc hg
   obtain ⟨f1, f2, f3, f4, f5, f6, f7, f8, f9⟩ := F.out
   have hsz := hsc.below.size
   exact ((World.cell?_of_block (hg.block 2 (by omega) (fun e => by have := Option.some.inj e; omega))).trans (World.cell?_of_block (hsc.below.block 2 (by omega)))).trans f7
  have HRD := za.mk hrd
  have HEW := za.mk hEw
  have hset : ∀ w1 w2, Scanned B0 w.heap.size a b s w w1 r → w1.grownBy w2 (some b) → (∃ v l, Bg w2 a false v ∧ NatS w2 w.heap.size v l ∧ num l = dv s r ∧ l = trimW l) ∧ Below B0 w w2 := by
   intro w1 w2 hsc hg
   obtain ⟨f1, f2, f3, f4, f5, f6, f7, f8, f9⟩ := F.out
   obtain ⟨v, l, g1, g2, g3, g4⟩ := hsc.big
   have hsz := hsc.below.size
   exact ⟨⟨v, l, g1.same (hg.block a g1.lt (fun e => f3 (Option.some.inj e))), g2.grown hg f8, g3, g4⟩, hsc.below.grown hg (by have := g1.lt; omega) (fun k hk => by cases hk; exact f5)⟩
  have HSET := za.mk hset
  clear hrd hEw hset
  go_upto_region 5 with (first
   | (go_at_call 157; refine HSC.out.mono ?_; rintro e' w1 ⟨hsc, rfl⟩; have SC := za.mk hsc; clear hsc)
   | (go_at_call 217; refine (HRD.out w1 SC.out).mono ?_; rintro e' w2 ⟨ch, er, rfl, hh, hg⟩; have HH := za.mk hh; have HG := za.mk hg; have e1 := HEW.out w1 w2 SC.out hg; clear hh hg))
  obtain ⟨⟨v, l, g1, g2, g3, g4⟩, hbel⟩ := HSET.out w1 w2 SC.out HG.out
  have G := za.mk (And.intro g1 (And.intro g2 (And.intro g3 (And.intro g4 hbel))))
  clear g1 g2 g3 g4 hbel
  rcases HH.out with ⟨hlt, he, hch, hr⟩ | ⟨hlt, he, hch, hr⟩
  ·subst he
   subst hch
   have HLT := za.mk hlt
   clear hlt hr HH
   go_wp2
   go_ret2
   exact ⟨fun h => absurd h (HNOT.out (.inr HLT.out)), fun _ => rfl, G.out.2.2.2.2⟩
  ·subst he
   subst hch
   simp only [ErrV]
   have HLT := za.mk hlt
   clear hlt hr HH
   go_wp2
   go_ret2
   refine ⟨fun _ => ⟨rfl, v, l, G.out.1, G.out.2.1, ?_, G.out.2.2.2.1⟩, fun h => absurd (HALL.out (Nat.pos_of_ne_zero HR0.out) HLT.out) h, G.out.2.2.2.2⟩
   rw [← HLT.out]
   exact G.out.2.2.1
end Go.Proofs.YtlijjnjpomnphaaGreatDoorG
end
section
namespace Go.Proofs.YtlijjnjpomnphaaGreatDoorG
open Go.RowKit YtlijjnjpomnphaaGreatDoorW.PrintWords YtlijjnjpomnphaaGreatDoorW.PrintLast
theorem zmh (w : World) (o : Obj) : (w.alloc o).heap = w.heap.push o := rfl
theorem alloc_at (w : World) (o : Obj) : (w.alloc o).heap[w.heap.size]? = some o := by rw [zmh]; simp
theorem alloc_old (w : World) (o : Obj) {k : Nat} (h : k < w.heap.size) : (w.alloc o).heap[k]? = w.heap[k]? := by rw [zmh, Array.getElem?_push, if_neg (by omega)]
theorem zpc (w : World) (o : Obj) : (w.alloc o).heap.size = w.heap.size + 1 := by rw [zmh, Array.size_push]
theorem setString_ (w : World) (B0 a : Nat) (s : ByteArray) (EP NP : Addr) (hz : Bg w a false (.slice none 0 0)) (h0 : 0 < s.size) (hs : s.size ≤ 1000000) (h1 : bt s 0 ≠ 45) (h2 : bt s 0 ≠ 43) (hBa : B0 ≤ a)
  (hE : w.cell? ⟨2, 0, none⟩ = some (ErrV EP)) (hN : w.cell? ⟨7, 0, none⟩ = some (ErrV NP)) (hg0 : 7 < B0) :
  Calls Tryz.prog 108 #[.pointer (some ⟨a, 0, none⟩), .string s, .int .i64 10] w (fun e w' => Set_ B0 (w.heap.size + 1) a s w w' e) := by
 have ha := hz.lt
 obtain ⟨w1, hw1⟩ : ∃ w1, w1 = w.alloc (.cells #[.string s, .int .i64 0, .int .i64 (-1)] 189) := ⟨_, rfl⟩
 have hsz : w1.heap.size = w.heap.size + 1 := by rw [hw1]; exact zpc _ _
 have hold : ∀ k, k < w.heap.size → w1.heap[k]? = w.heap[k]? := fun k hk => by rw [hw1]; exact alloc_old _ _ hk
 have hrd : Rd w1 w.heap.size s 0 (-1) := by unfold Rd; rw [hw1]; exact alloc_at _ _
 have hcon := setFromScanner_ w1 B0 a w.heap.size s (-1) EP NP (hz.same (hold a ha)) hrd h0 hs h1 h2 (by omega) hBa (by omega) ((World.cell?_of_block (hold _ (by show 2 < _; omega))).trans hE) ((World.cell?_of_block (hold _ (by show 7 < _; omega))).trans hN) (by omega) (by omega) hg0
 have HB : za (Below B0 w w1) := ⟨by rw [hw1]; exact zwd _ (by omega)⟩
 rw [hsz] at hcon
 have HNEW := za.mk (newReader_ w s)
 have HW1 := za.mk hw1
 by_cases hall : zic s
 ·have HCON := za.mk (hcon.mono (R' := fun e w' => e = .returned (.tuple #[.pointer (some ⟨a, 0, none⟩), .bool true]) ∧ Set_ B0 (w.heap.size + 1) a s w1 w' e) (fun e w' h => ⟨(h.ok hall).1, h⟩))
  clear hz h0 hs h1 h2 hBa hE hN hg0 ha hsz hold hrd hcon hw1
  go_enter Tryz.func108, Tryz.ntmps108
  go_wp2_with (first
   | (go_at_call 137; refine HNEW.out.mono ?_; rintro e' w2 ⟨rfl, hw2⟩; have hw3 := hw2.trans HW1.out.symm; clear hw2; subst hw3)
   | (go_at_call 136; refine HCON.out.mono ?_; rintro e' w3 ⟨rfl, hst⟩; have ST := za.mk hst; clear hst))
  go_ret2
  exact ⟨fun h => ⟨rfl, (ST.out.ok h).2⟩, fun h => absurd hall h, HB.out.trans ST.out.below⟩
 ·have HCON := za.mk (hcon.mono (R' := fun e w' => e = .returned (.tuple #[.pointer none, .bool false]) ∧ Set_ B0 (w.heap.size + 1) a s w1 w' e) (fun e w' h => ⟨h.no hall, h⟩))
  clear hz h0 hs h1 h2 hBa hE hN hg0 ha hsz hold hrd hcon hw1
  go_enter Tryz.func108, Tryz.ntmps108
  go_wp2_with (first
   | (go_at_call 137; refine HNEW.out.mono ?_; rintro e' w2 ⟨rfl, hw2⟩; have hw3 := hw2.trans HW1.out.symm; clear hw2; subst hw3)
   | (go_at_call 136; refine HCON.out.mono ?_; rintro e' w3 ⟨rfl, hst⟩; have ST := za.mk hst; clear hst))
  go_ret2
  exact ⟨fun h => absurd h hall, fun _ => rfl, HB.out.trans ST.out.below⟩
structure Conv (s : ByteArray) (EV : Addr) (w w' : World) (e : Ending) : Prop where
 ok : zic s → ∃ v l, e = .returned (.tuple #[.pointer (some ⟨w.heap.size, 0, none⟩), .nilIface]) ∧ Bg w' w.heap.size false v ∧ NatS w' w.heap.size v l ∧ num l = dv s s.size ∧ l = trimW l
 no : ¬ zic s → e = .returned (.tuple #[.pointer none, ErrV EV])
 below : Below w.heap.size w w'
theorem NatS.lower {w : World} {B B' : Nat} {v : Value} {l : List Nat} (h : NatS w B v l) (hB : B' ≤ B) : NatS w B' v l := by
 rcases h with h | ⟨g, full, h1, h2, h3⟩
 ·exact .inl h
 ·exact .inr ⟨g, full, h1, by omega, h3⟩
theorem convert_ (w : World) (s : ByteArray) (EV EP NP : Addr) (h0 : 0 < s.size) (hs : s.size ≤ 1000000) (h1 : bt s 0 ≠ 45) (h2 : bt s 0 ≠ 43)
  (hV : w.cell? ⟨0, 0, none⟩ = some (ErrV EV)) (hE : w.cell? ⟨2, 0, none⟩ = some (ErrV EP)) (hN : w.cell? ⟨7, 0, none⟩ = some (ErrV NP)) (hg0 : 7 < w.heap.size) :
  Calls Tryz.prog 70 #[.string s] w (fun e w' => Conv s EV w w' e) := by
 obtain ⟨w1, hw1⟩ : ∃ w1, w1 = w.alloc (.cells #[.bool false, .slice none 0 0] 150) := ⟨_, rfl⟩
 have hsz : w1.heap.size = w.heap.size + 1 := by rw [hw1]; exact zpc _ _
 have hold : ∀ k, k < w.heap.size → w1.heap[k]? = w.heap[k]? := fun k hk => by rw [hw1]; exact alloc_old _ _ hk
 have hz : Bg w1 w.heap.size false (.slice none 0 0) := by unfold Bg; rw [hw1]; exact alloc_at _ _
 have hcon := setString_ w1 w.heap.size w.heap.size s EP NP hz h0 hs h1 h2 (Nat.le_refl _) ((World.cell?_of_block (hold _ (by show 2 < _; omega))).trans hE) ((World.cell?_of_block (hold _ (by show 7 < _; omega))).trans hN) (by omega)
 have hbel : Below w.heap.size w w1 := by rw [hw1]; exact zwd _ (Nat.le_refl _)
 have HB := za.mk hbel
 have HV := za.mk (fun w2 (h : Below w.heap.size w1 w2) => ((World.cell?_of_block (h.block 0 (by omega))).trans (World.cell?_of_block (hold _ (by show 0 < _; omega)))).trans hV)
 rw [hw1] at hcon HB HV
 by_cases hall : zic s
 ·have HCON := za.mk (hcon.mono (R' := fun e w' => e = .returned (.tuple #[.pointer (some ⟨w.heap.size, 0, none⟩), .bool true]) ∧ Set_ w.heap.size (w1.heap.size + 1) w.heap.size s w1 w' e) (fun e w' h => by rw [← hw1] at h; exact ⟨(h.ok hall).1, h⟩))
  rw [hw1] at HCON
  clear hz h0 hs h1 h2 hE hN hg0 hsz hold hcon hbel hw1 hV
  go_enter Tryz.func70, Tryz.ntmps70
  go_wp2_with (first
   | (go_at_call 108; refine HCON.out.mono ?_; rintro e' w3 ⟨rfl, hst⟩; have ST := za.mk hst; clear hst))
  go_ret2
  obtain ⟨_, v, l, q1, q2, q3, q4⟩ := ST.out.ok hall
  exact ⟨fun _ => ⟨v, l, rfl, q1, q2.lower (by rw [zpc]; omega), q3, q4⟩, fun h => absurd hall h, HB.out.trans ST.out.below⟩
 ·have HCON := za.mk (hcon.mono (R' := fun e w' => e = .returned (.tuple #[.pointer none, .bool false]) ∧ Below w.heap.size w1 w' ) (fun e w' h => by rw [← hw1] at h; exact ⟨h.no hall, h.below⟩))
  rw [hw1] at HCON
  clear hz h0 hs h1 h2 hE hN hg0 hsz hold hcon hbel hw1 hV
  simp only [ErrV] at HV
  go_enter Tryz.func70, Tryz.ntmps70
  go_wp2_with (first
   | (go_at_call 108; refine HCON.out.mono ?_; rintro e' w3 ⟨rfl, hst⟩; have ST := za.mk hst; have cv := HV.out w3 hst; clear hst))
  go_quiet (fail)
  go_wp2
  go_ret2
  exact ⟨fun h => absurd h hall, fun _ => rfl, by first | exact HB.out.trans ST.out | (apply ze; exact HB.out.trans ST.out)⟩
end Go.Proofs.YtlijjnjpomnphaaGreatDoorG
end
section
namespace Go.Proofs.YtlijjnjpomnphaaGreatDoorG
open Go.RowKit YtlijjnjpomnphaaGreatDoorW.PrintWords YtlijjnjpomnphaaGreatDoorW.PrintLast
def CmpAt (lx ly : List Nat) (r : Int) : Prop :=
 (lx.length < ly.length ∧ r = -1) ∨ (ly.length < lx.length ∧ r = 1) ∨ (lx.length = ly.length ∧ lx.length = 0 ∧ r = 0) ∨
 (lx.length = ly.length ∧ ∃ i, i < lx.length ∧ (∀ j, i < j → j < lx.length → lx.getD j 0 = ly.getD j 0) ∧ (i = 0 ∨ lx.getD i 0 ≠ ly.getD i 0) ∧ r = (if lx.getD i 0 < ly.getD i 0 then -1 else if ly.getD i 0 < lx.getD i 0 then 1 else 0))
theorem zl.trans {w w1 w2 : World} (h : zl w w1) (k : zl w1 w2) : zl w w2 := by
 obtain ⟨n, hn⟩ := h.out
 obtain ⟨m, hm⟩ := k.out
 exact ⟨⟨n + m, by rw [hm, hn, World.drewN_drewN]⟩⟩
theorem meas_plain (m k : Nat) (h : m < k) : (intOf (.int .i64 (m : Int))).toNat < (intOf (.int .i64 (k : Int))).toNat := by
 simp only [intOf]
 omega
theorem meas_wrap (m k : Nat) (h : m < k) (e : wrap64 (m : Int) = (m : Int)) : (intOf (.int .i64 (wrap64 (m : Int)))).toNat < (intOf (.int .i64 (k : Int))).toNat := by
 rw [e]
 exact meas_plain m k h
theorem NatS.reads {w : World} {B : Nat} {v : Value} {l : List Nat} (h : NatS w B v l) : ∃ (g c : Nat) (p : Option Addr), v = .slice p l.length c ∧ (l.length ≠ 0 → p = some ⟨g, 0, none⟩ ∧ ∀ i, i < l.length → w.cell? ⟨g, i, none⟩ = some (.int .u64 (l.getD i 0 : Nat))) := by
 rcases h with ⟨rfl, rfl⟩ | ⟨g, full, rfl, h1, h2, h3, h4, h5, h6⟩
 ·exact ⟨0, 0, none, rfl, fun h => absurd rfl h⟩
 ·refine ⟨g, full.length, _, rfl, fun _ => ⟨rfl, fun i hi => ?_⟩⟩
  have h7 := h2.cell i (by omega)
  have e : (full.take l.length).getD i 0 = full.getD i 0 := by rw [List.getD_eq_getElem?_getD, List.getD_eq_getElem?_getD, List.getElem?_take_of_lt hi]
  rw [h3] at e
  rw [h7, e]
theorem natCmp_ (w : World) (Bx By : Nat) (vx vy : Value) (lx ly : List Nat) (hx : NatS w Bx vx lx) (hy : NatS w By vy ly) (hlx : lx.length ≤ 1000000) (hly : ly.length ≤ 1000000) :
  Calls Tryz.prog 170 #[vx, vy] w fun e w' => ∃ r, e = .returned (.int .i64 r) ∧ CmpAt lx ly r ∧ zl w w' := by
 obtain ⟨gx, cx, px, rfl, rx⟩ := hx.reads
 obtain ⟨gy, cy, py, rfl, ry⟩ := hy.reads
 have HW := za.mk (zl.refl w)
 clear hx hy
 by_cases hlen : lx.length = ly.length
 ·by_cases h0 : lx.length = 0
  ·have c1 : ((lx.length : Int) == 0) = true := by rw [beq_iff_eq]; omega
   have h0y : ly.length = 0 := by omega
   have F := za.mk (And.intro hlen h0)
   clear rx ry hlx hly hlen
   go_enter Tryz.func170, Tryz.ntmps170
   go_wp2
   go_ret
   exact ⟨0, rfl, .inr (.inr (.inl ⟨F.out.1, F.out.2, rfl⟩)), HW.out⟩
  ·obtain ⟨rfl, rx2⟩ := rx h0
   obtain ⟨rfl, ry2⟩ := ry (by omega)
   obtain ⟨n, hn⟩ : ∃ n, n = lx.length := ⟨_, rfl⟩
   have hny : ly.length = n := by omega
   have F := za.mk (And.intro hn (And.intro hny hlx))
   rw [← hn] at rx2 h0 hlx ⊢
   rw [hny] at ry2 ⊢
   have RX := za.mk rx2
   have RY := za.mk ry2
   have N0 := za.mk h0
   have N1 : za (n - 1 < n ∧ (Value.int .i64 ((n : Int) - 1) : Value) = Value.int .i64 ((n - 1 : Nat) : Int) ∧ ∀ j, n - 1 < j → j < n → lx.getD j 0 = ly.getD j 0) := ⟨⟨by omega, by congr 1; omega, fun j h1 h2 => by omega⟩⟩
   have c1 : ((n : Int) == 0) = false := by rw [beq_eq_false_iff_ne]; omega
   have c2 : ¬ ((n : Int) = 0) := by omega
   clear rx ry rx2 ry2 hly hlen hn hny h0
   go_enter Tryz.func170, Tryz.ntmps170
   go_wp2
   go_loopw [7] (fun i wr => ∃ k : Nat, k < n ∧ i = .int .i64 k ∧ za (∀ j, k < j → j < n → lx.getD j 0 = ly.getD j 0) ∧ za (zl w wr)) (fun i _ => (intOf i).toNat)
   case atStart => exact ⟨n - 1, N1.out.1, by first | exact N1.out.2.1 | rfl, ⟨N1.out.2.2⟩, HW⟩
   case round =>
    obtain ⟨k, hk, rfl, hj, hw⟩ := hrel
    have old : ∀ (g : Nat) (x : Value), w.cell? ⟨g, k, none⟩ = some x → wr.cell? ⟨g, k, none⟩ = some x := by
     intro g x h
     obtain ⟨m, hm⟩ := hw.out.out
     rw [hm]
     exact h
    have a1 := old gx _ (RX.out k hk)
    have a2 := old gy _ (RY.out k hk)
    clear old
    obtain ⟨x, hx⟩ : ∃ x, x = lx.getD k 0 := ⟨_, rfl⟩
    obtain ⟨y, hy⟩ : ∃ y, y = ly.getD k 0 := ⟨_, rfl⟩
    rw [← hx] at a1
    rw [← hy] at a2
    have XY := za.mk (And.intro hx hy)
    have K := za.mk hk
    have KI : ((k : Int) < (n : Int)) = True := eq_true (by omega)
    have KD : decide ((k : Int) < (n : Int)) = true := decide_eq_true (by omega)
    have K0 : (0 ≤ (k : Int)) = True := eq_true (by omega)
    clear hx hy
    have fin : ∀ wz, zl wr wz → (k = 0 ∨ x ≠ y) → ∀ r : Int, r = (if x < y then -1 else if y < x then 1 else 0) → ∃ r', (Ending.returned (.int .i64 r) : Ending) = .returned (.int .i64 r') ∧ CmpAt lx ly r' ∧ zl w wz := by
     intro wz hz h1 r hr
     obtain ⟨f1, f2, f3⟩ := F.out
     refine ⟨r, rfl, .inr (.inr (.inr ⟨by omega, k, by omega, fun j h1 h2 => hj.out j h1 (by omega), ?_, ?_⟩)), zl.trans hw.out hz⟩
     ·rw [← XY.out.1, ← XY.out.2]; exact h1
     ·rw [← XY.out.1, ← XY.out.2]; exact hr
    have FIN := za.mk fin
    clear fin
    have go : (k = 0 ∨ x ≠ y) → za ((k = 0 ∨ x ≠ y)) := fun h => ⟨h⟩
    by_cases hxy : x = y
    ·by_cases hk0 : k = 0
     ·have G := go (.inl hk0)
      have d0 : decide (0 < (k : Int)) = false := decide_eq_false (by omega)
      have d0n : decide (0 < k) = false := decide_eq_false (by omega)
      have d1 : decide ((x : Int) < (y : Int)) = false := decide_eq_false (by omega)
      have d1n : decide (x < y) = false := decide_eq_false (by omega)
      have d2 : decide ((y : Int) < (x : Int)) = false := decide_eq_false (by omega)
      have d2n : decide (y < x) = false := decide_eq_false (by omega)
      have d3 : ((x : Int) == (y : Int)) = true := by rw [beq_iff_eq]; omega
      have d3n : (x == y) = true := by rw [beq_iff_eq]; omega
      have d3m : decide (x = y) = true := decide_eq_true (by omega)
      have R : za ((0 : Int) = (if x < y then -1 else if y < x then 1 else 0)) := ⟨by rw [if_neg (by omega), if_neg (by omega)]⟩
      clear hk0 hk hxy go
      go_wp2
      go_quiet (fail)
      go_wp2
      (try go_quiet (fail))
      go_wp2
      (try go_quiet (fail))
      go_wp2
      go_ret
      refine FIN.out _ ?_ G.out _ R.out
      (repeat (first | exact zl.refl _ | apply zl.step))
     ·obtain ⟨m, hm⟩ : ∃ m, m = k - 1 := ⟨_, rfl⟩
      have d0 : decide (0 < (k : Int)) = true := decide_eq_true (by omega)
      have d0n : decide (0 < k) = true := decide_eq_true (by omega)
      have d0m : (0 < k) = True := eq_true (by omega)
      have d3 : ((x : Int) == (y : Int)) = true := by rw [beq_iff_eq]; omega
      have d3n : (x == y) = true := by rw [beq_iff_eq]; omega
      have d3m : decide (x = y) = true := decide_eq_true (by omega)
      have e2 : (k : Int) - 1 = (m : Int) := by omega
      have e1 : wrap64 (m : Int) = (m : Int) := by unfold wrap64; have := F.out.2.2; have := F.out.1; omega
      have HXY := za.mk hxy
      have HM := za.mk (And.intro hm hk0)
      have MES : za (m < k) := ⟨by omega⟩
      have STEP : za (∀ j, m < j → j ≠ k → k < j) := ⟨fun j h1 h2 => by omega⟩
      clear hk0 hk hxy go hm
      go_wp2
      go_quiet (fail)
      go_wp2
      go_roundw
      case rel =>
       refine ⟨m, Nat.lt_trans MES.out K.out, by first | rfl | go_num, ⟨fun j h1 h2 => ?_⟩, ⟨zl.trans hw.out (by (repeat (first | exact zl.refl _ | apply zl.step)))⟩⟩
       by_cases ej : j = k
       ·rw [ej, ← XY.out.1, ← XY.out.2]; exact HXY.out
       ·exact hj.out j (STEP.out j h1 ej) h2
      case measure => first | exact meas_wrap m k MES.out e1 | exact meas_plain m k MES.out
    ·have G := go (.inr hxy)
     by_cases hk0 : k = 0
     ·have d0 : decide (0 < (k : Int)) = false := decide_eq_false (by omega)
      have d0n : decide (0 < k) = false := decide_eq_false (by omega)
      have d3 : ((x : Int) == (y : Int)) = false := by rw [beq_eq_false_iff_ne]; omega
      have d3n : (x == y) = false := by rw [beq_eq_false_iff_ne]; omega
      have d3m : decide (x = y) = false := decide_eq_false (by omega)
      by_cases hlt : x < y
      ·have d1 : decide ((x : Int) < (y : Int)) = true := decide_eq_true (by omega)
       have d1n : decide (x < y) = true := decide_eq_true (by omega)
       have R : za ((-1 : Int) = (if x < y then -1 else if y < x then 1 else 0)) := ⟨by rw [if_pos hlt]⟩
       clear hk0 hk hxy go hlt
       go_wp2
       go_quiet (fail)
       go_wp2
       (try go_quiet (fail))
       go_wp2
       (try go_quiet (fail))
       go_wp2
       go_ret
       refine FIN.out _ ?_ G.out _ R.out
       (repeat (first | exact zl.refl _ | apply zl.step))
      ·have d1 : decide ((x : Int) < (y : Int)) = false := decide_eq_false (by omega)
       have d1n : decide (x < y) = false := decide_eq_false (by omega)
       have d2 : decide ((y : Int) < (x : Int)) = true := decide_eq_true (by omega)
       have d2n : decide (y < x) = true := decide_eq_true (by omega)
       have R : za ((1 : Int) = (if x < y then -1 else if y < x then 1 else 0)) := ⟨by rw [if_neg hlt, if_pos (by omega)]⟩
       clear hk0 hk hxy go hlt
       go_wp2
       go_quiet (fail)
       go_wp2
       (try go_quiet (fail))
       go_wp2
       (try go_quiet (fail))
       go_wp2
       go_ret
       refine FIN.out _ ?_ G.out _ R.out
       (repeat (first | exact zl.refl _ | apply zl.step))
     ·have d0 : decide (0 < (k : Int)) = true := decide_eq_true (by omega)
      have d0n : decide (0 < k) = true := decide_eq_true (by omega)
      have d3 : ((x : Int) == (y : Int)) = false := by rw [beq_eq_false_iff_ne]; omega
      have d3n : (x == y) = false := by rw [beq_eq_false_iff_ne]; omega
      have d3m : decide (x = y) = false := decide_eq_false (by omega)
      by_cases hlt : x < y
      ·have d1 : decide ((x : Int) < (y : Int)) = true := decide_eq_true (by omega)
       have d1n : decide (x < y) = true := decide_eq_true (by omega)
       have R : za ((-1 : Int) = (if x < y then -1 else if y < x then 1 else 0)) := ⟨by rw [if_pos hlt]⟩
       clear hk0 hk hxy go hlt
       go_wp2
       go_quiet (fail)
       go_wp2
       (try go_quiet (fail))
       go_wp2
       (try go_quiet (fail))
       go_wp2
       go_ret
       refine FIN.out _ ?_ G.out _ R.out
       (repeat (first | exact zl.refl _ | apply zl.step))
      ·have d1 : decide ((x : Int) < (y : Int)) = false := decide_eq_false (by omega)
       have d1n : decide (x < y) = false := decide_eq_false (by omega)
       have d2 : decide ((y : Int) < (x : Int)) = true := decide_eq_true (by omega)
       have d2n : decide (y < x) = true := decide_eq_true (by omega)
       have R : za ((1 : Int) = (if x < y then -1 else if y < x then 1 else 0)) := ⟨by rw [if_neg hlt, if_pos (by omega)]⟩
       clear hk0 hk hxy go hlt
       go_wp2
       go_quiet (fail)
       go_wp2
       (try go_quiet (fail))
       go_wp2
       (try go_quiet (fail))
       go_wp2
       go_ret
       refine FIN.out _ ?_ G.out _ R.out
       (repeat (first | exact zl.refl _ | apply zl.step))
 ·have F := za.mk hlen
  have c1 : ((lx.length : Int) == (ly.length : Int)) = false := by rw [beq_eq_false_iff_ne]; omega
  have c2 : ¬ ((lx.length : Int) = (ly.length : Int)) := by omega
  have c1n : (lx.length == ly.length) = false := by rw [beq_eq_false_iff_ne]; omega
  have c1m : decide (lx.length = ly.length) = false := decide_eq_false (by omega)
  by_cases hlt : lx.length < ly.length
  ·have d1 : decide ((lx.length : Int) < (ly.length : Int)) = true := decide_eq_true (by omega)
   have d1n : decide (lx.length < ly.length) = true := decide_eq_true (by omega)
   have L := za.mk hlt
   clear rx ry hlx hly hlen hlt
   go_enter Tryz.func170, Tryz.ntmps170
   go_wp2
   go_ret
   exact ⟨-1, rfl, .inl ⟨L.out, rfl⟩, HW.out⟩
  ·have d1 : decide ((lx.length : Int) < (ly.length : Int)) = false := decide_eq_false (by omega)
   have d1n : decide (lx.length < ly.length) = false := decide_eq_false (by omega)
   have d2n : decide (ly.length < lx.length) = true := decide_eq_true (by omega)
   have d2 : decide ((ly.length : Int) < (lx.length : Int)) = true := decide_eq_true (by omega)
   have L : za (ly.length < lx.length) := ⟨by omega⟩
   clear rx ry hlx hly hlen hlt
   go_enter Tryz.func170, Tryz.ntmps170
   go_wp2
   go_ret
   exact ⟨1, rfl, .inr (.inl ⟨L.out, rfl⟩), HW.out⟩
end Go.Proofs.YtlijjnjpomnphaaGreatDoorG
end
section
namespace Go.Proofs.YtlijjnjpomnphaaGreatDoorG
open Go.RowKit YtlijjnjpomnphaaGreatDoorW.PrintWords YtlijjnjpomnphaaGreatDoorW.PrintLast
theorem scanSign_e (w : World) (b : Nat) (s : ByteArray) (p : Int) (EP : Addr) (h : Rd w b s 0 p) (h0 : s.size = 0) (hE : w.cell? ⟨2, 0, none⟩ = some (ErrV EP)) (hbg : 2 < b) :
  Calls Tryz.prog 168 #[.iface 169 (.pointer (some ⟨b, 0, none⟩))] w fun e w' => e = .returned (.tuple #[.bool false, ErrV EP]) ∧ w.grownBy w' (some b) := by
 have hr := zph w b s p (ErrV EP) (by rw [h0]; exact h) hE (by omega) (by omega)
 simp only [ErrV] at hr ⊢
 have HR := za.mk hr
 have i1 := zwe (some ⟨b, 0, none⟩)
 have i3 := zxe
 clear h h0 hE hbg hr
 go_enter Tryz.func168, Tryz.ntmps168
 go_wp2_with (first
  | (go_at_call 217; refine HR.out.mono ?_; rintro e' w1 ⟨rfl, r1, g1⟩; have G1 := za.mk g1; clear r1 g1))
 go_ret2
 exact ⟨rfl, G1.out⟩
theorem intScan_e (w : World) (a b : Nat) (s : ByteArray) (p : Int) (EP : Addr) (h : Rd w b s 0 p) (h0 : s.size = 0) (hE : w.cell? ⟨2, 0, none⟩ = some (ErrV EP)) (hbg : 2 < b) :
  Calls Tryz.prog 157 #[.pointer (some ⟨a, 0, none⟩), .iface 169 (.pointer (some ⟨b, 0, none⟩)), .int .i64 10] w fun e w' => e = .returned (.tuple #[.pointer none, .int .i64 0, ErrV EP]) ∧ w.grownBy w' (some b) := by
 have hr := scanSign_e w b s p EP h h0 hE hbg
 simp only [ErrV] at hr ⊢
 have HR := za.mk hr
 clear h h0 hE hbg hr
 go_enter Tryz.func157, Tryz.ntmps157
 go_wp2_with (first
  | (go_at_call 168; refine HR.out.mono ?_; rintro e' w1 ⟨rfl, g1⟩; have G1 := za.mk g1; clear g1))
 go_ret3
 exact ⟨rfl, G1.out⟩
theorem zsh (w : World) (a b : Nat) (s : ByteArray) (p : Int) (EP : Addr) (h : Rd w b s 0 p) (h0 : s.size = 0) (hE : w.cell? ⟨2, 0, none⟩ = some (ErrV EP)) (hbg : 2 < b) :
  Calls Tryz.prog 136 #[.pointer (some ⟨a, 0, none⟩), .iface 169 (.pointer (some ⟨b, 0, none⟩)), .int .i64 10] w fun e w' => e = .returned (.tuple #[.pointer none, .bool false]) ∧ w.grownBy w' (some b) := by
 have hr := intScan_e w a b s p EP h h0 hE hbg
 simp only [ErrV] at hr
 have HR := za.mk hr
 clear h h0 hE hbg hr
 go_enter Tryz.func136, Tryz.ntmps136
 go_wp2_with (first
  | (go_at_call 157; refine HR.out.mono ?_; rintro e' w1 ⟨rfl, g1⟩; have G1 := za.mk g1; clear g1))
 go_ret2
 exact ⟨rfl, G1.out⟩
theorem setString_e (w : World) (a : Nat) (s : ByteArray) (EP : Addr) (h0 : s.size = 0) (hE : w.cell? ⟨2, 0, none⟩ = some (ErrV EP)) (hg0 : 2 < w.heap.size) :
  Calls Tryz.prog 108 #[.pointer (some ⟨a, 0, none⟩), .string s, .int .i64 10] w fun e w' => e = .returned (.tuple #[.pointer none, .bool false]) ∧ Below w.heap.size w w' := by
 obtain ⟨w1, hw1⟩ : ∃ w1, w1 = w.alloc (.cells #[.string s, .int .i64 0, .int .i64 (-1)] 189) := ⟨_, rfl⟩
 have hold : ∀ k, k < w.heap.size → w1.heap[k]? = w.heap[k]? := fun k hk => by rw [hw1]; exact alloc_old _ _ hk
 have hrd : Rd w1 w.heap.size s 0 (-1) := by unfold Rd; rw [hw1]; exact alloc_at _ _
 have hcon := zsh w1 a w.heap.size s (-1) EP hrd h0 ((World.cell?_of_block (hold _ (by show 2 < _; omega))).trans hE) hg0
 have HB : za (∀ w2, w1.grownBy w2 (some w.heap.size) → Below w.heap.size w w2) := ⟨fun w2 g => by
  have hb : Below w.heap.size w w1 := by rw [hw1]; exact zwd _ (Nat.le_refl _)
  have hsz : w1.heap.size = w.heap.size + 1 := by rw [hw1]; exact zpc _ _
  exact hb.grown g (by omega) (fun k hk => by cases hk; exact Nat.le_refl _)⟩
 have HCON := za.mk hcon
 have HNEW := za.mk (newReader_ w s)
 have HW1 := za.mk hw1
 clear h0 hE hg0 hold hrd hcon hw1
 go_enter Tryz.func108, Tryz.ntmps108
 go_wp2_with (first
  | (go_at_call 137; refine HNEW.out.mono ?_; rintro e' w2 ⟨rfl, hw2⟩; have hw3 := hw2.trans HW1.out.symm; clear hw2; subst hw3)
  | (go_at_call 136; refine HCON.out.mono ?_; rintro e' w3 ⟨rfl, hst⟩; have ST := za.mk hst; clear hst))
 go_ret2
 exact ⟨rfl, HB.out _ ST.out⟩
theorem convert_e (w : World) (s : ByteArray) (EV EP : Addr) (h0 : s.size = 0)
  (hV : w.cell? ⟨0, 0, none⟩ = some (ErrV EV)) (hE : w.cell? ⟨2, 0, none⟩ = some (ErrV EP)) (hg0 : 2 < w.heap.size) :
  Calls Tryz.prog 70 #[.string s] w fun e w' => e = .returned (.tuple #[.pointer none, ErrV EV]) ∧ Below w.heap.size w w' := by
 obtain ⟨w1, hw1⟩ : ∃ w1, w1 = w.alloc (.cells #[.bool false, .slice none 0 0] 150) := ⟨_, rfl⟩
 have hsz : w1.heap.size = w.heap.size + 1 := by rw [hw1]; exact zpc _ _
 have hold : ∀ k, k < w.heap.size → w1.heap[k]? = w.heap[k]? := fun k hk => by rw [hw1]; exact alloc_old _ _ hk
 have hcon := setString_e w1 w.heap.size s EP h0 ((World.cell?_of_block (hold _ (by show 2 < _; omega))).trans hE) (by omega)
 have hbel : Below w.heap.size w w1 := by rw [hw1]; exact zwd _ (Nat.le_refl _)
 have HB : za (∀ w2, Below w1.heap.size w1 w2 → Below w.heap.size w w2) := ⟨fun w2 h => hbel.trans ⟨h.os, h.tape, h.output, h.size, fun k hk => h.block k (by omega)⟩⟩
 have hV2 : ∀ w2, Below w1.heap.size w1 w2 → w2.cell? ⟨0, 0, none⟩ = some (ErrV EV) := fun w2 h => ((World.cell?_of_block (h.block 0 (by omega))).trans (World.cell?_of_block (hold _ (by show 0 < _; omega)))).trans hV
 simp only [ErrV] at hV2 ⊢
 rw [hw1] at hcon HB hV2
 have HCON := za.mk hcon
 have HV := za.mk hV2
 clear h0 hV hE hg0 hsz hold hcon hbel hw1 hV2
 go_enter Tryz.func70, Tryz.ntmps70
 go_wp2_with (first
  | (go_at_call 108; refine HCON.out.mono ?_; rintro e' w3 ⟨rfl, hst⟩; have ST := za.mk hst; have cv := HV.out w3 hst; clear hst))
 go_quiet (fail)
 go_wp2
 go_ret2
 exact ⟨rfl, by first | exact HB.out _ ST.out | (apply ze; exact HB.out _ ST.out)⟩
def Plain (s : ByteArray) : Prop := s.size ≤ 1000000 ∧ bt s 0 ≠ 45 ∧ bt s 0 ≠ 43
instance (s : ByteArray) : Decidable (Plain s) := inferInstanceAs (Decidable (_ ∧ _ ∧ _))
def GLe (w : World) : Prop := 7 < w.heap.size ∧ (∃ a, w.cell? ⟨0, 0, none⟩ = some (ErrV a)) ∧ (∃ a, w.cell? ⟨2, 0, none⟩ = some (ErrV a)) ∧ ∃ a, w.cell? ⟨7, 0, none⟩ = some (ErrV a)
theorem GLe.below {w w' : World} {B : Nat} (h : GLe w) (hb : Below B w w') (hB : w.heap.size ≤ B) : GLe w' := by
 obtain ⟨h1, ⟨a1, h2⟩, ⟨a2, h3⟩, a3, h4⟩ := h
 have ge : ∀ g : Nat, g ≤ 7 → w'.heap[g]? = w.heap[g]? := fun g hg => hb.block g (by omega)
 have hs := hb.size
 exact ⟨by omega, ⟨a1, (World.cell?_of_block (ge _ (by decide))).trans h2⟩, ⟨a2, (World.cell?_of_block (ge _ (by decide))).trans h3⟩, a3, (World.cell?_of_block (ge _ (by decide))).trans h4⟩
theorem convert_all (w : World) (s : ByteArray) (hp : Plain s) (hG : GLe w) : ∃ EV, Calls Tryz.prog 70 #[.string s] w (fun e w' => Conv s EV w w' e) := by
 obtain ⟨hs, h1, h2⟩ := hp
 obtain ⟨g1, ⟨EV, hV⟩, ⟨EP, hE⟩, NP, hN⟩ := hG
 refine ⟨EV, ?_⟩
 by_cases h0 : s.size = 0
 ·refine (convert_e w s EV EP h0 hV hE (by omega)).mono ?_
  rintro e w' ⟨rfl, hb⟩
  exact ⟨fun h => absurd h.1 (by omega), fun _ => rfl, hb⟩
 ·exact convert_ w s EV EP NP (by omega) hs h1 h2 hV hE hN g1
end Go.Proofs.YtlijjnjpomnphaaGreatDoorG
end
section
namespace Go.Proofs.YtlijjnjpomnphaaGreatDoorG
open Go.RowKit YtlijjnjpomnphaaGreatDoorW.PrintWords YtlijjnjpomnphaaGreatDoorW.PrintLast
theorem W64_pos : 0 < W64 := by unfold W64; omega
theorem step_lt {x y a b : Nat} (hx : x < W64) (h : a < b) : x + W64 * a < y + W64 * b := by
 have h2 : W64 * (a + 1) ≤ W64 * b := Nat.mul_le_mul (Nat.le_refl _) h
 have h1 : W64 * (a + 1) = W64 * a + W64 := Nat.mul_succ _ _
 generalize W64 * a = p at *
 generalize W64 * b = q at *
 generalize W64 * (a + 1) = r at *
 omega
theorem zwc (x : Nat) (l : List Nat) (i : Nat) : (x :: l).getD (i + 1) 0 = l.getD i 0 := by simp [List.getD_eq_getElem?_getD]
theorem zfe (x : Nat) (l : List Nat) : (x :: l).getD 0 0 = x := by simp [List.getD_eq_getElem?_getD]
theorem rows_eq : ∀ (lx ly : List Nat), lx.length = ly.length → (∀ j, j < lx.length → lx.getD j 0 = ly.getD j 0) → lx = ly
 | [], [], _, _ => rfl
 | [], _ :: _, h, _ => by simp at h
 | _ :: _, [], h, _ => by simp at h
 | x :: l, y :: m, h, hj => by
  have h0 := hj 0 (by simp)
  rw [zfe, zfe] at h0
  rw [h0, rows_eq l m (by simpa using h) (fun j hl => by have := hj (j + 1) (by simpa using hl); rw [zwc, zwc] at this; exact this)]
theorem num_lt : ∀ (lx ly : List Nat), lx.length = ly.length → (∀ x ∈ lx, IsW x) → ∀ i, i < lx.length → (∀ j, i < j → j < lx.length → lx.getD j 0 = ly.getD j 0) → lx.getD i 0 < ly.getD i 0 → num lx < num ly
 | [], _, _, _, i, hi, _, _ => by simp at hi
 | _ :: _, [], h, _, _, _, _, _ => by simp at h
 | x :: l, y :: m, h, hw, 0, hi, hj, hlt => by
  rw [zfe, zfe] at hlt
  have e : l = m := rows_eq l m (by simpa using h) (fun j hl => by have := hj (j + 1) (by omega) (by simpa using hl); rw [zwc, zwc] at this; exact this)
  simp only [num, e]
  omega
 | x :: l, y :: m, h, hw, i + 1, hi, hj, hlt => by
  rw [zwc, zwc] at hlt
  have ih := num_lt l m (by simpa using h) (fun z hz => hw z (by simp [hz])) i (by simpa using hi) (fun j h1 h2 => by have := hj (j + 1) (by omega) (by simpa using h2); rw [zwc, zwc] at this; exact this) hlt
  simp only [num]
  exact step_lt (hw x (by simp)) ih
theorem num_bound : ∀ (l : List Nat), (∀ x ∈ l, IsW x) → num l < W64 ^ l.length
 | [], _ => by simp [num]
 | x :: l, hw => by
  have ih := num_bound l (fun z hz => hw z (by simp [hz]))
  simp only [num, List.length_cons, Nat.pow_succ]
  have h := step_lt (y := 0) (hw x (by simp)) ih
  rw [Nat.mul_comm (W64 ^ l.length) W64]
  omega
theorem num_snoc : ∀ (l : List Nat) (x : Nat), num (l ++ [x]) = num l + W64 ^ l.length * x
 | [], x => by simp [num]
 | y :: l, x => by
  simp only [List.cons_append, num, num_snoc l x, List.length_cons, Nat.pow_succ, Nat.mul_add]
  rw [← Nat.mul_assoc, Nat.mul_comm W64 (W64 ^ l.length), Nat.add_assoc]
theorem trimW_le (l : List Nat) : (trimW l).length ≤ l.length := by
 unfold trimW
 have h := (List.dropWhile_sublist (fun x => decide (x = 0)) (l := l.reverse)).length_le
 rw [List.length_reverse] at h ⊢
 exact h
theorem num_low (l : List Nat) (h : l = trimW l) (h0 : 0 < l.length) : W64 ^ (l.length - 1) ≤ num l := by
 obtain ⟨m, x, rfl⟩ : ∃ m x, l = m ++ [x] := by
  rcases List.eq_nil_or_concat l with e | ⟨m, x, e⟩
  ·rw [e] at h0; simp at h0
  ·exact ⟨m, x, by simpa using e⟩
 have hx : x ≠ 0 := by
  intro e
  subst e
  rw [zzd] at h
  have := trimW_le m
  have h2 := congrArg List.length h
  simp at h2
  omega
 rw [num_snoc]
 have e : (m ++ [x]).length - 1 = m.length := by simp
 rw [e]
 have : W64 ^ m.length * 1 ≤ W64 ^ m.length * x := Nat.mul_le_mul (Nat.le_refl _) (Nat.pos_of_ne_zero hx)
 omega
theorem num_shorter {lx ly : List Nat} (hw : ∀ x ∈ lx, IsW x) (hy : ly = trimW ly) (h : lx.length < ly.length) : num lx < num ly := by
 have h1 := num_bound lx hw
 have h2 := num_low ly hy (by omega)
 have h3 : W64 ^ lx.length ≤ W64 ^ (ly.length - 1) := Nat.pow_le_pow_right W64_pos (by omega)
 omega
def cmpN (a b : Nat) : Int := if a < b then -1 else if b < a then 1 else 0
theorem cmpAt_num {lx ly : List Nat} {r : Int} (h : CmpAt lx ly r) (hx : lx = trimW lx) (hy : ly = trimW ly) (wx : ∀ x ∈ lx, IsW x) (wy : ∀ x ∈ ly, IsW x) : r = cmpN (num lx) (num ly) := by
 unfold cmpN
 rcases h with ⟨h, rfl⟩ | ⟨h, rfl⟩ | ⟨h, h0, rfl⟩ | ⟨h, i, hi, hj, h0, rfl⟩
 ·rw [if_pos (num_shorter wx hy h)]
 ·have := num_shorter wy hx h
  rw [if_neg (by omega), if_pos this]
 ·have e1 : lx = [] := List.length_eq_zero_iff.1 h0
  have e2 : ly = [] := List.length_eq_zero_iff.1 (by omega)
  rw [e1, e2]
  simp
 ·by_cases h1 : lx.getD i 0 < ly.getD i 0
  ·rw [if_pos h1, if_pos (num_lt lx ly h wx i hi hj h1)]
  ·by_cases h2 : ly.getD i 0 < lx.getD i 0
   ·have := num_lt ly lx h.symm wy i (by omega) (fun j k1 k2 => (hj j k1 (by omega)).symm) h2
    rw [if_neg h1, if_pos h2, if_neg (by omega), if_pos this]
   ·have he : lx.getD i 0 = ly.getD i 0 := by omega
    rcases h0 with h0 | h0
    ·have e : lx = ly := rows_eq lx ly h (fun j k => by
      rcases Nat.eq_or_lt_of_le (Nat.zero_le j) with e | e
      ·have e0 : j = i := by omega
       rw [e0]; exact he
      ·exact hj j (by omega) k)
     rw [if_neg h1, if_neg h2, e]
     simp
    ·exact absurd he h0
theorem NatS.words {w : World} {B : Nat} {v : Value} {l : List Nat} (h : NatS w B v l) : ∀ x ∈ l, IsW x := by
 rcases h with ⟨rfl, rfl⟩ | ⟨g, full, h1, h2, h3, h4, h5, h6, h7⟩
 ·intro x hx; simp at hx
 ·intro x hx
  rw [← h4] at hx
  exact h7 x (List.mem_of_mem_take hx)
theorem dv_lt (s : ByteArray) : ∀ k : Nat, (∀ j : Nat, j < k → Dig (bt s j)) → dv s k < 10 ^ k
 | 0, _ => by simp [dv]
 | k + 1, h => by
  have ih := dv_lt s k (fun j hj => h j (by omega))
  have hd := h k (by omega)
  have h1 := hd.1
  have h2 := hd.2
  simp only [dv, Nat.pow_succ]
  omega
theorem num_len {l : List Nat} {s : ByteArray} (h : l = trimW l) (hd : zic s) (e : num l = dv s s.size) : l.length ≤ s.size := by
 by_cases h0 : l.length = 0
 ·omega
 ·have h1 := num_low l h (by omega)
  have h2 := dv_lt s s.size hd.2
  have h3 : 10 ^ s.size ≤ W64 ^ s.size := Nat.pow_le_pow_left (by unfold W64; omega) _
  rcases Nat.lt_or_ge s.size l.length with h4 | h4
  ·have h5 : W64 ^ s.size ≤ W64 ^ (l.length - 1) := Nat.pow_le_pow_right W64_pos (by omega)
   omega
  ·exact h4
end Go.Proofs.YtlijjnjpomnphaaGreatDoorG
end
section
namespace Go.Proofs.YtlijjnjpomnphaaGreatDoorG
open Go.RowKit YtlijjnjpomnphaaGreatDoorW.PrintWords YtlijjnjpomnphaaGreatDoorW.PrintLast
theorem natCmpN (w : World) (Bx By : Nat) (vx vy : Value) (lx ly : List Nat) (hx : NatS w Bx vx lx) (hy : NatS w By vy ly) (tx : lx = trimW lx) (ty : ly = trimW ly) (hlx : lx.length ≤ 1000000) (hly : ly.length ≤ 1000000) :
  Calls Tryz.prog 170 #[vx, vy] w fun e w' => e = .returned (.int .i64 (cmpN (num lx) (num ly))) ∧ zl w w' := by
 refine (natCmp_ w Bx By vx vy lx ly hx hy hlx hly).mono ?_
 rintro e w' ⟨r, rfl, h, hd⟩
 exact ⟨by rw [cmpAt_num h tx ty hx.words hy.words], hd⟩
theorem znh : ∃ j, Tryz.prog.info? 150 = some j ∧ j.size ≠ 0 := by
 have h : (Tryz.prog.info? 150).map (fun i => i.size != 0) = some true := by kernel_rfl
 obtain ⟨j, hj, hz⟩ := Option.map_eq_some_iff.1 h
 exact ⟨j, hj, by simpa using hz⟩
theorem eq_ints {w : World} {a b : Nat} {va vb : Value} (ha : Bg w a false va) (hb : Bg w b false vb) (hab : a ≠ b) : (binOp .eql 66 (.pointer (some ⟨a, 0, none⟩)) (.pointer (some ⟨b, 0, none⟩))).run Tryz.prog w = .ok (.bool false) w := by
 obtain ⟨j, hj, hz⟩ := znh
 exact run_eql_ptr_other w Tryz.underlying66 hj hz (fun e => hab (by simpa using congrArg Addr.block e)) ha hb
theorem intCmp_ (w : World) (a b Bx By : Nat) (vx vy : Value) (lx ly : List Nat) (ha : Bg w a false vx) (hb : Bg w b false vy) (hab : a ≠ b) (hx : NatS w Bx vx lx) (hy : NatS w By vy ly) (tx : lx = trimW lx) (ty : ly = trimW ly) (hlx : lx.length ≤ 1000000) (hly : ly.length ≤ 1000000) :
  Calls Tryz.prog 159 #[.pointer (some ⟨a, 0, none⟩), .pointer (some ⟨b, 0, none⟩)] w fun e w' => e = .returned (.int .i64 (cmpN (num lx) (num ly))) ∧ zl w w' := by
 have e1 := eq_ints ha hb hab
 have a0 := ha.c0
 have a1 := ha.c1
 have b0 := hb.c0
 have b1 := hb.c1
 have HC := za.mk (fun (W : World) (hW : W.heap = w.heap) => natCmpN W Bx By vx vy lx ly (hx.other (fun k _ _ => by rw [hW])) (hy.other (fun k _ _ => by rw [hW])) tx ty hlx hly)
 obtain ⟨px, cx, rfl⟩ := hx.shape
 obtain ⟨py, cy, rfl⟩ := hy.shape
 have HA := za.mk (And.intro ha hb)
 clear ha hb hab hx hy hlx hly tx ty
 go_enter Tryz.func159, Tryz.ntmps159
 go_wp2
 go_quiet (fail)
 go_wp2
 go_quiet (first | (go_at_call 170; (refine (HC.out _ (by rfl)).mono ?_); rintro e w' ⟨rfl, ⟨nd, rfl⟩⟩; (try first | exact ⟨rfl, _, World.drewN_drewN _ _ _⟩ | exact ⟨rfl, _, Eq.trans (World.drewN_drewN _ _ _) (congrArg (World.drewN _) (Nat.add_assoc _ _ _))⟩)))
 go_wp2
 go_ret
 exact ⟨rfl, by repeat (first | exact zl.refl _ | apply zl.step)⟩
end Go.Proofs.YtlijjnjpomnphaaGreatDoorG
end
section
namespace Go.Proofs.YtlijjnjpomnphaaGreatDoorG
open Go.RowKit YtlijjnjpomnphaaGreatDoorW.PrintWords YtlijjnjpomnphaaGreatDoorW.PrintLast
instance (s : ByteArray) : Decidable (zic s) := by
 unfold zic
 exact inferInstanceAs (Decidable (_ ∧ _))
def BigAt (w : World) (a n : Nat) : Prop := ∃ v l, Bg w a false v ∧ NatS w a v l ∧ num l = n ∧ l = trimW l ∧ l.length ≤ 1000000
theorem NatS.lt {w : World} {B : Nat} {v : Value} {l : List Nat} (h : NatS w B v l) {w' : World} (hb : Below w.heap.size w w') : NatS w' B v l := by
 refine h.other (fun k _ hk => hb.block k hk)
theorem BigAt.below {w w' : World} {a n : Nat} (h : BigAt w a n) (hb : Below w.heap.size w w') : BigAt w' a n := by
 obtain ⟨v, l, h1, h2, h3⟩ := h
 exact ⟨v, l, h1.same (hb.block a h1.lt), h2.lt hb, h3⟩
theorem conv_yes (w : World) (s : ByteArray) (hp : Plain s) (hG : GLe w) (hd : zic s) :
  Calls Tryz.prog 70 #[.string s] w fun e w' => e = .returned (.tuple #[.pointer (some ⟨w.heap.size, 0, none⟩), .nilIface]) ∧ BigAt w' w.heap.size (dv s s.size) ∧ Below w.heap.size w w' := by
 obtain ⟨EV, h⟩ := convert_all w s hp hG
 refine h.mono ?_
 rintro e w' ⟨h1, _, hb⟩
 obtain ⟨v, l, rfl, k1, k2, k3, k4⟩ := h1 hd
 exact ⟨rfl, ⟨v, l, k1, k2, k3, k4, Nat.le_trans (num_len k4 hd k3) hp.1⟩, hb⟩
theorem zsf (w : World) (s : ByteArray) (hp : Plain s) (hG : GLe w) (hd : ¬ zic s) :
  ∃ a, Calls Tryz.prog 70 #[.string s] w fun e w' => e = .returned (.tuple #[.pointer none, .iface 243 (.pointer (some a))]) ∧ Below w.heap.size w w' := by
 obtain ⟨EV, h⟩ := convert_all w s hp hG
 refine ⟨EV, h.mono ?_⟩
 rintro e w' ⟨_, h1, hb⟩
 exact ⟨h1 hd, hb⟩
theorem cmp_big_ne (w : World) (a b n m : Nat) (ha : BigAt w a n) (hb : BigAt w b m) (hab : a ≠ b) :
  Calls Tryz.prog 159 #[.pointer (some ⟨a, 0, none⟩), .pointer (some ⟨b, 0, none⟩)] w fun e w' => e = .returned (.int .i64 (cmpN n m)) ∧ Below w.heap.size w w' := by
 obtain ⟨vx, lx, a1, a2, a3, a4, a5⟩ := ha
 obtain ⟨vy, ly, b1, b2, b3, b4, b5⟩ := hb
 refine (intCmp_ w a b a b vx vy lx ly a1 b1 hab a2 b2 a4 b4 a5 b5).mono ?_
 rintro e w' ⟨rfl, hd⟩
 exact ⟨by rw [a3, b3], hd.below⟩
theorem NatS.same_row {w : World} {B B' : Nat} {v : Value} {l l2 : List Nat} (h : NatS w B v l) (k : NatS w B' v l2) : l = l2 := by
 rcases h with ⟨e1, e2⟩ | ⟨g, full, e1, _, e3, e4, _⟩
 ·rcases k with ⟨_, f2⟩ | ⟨g2, full2, f1, _⟩
  ·rw [e2, f2]
  ·rw [e1] at f1; simp at f1
 ·rcases k with ⟨f1, _⟩ | ⟨g2, full2, f1, _, f3, f4, _⟩
  ·rw [e1] at f1; simp at f1
  ·rw [e1] at f1
   simp at f1
   obtain ⟨hg, hl, hc⟩ := f1
   subst hg
   unfold Ws at e3 f3
   rw [e3] at f3
   have h5 : (full.map NumC).toArray = (full2.map NumC).toArray := by
    have h6 := Option.some.inj f3
    injection h6
   have h7 : full.map NumC = full2.map NumC := by simpa using h5
   have inj : ∀ (x y : List Nat), x.map NumC = y.map NumC → x = y := by
    intro x
    induction x with
    | nil => intro y hy; cases y with
     | nil => rfl
     | cons b y => simp at hy
    | cons c x ih => intro y hy; cases y with
     | nil => simp at hy
     | cons b y =>
      simp only [List.map_cons, List.cons.injEq] at hy
      have h8 : c = b := by
       have h9 := hy.1
       unfold NumC at h9
       injection h9 with _ h9
       omega
      rw [h8, ih y hy.2]
   have h10 := inj _ _ h7
   rw [← e4, ← f4, h10, hl]
theorem BigAt.one {w : World} {a n m : Nat} (h : BigAt w a n) (k : BigAt w a m) : n = m := by
 obtain ⟨v, l, a1, a2, a3, _⟩ := h
 obtain ⟨v2, l2, b1, b2, b3, _⟩ := k
 have e : v = v2 := by
  unfold Bg at a1 b1
  rw [a1] at b1
  simpa using b1
 subst e
 rw [← a3, ← b3, a2.same_row b2]
theorem cmp_big_eq (w : World) (a : Nat) : Calls Tryz.prog 159 #[.pointer (some ⟨a, 0, none⟩), .pointer (some ⟨a, 0, none⟩)] w fun e w' => e = .returned (.int .i64 0) ∧ Below w.heap.size w w' := by
 obtain ⟨j, hj, hz⟩ := znh
 have e1 := fun W : World => run_eql_ptr_same (P := Tryz.prog) W ⟨a, 0, none⟩ Tryz.underlying66 hj
 have HB := za.mk (Below.refl w.heap.size w)
 clear hj hz
 go_enter Tryz.func159, Tryz.ntmps159
 go_wp2
 go_ret
 exact ⟨rfl, HB.out⟩
theorem cmp_big (w : World) (a b n m : Nat) (ha : BigAt w a n) (hb : BigAt w b m) :
  Calls Tryz.prog 159 #[.pointer (some ⟨a, 0, none⟩), .pointer (some ⟨b, 0, none⟩)] w fun e w' => e = .returned (.int .i64 (cmpN n m)) ∧ Below w.heap.size w w' := by
 by_cases h : a = b
 ·subst h
  have e := ha.one hb
  subst e
  refine (cmp_big_eq w a).mono ?_
  rintro e w' ⟨rfl, h⟩
  refine ⟨?_, h⟩
  unfold cmpN
  rw [if_neg (by omega), if_neg (by omega)]
 ·exact cmp_big_ne w a b n m ha hb h
theorem big_zero (w : World) : BigAt (w.alloc (.cells #[.bool false, .slice none 0 0] 150)) w.heap.size 0 := by
 refine ⟨.slice none 0 0, [], ?_, .inl ⟨rfl, rfl⟩, rfl, rfl, by simp⟩
 unfold Bg
 exact alloc_at w _
theorem zpb {w w' : World} {p : Addr} {v : Value} (hb : Below w.heap.size w w') (h : w.cell? p = some v) : w'.cell? p = some v := by
 rw [← h]
 refine World.cell?_of_block (hb.block _ ?_)
 rcases Nat.lt_or_ge p.block w.heap.size with hl | hl
 ·exact hl
 ·unfold World.cell? at h
  rw [Array.getElem?_eq_none hl] at h
  cases h
theorem C_below {w w' : World} {A : Option Addr} {l : List ByteArray} (h : Kd.C Kd.string w A l.length l) (hb : Below w.heap.size w w') : Kd.C Kd.string w' A l.length l := by
 refine ⟨h.1, h.2.1, fun hp => ?_⟩
 obtain ⟨ad, e, hc⟩ := h.2.2 hp
 refine ⟨ad, e, fun j p hj => ?_⟩
 obtain ⟨cs, h1, h2, h3⟩ := hc j p hj
 refine ⟨cs, ?_, h2, fun i u hu => zpb hb (h3 i u hu)⟩
 exact h1
def KeptT (p : TypeId → Bool) (w w' : World) : Prop := ∀ (k : Nat) (cs : Array Value) (t : TypeId) (fr : Nat × Nat), w.heap[k]? = some (Obj.cells cs t fr) → p t = true → w'.heap[k]? = w.heap[k]?
def numT (t : TypeId) : Bool := t == 150 || t == 147
theorem BigAt.kept {w w' : World} {a n : Nat} (h : BigAt w a n) (k : KeptT numT w w') : BigAt w' a n := by
 obtain ⟨v, l, h1, h2, h3⟩ := h
 refine ⟨v, l, h1.same (k a _ _ _ h1 (by decide)), ?_, h3⟩
 rcases h2 with h2 | ⟨g, full, e1, e2, e3, e4⟩
 ·exact .inl h2
 ·exact .inr ⟨g, full, e1, e2, e3.same (k g _ _ _ e3 (by decide)), e4⟩
end Go.Proofs.YtlijjnjpomnphaaGreatDoorG
end
section
namespace Go.Proofs.YtlijjnjpomnphaaGreatDoorG
open Go.RowKit YtlijjnjpomnphaaGreatDoorH YtlijjnjpomnphaaGreatDoorB YtlijjnjpomnphaaGreatDoorM YtlijjnjpomnphaaGreatDoorW.PrintWords YtlijjnjpomnphaaGreatDoorW.PrintLast
def strCmp (a b : ByteArray) : Int := Lib.compareBytes a.data.toList b.data.toList
def zsb (a b : Int) : Int := if a = 0 then b else a
def fromC (d : Nat → Int) : Nat → Nat → Int
 | 0, _ => 0
 | n + 1, k => if d k = 0 then fromC d n (k + 1) else d k
structure YV where
 ep : Nat
 rel : List Nat
 pre : Option (ByteArray × Nat)
 post : Option (ByteArray × Nat)
 dev : Option (ByteArray × Nat)
 loc : List ByteArray
 leg : List ByteArray
def relD (l m : List Nat) (k : Nat) : Int := cmpN (l.getD k 0) (m.getD k 0)
def relC (l m : List Nat) : Int := fromC (relD l m) (max l.length m.length) 0
def trick (x : YV) : Bool := x.pre.isNone && x.post.isNone && x.dev.isSome
def preRank (x : YV) : Nat := if trick x = true then 0 else if x.pre.isSome = true then 1 else 2
def preByte (x : YV) : Nat := match x.pre with
 | some p => (bt p.1 0).toNat
 | none => 0
def numOf : Option (ByteArray × Nat) → Nat
 | some p => p.2
 | none => 0
def preC (x y : YV) : Int := zsb (cmpN (preRank x) (preRank y)) (zsb (cmpN (preByte x) (preByte y)) (cmpN (numOf x.pre) (numOf y.pre)))
def hasN (o : Option (ByteArray × Nat)) : Nat := if o.isSome = true then 1 else 0
def postC (x y : YV) : Int := zsb (cmpN (hasN x.post) (hasN y.post)) (cmpN (numOf x.post) (numOf y.post))
def devC (x y : YV) : Int := zsb (cmpN (hasN y.dev) (hasN x.dev)) (cmpN (numOf x.dev) (numOf y.dev))
def locD (a b : ByteArray) : Int := if zic a then (if zic b then cmpN (dv a a.size) (dv b b.size) else 1) else if zic b then -1 else strCmp a b
def locAt (l m : List ByteArray) (k : Nat) : Int := locD (l.getD k ByteArray.empty) (m.getD k ByteArray.empty)
def locC (l m : List ByteArray) : Int := zsb (fromC (locAt l m) (min l.length m.length) 0) (cmpN l.length m.length)
def legN (l : List ByteArray) : Nat := if l = [] then 1 else 0
instance (l : List ByteArray) : Decidable (l = []) := by cases l <;> exact inferInstance
def legC (l m : List ByteArray) : Int := zsb (cmpN (legN l) (legN m)) (strCmp (joinB l) (joinB m))
def yC (x y : YV) : Int := zsb (legC x.leg y.leg) (zsb (cmpN x.ep y.ep) (zsb (relC x.rel y.rel) (zsb (preC x y) (zsb (postC x y) (zsb (devC x y) (locC x.loc y.loc))))))
theorem zqf (d : Nat → Int) (n k : Nat) : fromC d (n + 1) k = zsb (d k) (fromC d n (k + 1)) := rfl
theorem fromC_end {d : Nat → Int} : ∀ n k, (∀ j, k ≤ j → d j = 0) → fromC d n k = 0
 | 0, _, _ => rfl
 | n + 1, k, h => by simp only [fromC]; rw [if_pos (h k (Nat.le_refl k))]; exact fromC_end n (k + 1) (fun j hj => h j (by omega))
theorem fromC_shift {d : Nat → Int} : ∀ n k, fromC d n (k + 1) = fromC (fun j => d (j + 1)) n k
 | 0, _ => rfl
 | n + 1, k => by rw [zqf, zqf, fromC_shift n (k + 1)]
theorem strCmp_B (a b : ByteArray) : strCmp a b = cmp_ (bytesOf a) (bytesOf b) := compare_B a b
def locS : List ByteArray → List ByteArray → Int
 | [], [] => 0
 | [], _ :: _ => -1
 | _ :: _, [] => 1
 | a :: l, b :: m => zsb (locD a b) (locS l m)
theorem cmpN_succ (a b : Nat) : cmpN (a + 1) (b + 1) = cmpN a b := by
 unfold cmpN
 repeat' split
 all_goals first | rfl | (exfalso; omega)
theorem firstNe_assoc (a b c : Int) : zsb (zsb a b) c = zsb a (zsb b c) := by
 unfold zsb
 by_cases h : a = 0
 ·simp [h]
 ·simp [h]
theorem locC_S : ∀ l m : List ByteArray, locC l m = locS l m
 | [], [] => rfl
 | [], b :: m => by
  unfold locC locS
  simp only [List.length_nil, Nat.zero_min, fromC, zsb, if_true, cmpN, List.length_cons]
  rw [if_pos (by omega)]
 | a :: l, [] => by
  unfold locC locS
  simp only [List.length_nil, Nat.min_zero, fromC, zsb, if_true, cmpN, List.length_cons]
  rw [if_neg (by omega), if_pos (by omega)]
 | a :: l, b :: m => by
  have ih := locC_S l m
  unfold locC at ih ⊢
  simp only [locS]
  rw [← ih, List.length_cons, List.length_cons, Nat.succ_min_succ, zqf, firstNe_assoc, cmpN_succ, fromC_shift]
  rfl
theorem cmpN_turn (a b : Nat) : cmpN a b = - cmpN b a := by
 unfold cmpN
 repeat' split
 all_goals omega
theorem cmp_turn : ∀ a b : List Int, cmp_ a b = - cmp_ b a
 | [], [] => rfl
 | [], _ :: _ => rfl
 | _ :: _, [] => rfl
 | x :: a, y :: b => by
  have ih := cmp_turn a b
  simp only [cmp_]
  repeat' split
  all_goals first | rfl | omega
theorem strCmp_turn (a b : ByteArray) : strCmp a b = - strCmp b a := by rw [strCmp_B, strCmp_B, cmp_turn]
theorem locD_turn (a b : ByteArray) : locD a b = - locD b a := by
 unfold locD
 by_cases ha : zic a
 ·by_cases hb : zic b
  ·simp only [if_pos ha, if_pos hb]; exact cmpN_turn _ _
  ·simp only [if_pos ha, if_neg hb]; rfl
 ·by_cases hb : zic b
  ·simp only [if_neg ha, if_pos hb]
  ·simp only [if_neg ha, if_neg hb]; exact strCmp_turn _ _
def Sgn (a : Int) : Prop := a = -1 ∨ a = 0 ∨ a = 1
theorem cmpN_sgn (a b : Nat) : Sgn (cmpN a b) := by
 unfold Sgn cmpN
 repeat' split
 all_goals omega
theorem cmp_sgn : ∀ a b : List Int, Sgn (cmp_ a b)
 | [], [] => .inr (.inl rfl)
 | [], _ :: _ => .inl rfl
 | _ :: _, [] => .inr (.inr rfl)
 | x :: a, y :: b => by
  have ih := cmp_sgn a b
  simp only [cmp_]
  repeat' split
  ·exact .inl rfl
  ·exact .inr (.inr rfl)
  ·exact ih
theorem strCmp_sgn (a b : ByteArray) : Sgn (strCmp a b) := by rw [strCmp_B]; exact cmp_sgn _ _
theorem locD_sgn (a b : ByteArray) : Sgn (locD a b) := by
 unfold locD
 repeat' split
 ·exact cmpN_sgn _ _
 ·exact .inr (.inr rfl)
 ·exact .inl rfl
 ·exact strCmp_sgn _ _
end Go.Proofs.YtlijjnjpomnphaaGreatDoorG
end
section
namespace Go.Proofs.YtlijjnjpomnphaaGreatDoorG
open Go.RowKit YtlijjnjpomnphaaGreatDoorH YtlijjnjpomnphaaGreatDoorW.PrintWords YtlijjnjpomnphaaGreatDoorW.PrintLast
theorem zxg {w : World} {a b n m : Nat} (ha : BigAt w a n) (hb : BigAt w b m) (W : World) (hW : Below w.heap.size w W) :
  Calls Tryz.prog 159 #[.pointer (some ⟨a, 0, none⟩), .pointer (some ⟨b, 0, none⟩)] W fun e w' => e = .returned (.int .i64 (cmpN n m)) ∧ Below w.heap.size w w' :=
 (cmp_big W a b n m (ha.below hW) (hb.below hW)).mono (by rintro e w' ⟨rfl, h⟩; exact ⟨rfl, zq hW hW.size h⟩)
theorem newInt_zero (w : World) : Calls Tryz.prog 69 #[.int .i64 0] w fun e w' => e = .returned (.pointer (some ⟨w.heap.size, 0, none⟩)) ∧ BigAt w' w.heap.size 0 ∧ Below w.heap.size w w' := by
 have HB := za.mk (Below.refl w.heap.size w)
 have HZ := za.mk (big_zero w)
 go_enter Tryz.func69, Tryz.ntmps69
 go_wp2
 go_ret
 exact ⟨rfl, HZ.out, zf HB.out _⟩
def BigM (w : World) (a : Nat) : Prop := ∃ v, Bg w a true v ∧ NatS w 0 v [1]
theorem BigM.below {w w' : World} {a : Nat} (h : BigM w a) (hb : Below w.heap.size w w') : BigM w' a := by
 obtain ⟨v, h1, h2⟩ := h
 exact ⟨v, h1.same (hb.block a h1.lt), h2.lt hb⟩
theorem newInt_m1 (w : World) : Calls Tryz.prog 69 #[.int .i64 (-1)] w fun e w' => ∃ a, e = .returned (.pointer (some ⟨a, 0, none⟩)) ∧ BigM w' a ∧ Below w.heap.size w w' := by
 have HB := za.mk (Below.refl w.heap.size w)
 go_enter Tryz.func69, Tryz.ntmps69
 go_wp2
 go_ret
 have e1 : IntKind.u64.wrap (-IntKind.u64.wrap (-1)) = 1 := by decide
 rw [e1]
 refine ⟨w.heap.size + 1, rfl, ⟨.slice (some ⟨w.heap.size, 0, none⟩) 1 1, ?_, .inr ⟨w.heap.size, [1], rfl, Nat.zero_le _, ?_, rfl, Nat.le_refl _, by decide, ?_⟩⟩, zf (zf HB.out _) _⟩
 ·unfold Bg
  have h := alloc_at (w.alloc (.cells #[.int .u64 1] 147)) (.cells #[.bool true, .slice (some ⟨w.heap.size, 0, none⟩) 1 1] 150)
  rw [zpc] at h
  exact h
 ·unfold Ws
  exact zab (zrc w _) _
 ·intro x hx
  rw [List.mem_singleton.1 hx]
  unfold IsW W64
  omega
def RRow (w : World) (v : Value) (l : List Nat) : Prop := ∃ (p : Option Addr) (c : Nat), v = .slice p l.length c ∧ l.length ≤ 1000000 ∧
 ∀ (i : Nat) (n : Nat), l[i]? = some n → ∃ b a : Nat, p = some ⟨b, 0, none⟩ ∧ w.cell? ⟨b, i, none⟩ = some (.pointer (some ⟨a, 0, none⟩)) ∧ BigAt w a n
theorem RRow.below {w w' : World} {v : Value} {l : List Nat} (h : RRow w v l) (hb : Below w.heap.size w w') : RRow w' v l := by
 obtain ⟨p, c, h1, h2, h3⟩ := h
 refine ⟨p, c, h1, h2, fun i x hx => ?_⟩
 obtain ⟨b, a, e, k1, k2⟩ := h3 i x hx
 exact ⟨b, a, e, zpb hb k1, k2.below hb⟩
theorem RRow.len {w : World} {v : Value} {l : List Nat} (h : RRow w v l) : ∃ p c, v = .slice p l.length c := by
 obtain ⟨p, c, h1, _⟩ := h
 exact ⟨p, c, h1⟩
theorem fetch_ (w : World) (g o k : Nat) (v : Value) (l : List Nat) (hc : w.cell? ⟨g, o, none⟩ = some v) (hr : RRow w v l) (hk : k ≤ 1000000) :
  Calls Tryz.prog 171 #[.pointer (some ⟨g, o, none⟩), .int .i64 (k : Int)] w fun e w' => ∃ a, e = .returned (.pointer (some ⟨a, 0, none⟩)) ∧ BigAt w' a (l.getD k 0) ∧ Below w.heap.size w w' := by
 obtain ⟨p, c, rfl, hl, hx⟩ := hr
 have HB := za.mk (Below.refl w.heap.size w)
 by_cases h : k < l.length
 ·obtain ⟨b, a, rfl, k1, k2⟩ := hx k _ (List.getElem?_eq_getElem h)
  have K2 : za (BigAt w a (l.getD k 0)) := ⟨by rw [List.getD_eq_getElem?_getD, List.getElem?_eq_getElem h]; exact k2⟩
  have b1 : decide ((l.length : Int) ≤ (k : Int)) = false := decide_eq_false (by omega)
  have b1n : decide (l.length ≤ k) = false := decide_eq_false (by omega)
  have b2 : (0 ≤ (k : Int)) = True := eq_true (by omega)
  have b3 : ((k : Int) < (l.length : Int)) = True := eq_true (by omega)
  clear hx k2 hl h
  go_enter Tryz.func171, Tryz.ntmps171
  go_wp2
  go_ret
  exact ⟨a, rfl, K2.out, HB.out⟩
 ·have e : l.getD k 0 = 0 := by rw [List.getD_eq_getElem?_getD, List.getElem?_eq_none (by omega)]; rfl
  rw [e]
  have b1 : decide ((l.length : Int) ≤ (k : Int)) = true := decide_eq_true (by omega)
  have b1n : decide (l.length ≤ k) = true := decide_eq_true (by omega)
  clear hx e hl h
  go_enter Tryz.func171, Tryz.ntmps171
  go_wp2_with (first | (go_at_call 69; (with_reducible refine (newInt_zero _).mono ?_); rintro e' w3 ⟨rfl, hz, hb⟩; have HZ := za.mk hz; have HB3 := za.mk hb; clear hz hb))
  go_ret
  exact ⟨_, rfl, HZ.out, HB3.out⟩
theorem zgf (n k : Nat) (h : k < n) : n - (intOf (.int .i64 ((k + 1 : Nat) : Int))).toNat < n - (intOf (.int .i64 (k : Int))).toNat := by
 simp only [intOf]
 omega
theorem zdg (n k : Nat) (h : k < n) (e : wrap64 ((k : Int) + 1) = ((k + 1 : Nat) : Int)) : n - (intOf (.int .i64 (wrap64 ((k : Int) + 1)))).toNat < n - (intOf (.int .i64 (k : Int))).toNat := by
 rw [e]
 exact zgf n k h
theorem relCmp_ (w : World) (l m : List Nat) (g o : Nat) (v u : Value) (hc : w.cell? ⟨g, o, none⟩ = some v) (k1 : RRow w v l) (k2 : RRow w u m) :
  Calls Tryz.prog 160 #[.pointer (some ⟨g, o, none⟩), u] w fun e w' => e = .returned (.int .i64 (relC l m)) ∧ Below w.heap.size w w' := by
 have hl1 : l.length ≤ 1000000 := by obtain ⟨_, _, _, h, _⟩ := k1; exact h
 have hl2 : m.length ≤ 1000000 := by obtain ⟨_, _, _, h, _⟩ := k2; exact h
 obtain ⟨p1, q1, rfl⟩ := k1.len
 obtain ⟨p2, q2, rfl⟩ := k2.len
 have HB := za.mk (Below.refl w.heap.size w)
 have HC := za.mk hc
 obtain ⟨W2, hW2⟩ : ∃ W2, W2 = (w.alloc (.cells #[.slice p2 m.length q2] 68)) := ⟨_, rfl⟩
 have HW2 := za.mk hW2
 have hb2 : Below w.heap.size w W2 := by rw [hW2]; exact zf HB.out _
 have HB2 := za.mk hb2
 have gb : W2.heap[w.heap.size]? = some (.cells #[.slice p2 m.length q2] 68 (0, 0)) := by rw [hW2]; exact zrc w _
 have GB := za.mk gb
 have hc2 := zpb hb2 hc
 have HC2 := za.mk hc2
 have K1 := za.mk (k1.below hb2)
 have K2 := za.mk (k2.below hb2)
 obtain ⟨n, hn⟩ : ∃ n, n = max l.length m.length := ⟨_, rfl⟩
 have M1 : (max (l.length : Int) (m.length : Int)) = (n : Int) := by omega
 have HL := za.mk (show n ≤ 1000000 by omega)
 have H0 : za (relC l m = fromC (relD l m) (n - 0) 0) := ⟨by rw [hn]; rfl⟩
 obtain ⟨r, hr⟩ : ∃ r, r = relC l m := ⟨_, rfl⟩
 rw [← hr] at H0 ⊢
 have y0 := (zi gb 0).trans rfl
 rw [hW2] at hc2 y0
 clear hW2 hb2 gb k1 k2 hn hl1 hl2 hr
 have F1 : za (∀ (W : World) (k : Nat), Below W2.heap.size W2 W → k ≤ 1000000 → Calls Tryz.prog 171 #[.pointer (some ⟨g, o, none⟩), .int .i64 (k : Int)] W fun e w' => ∃ a, e = .returned (.pointer (some ⟨a, 0, none⟩)) ∧ BigAt w' a (l.getD k 0) ∧ Below W.heap.size W w') :=
  ⟨fun W k hb hk => fetch_ W g o k _ l (zpb hb HC2.out) (K1.out.below hb) hk⟩
 have F2 : za (∀ (W : World) (k : Nat), Below W2.heap.size W2 W → k ≤ 1000000 → Calls Tryz.prog 171 #[.pointer (some ⟨w.heap.size, 0, none⟩), .int .i64 (k : Int)] W fun e w' => ∃ a, e = .returned (.pointer (some ⟨a, 0, none⟩)) ∧ BigAt w' a (m.getD k 0) ∧ Below W.heap.size W w') :=
  ⟨fun W k hb hk => fetch_ W w.heap.size 0 k _ m ((zi (zj GB.out hb) 0).trans rfl) (K2.out.below hb) hk⟩
 go_enter Tryz.func160, Tryz.ntmps160
 go_wp2
 go_quiet (fail)
 go_wp2
 go_loopw [16] (fun i wr => ∃ k : Nat, k ≤ n ∧ i = .int .i64 k ∧ za (r = fromC (relD l m) (n - k) k) ∧ za (Below W2.heap.size W2 wr)) (fun i _ => n - (intOf i).toNat)
 case atStart => exact ⟨0, Nat.zero_le _, rfl, H0, ⟨by rw [← HW2.out]; exact ze (Below.refl _ _) _⟩⟩
 case round =>
  obtain ⟨k, hk, rfl, hp, HWR⟩ := hrel
  clear hc2 y0
  by_cases hlt : k < n
  ·obtain ⟨d, hd⟩ : ∃ d, d = relD l m k := ⟨_, rfl⟩
   have HD : za (cmpN (l.getD k 0) (m.getD k 0) = d) := ⟨hd.symm⟩
   have HK := za.mk (show k ≤ 1000000 by have := HL.out; omega)
   have LT := za.mk hlt
   have i3 : decide ((k : Int) < (n : Int)) = true := decide_eq_true (by omega)
   have i4 : ((k : Int) < (n : Int)) = True := eq_true (by omega)
   have hst : r = if d = 0 then fromC (relD l m) (n - (k + 1)) (k + 1) else d := by
    rw [hp.out, show n - k = (n - (k + 1)) + 1 by omega]
    simp only [fromC, ← hd]
   have NS : za (k + 1 ≤ n) := ⟨by omega⟩
   have WR : wrap64 ((k : Int) + 1) = ((k + 1 : Nat) : Int) := by have := HL.out; unfold wrap64; omega
   clear hd hlt hk
   by_cases h0 : d = 0
   ·rw [if_pos h0] at hst
    have HS := za.mk hst
    subst h0
    clear hst
    go_wp2_with (first | (go_at_call 171; (with_reducible refine (F1.out wr k HWR.out HK.out).mono ?_); rintro e' w1 ⟨a1, rfl, g1, bb1⟩; have BG1 := za.mk g1; have BB1 := za.mk (zq HWR.out HWR.out.size bb1); clear g1 bb1) | (go_at_call 171; (with_reducible refine (F2.out w1 k BB1.out HK.out).mono ?_); rintro e' w2 ⟨a2, rfl, g2, bb2⟩; have BG2 := za.mk g2; have BG1' := za.mk (BG1.out.below bb2); have BB2 := za.mk (zq BB1.out BB1.out.size bb2); clear g2 bb2) | (go_at_call 159; (with_reducible refine (cmp_big w2 a1 a2 _ _ BG1'.out BG2.out).mono ?_); rintro e' w3 ⟨he, bb3⟩; rw [HD.out] at he; subst he; have BB3 := za.mk (zq BB2.out BB2.out.size bb3); clear bb3))
    all_goals go_roundw
    all_goals first | exact ⟨k + 1, NS.out, by first | rfl | go_num, HS, BB3⟩ | exact zgf n k LT.out | exact meas_up1 n k LT.out | exact zdg n k LT.out WR
   ·rw [if_neg h0] at hst
    have HS := za.mk hst
    have z1 : (d != 0) = true := by simpa using h0
    have z2 : (d == 0) = false := by simpa using h0
    clear hst h0
    go_wp2_with (first | (go_at_call 171; (with_reducible refine (F1.out wr k HWR.out HK.out).mono ?_); rintro e' w1 ⟨a1, rfl, g1, bb1⟩; have BG1 := za.mk g1; have BB1 := za.mk (zq HWR.out HWR.out.size bb1); clear g1 bb1) | (go_at_call 171; (with_reducible refine (F2.out w1 k BB1.out HK.out).mono ?_); rintro e' w2 ⟨a2, rfl, g2, bb2⟩; have BG2 := za.mk g2; have BG1' := za.mk (BG1.out.below bb2); have BB2 := za.mk (zq BB1.out BB1.out.size bb2); clear g2 bb2) | (go_at_call 159; (with_reducible refine (cmp_big w2 a1 a2 _ _ BG1'.out BG2.out).mono ?_); rintro e' w3 ⟨he, bb3⟩; rw [HD.out] at he; subst he; have BB3 := za.mk (zq BB2.out BB2.out.size bb3); clear bb3))
    all_goals (go_ret; exact ⟨by rw [HS.out]; rfl, zq HB2.out HB2.out.size BB3.out⟩)
  ·obtain rfl : k = n := by omega
   have i3 : decide ((k : Int) < (k : Int)) = false := decide_eq_false (by omega)
   have i4 : ((k : Int) < (k : Int)) = False := eq_false (by omega)
   have HS : za (r = 0) := ⟨by rw [hp.out, Nat.sub_self]; rfl⟩
   clear hlt hk
   go_wp2
   go_ret
   exact ⟨by rw [HS.out]; rfl, zq HB2.out HB2.out.size HWR.out⟩
end Go.Proofs.YtlijjnjpomnphaaGreatDoorG
end
section
namespace Go.Proofs.YtlijjnjpomnphaaGreatDoorG
open Go.RowKit YtlijjnjpomnphaaGreatDoorH YtlijjnjpomnphaaGreatDoorB YtlijjnjpomnphaaGreatDoorW.PrintWords YtlijjnjpomnphaaGreatDoorW.PrintLast
def oA : Option Nat → Option Addr
 | none => none
 | some a => some ⟨a, 0, none⟩
theorem oA_none : oA none = none := rfl
theorem oA_some (a : Nat) : oA (some a) = some ⟨a, 0, none⟩ := rfl
theorem zud (o : Option Nat) : ∀ W : World, (binOp .eql 66 (.pointer (oA o)) (.pointer none)).run Tryz.prog W = .ok (.bool o.isNone) W := by
 intro W
 have h : ∀ d : Nat, (Op.equalIn (d + 1) 66 (.pointer (oA o)) (.pointer none)).run Tryz.prog W = .ok o.isNone W := fun d => by
  cases o <;> simp [oA, Op.equalIn, run_underlying Tryz.underlying66]
 simp only [binOp]
 simp [Op.equal, Op.maxDepth, h 9999]
theorem neq_nilptr (o : Option Nat) : ∀ W : World, (binOp .neq 66 (.pointer (oA o)) (.pointer none)).run Tryz.prog W = .ok (.bool o.isSome) W := by
 intro W
 have h : ∀ d : Nat, (Op.equalIn (d + 1) 66 (.pointer (oA o)) (.pointer none)).run Tryz.prog W = .ok o.isNone W := fun d => by
  cases o <;> simp [oA, Op.equalIn, run_underlying Tryz.underlying66]
 simp only [binOp]
 cases o <;> simp [Op.equal, Op.maxDepth, h 9999]
def NumAt (w : World) (o : Option Nat) (n : Nat) : Prop := ∀ a, o = some a → BigAt w a n
theorem cmp_m1 (w : World) (a b : Nat) (ha : BigM w a) (hb : BigM w b) : Calls Tryz.prog 159 #[.pointer (some ⟨a, 0, none⟩), .pointer (some ⟨b, 0, none⟩)] w fun e w' => e = .returned (.int .i64 0) ∧ Below w.heap.size w w' := by
 by_cases h : a = b
 ·subst h
  exact cmp_big_eq w a
 ·obtain ⟨vx, a1, a2⟩ := ha
  obtain ⟨vy, b1, b2⟩ := hb
  obtain ⟨j, hj, hz⟩ := znh
  have e1 : (binOp .eql 66 (.pointer (some ⟨a, 0, none⟩)) (.pointer (some ⟨b, 0, none⟩))).run Tryz.prog w = .ok (.bool false) w := run_eql_ptr_other w Tryz.underlying66 hj hz (fun e => h (by simpa using congrArg Addr.block e)) a1 b1
  have x0 := a1.c0
  have x1 := a1.c1
  have y0 := b1.c0
  have y1 := b1.c1
  have HC := za.mk (fun (W : World) (hW : W.heap = w.heap) => natCmpN W 0 0 vx vy [1] [1] (a2.other (fun k _ _ => by rw [hW])) (b2.other (fun k _ _ => by rw [hW])) (by decide) (by decide) (by decide) (by decide))
  have CC : cmpN (num [1]) (num [1]) = 0 := by decide
  rw [CC] at HC
  obtain ⟨px, cx, rfl⟩ := a2.shape
  obtain ⟨py, cy, rfl⟩ := b2.shape
  clear a1 a2 b1 b2 hj hz h CC
  go_enter Tryz.func159, Tryz.ntmps159
  go_wp2
  (try go_quiet (fail))
  (try go_wp2)
  go_quiet (first | (go_at_call 170; (refine (HC.out _ (by rfl)).mono ?_); rintro e w' ⟨rfl, ⟨nd, rfl⟩⟩; (try first | exact ⟨rfl, _, World.drewN_drewN _ _ _⟩ | exact ⟨rfl, _, Eq.trans (World.drewN_drewN _ _ _) (congrArg (World.drewN _) (Nat.add_assoc _ _ _))⟩)))
  go_wp2
  go_ret
  exact ⟨rfl, by repeat (first | exact Below.refl _ _ | apply zbd | apply ze)⟩
theorem epoch_ (w : World) (e1 e2 : Nat) (r1 r2 l1 l2 g1 g2 : Value) (pl1 pl2 ql1 ql2 dl1 dl2 : ByteArray) (pn1 pn2 qn1 qn2 dn1 dn2 : Option Nat) (n1 n2 : Nat) (h1 : BigAt w e1 n1) (h2 : BigAt w e2 n2) :
  Calls Tryz.prog 140 #[.agg #[.pointer (some ⟨e1, 0, none⟩), r1, .string pl1, .pointer (oA pn1), .string ql1, .pointer (oA qn1), .string dl1, .pointer (oA dn1), l1, g1], .agg #[.pointer (some ⟨e2, 0, none⟩), r2, .string pl2, .pointer (oA pn2), .string ql2, .pointer (oA qn2), .string dl2, .pointer (oA dn2), l2, g2]] w fun e w' => e = .returned (.int .i64 (cmpN n1 n2)) ∧ Below w.heap.size w w' := by
 have HB := za.mk (Below.refl w.heap.size w)
 have HC := za.mk (zxg h1 h2)
 clear h1 h2
 go_enter Tryz.func140, Tryz.ntmps140
 go_wp2_with (first | (go_at_call 159; refine (HC.out _ (by repeat (first | exact HB.out | apply zf | apply ze))).mono ?_; rintro e' w1 ⟨rfl, hb⟩; have HB1 := za.mk hb; clear hb))
 go_ret
 exact ⟨rfl, HB1.out⟩
theorem epochM_ (w : World) (e1 e2 : Nat) (r1 r2 l1 l2 g1 g2 : Value) (pl1 pl2 ql1 ql2 dl1 dl2 : ByteArray) (pn1 pn2 qn1 qn2 dn1 dn2 : Option Nat) (h1 : BigM w e1) (h2 : BigM w e2) :
  Calls Tryz.prog 140 #[.agg #[.pointer (some ⟨e1, 0, none⟩), r1, .string pl1, .pointer (oA pn1), .string ql1, .pointer (oA qn1), .string dl1, .pointer (oA dn1), l1, g1], .agg #[.pointer (some ⟨e2, 0, none⟩), r2, .string pl2, .pointer (oA pn2), .string ql2, .pointer (oA qn2), .string dl2, .pointer (oA dn2), l2, g2]] w fun e w' => e = .returned (.int .i64 (0)) ∧ Below w.heap.size w w' := by
 have HB := za.mk (Below.refl w.heap.size w)
 have HC := za.mk (fun (W : World) (hW : Below w.heap.size w W) => (cmp_m1 W e1 e2 (h1.below hW) (h2.below hW)).mono (R' := fun e w' => e = .returned (.int .i64 0) ∧ Below w.heap.size w w') (by rintro e w' ⟨rfl, h⟩; exact ⟨rfl, zq hW hW.size h⟩))
 clear h1 h2
 go_enter Tryz.func140, Tryz.ntmps140
 go_wp2_with (first | (go_at_call 159; refine (HC.out _ (by repeat (first | exact HB.out | apply zf | apply ze))).mono ?_; rintro e' w1 ⟨rfl, hb⟩; have HB1 := za.mk hb; clear hb))
 go_ret
 exact ⟨rfl, HB1.out⟩
theorem release_ (w : World) (e1 e2 : Nat) (r1 r2 l1 l2 g1 g2 : Value) (pl1 pl2 ql1 ql2 dl1 dl2 : ByteArray) (pn1 pn2 qn1 qn2 dn1 dn2 : Option Nat) (l m : List Nat) (h1 : RRow w r1 l) (h2 : RRow w r2 m) :
  Calls Tryz.prog 141 #[.agg #[.pointer (some ⟨e1, 0, none⟩), r1, .string pl1, .pointer (oA pn1), .string ql1, .pointer (oA qn1), .string dl1, .pointer (oA dn1), l1, g1], .agg #[.pointer (some ⟨e2, 0, none⟩), r2, .string pl2, .pointer (oA pn2), .string ql2, .pointer (oA qn2), .string dl2, .pointer (oA dn2), l2, g2]] w fun e w' => e = .returned (.int .i64 (relC l m)) ∧ Below w.heap.size w w' := by
 obtain ⟨p1, q1, rfl⟩ := h1.len
 obtain ⟨p2, q2, rfl⟩ := h2.len
 have HB := za.mk (Below.refl w.heap.size w)
 obtain ⟨W2, hW2⟩ : ∃ W2, W2 = ((w.alloc (.cells #[.pointer (some ⟨e1, 0, none⟩), .slice p1 l.length q1, .string pl1, .pointer (oA pn1), .string ql1, .pointer (oA qn1), .string dl1, .pointer (oA dn1), l1, g1] 72)).alloc (.cells #[.pointer (some ⟨e2, 0, none⟩), .slice p2 m.length q2, .string pl2, .pointer (oA pn2), .string ql2, .pointer (oA qn2), .string dl2, .pointer (oA dn2), l2, g2] 72)) := ⟨_, rfl⟩
 have HW2 := za.mk hW2
 have hb2 : Below w.heap.size w W2 := by rw [hW2]; exact zf (zf HB.out _) _
 have HB2 := za.mk hb2
 have ga : W2.heap[w.heap.size]? = some (.cells #[.pointer (some ⟨e1, 0, none⟩), .slice p1 l.length q1, .string pl1, .pointer (oA pn1), .string ql1, .pointer (oA qn1), .string dl1, .pointer (oA dn1), l1, g1] 72 (0, 0)) := by rw [hW2]; exact zab (zrc w _) _
 have gb : W2.heap[w.heap.size + 1]? = some (.cells #[.pointer (some ⟨e2, 0, none⟩), .slice p2 m.length q2, .string pl2, .pointer (oA pn2), .string ql2, .pointer (oA qn2), .string dl2, .pointer (oA dn2), l2, g2] 72 (0, 0)) := by
  rw [hW2, ← zpc w (.cells #[.pointer (some ⟨e1, 0, none⟩), .slice p1 l.length q1, .string pl1, .pointer (oA pn1), .string ql1, .pointer (oA qn1), .string dl1, .pointer (oA dn1), l1, g1] 72)]; exact alloc_at _ _
 have GA := za.mk ga
 have GB := za.mk gb
 have BB0 : za (Below W2.heap.size W2 ((w.alloc (.cells #[.pointer (some ⟨e1, 0, none⟩), .slice p1 l.length q1, .string pl1, .pointer (oA pn1), .string ql1, .pointer (oA qn1), .string dl1, .pointer (oA dn1), l1, g1] 72)).alloc (.cells #[.pointer (some ⟨e2, 0, none⟩), .slice p2 m.length q2, .string pl2, .pointer (oA pn2), .string ql2, .pointer (oA qn2), .string dl2, .pointer (oA dn2), l2, g2] 72))) := ⟨by rw [← hW2]; exact Below.refl _ _⟩
 have HC := za.mk (relCmp_ W2 l m w.heap.size 1 _ _ ((zi ga 1).trans rfl) (h1.below hb2) (h2.below hb2))
 rw [hW2] at HC
 clear h1 h2 hW2 hb2 ga gb
 go_enter Tryz.func141, Tryz.ntmps141
 go_wp2_with (first | (go_at_call 160; refine HC.out.mono ?_; rintro e' w1 ⟨rfl, hb⟩; rw [← HW2.out] at hb; have HB1 := za.mk (zq HB2.out HB2.out.size hb); clear hb))
 go_ret
 exact ⟨rfl, HB1.out⟩
def optC (o1 o2 : Option Nat) (n1 n2 : Nat) : Int := match o1, o2 with
 | none, none => 0
 | none, some _ => -1
 | some _, none => 1
 | some _, some _ => cmpN n1 n2
def optD (o1 o2 : Option Nat) (n1 n2 : Nat) : Int := match o1, o2 with
 | none, none => 0
 | none, some _ => 1
 | some _, none => -1
 | some _, some _ => cmpN n1 n2
theorem post_ (w : World) (e1 e2 : Nat) (r1 r2 l1 l2 g1 g2 : Value) (pl1 pl2 ql1 ql2 dl1 dl2 : ByteArray) (pn1 pn2 qn1 qn2 dn1 dn2 : Option Nat) (n1 n2 : Nat) (h1 : NumAt w qn1 n1) (h2 : NumAt w qn2 n2) :
  Calls Tryz.prog 143 #[.agg #[.pointer (some ⟨e1, 0, none⟩), r1, .string pl1, .pointer (oA pn1), .string ql1, .pointer (oA qn1), .string dl1, .pointer (oA dn1), l1, g1], .agg #[.pointer (some ⟨e2, 0, none⟩), r2, .string pl2, .pointer (oA pn2), .string ql2, .pointer (oA qn2), .string dl2, .pointer (oA dn2), l2, g2]] w fun e w' => e = .returned (.int .i64 (optC qn1 qn2 n1 n2)) ∧ Below w.heap.size w w' := by
 have HB := za.mk (Below.refl w.heap.size w)
 have z1 := zud qn1
 have z2 := zud qn2
 rcases qn1 with _ | a1 <;> rcases qn2 with _ | a2
 all_goals simp only [oA_none, oA_some, Option.isNone_none, Option.isNone_some] at z1 z2 ⊢
 case some.some =>
  have HC := za.mk (zxg (h1 _ rfl) (h2 _ rfl))
  clear h1 h2
  go_enter Tryz.func143, Tryz.ntmps143
  go_wp2_with (first | (go_at_call 159; refine (HC.out _ (by repeat (first | exact HB.out | apply zf | apply ze))).mono ?_; rintro e' w1 ⟨rfl, hb⟩; have HB1 := za.mk hb; clear hb))
  go_ret
  exact ⟨rfl, HB1.out⟩
 all_goals
  clear h1 h2
  go_enter Tryz.func143, Tryz.ntmps143
  go_wp2
  go_ret
  exact ⟨rfl, by repeat (first | exact HB.out | apply zf | apply ze)⟩
theorem dev_ (w : World) (e1 e2 : Nat) (r1 r2 l1 l2 g1 g2 : Value) (pl1 pl2 ql1 ql2 dl1 dl2 : ByteArray) (pn1 pn2 qn1 qn2 dn1 dn2 : Option Nat) (n1 n2 : Nat) (h1 : NumAt w dn1 n1) (h2 : NumAt w dn2 n2) :
  Calls Tryz.prog 144 #[.agg #[.pointer (some ⟨e1, 0, none⟩), r1, .string pl1, .pointer (oA pn1), .string ql1, .pointer (oA qn1), .string dl1, .pointer (oA dn1), l1, g1], .agg #[.pointer (some ⟨e2, 0, none⟩), r2, .string pl2, .pointer (oA pn2), .string ql2, .pointer (oA qn2), .string dl2, .pointer (oA dn2), l2, g2]] w fun e w' => e = .returned (.int .i64 (optD dn1 dn2 n1 n2)) ∧ Below w.heap.size w w' := by
 have HB := za.mk (Below.refl w.heap.size w)
 have z1 := zud dn1
 have z2 := zud dn2
 rcases dn1 with _ | a1 <;> rcases dn2 with _ | a2
 all_goals simp only [oA_none, oA_some, Option.isNone_none, Option.isNone_some] at z1 z2 ⊢
 case some.some =>
  have HC := za.mk (zxg (h1 _ rfl) (h2 _ rfl))
  clear h1 h2
  go_enter Tryz.func144, Tryz.ntmps144
  go_wp2_with (first | (go_at_call 159; refine (HC.out _ (by repeat (first | exact HB.out | apply zf | apply ze))).mono ?_; rintro e' w1 ⟨rfl, hb⟩; have HB1 := za.mk hb; clear hb))
  go_ret
  exact ⟨rfl, HB1.out⟩
 all_goals
  clear h1 h2
  go_enter Tryz.func144, Tryz.ntmps144
  go_wp2
  go_ret
  exact ⟨rfl, by repeat (first | exact HB.out | apply zf | apply ze)⟩
theorem trick_ (w : World) (e1 : Nat) (r1 l1 g1 : Value) (pl1 ql1 dl1 : ByteArray) (pn1 qn1 dn1 : Option Nat) :
  Calls Tryz.prog 161 #[.agg #[.pointer (some ⟨e1, 0, none⟩), r1, .string pl1, .pointer (oA pn1), .string ql1, .pointer (oA qn1), .string dl1, .pointer (oA dn1), l1, g1]] w fun e w' => e = .returned (.bool (pn1.isNone && qn1.isNone && dn1.isSome)) ∧ Below w.heap.size w w' := by
 have HB := za.mk (Below.refl w.heap.size w)
 have z1 := zud pn1
 have z2 := zud qn1
 have z3 := neq_nilptr dn1
 rcases pn1 with _ | a1 <;> rcases qn1 with _ | a2 <;> rcases dn1 with _ | a3
 all_goals simp only [oA_none, oA_some, Option.isNone_none, Option.isNone_some, Option.isSome_none, Option.isSome_some] at z1 z2 z3 ⊢
 all_goals
  go_enter Tryz.func161, Tryz.ntmps161
  go_wp2
  go_ret
  exact ⟨rfl, by repeat (first | exact HB.out | apply zf | apply ze)⟩
def preR (t1 t2 : Bool) (o1 o2 : Option Nat) (b1 b2 : Int) (n1 n2 : Nat) : Int := if t1 = true ∧ t2 = true then 0 else if t1 = true then -1 else if t2 = true then 1 else match o1, o2 with
 | none, none => 0
 | none, some _ => 1
 | some _, none => -1
 | some _, some _ => if b1 > b2 then 1 else if b1 < b2 then -1 else cmpN n1 n2
theorem pre_ (w : World) (e1 e2 : Nat) (r1 r2 l1 l2 g1 g2 : Value) (pl1 pl2 ql1 ql2 dl1 dl2 : ByteArray) (pn1 pn2 qn1 qn2 dn1 dn2 : Option Nat) (n1 n2 : Nat) (h1 : NumAt w pn1 n1) (h2 : NumAt w pn2 n2) (z1 : pn1 ≠ none → 0 < pl1.size) (z2 : pn2 ≠ none → 0 < pl2.size) :
  Calls Tryz.prog 142 #[.agg #[.pointer (some ⟨e1, 0, none⟩), r1, .string pl1, .pointer (oA pn1), .string ql1, .pointer (oA qn1), .string dl1, .pointer (oA dn1), l1, g1], .agg #[.pointer (some ⟨e2, 0, none⟩), r2, .string pl2, .pointer (oA pn2), .string ql2, .pointer (oA qn2), .string dl2, .pointer (oA dn2), l2, g2]] w fun e w' => e = .returned (.int .i64 (preR (pn1.isNone && qn1.isNone && dn1.isSome) (pn2.isNone && qn2.isNone && dn2.isSome) pn1 pn2 (bt pl1 0) (bt pl2 0) n1 n2)) ∧ Below w.heap.size w w' := by
 have HB := za.mk (Below.refl w.heap.size w)
 obtain ⟨W2, hW2⟩ : ∃ W2, W2 = ((w.alloc (.cells #[.pointer (some ⟨e1, 0, none⟩), r1, .string pl1, .pointer (oA pn1), .string ql1, .pointer (oA qn1), .string dl1, .pointer (oA dn1), l1, g1] 72)).alloc (.cells #[.pointer (some ⟨e2, 0, none⟩), r2, .string pl2, .pointer (oA pn2), .string ql2, .pointer (oA qn2), .string dl2, .pointer (oA dn2), l2, g2] 72)) := ⟨_, rfl⟩
 have HW2 := za.mk hW2
 have hb2 : Below w.heap.size w W2 := by rw [hW2]; exact zf (zf HB.out _) _
 have HB2 := za.mk hb2
 have ga : W2.heap[w.heap.size]? = some (.cells #[.pointer (some ⟨e1, 0, none⟩), r1, .string pl1, .pointer (oA pn1), .string ql1, .pointer (oA qn1), .string dl1, .pointer (oA dn1), l1, g1] 72 (0, 0)) := by rw [hW2]; exact zab (zrc w _) _
 have gb : W2.heap[w.heap.size + 1]? = some (.cells #[.pointer (some ⟨e2, 0, none⟩), r2, .string pl2, .pointer (oA pn2), .string ql2, .pointer (oA qn2), .string dl2, .pointer (oA dn2), l2, g2] 72 (0, 0)) := by
  rw [hW2, ← zpc w (.cells #[.pointer (some ⟨e1, 0, none⟩), r1, .string pl1, .pointer (oA pn1), .string ql1, .pointer (oA qn1), .string dl1, .pointer (oA dn1), l1, g1] 72)]; exact alloc_at _ _
 have GA := za.mk ga
 have GB := za.mk gb
 have BB0 : za (Below W2.heap.size W2 ((w.alloc (.cells #[.pointer (some ⟨e1, 0, none⟩), r1, .string pl1, .pointer (oA pn1), .string ql1, .pointer (oA qn1), .string dl1, .pointer (oA dn1), l1, g1] 72)).alloc (.cells #[.pointer (some ⟨e2, 0, none⟩), r2, .string pl2, .pointer (oA pn2), .string ql2, .pointer (oA qn2), .string dl2, .pointer (oA dn2), l2, g2] 72))) := ⟨by rw [← hW2]; exact Below.refl _ _⟩
 have T1 : za (∀ W : World, Below W2.heap.size W2 W → Calls Tryz.prog 161 #[.agg #[.pointer (some ⟨e1, 0, none⟩), r1, .string pl1, .pointer (oA pn1), .string ql1, .pointer (oA qn1), .string dl1, .pointer (oA dn1), l1, g1]] W fun e w' => e = .returned (.bool (pn1.isNone && qn1.isNone && dn1.isSome)) ∧ Below W2.heap.size W2 w') :=
  ⟨fun W hb => (trick_ W e1 r1 l1 g1 pl1 ql1 dl1 pn1 qn1 dn1).mono (by rintro e w' ⟨rfl, h⟩; exact ⟨rfl, zq hb hb.size h⟩)⟩
 have T2 : za (∀ W : World, Below W2.heap.size W2 W → Calls Tryz.prog 161 #[.agg #[.pointer (some ⟨e2, 0, none⟩), r2, .string pl2, .pointer (oA pn2), .string ql2, .pointer (oA qn2), .string dl2, .pointer (oA dn2), l2, g2]] W fun e w' => e = .returned (.bool (pn2.isNone && qn2.isNone && dn2.isSome)) ∧ Below W2.heap.size W2 w') :=
  ⟨fun W hb => (trick_ W e2 r2 l2 g2 pl2 ql2 dl2 pn2 qn2 dn2).mono (by rintro e w' ⟨rfl, h⟩; exact ⟨rfl, zq hb hb.size h⟩)⟩
 have k1 := zud pn1
 have k2 := zud pn2
 have ga0 := GA.out
 have gb0 := GB.out
 have x0 := fun j : Nat => zi ga0 j
 have y0 := fun j : Nat => zi gb0 j
 rw [hW2] at x0 y0
 obtain ⟨t1, ht1⟩ : ∃ t1, t1 = (pn1.isNone && qn1.isNone && dn1.isSome) := ⟨_, rfl⟩
 obtain ⟨t2, ht2⟩ : ∃ t2, t2 = (pn2.isNone && qn2.isNone && dn2.isSome) := ⟨_, rfl⟩
 rw [← ht1] at T1 ⊢
 rw [← ht2] at T2 ⊢
 clear ga0 gb0 ga gb hW2 hb2 ht1 ht2
 have fin : ∀ W : World, Below W2.heap.size W2 W → za (Below w.heap.size w W) := fun W h => ⟨zq HB2.out HB2.out.size h⟩
 rcases t1 with _ | _ <;> rcases t2 with _ | _
 case false.false =>
  rcases pn1 with _ | a1 <;> rcases pn2 with _ | a2
  case some.some =>
   simp only [oA_none, oA_some, Option.isNone_none, Option.isNone_some] at k1 k2 x0 y0 T1 T2 GA GB BB0 HW2 ⊢
   have b1 := z1 (by simp)
   have b2 := z2 (by simp)
   have HC := za.mk (zxg (h1 _ rfl) (h2 _ rfl))
   have v1 : ((pl1[0]'b1).toNat : Int) = bt pl1 0 := bt_at pl1 0 b1
   have v2 : ((pl2[0]'b2).toNat : Int) = bt pl2 0 := bt_at pl2 0 b2
   clear h1 h2 z1 z2
   by_cases q1 : bt pl1 0 > bt pl2 0
   ·have HR : za (preR false false (some a1) (some a2) (bt pl1 0) (bt pl2 0) n1 n2 = 1) := ⟨by simp [preR, q1]⟩
    have i1 : decide ((pl2[0]'b2).toNat < (pl1[0]'b1).toNat) = true := decide_eq_true (by omega)
    rw [HR.out]
    clear q1 v1 v2
    go_enter Tryz.func142, Tryz.ntmps142
    go_wp2_with (first | (go_at_call 161; (with_reducible refine (T1.out _ (by first | exact BB0.out | (refine za.out (p := _) ?_; assumption))).mono ?_); rintro e' w1 ⟨rfl, bb⟩; have BB := za.mk bb; have ga1 := zj GA.out bb; have gb1 := zj GB.out bb; have xx := fun j : Nat => zi ga1 j; have yy := fun j : Nat => zi gb1 j; clear bb ga1 gb1) | (go_at_call 161; (with_reducible refine (T2.out _ (by first | exact BB0.out | (refine za.out (p := _) ?_; assumption))).mono ?_); rintro e' w1 ⟨rfl, bb⟩; have BB := za.mk bb; have ga1 := zj GA.out bb; have gb1 := zj GB.out bb; have xx := fun j : Nat => zi ga1 j; have yy := fun j : Nat => zi gb1 j; clear bb ga1 gb1))
    go_ret
    exact ⟨rfl, (fin _ BB.out).out⟩
   ·have i1 : decide ((pl2[0]'b2).toNat < (pl1[0]'b1).toNat) = false := decide_eq_false (by omega)
    by_cases q2 : bt pl1 0 < bt pl2 0
    ·have HR : za (preR false false (some a1) (some a2) (bt pl1 0) (bt pl2 0) n1 n2 = -1) := ⟨by simp [preR, q1, q2]⟩
     have i2 : decide ((pl1[0]'b1).toNat < (pl2[0]'b2).toNat) = true := decide_eq_true (by omega)
     rw [HR.out]
     clear q1 q2 v1 v2
     go_enter Tryz.func142, Tryz.ntmps142
     go_wp2_with (first | (go_at_call 161; (with_reducible refine (T1.out _ (by first | exact BB0.out | (refine za.out (p := _) ?_; assumption))).mono ?_); rintro e' w1 ⟨rfl, bb⟩; have BB := za.mk bb; have ga1 := zj GA.out bb; have gb1 := zj GB.out bb; have xx := fun j : Nat => zi ga1 j; have yy := fun j : Nat => zi gb1 j; clear bb ga1 gb1) | (go_at_call 161; (with_reducible refine (T2.out _ (by first | exact BB0.out | (refine za.out (p := _) ?_; assumption))).mono ?_); rintro e' w1 ⟨rfl, bb⟩; have BB := za.mk bb; have ga1 := zj GA.out bb; have gb1 := zj GB.out bb; have xx := fun j : Nat => zi ga1 j; have yy := fun j : Nat => zi gb1 j; clear bb ga1 gb1))
     go_ret
     exact ⟨rfl, (fin _ BB.out).out⟩
    ·have HR : za (preR false false (some a1) (some a2) (bt pl1 0) (bt pl2 0) n1 n2 = cmpN n1 n2) := ⟨by simp [preR, q1, q2]⟩
     have i2 : decide ((pl1[0]'b1).toNat < (pl2[0]'b2).toNat) = false := decide_eq_false (by omega)
     rw [HR.out]
     clear q1 q2 v1 v2
     go_enter Tryz.func142, Tryz.ntmps142
     go_wp2_with (first | (go_at_call 161; (with_reducible refine (T1.out _ (by first | exact BB0.out | (refine za.out (p := _) ?_; assumption))).mono ?_); rintro e' w1 ⟨rfl, bb⟩; have BB := za.mk bb; have ga1 := zj GA.out bb; have gb1 := zj GB.out bb; have xx := fun j : Nat => zi ga1 j; have yy := fun j : Nat => zi gb1 j; clear bb ga1 gb1) | (go_at_call 161; (with_reducible refine (T2.out _ (by first | exact BB0.out | (refine za.out (p := _) ?_; assumption))).mono ?_); rintro e' w1 ⟨rfl, bb⟩; have BB := za.mk bb; have ga1 := zj GA.out bb; have gb1 := zj GB.out bb; have xx := fun j : Nat => zi ga1 j; have yy := fun j : Nat => zi gb1 j; clear bb ga1 gb1) | (go_at_call 159; (with_reducible refine (HC.out _ (zq HB2.out HB2.out.size BB.out)).mono ?_); rintro e' w1 ⟨rfl, hb⟩; have HB1 := za.mk hb; clear hb))
     go_ret
     exact ⟨rfl, HB1.out⟩
  all_goals
   simp only [oA_none, oA_some, Option.isNone_none, Option.isNone_some] at k1 k2 x0 y0 T1 T2 GA GB BB0 HW2 ⊢
   clear h1 h2 z1 z2
   go_enter Tryz.func142, Tryz.ntmps142
   go_wp2_with (first | (go_at_call 161; (with_reducible refine (T1.out _ (by first | exact BB0.out | (refine za.out (p := _) ?_; assumption))).mono ?_); rintro e' w1 ⟨rfl, bb⟩; have BB := za.mk bb; have ga1 := zj GA.out bb; have gb1 := zj GB.out bb; have xx := fun j : Nat => zi ga1 j; have yy := fun j : Nat => zi gb1 j; clear bb ga1 gb1) | (go_at_call 161; (with_reducible refine (T2.out _ (by first | exact BB0.out | (refine za.out (p := _) ?_; assumption))).mono ?_); rintro e' w1 ⟨rfl, bb⟩; have BB := za.mk bb; have ga1 := zj GA.out bb; have gb1 := zj GB.out bb; have xx := fun j : Nat => zi ga1 j; have yy := fun j : Nat => zi gb1 j; clear bb ga1 gb1))
   go_ret
   exact ⟨rfl, (fin _ BB.out).out⟩
 all_goals
  clear h1 h2 z1 z2
  go_enter Tryz.func142, Tryz.ntmps142
  go_wp2_with (first | (go_at_call 161; (with_reducible refine (T1.out _ (by first | exact BB0.out | (refine za.out (p := _) ?_; assumption))).mono ?_); rintro e' w1 ⟨rfl, bb⟩; have BB := za.mk bb; have ga1 := zj GA.out bb; have gb1 := zj GB.out bb; have xx := fun j : Nat => zi ga1 j; have yy := fun j : Nat => zi gb1 j; clear bb ga1 gb1) | (go_at_call 161; (with_reducible refine (T2.out _ (by first | exact BB0.out | (refine za.out (p := _) ?_; assumption))).mono ?_); rintro e' w1 ⟨rfl, bb⟩; have BB := za.mk bb; have ga1 := zj GA.out bb; have gb1 := zj GB.out bb; have xx := fun j : Nat => zi ga1 j; have yy := fun j : Nat => zi gb1 j; clear bb ga1 gb1))
  go_ret
  exact ⟨rfl, (fin _ BB.out).out⟩
end Go.Proofs.YtlijjnjpomnphaaGreatDoorG
end
section
namespace Go.Proofs.YtlijjnjpomnphaaGreatDoorG
open Go.RowKit YtlijjnjpomnphaaGreatDoorH YtlijjnjpomnphaaGreatDoorB YtlijjnjpomnphaaGreatDoorW.PrintWords YtlijjnjpomnphaaGreatDoorW.PrintLast
theorem legC_ee : legC [] [] = 0 := by decide
theorem legC_en {m : List ByteArray} (h : m ≠ []) : legC [] m = 1 := by unfold legC legN; rw [if_pos rfl, if_neg h]; rfl
theorem legC_ne {l : List ByteArray} (h : l ≠ []) : legC l [] = -1 := by unfold legC legN; rw [if_pos rfl, if_neg h]; rfl
theorem legC_nn {l m : List ByteArray} (h : l ≠ []) (h2 : m ≠ []) : legC l m = strCmp (joinB l) (joinB m) := by unfold legC legN; rw [if_neg h, if_neg h2]; rfl
def TRow (w : World) (v : Value) (l : List ByteArray) : Prop := ∃ A c, v = .slice A l.length c ∧ l.length ≤ c ∧ l.length ≤ 1000000 ∧ Kd.C Kd.string w A l.length l
theorem TRow.below {w w' : World} {v : Value} {l : List ByteArray} (h : TRow w v l) (hb : Below w.heap.size w w') : TRow w' v l := by
 obtain ⟨A, c, h1, h2, h3, h4⟩ := h
 exact ⟨A, c, h1, h2, h3, C_below h4 hb⟩
theorem legacy_ (w : World) (e1 e2 : Nat) (r1 r2 l1 l2 g1 g2 : Value) (pl1 pl2 ql1 ql2 dl1 dl2 : ByteArray) (pn1 pn2 qn1 qn2 dn1 dn2 : Option Nat) (lg1 lg2 : List ByteArray) (h1 : TRow w g1 lg1) (h2 : TRow w g2 lg2) (s1 : (joinB lg1).size ≤ 100000000) (s2 : (joinB lg2).size ≤ 100000000) :
  Calls Tryz.prog 139 #[.agg #[.pointer (some ⟨e1, 0, none⟩), r1, .string pl1, .pointer (oA pn1), .string ql1, .pointer (oA qn1), .string dl1, .pointer (oA dn1), l1, g1], .agg #[.pointer (some ⟨e2, 0, none⟩), r2, .string pl2, .pointer (oA pn2), .string ql2, .pointer (oA qn2), .string dl2, .pointer (oA dn2), l2, g2]] w fun e w' => e = .returned (.int .i64 (legC lg1 lg2)) ∧ Below w.heap.size w w' := by
 obtain ⟨A1, q1, rfl, m1, n1, k1⟩ := h1
 obtain ⟨A2, q2, rfl, m2, n2, k2⟩ := h2
 have HB := za.mk (Below.refl w.heap.size w)

 by_cases ne1 : lg1 = []
 ·by_cases ne2 : lg2 = []
  ·subst ne1 ne2
   rw [legC_ee]
   clear k1 k2
   go_enter Tryz.func139, Tryz.ntmps139
   go_wp2
   go_ret
   exact ⟨rfl, by repeat (first | exact HB.out | apply zf | apply ze)⟩
  ·have z2 : ((lg2.length : Int) == 0) = false := by simpa using ne2
   have y2 : ((lg2.length : Int) != 0) = true := by simpa using ne2
   have x2 : (lg2.length == 0) = false := by simpa using ne2
   have w2_ : (lg2.length != 0) = true := by simpa using ne2
   subst ne1
   rw [legC_en ne2]
   clear k1 k2 ne2
   go_enter Tryz.func139, Tryz.ntmps139
   go_wp2
   go_ret
   exact ⟨rfl, by repeat (first | exact HB.out | apply zf | apply ze)⟩
 ·have z1 : ((lg1.length : Int) == 0) = false := by simpa using ne1
  have y1 : ((lg1.length : Int) != 0) = true := by simpa using ne1
  have x1 : (lg1.length == 0) = false := by simpa using ne1
  have w1_ : (lg1.length != 0) = true := by simpa using ne1
  by_cases ne2 : lg2 = []
  ·subst ne2
   rw [legC_ne ne1]
   clear k1 k2 ne1
   go_enter Tryz.func139, Tryz.ntmps139
   go_wp2
   go_ret
   exact ⟨rfl, by repeat (first | exact HB.out | apply zf | apply ze)⟩
  ·have z2 : ((lg2.length : Int) == 0) = false := by simpa using ne2
   have y2 : ((lg2.length : Int) != 0) = true := by simpa using ne2
   have x2 : (lg2.length == 0) = false := by simpa using ne2
   have w2_ : (lg2.length != 0) = true := by simpa using ne2
   rw [legC_nn ne1 ne2]

   obtain ⟨W2, hW2⟩ : ∃ W2, W2 = ((w.alloc (.cells #[.pointer (some ⟨e1, 0, none⟩), r1, .string pl1, .pointer (oA pn1), .string ql1, .pointer (oA qn1), .string dl1, .pointer (oA dn1), l1, .slice A1 lg1.length q1] 72)).alloc (.cells #[.pointer (some ⟨e2, 0, none⟩), r2, .string pl2, .pointer (oA pn2), .string ql2, .pointer (oA qn2), .string dl2, .pointer (oA dn2), l2, .slice A2 lg2.length q2] 72)) := ⟨_, rfl⟩
   have HW2 := za.mk hW2
   have hb2 : Below w.heap.size w W2 := by rw [hW2]; exact zf (zf HB.out _) _
   have HB2 := za.mk hb2
   have ga : W2.heap[w.heap.size]? = some (.cells #[.pointer (some ⟨e1, 0, none⟩), r1, .string pl1, .pointer (oA pn1), .string ql1, .pointer (oA qn1), .string dl1, .pointer (oA dn1), l1, .slice A1 lg1.length q1] 72 (0, 0)) := by rw [hW2]; exact zab (zrc w _) _
   have gb : W2.heap[w.heap.size + 1]? = some (.cells #[.pointer (some ⟨e2, 0, none⟩), r2, .string pl2, .pointer (oA pn2), .string ql2, .pointer (oA qn2), .string dl2, .pointer (oA dn2), l2, .slice A2 lg2.length q2] 72 (0, 0)) := by
    rw [hW2, ← zpc w (.cells #[.pointer (some ⟨e1, 0, none⟩), r1, .string pl1, .pointer (oA pn1), .string ql1, .pointer (oA qn1), .string dl1, .pointer (oA dn1), l1, .slice A1 lg1.length q1] 72)]; exact alloc_at _ _
   have GA := za.mk ga
   have GB := za.mk gb
   have BB0 : za (Below W2.heap.size W2 ((w.alloc (.cells #[.pointer (some ⟨e1, 0, none⟩), r1, .string pl1, .pointer (oA pn1), .string ql1, .pointer (oA qn1), .string dl1, .pointer (oA dn1), l1, .slice A1 lg1.length q1] 72)).alloc (.cells #[.pointer (some ⟨e2, 0, none⟩), r2, .string pl2, .pointer (oA pn2), .string ql2, .pointer (oA qn2), .string dl2, .pointer (oA dn2), l2, .slice A2 lg2.length q2] 72))) := ⟨by rw [← hW2]; exact Below.refl _ _⟩
   have J1 : za (∀ W : World, Below W2.heap.size W2 W → Calls Tryz.prog 158 #[.slice A1 lg1.length q1, .string ⟨#[]⟩] W fun e w' => e = .returned (.string (joinB lg1)) ∧ Below W2.heap.size W2 w') :=
    ⟨fun W hb => (join_ W A1 q1 lg1 (C_below (C_below k1 hb2) hb) m1 (by omega) (by omega)).mono (by rintro e w' ⟨rfl, h⟩; exact ⟨rfl, zq hb hb.size h⟩)⟩
   have J2 : za (∀ W : World, Below W2.heap.size W2 W → Calls Tryz.prog 158 #[.slice A2 lg2.length q2, .string ⟨#[]⟩] W fun e w' => e = .returned (.string (joinB lg2)) ∧ Below W2.heap.size W2 w') :=
    ⟨fun W hb => (join_ W A2 q2 lg2 (C_below (C_below k2 hb2) hb) m2 (by omega) (by omega)).mono (by rintro e w' ⟨rfl, h⟩; exact ⟨rfl, zq hb hb.size h⟩)⟩
   have HS := za.mk (fun W : World => zdc.calls (joinB lg1) (joinB lg2) _ W rfl)
   rw [show Lib.compareBytes (joinB lg1).data.toList (joinB lg2).data.toList = strCmp (joinB lg1) (joinB lg2) from rfl] at HS
   obtain ⟨r, hr⟩ : ∃ r, r = strCmp (joinB lg1) (joinB lg2) := ⟨_, rfl⟩
   rw [← hr] at HS ⊢
   have ga0 := GA.out
   have gb0 := GB.out
   have x0 := fun j : Nat => zi ga0 j
   have y0 := fun j : Nat => zi gb0 j
   rw [hW2] at x0 y0
   clear ga0 gb0 ga gb hW2 hb2 k1 k2 ne1 ne2 hr
   go_enter Tryz.func139, Tryz.ntmps139
   go_upto_region 7 with (fail)
   have BBd := za.mk (zh BB0.out)
   have ga1 := zj GA.out BBd.out
   have gb1 := zj GB.out BBd.out
   have x1 := fun j : Nat => zi ga1 j
   have y1 := fun j : Nat => zi gb1 j
   clear ga1 gb1
   go_region_with (first | (go_at_call 158; (with_reducible refine (J1.out _ (by first | exact BBd.out | (refine za.out (p := _) ?_; assumption))).mono ?_); rintro e' w1 ⟨rfl, bb⟩; have BB := za.mk bb; have ga1 := zj GA.out bb; have gb1 := zj GB.out bb; have xx := fun j : Nat => zi ga1 j; have yy := fun j : Nat => zi gb1 j; clear bb ga1 gb1) | (go_at_call 158; (with_reducible refine (J2.out _ (by first | exact BBd.out | (refine za.out (p := _) ?_; assumption))).mono ?_); rintro e' w1 ⟨rfl, bb⟩; have BB := za.mk bb; have ga1 := zj GA.out bb; have gb1 := zj GB.out bb; have xx := fun j : Nat => zi ga1 j; have yy := fun j : Nat => zi gb1 j; clear bb ga1 gb1) | (go_at_call 124; (with_reducible refine (HS.out _).mono ?_); rintro e' w' ⟨rfl, ⟨nd, rfl⟩⟩))
   all_goals (try go_wp2)
   all_goals go_ret
   all_goals exact ⟨rfl, by repeat (first | exact zq HB2.out HB2.out.size BB.out | apply ze | apply zh)⟩
end Go.Proofs.YtlijjnjpomnphaaGreatDoorG
end
section
namespace Go.Proofs.YtlijjnjpomnphaaGreatDoorG
open Go.RowKit YtlijjnjpomnphaaGreatDoorH YtlijjnjpomnphaaGreatDoorB YtlijjnjpomnphaaGreatDoorW.PrintWords YtlijjnjpomnphaaGreatDoorW.PrintLast
theorem zie (W : World) (s : ByteArray) (hp : Plain s) (hG : GLe W) (hd : zic s) :
  Calls Tryz.prog 70 #[.string s] W fun e w' => ∃ a, e = .returned (.tuple #[.pointer (some ⟨a, 0, none⟩), .nilIface]) ∧ BigAt w' a (dv s s.size) ∧ Below W.heap.size W w' := by
 refine (conv_yes W s hp hG hd).mono ?_
 rintro e w' ⟨rfl, h1, h2⟩
 exact ⟨_, rfl, h1, h2⟩
theorem GLe.lt {w w' : World} (h : GLe w) (hb : Below w.heap.size w w') : GLe w' := h.below hb (Nat.le_refl _)
theorem local_ (w : World) (e1 e2 : Nat) (r1 r2 l1 l2 g1 g2 : Value) (pl1 pl2 ql1 ql2 dl1 dl2 : ByteArray) (pn1 pn2 qn1 qn2 dn1 dn2 : Option Nat) (lo1 lo2 : List ByteArray) (h1 : TRow w l1 lo1) (h2 : TRow w l2 lo2) (p1 : ∀ s ∈ lo1, Plain s) (p2 : ∀ s ∈ lo2, Plain s) (hGL : GLe w) :
  Calls Tryz.prog 145 #[.agg #[.pointer (some ⟨e1, 0, none⟩), r1, .string pl1, .pointer (oA pn1), .string ql1, .pointer (oA qn1), .string dl1, .pointer (oA dn1), l1, g1], .agg #[.pointer (some ⟨e2, 0, none⟩), r2, .string pl2, .pointer (oA pn2), .string ql2, .pointer (oA qn2), .string dl2, .pointer (oA dn2), l2, g2]] w fun e w' => e = .returned (.int .i64 (locC lo1 lo2)) ∧ Below w.heap.size w w' := by
 obtain ⟨A1, q1, rfl, m1, n1, k1⟩ := h1
 obtain ⟨A2, q2, rfl, m2, n2, k2⟩ := h2
 have HB := za.mk (Below.refl w.heap.size w)
 obtain ⟨W2, hW2⟩ : ∃ W2, W2 = ((w.alloc (.cells #[.pointer (some ⟨e1, 0, none⟩), r1, .string pl1, .pointer (oA pn1), .string ql1, .pointer (oA qn1), .string dl1, .pointer (oA dn1), .slice A1 lo1.length q1, g1] 72)).alloc (.cells #[.pointer (some ⟨e2, 0, none⟩), r2, .string pl2, .pointer (oA pn2), .string ql2, .pointer (oA qn2), .string dl2, .pointer (oA dn2), .slice A2 lo2.length q2, g2] 72)) := ⟨_, rfl⟩
 have HW2 := za.mk hW2
 have hb2 : Below w.heap.size w W2 := by rw [hW2]; exact zf (zf HB.out _) _
 have HB2 := za.mk hb2
 have ga : W2.heap[w.heap.size]? = some (.cells #[.pointer (some ⟨e1, 0, none⟩), r1, .string pl1, .pointer (oA pn1), .string ql1, .pointer (oA qn1), .string dl1, .pointer (oA dn1), .slice A1 lo1.length q1, g1] 72 (0, 0)) := by rw [hW2]; exact zab (zrc w _) _
 have gb : W2.heap[w.heap.size + 1]? = some (.cells #[.pointer (some ⟨e2, 0, none⟩), r2, .string pl2, .pointer (oA pn2), .string ql2, .pointer (oA qn2), .string dl2, .pointer (oA dn2), .slice A2 lo2.length q2, g2] 72 (0, 0)) := by
  rw [hW2, ← zpc w (.cells #[.pointer (some ⟨e1, 0, none⟩), r1, .string pl1, .pointer (oA pn1), .string ql1, .pointer (oA qn1), .string dl1, .pointer (oA dn1), .slice A1 lo1.length q1, g1] 72)]; exact alloc_at _ _
 have GA := za.mk ga
 have GB := za.mk gb
 have BB0 : za (Below W2.heap.size W2 ((w.alloc (.cells #[.pointer (some ⟨e1, 0, none⟩), r1, .string pl1, .pointer (oA pn1), .string ql1, .pointer (oA qn1), .string dl1, .pointer (oA dn1), .slice A1 lo1.length q1, g1] 72)).alloc (.cells #[.pointer (some ⟨e2, 0, none⟩), r2, .string pl2, .pointer (oA pn2), .string ql2, .pointer (oA qn2), .string dl2, .pointer (oA dn2), .slice A2 lo2.length q2, g2] 72))) := ⟨by rw [← hW2]; exact Below.refl _ _⟩
 have K1 := za.mk (C_below k1 hb2)
 have K2 := za.mk (C_below k2 hb2)
 have HGL := za.mk (hGL.lt hb2)
 have P1 := za.mk p1
 have P2 := za.mk p2
 obtain ⟨n, hn⟩ : ∃ n, n = min lo1.length lo2.length := ⟨_, rfl⟩
 have M1 : (min (lo1.length : Int) (lo2.length : Int)) = (n : Int) := by omega
 have HL := za.mk (show n ≤ lo1.length ∧ n ≤ lo2.length ∧ lo1.length ≤ 1000000 ∧ lo2.length ≤ 1000000 by omega)
 have H0 : za (locC lo1 lo2 = zsb (fromC (locAt lo1 lo2) (n - 0) 0) (cmpN lo1.length lo2.length)) := ⟨by rw [hn]; rfl⟩
 obtain ⟨r, hr⟩ : ∃ r, r = locC lo1 lo2 := ⟨_, rfl⟩
 rw [← hr] at H0 ⊢
 have ga0 := GA.out
 have gb0 := GB.out
 have x0 := fun j : Nat => zi ga0 j
 have y0 := fun j : Nat => zi gb0 j
 rw [hW2] at x0 y0
 clear ga0 gb0 ga gb hW2 hb2 k1 k2 hr hn p1 p2 hGL
 go_enter Tryz.func145, Tryz.ntmps145
 go_wp2
 go_loopw [20] (fun i wr => ∃ k : Nat, k ≤ n ∧ i = .int .i64 k ∧ za (r = zsb (fromC (locAt lo1 lo2) (n - k) k) (cmpN lo1.length lo2.length)) ∧ za (Below W2.heap.size W2 wr)) (fun i _ => n - (intOf i).toNat)
 case atStart => exact ⟨0, Nat.zero_le _, rfl, H0, by first | exact BB0 | (rw [← HW2.out]; exact ⟨Below.refl _ _⟩)⟩
 case round =>
  obtain ⟨k, hk, rfl, hp, HWR⟩ := hrel
  clear x0 y0
  have xw := fun j : Nat => zi (zj GA.out HWR.out) j
  have yw := fun j : Nat => zi (zj GB.out HWR.out) j
  by_cases hlt : k < n
  ·have i3 : decide ((k : Int) < (n : Int)) = true := decide_eq_true (by omega)
   have i4 : ((k : Int) < (n : Int)) = True := eq_true (by omega)
   have i5 : (0 ≤ (k : Int)) = True := eq_true (by omega)
   have i6 : ((k : Int) < (lo1.length : Int)) = True := eq_true (by have := HL.out; omega)
   have i7 : ((k : Int) < (lo2.length : Int)) = True := eq_true (by have := HL.out; omega)
   obtain ⟨ad1, f1, hx1⟩ := Kd.at_string K1.out (k : Int) (by omega) (by have := HL.out; omega)
   obtain ⟨ad2, f2, hx2⟩ := Kd.at_string K2.out (k : Int) (by omega) (by have := HL.out; omega)
   have hm1 : rdOf ByteArray.empty lo1 (k : Int) = lo1.getD k ByteArray.empty := rfl
   have hm2 : rdOf ByteArray.empty lo2 (k : Int) = lo2.getD k ByteArray.empty := rfl
   obtain ⟨a, ha⟩ : ∃ a, a = lo1.getD k ByteArray.empty := ⟨_, rfl⟩
   obtain ⟨b, hb⟩ : ∃ b, b = lo2.getD k ByteArray.empty := ⟨_, rfl⟩
   rw [hm1, ← ha, Int.toNat_natCast] at hx1
   rw [hm2, ← hb, Int.toNat_natCast] at hx2
   have mem : ∀ (l : List ByteArray) (q : k < l.length), l.getD k ByteArray.empty ∈ l := fun l q => by rw [List.getD_eq_getElem?_getD, List.getElem?_eq_getElem q]; exact List.getElem_mem q
   have PA : za (Plain a) := ⟨P1.out _ (by rw [ha]; exact mem _ (by have := HL.out; omega))⟩
   have PB : za (Plain b) := ⟨P2.out _ (by rw [hb]; exact mem _ (by have := HL.out; omega))⟩
   cases f1
   cases f2
   have HX1 := za.mk hx1
   have HX2 := za.mk hx2
   have ca := zpb HWR.out hx1
   have cb := zpb HWR.out hx2
   obtain ⟨d, hd⟩ : ∃ d, d = locD a b := ⟨_, rfl⟩
   have hst : r = if d = 0 then zsb (fromC (locAt lo1 lo2) (n - (k + 1)) (k + 1)) (cmpN lo1.length lo2.length) else d := by
    rw [hp.out, show n - k = (n - (k + 1)) + 1 by omega]
    have e : locAt lo1 lo2 k = d := by rw [hd, ha, hb]; rfl
    simp only [fromC, e]
    by_cases h0 : d = 0
    ·rw [if_pos h0, if_pos h0]
    ·rw [if_neg h0, if_neg h0]; unfold zsb; rw [if_neg h0]
   have HST := za.mk hst
   have NS : za (k + 1 ≤ n) := ⟨by omega⟩
   have LT := za.mk hlt
   have WR : wrap64 ((k : Int) + 1) = ((k + 1 : Nat) : Int) := by have := HL.out; unfold wrap64; omega
   have SG : d = -1 ∨ d = 0 ∨ d = 1 := by rw [hd]; exact locD_sgn a b
   clear hst hm1 hm2 ha hb mem hx1 hx2 hlt hk hp
   by_cases da : zic a
   ·have Da := za.mk da
    by_cases db : zic b
    ·have Db := za.mk db
     have HD : za (cmpN (dv a a.size) (dv b b.size) = d) := ⟨by rw [hd]; unfold locD; rw [if_pos da, if_pos db]⟩
     clear da db hd
     rcases SG with rfl | rfl | rfl
     ·have HS : za (r = -1) := ⟨by rw [HST.out]; rfl⟩
      go_wp2_with (first | (go_at_call 70; (with_reducible refine (zie wr a PA.out (HGL.out.lt HWR.out) Da.out).mono ?_); rintro e' w1 ⟨a1, rfl, gg, bb⟩; have BG1 := za.mk gg; have BB1 := za.mk (zq HWR.out HWR.out.size bb); have xa := fun j : Nat => zi (zj GA.out BB1.out) j; have ya := fun j : Nat => zi (zj GB.out BB1.out) j; have ca := zpb BB1.out HX1.out; have cb := zpb BB1.out HX2.out; clear gg bb) | (go_at_call 70; (with_reducible refine (zie w1 b PB.out (HGL.out.lt BB1.out) Db.out).mono ?_); rintro e' w2 ⟨a2, rfl, gg, bb⟩; have BG2 := za.mk gg; have BG1 := za.mk (BG1.out.below bb); have BB2 := za.mk (zq BB1.out BB1.out.size bb); have xa := fun j : Nat => zi (zj GA.out BB2.out) j; have ya := fun j : Nat => zi (zj GB.out BB2.out) j; have ca := zpb BB2.out HX1.out; have cb := zpb BB2.out HX2.out; clear gg bb) | (go_at_call 159; (with_reducible refine (cmp_big w2 a1 a2 _ _ BG1.out BG2.out).mono ?_); rintro e' w3 ⟨he, bb⟩; rw [HD.out] at he; subst he; have BB3 := za.mk (zq BB2.out BB2.out.size bb); clear bb))
      go_ret
      exact ⟨by rw [HS.out]; rfl, (by repeat (first | exact zq HB2.out HB2.out.size BB3.out | apply ze | apply zh))⟩
     ·have HS : za (r = zsb (fromC (locAt lo1 lo2) (n - (k + 1)) (k + 1)) (cmpN lo1.length lo2.length)) := ⟨by rw [HST.out]; rfl⟩
      go_wp2_with (first | (go_at_call 70; (with_reducible refine (zie wr a PA.out (HGL.out.lt HWR.out) Da.out).mono ?_); rintro e' w1 ⟨a1, rfl, gg, bb⟩; have BG1 := za.mk gg; have BB1 := za.mk (zq HWR.out HWR.out.size bb); have xa := fun j : Nat => zi (zj GA.out BB1.out) j; have ya := fun j : Nat => zi (zj GB.out BB1.out) j; have ca := zpb BB1.out HX1.out; have cb := zpb BB1.out HX2.out; clear gg bb) | (go_at_call 70; (with_reducible refine (zie w1 b PB.out (HGL.out.lt BB1.out) Db.out).mono ?_); rintro e' w2 ⟨a2, rfl, gg, bb⟩; have BG2 := za.mk gg; have BG1 := za.mk (BG1.out.below bb); have BB2 := za.mk (zq BB1.out BB1.out.size bb); have xa := fun j : Nat => zi (zj GA.out BB2.out) j; have ya := fun j : Nat => zi (zj GB.out BB2.out) j; have ca := zpb BB2.out HX1.out; have cb := zpb BB2.out HX2.out; clear gg bb) | (go_at_call 159; (with_reducible refine (cmp_big w2 a1 a2 _ _ BG1.out BG2.out).mono ?_); rintro e' w3 ⟨he, bb⟩; rw [HD.out] at he; subst he; have BB3 := za.mk (zq BB2.out BB2.out.size bb); clear bb))
      go_roundw
      case rel => exact ⟨k + 1, NS.out, by first | rfl | go_num | rw [WR], HS, ⟨by repeat (first | exact BB3.out | apply ze | apply zh)⟩⟩
      case measure => first | exact zgf n k LT.out | exact meas_up1 n k LT.out | exact zdg n k LT.out WR
     ·have HS : za (r = 1) := ⟨by rw [HST.out]; rfl⟩
      go_wp2_with (first | (go_at_call 70; (with_reducible refine (zie wr a PA.out (HGL.out.lt HWR.out) Da.out).mono ?_); rintro e' w1 ⟨a1, rfl, gg, bb⟩; have BG1 := za.mk gg; have BB1 := za.mk (zq HWR.out HWR.out.size bb); have xa := fun j : Nat => zi (zj GA.out BB1.out) j; have ya := fun j : Nat => zi (zj GB.out BB1.out) j; have ca := zpb BB1.out HX1.out; have cb := zpb BB1.out HX2.out; clear gg bb) | (go_at_call 70; (with_reducible refine (zie w1 b PB.out (HGL.out.lt BB1.out) Db.out).mono ?_); rintro e' w2 ⟨a2, rfl, gg, bb⟩; have BG2 := za.mk gg; have BG1 := za.mk (BG1.out.below bb); have BB2 := za.mk (zq BB1.out BB1.out.size bb); have xa := fun j : Nat => zi (zj GA.out BB2.out) j; have ya := fun j : Nat => zi (zj GB.out BB2.out) j; have ca := zpb BB2.out HX1.out; have cb := zpb BB2.out HX2.out; clear gg bb) | (go_at_call 159; (with_reducible refine (cmp_big w2 a1 a2 _ _ BG1.out BG2.out).mono ?_); rintro e' w3 ⟨he, bb⟩; rw [HD.out] at he; subst he; have BB3 := za.mk (zq BB2.out BB2.out.size bb); clear bb))
      go_ret
      exact ⟨by rw [HS.out]; rfl, (by repeat (first | exact zq HB2.out HB2.out.size BB3.out | apply ze | apply zh))⟩
    ·have Db := za.mk db
     obtain rfl : d = 1 := by rw [hd]; unfold locD; rw [if_pos da, if_neg db]
     have HS : za (r = 1) := ⟨by rw [HST.out]; rfl⟩
     clear hd SG
     go_wp2_with (first | (go_at_call 70; (with_reducible refine (zie wr a PA.out (HGL.out.lt HWR.out) Da.out).mono ?_); rintro e' w1 ⟨a1, rfl, gg, bb⟩; have BG1 := za.mk gg; have BB1 := za.mk (zq HWR.out HWR.out.size bb); have xa := fun j : Nat => zi (zj GA.out BB1.out) j; have ya := fun j : Nat => zi (zj GB.out BB1.out) j; have ca := zpb BB1.out HX1.out; have cb := zpb BB1.out HX2.out; clear gg bb) | (go_at_call 70; obtain ⟨ev2, hc2⟩ := zsf w1 b PB.out (HGL.out.lt BB1.out) Db.out; (with_reducible refine hc2.mono ?_); rintro e' w2 ⟨rfl, bb⟩; have BG1 := za.mk (BG1.out.below bb); have BB2 := za.mk (zq BB1.out BB1.out.size bb); have xa := fun j : Nat => zi (zj GA.out BB2.out) j; have ya := fun j : Nat => zi (zj GB.out BB2.out) j; have ca := zpb BB2.out HX1.out; have cb := zpb BB2.out HX2.out; clear bb hc2))
     go_ret
     exact ⟨by rw [HS.out]; rfl, (by repeat (first | exact zq HB2.out HB2.out.size BB2.out | apply ze | apply zh))⟩
   ·have Da := za.mk da
    by_cases db : zic b
    ·have Db := za.mk db
     obtain rfl : d = (-1) := by rw [hd]; unfold locD; rw [if_neg da, if_pos db]
     have HS : za (r = (-1)) := ⟨by rw [HST.out]; rfl⟩
     clear hd SG
     go_wp2_with (first | (go_at_call 70; obtain ⟨ev1, hc1⟩ := zsf wr a PA.out (HGL.out.lt HWR.out) Da.out; (with_reducible refine hc1.mono ?_); rintro e' w1 ⟨rfl, bb⟩; have BB1 := za.mk (zq HWR.out HWR.out.size bb); have xa := fun j : Nat => zi (zj GA.out BB1.out) j; have ya := fun j : Nat => zi (zj GB.out BB1.out) j; have ca := zpb BB1.out HX1.out; have cb := zpb BB1.out HX2.out; clear bb hc1) | (go_at_call 70; (with_reducible refine (zie w1 b PB.out (HGL.out.lt BB1.out) Db.out).mono ?_); rintro e' w2 ⟨a2, rfl, gg, bb⟩; have BG2 := za.mk gg; have BB2 := za.mk (zq BB1.out BB1.out.size bb); have xa := fun j : Nat => zi (zj GA.out BB2.out) j; have ya := fun j : Nat => zi (zj GB.out BB2.out) j; have ca := zpb BB2.out HX1.out; have cb := zpb BB2.out HX2.out; clear gg bb))
     go_ret
     exact ⟨by rw [HS.out]; rfl, (by repeat (first | exact zq HB2.out HB2.out.size BB2.out | apply ze | apply zh))⟩
    ·have Db := za.mk db
     have HD : za (Lib.compareBytes a.data.toList b.data.toList = d) := ⟨by rw [hd]; unfold locD; rw [if_neg da, if_neg db]; rfl⟩
     have HS := za.mk (fun W : World => zdc.calls a b _ W rfl)
     have HS := za.mk (fun W : World => (HS.out W).mono (R' := fun e w' => e = .returned (.int .i64 d) ∧ zl W w') (by rintro e w' ⟨rfl, h⟩; exact ⟨by rw [HD.out], h⟩))
     clear da db hd
     have HSC := HS
     rcases SG with rfl | rfl | rfl
     ·have HS : za (r = -1) := ⟨by rw [HST.out]; rfl⟩
      go_wp2_with (first | (go_at_call 70; obtain ⟨ev1, hc1⟩ := zsf wr a PA.out (HGL.out.lt HWR.out) Da.out; (with_reducible refine hc1.mono ?_); rintro e' w1 ⟨rfl, bb⟩; have BB1 := za.mk (zq HWR.out HWR.out.size bb); have xa := fun j : Nat => zi (zj GA.out BB1.out) j; have ya := fun j : Nat => zi (zj GB.out BB1.out) j; have ca := zpb BB1.out HX1.out; have cb := zpb BB1.out HX2.out; clear bb hc1) | (go_at_call 70; obtain ⟨ev2, hc2⟩ := zsf w1 b PB.out (HGL.out.lt BB1.out) Db.out; (with_reducible refine hc2.mono ?_); rintro e' w2 ⟨rfl, bb⟩; have BB2 := za.mk (zq BB1.out BB1.out.size bb); have xa := fun j : Nat => zi (zj GA.out BB2.out) j; have ya := fun j : Nat => zi (zj GB.out BB2.out) j; have ca := zpb BB2.out HX1.out; have cb := zpb BB2.out HX2.out; clear bb hc2))
      go_quiet (first | (go_at_call 124; (with_reducible refine (HSC.out _).mono ?_); rintro e' w' ⟨rfl, ⟨nd, rfl⟩⟩; (try first | exact ⟨rfl, _, World.drewN_drewN _ _ _⟩ | exact ⟨rfl, _, Eq.trans (World.drewN_drewN _ _ _) (congrArg (World.drewN _) (Nat.add_assoc _ _ _))⟩)))
      go_wp2
      go_ret
      exact ⟨by rw [HS.out]; rfl, (by repeat (first | exact zq HB2.out HB2.out.size BB2.out | apply ze | apply zh))⟩
     ·have HS : za (r = zsb (fromC (locAt lo1 lo2) (n - (k + 1)) (k + 1)) (cmpN lo1.length lo2.length)) := ⟨by rw [HST.out]; rfl⟩
      go_wp2_with (first | (go_at_call 70; obtain ⟨ev1, hc1⟩ := zsf wr a PA.out (HGL.out.lt HWR.out) Da.out; (with_reducible refine hc1.mono ?_); rintro e' w1 ⟨rfl, bb⟩; have BB1 := za.mk (zq HWR.out HWR.out.size bb); have xa := fun j : Nat => zi (zj GA.out BB1.out) j; have ya := fun j : Nat => zi (zj GB.out BB1.out) j; have ca := zpb BB1.out HX1.out; have cb := zpb BB1.out HX2.out; clear bb hc1) | (go_at_call 70; obtain ⟨ev2, hc2⟩ := zsf w1 b PB.out (HGL.out.lt BB1.out) Db.out; (with_reducible refine hc2.mono ?_); rintro e' w2 ⟨rfl, bb⟩; have BB2 := za.mk (zq BB1.out BB1.out.size bb); have xa := fun j : Nat => zi (zj GA.out BB2.out) j; have ya := fun j : Nat => zi (zj GB.out BB2.out) j; have ca := zpb BB2.out HX1.out; have cb := zpb BB2.out HX2.out; clear bb hc2))
      go_quiet (first | (go_at_call 124; (with_reducible refine (HSC.out _).mono ?_); rintro e' w' ⟨rfl, ⟨nd, rfl⟩⟩; (try first | exact ⟨rfl, _, World.drewN_drewN _ _ _⟩ | exact ⟨rfl, _, Eq.trans (World.drewN_drewN _ _ _) (congrArg (World.drewN _) (Nat.add_assoc _ _ _))⟩)))
      go_wp2
      go_roundw
      case rel => exact ⟨k + 1, NS.out, by first | rfl | go_num | rw [WR], HS, ⟨by repeat (first | exact BB2.out | apply ze | apply zh)⟩⟩
      case measure => first | exact zgf n k LT.out | exact meas_up1 n k LT.out | exact zdg n k LT.out WR
     ·have HS : za (r = 1) := ⟨by rw [HST.out]; rfl⟩
      go_wp2_with (first | (go_at_call 70; obtain ⟨ev1, hc1⟩ := zsf wr a PA.out (HGL.out.lt HWR.out) Da.out; (with_reducible refine hc1.mono ?_); rintro e' w1 ⟨rfl, bb⟩; have BB1 := za.mk (zq HWR.out HWR.out.size bb); have xa := fun j : Nat => zi (zj GA.out BB1.out) j; have ya := fun j : Nat => zi (zj GB.out BB1.out) j; have ca := zpb BB1.out HX1.out; have cb := zpb BB1.out HX2.out; clear bb hc1) | (go_at_call 70; obtain ⟨ev2, hc2⟩ := zsf w1 b PB.out (HGL.out.lt BB1.out) Db.out; (with_reducible refine hc2.mono ?_); rintro e' w2 ⟨rfl, bb⟩; have BB2 := za.mk (zq BB1.out BB1.out.size bb); have xa := fun j : Nat => zi (zj GA.out BB2.out) j; have ya := fun j : Nat => zi (zj GB.out BB2.out) j; have ca := zpb BB2.out HX1.out; have cb := zpb BB2.out HX2.out; clear bb hc2))
      go_quiet (first | (go_at_call 124; (with_reducible refine (HSC.out _).mono ?_); rintro e' w' ⟨rfl, ⟨nd, rfl⟩⟩; (try first | exact ⟨rfl, _, World.drewN_drewN _ _ _⟩ | exact ⟨rfl, _, Eq.trans (World.drewN_drewN _ _ _) (congrArg (World.drewN _) (Nat.add_assoc _ _ _))⟩)))
      go_wp2
      go_ret
      exact ⟨by rw [HS.out]; rfl, (by repeat (first | exact zq HB2.out HB2.out.size BB2.out | apply ze | apply zh))⟩
  ·obtain rfl : k = n := by omega
   have i3 : decide ((k : Int) < (k : Int)) = false := decide_eq_false (by omega)
   have i4 : ((k : Int) < (k : Int)) = False := eq_false (by omega)
   have HS : za (r = cmpN lo1.length lo2.length) := ⟨by rw [hp.out, Nat.sub_self]; rfl⟩
   have fin : za (Below w.heap.size w wr) := ⟨zq HB2.out HB2.out.size HWR.out⟩
   clear hlt hk
   by_cases c1 : lo2.length < lo1.length
   ·have j1 : decide ((lo2.length : Int) < (lo1.length : Int)) = true := decide_eq_true (by omega)
    have j2 : decide (lo2.length < lo1.length) = true := decide_eq_true c1
    have HR : za (r = 1) := ⟨by rw [HS.out]; unfold cmpN; rw [if_neg (by omega), if_pos c1]⟩
    clear c1
    go_wp2
    go_ret
    exact ⟨by rw [HR.out]; rfl, fin.out⟩
   ·have j1 : decide ((lo2.length : Int) < (lo1.length : Int)) = false := decide_eq_false (by omega)
    have j2 : decide (lo2.length < lo1.length) = false := decide_eq_false c1
    by_cases c2 : lo1.length < lo2.length
    ·have j3 : decide ((lo1.length : Int) < (lo2.length : Int)) = true := decide_eq_true (by omega)
     have j4 : decide (lo1.length < lo2.length) = true := decide_eq_true c2
     have HR : za (r = -1) := ⟨by rw [HS.out]; unfold cmpN; rw [if_pos c2]⟩
     clear c1 c2
     go_wp2
     go_ret
     exact ⟨by rw [HR.out]; rfl, fin.out⟩
    ·have j3 : decide ((lo1.length : Int) < (lo2.length : Int)) = false := decide_eq_false (by omega)
     have j4 : decide (lo1.length < lo2.length) = false := decide_eq_false c2
     have HR : za (r = 0) := ⟨by rw [HS.out]; unfold cmpN; rw [if_neg c2, if_neg c1]⟩
     clear c1 c2
     go_wp2
     go_ret
     exact ⟨by rw [HR.out]; rfl, fin.out⟩
end Go.Proofs.YtlijjnjpomnphaaGreatDoorG
end
section
namespace Go.Proofs.YtlijjnjpomnphaaGreatDoorG
open Go.RowKit YtlijjnjpomnphaaGreatDoorH YtlijjnjpomnphaaGreatDoorB YtlijjnjpomnphaaGreatDoorW.PrintWords YtlijjnjpomnphaaGreatDoorW.PrintLast
def LtAt (w : World) (pl : ByteArray) (pn : Option Nat) (o : Option (ByteArray × Nat)) : Prop := match o with
 | none => pn = none
 | some p => ∃ a, pn = some a ∧ pl = p.1 ∧ BigAt w a p.2
theorem LtAt.below {w w' : World} {pl : ByteArray} {pn : Option Nat} {o : Option (ByteArray × Nat)} (h : LtAt w pl pn o) (hb : Below w.heap.size w w') : LtAt w' pl pn o := by
 cases o with
 | none => exact h
 | some p => obtain ⟨a, h1, h2, h3⟩ := h; exact ⟨a, h1, h2, h3.below hb⟩
theorem LtAt.some {w : World} {pl : ByteArray} {pn : Option Nat} {o : Option (ByteArray × Nat)} (h : LtAt w pl pn o) : pn.isSome = o.isSome ∧ pn.isNone = o.isNone := by
 cases o with
 | none => have e : pn = none := h; subst e; exact ⟨rfl, rfl⟩
 | some p => obtain ⟨a, h1, _⟩ := h; subst h1; exact ⟨rfl, rfl⟩
theorem LtAt.num {w : World} {pl : ByteArray} {pn : Option Nat} {o : Option (ByteArray × Nat)} (h : LtAt w pl pn o) : NumAt w pn (numOf o) := by
 cases o with
 | none => have e : pn = none := h; subst e; intro a e; cases e
 | some p => obtain ⟨a, h1, _, h3⟩ := h; subst h1; intro b e; cases e; exact h3
theorem LtAt.letter {w : World} {pl : ByteArray} {pn : Option Nat} {o : Option (ByteArray × Nat)} (h : LtAt w pl pn o) (hl : ∀ p, o = Option.some p → 0 < p.1.size) : pn ≠ none → 0 < pl.size := by
 intro hn
 cases o with
 | none => exact absurd h hn
 | some p => obtain ⟨a, _, h2, _⟩ := h; rw [h2]; exact hl p rfl
theorem opt_post {w : World} {q1 q2 : ByteArray} {m1 m2 : Option Nat} {x y : YV} (h1 : LtAt w q1 m1 x.post) (h2 : LtAt w q2 m2 y.post) : optC m1 m2 (numOf x.post) (numOf y.post) = postC x y := by
 unfold postC hasN
 cases e1 : x.post with
 | none =>
  rw [e1] at h1
  cases e2 : y.post with
  | none => rw [e2] at h2; rw [show m1 = none from h1, show m2 = none from h2]; rfl
  | some p => rw [e2] at h2; obtain ⟨a, h3, _⟩ := h2; rw [show m1 = none from h1, h3]; rfl
 | some q =>
  rw [e1] at h1
  obtain ⟨a, h4, _⟩ := h1
  cases e2 : y.post with
  | none => rw [e2] at h2; rw [show m2 = none from h2, h4]; rfl
  | some p => rw [e2] at h2; obtain ⟨b, h3, _⟩ := h2; rw [h3, h4]; rfl
theorem opt_dev {w : World} {q1 q2 : ByteArray} {m1 m2 : Option Nat} {x y : YV} (h1 : LtAt w q1 m1 x.dev) (h2 : LtAt w q2 m2 y.dev) : optD m1 m2 (numOf x.dev) (numOf y.dev) = devC x y := by
 unfold devC hasN
 cases e1 : x.dev with
 | none =>
  rw [e1] at h1
  cases e2 : y.dev with
  | none => rw [e2] at h2; rw [show m1 = none from h1, show m2 = none from h2]; rfl
  | some p => rw [e2] at h2; obtain ⟨a, h3, _⟩ := h2; rw [show m1 = none from h1, h3]; rfl
 | some q =>
  rw [e1] at h1
  obtain ⟨a, h4, _⟩ := h1
  cases e2 : y.dev with
  | none => rw [e2] at h2; rw [show m2 = none from h2, h4]; rfl
  | some p => rw [e2] at h2; obtain ⟨b, h3, _⟩ := h2; rw [h3, h4]; rfl
theorem pre_eq {w : World} {p1 p2 q1 q2 d1 d2 : ByteArray} {pn1 pn2 qn1 qn2 dn1 dn2 : Option Nat} {x y : YV} (h1 : LtAt w p1 pn1 x.pre) (h2 : LtAt w p2 pn2 y.pre) (k1 : LtAt w q1 qn1 x.post) (k2 : LtAt w q2 qn2 y.post) (m1 : LtAt w d1 dn1 x.dev) (m2 : LtAt w d2 dn2 y.dev) :
  preR (pn1.isNone && qn1.isNone && dn1.isSome) (pn2.isNone && qn2.isNone && dn2.isSome) pn1 pn2 (bt p1 0) (bt p2 0) (numOf x.pre) (numOf y.pre) = preC x y := by
 rw [h1.some.2, k1.some.2, m1.some.1, h2.some.2, k2.some.2, m2.some.1]
 show preR (trick x) (trick y) _ _ _ _ _ _ = _
 unfold preC preR preRank preByte
 have g1 : trick x = true → x.pre = none := by unfold trick; cases x.pre <;> simp
 have g2 : trick y = true → y.pre = none := by unfold trick; cases y.pre <;> simp
 cases t1 : trick x with
 | true =>
  rw [g1 t1]
  cases t2 : trick y with
  | true => rw [g2 t2]; rfl
  | false => cases y.pre <;> simp [zsb, cmpN]
 | false =>
  cases t2 : trick y with
  | true => rw [g2 t2]; cases x.pre <;> simp [zsb, cmpN]
  | false =>
   cases e1 : x.pre with
   | none =>
    rw [e1] at h1
    cases e2 : y.pre with
    | none => rw [e2] at h2; rw [show pn1 = none from h1, show pn2 = none from h2]; rfl
    | some p => rw [e2] at h2; obtain ⟨a, h3, _⟩ := h2; rw [show pn1 = none from h1, h3]; rfl
   | some q =>
    rw [e1] at h1
    obtain ⟨a, h4, h5, _⟩ := h1
    cases e2 : y.pre with
    | none => rw [e2] at h2; rw [show pn2 = none from h2, h4]; rfl
    | some p =>
     rw [e2] at h2
     obtain ⟨b, h6, h7, _⟩ := h2
     rw [h4, h6, h5, h7]
     have b1 := bt_range q.1 0
     have b2 := bt_range p.1 0
     simp only [Bool.false_eq_true, false_and, if_false, Option.isSome_some, if_true, numOf]
     unfold zsb cmpN
     repeat' split
     all_goals first | rfl | (exfalso; omega)
structure YVAt (w : World) (v : Value) (x : YV) : Prop where
 at_ : ∃ (e1 : Nat) (r1 l1 g1 : Value) (pl1 ql1 dl1 : ByteArray) (pn1 qn1 dn1 : Option Nat), v = .agg #[.pointer (some ⟨e1, 0, none⟩), r1, .string pl1, .pointer (oA pn1), .string ql1, .pointer (oA qn1), .string dl1, .pointer (oA dn1), l1, g1] ∧ (x.leg = [] → BigAt w e1 x.ep) ∧ (x.leg ≠ [] → BigM w e1) ∧ RRow w r1 x.rel ∧ LtAt w pl1 pn1 x.pre ∧ LtAt w ql1 qn1 x.post ∧ LtAt w dl1 dn1 x.dev ∧ TRow w l1 x.loc ∧ TRow w g1 x.leg
theorem YVAt.below {w w' : World} {v : Value} {x : YV} (h : YVAt w v x) (hb : Below w.heap.size w w') : YVAt w' v x := by
 obtain ⟨e1, r1, l1, g1, pl1, ql1, dl1, pn1, qn1, dn1, rfl, h1, h2, h3, h4, h5, h6, h7, h8⟩ := h.at_
 exact ⟨e1, r1, l1, g1, pl1, ql1, dl1, pn1, qn1, dn1, rfl, fun e => (h1 e).below hb, fun e => (h2 e).below hb, h3.below hb, h4.below hb, h5.below hb, h6.below hb, h7.below hb, h8.below hb⟩
structure YOk (x : YV) : Prop where
 pre : ∀ p, x.pre = some p → 0 < p.1.size
 loc : ∀ s ∈ x.loc, Plain s
 leg : (joinB x.leg).size ≤ 100000000
 ep : x.leg ≠ [] → x.ep = 0
theorem legC_zero {l m : List ByteArray} (h : legC l m = 0) : l = [] ↔ m = [] := by
 by_cases h1 : l = []
 ·by_cases h2 : m = []
  ·exact ⟨fun _ => h2, fun _ => h1⟩
  ·rw [h1, legC_en h2] at h; exact absurd h (by decide)
 ·by_cases h2 : m = []
  ·rw [h2, legC_ne h1] at h; exact absurd h (by decide)
  ·exact ⟨fun h => absurd h h1, fun h => absurd h h2⟩
theorem compareV_ (w : World) (v1 v2 : Value) (x y : YV) (h1 : YVAt w v1 x) (h2 : YVAt w v2 y) (k1 : YOk x) (k2 : YOk y) (hGL : GLe w) :
  Calls Tryz.prog 120 #[v1, v2] w fun e w' => e = .returned (.int .i64 (yC x y)) ∧ Below w.heap.size w w' := by
 obtain ⟨e1, r1, l1, g1, pl1, ql1, dl1, pn1, qn1, dn1, rfl, a1, b1, c1, m1, n1, o1, s1, t1⟩ := h1.at_
 obtain ⟨e2, r2, l2, g2, pl2, ql2, dl2, pn2, qn2, dn2, rfl, a2, b2, c2, m2, n2, o2, s2, t2⟩ := h2.at_
 have HB := za.mk (Below.refl w.heap.size w)
 obtain ⟨W2, hW2⟩ : ∃ W2, W2 = ((w.alloc (.cells #[.pointer (some ⟨e1, 0, none⟩), r1, .string pl1, .pointer (oA pn1), .string ql1, .pointer (oA qn1), .string dl1, .pointer (oA dn1), l1, g1] 72)).alloc (.cells #[.pointer (some ⟨e2, 0, none⟩), r2, .string pl2, .pointer (oA pn2), .string ql2, .pointer (oA qn2), .string dl2, .pointer (oA dn2), l2, g2] 72)) := ⟨_, rfl⟩
 have HW2 := za.mk hW2
 have hb2 : Below w.heap.size w W2 := by rw [hW2]; exact zf (zf HB.out _) _
 have HB2 := za.mk hb2
 have ga : W2.heap[w.heap.size]? = some (.cells #[.pointer (some ⟨e1, 0, none⟩), r1, .string pl1, .pointer (oA pn1), .string ql1, .pointer (oA qn1), .string dl1, .pointer (oA dn1), l1, g1] 72 (0, 0)) := by rw [hW2]; exact zab (zrc w _) _
 have gb : W2.heap[w.heap.size + 1]? = some (.cells #[.pointer (some ⟨e2, 0, none⟩), r2, .string pl2, .pointer (oA pn2), .string ql2, .pointer (oA qn2), .string dl2, .pointer (oA dn2), l2, g2] 72 (0, 0)) := by
  rw [hW2, ← zpc w (.cells #[.pointer (some ⟨e1, 0, none⟩), r1, .string pl1, .pointer (oA pn1), .string ql1, .pointer (oA qn1), .string dl1, .pointer (oA dn1), l1, g1] 72)]; exact alloc_at _ _
 have GA := za.mk ga
 have GB := za.mk gb
 have BB0 : za (Below W2.heap.size W2 ((w.alloc (.cells #[.pointer (some ⟨e1, 0, none⟩), r1, .string pl1, .pointer (oA pn1), .string ql1, .pointer (oA qn1), .string dl1, .pointer (oA dn1), l1, g1] 72)).alloc (.cells #[.pointer (some ⟨e2, 0, none⟩), r2, .string pl2, .pointer (oA pn2), .string ql2, .pointer (oA qn2), .string dl2, .pointer (oA dn2), l2, g2] 72))) := ⟨by rw [← hW2]; exact Below.refl _ _⟩
 obtain ⟨r, hr⟩ : ∃ r, r = yC x y := ⟨_, rfl⟩
 rw [← hr]
 unfold yC at hr
 have C1 : za (∀ W : World, Below W2.heap.size W2 W → Calls Tryz.prog 139 #[.agg #[.pointer (some ⟨e1, 0, none⟩), r1, .string pl1, .pointer (oA pn1), .string ql1, .pointer (oA qn1), .string dl1, .pointer (oA dn1), l1, g1], .agg #[.pointer (some ⟨e2, 0, none⟩), r2, .string pl2, .pointer (oA pn2), .string ql2, .pointer (oA qn2), .string dl2, .pointer (oA dn2), l2, g2]] W fun e w' => e = .returned (.int .i64 (legC x.leg y.leg)) ∧ Below W2.heap.size W2 w') :=
  ⟨fun W hb => (legacy_ W e1 e2 r1 r2 l1 l2 g1 g2 pl1 pl2 ql1 ql2 dl1 dl2 pn1 pn2 qn1 qn2 dn1 dn2 x.leg y.leg (t1.below (zq hb2 hb2.size hb)) (t2.below (zq hb2 hb2.size hb)) k1.leg k2.leg).mono (by rintro e w' ⟨rfl, h⟩; exact ⟨by first | rfl | skip, zq hb hb.size h⟩)⟩
 have C3 : za (∀ W : World, Below W2.heap.size W2 W → Calls Tryz.prog 141 #[.agg #[.pointer (some ⟨e1, 0, none⟩), r1, .string pl1, .pointer (oA pn1), .string ql1, .pointer (oA qn1), .string dl1, .pointer (oA dn1), l1, g1], .agg #[.pointer (some ⟨e2, 0, none⟩), r2, .string pl2, .pointer (oA pn2), .string ql2, .pointer (oA qn2), .string dl2, .pointer (oA dn2), l2, g2]] W fun e w' => e = .returned (.int .i64 (relC x.rel y.rel)) ∧ Below W2.heap.size W2 w') :=
  ⟨fun W hb => (release_ W e1 e2 r1 r2 l1 l2 g1 g2 pl1 pl2 ql1 ql2 dl1 dl2 pn1 pn2 qn1 qn2 dn1 dn2 x.rel y.rel (c1.below (zq hb2 hb2.size hb)) (c2.below (zq hb2 hb2.size hb))).mono (by rintro e w' ⟨rfl, h⟩; exact ⟨by first | rfl | skip, zq hb hb.size h⟩)⟩
 have C4 : za (∀ W : World, Below W2.heap.size W2 W → Calls Tryz.prog 142 #[.agg #[.pointer (some ⟨e1, 0, none⟩), r1, .string pl1, .pointer (oA pn1), .string ql1, .pointer (oA qn1), .string dl1, .pointer (oA dn1), l1, g1], .agg #[.pointer (some ⟨e2, 0, none⟩), r2, .string pl2, .pointer (oA pn2), .string ql2, .pointer (oA qn2), .string dl2, .pointer (oA dn2), l2, g2]] W fun e w' => e = .returned (.int .i64 (preC x y)) ∧ Below W2.heap.size W2 w') :=
  ⟨fun W hb => (pre_ W e1 e2 r1 r2 l1 l2 g1 g2 pl1 pl2 ql1 ql2 dl1 dl2 pn1 pn2 qn1 qn2 dn1 dn2 _ _ (m1.below (zq hb2 hb2.size hb)).num (m2.below (zq hb2 hb2.size hb)).num (m1.letter k1.pre) (m2.letter k2.pre)).mono (by rintro e w' ⟨rfl, h⟩; exact ⟨by rw [pre_eq m1 m2 n1 n2 o1 o2]; first | rfl | skip, zq hb hb.size h⟩)⟩
 have C5 : za (∀ W : World, Below W2.heap.size W2 W → Calls Tryz.prog 143 #[.agg #[.pointer (some ⟨e1, 0, none⟩), r1, .string pl1, .pointer (oA pn1), .string ql1, .pointer (oA qn1), .string dl1, .pointer (oA dn1), l1, g1], .agg #[.pointer (some ⟨e2, 0, none⟩), r2, .string pl2, .pointer (oA pn2), .string ql2, .pointer (oA qn2), .string dl2, .pointer (oA dn2), l2, g2]] W fun e w' => e = .returned (.int .i64 (postC x y)) ∧ Below W2.heap.size W2 w') :=
  ⟨fun W hb => (post_ W e1 e2 r1 r2 l1 l2 g1 g2 pl1 pl2 ql1 ql2 dl1 dl2 pn1 pn2 qn1 qn2 dn1 dn2 _ _ (n1.below (zq hb2 hb2.size hb)).num (n2.below (zq hb2 hb2.size hb)).num).mono (by rintro e w' ⟨rfl, h⟩; exact ⟨by rw [opt_post n1 n2]; first | rfl | skip, zq hb hb.size h⟩)⟩
 have C6 : za (∀ W : World, Below W2.heap.size W2 W → Calls Tryz.prog 144 #[.agg #[.pointer (some ⟨e1, 0, none⟩), r1, .string pl1, .pointer (oA pn1), .string ql1, .pointer (oA qn1), .string dl1, .pointer (oA dn1), l1, g1], .agg #[.pointer (some ⟨e2, 0, none⟩), r2, .string pl2, .pointer (oA pn2), .string ql2, .pointer (oA qn2), .string dl2, .pointer (oA dn2), l2, g2]] W fun e w' => e = .returned (.int .i64 (devC x y)) ∧ Below W2.heap.size W2 w') :=
  ⟨fun W hb => (dev_ W e1 e2 r1 r2 l1 l2 g1 g2 pl1 pl2 ql1 ql2 dl1 dl2 pn1 pn2 qn1 qn2 dn1 dn2 _ _ (o1.below (zq hb2 hb2.size hb)).num (o2.below (zq hb2 hb2.size hb)).num).mono (by rintro e w' ⟨rfl, h⟩; exact ⟨by rw [opt_dev o1 o2]; first | rfl | skip, zq hb hb.size h⟩)⟩
 have C7 : za (∀ W : World, Below W2.heap.size W2 W → Calls Tryz.prog 145 #[.agg #[.pointer (some ⟨e1, 0, none⟩), r1, .string pl1, .pointer (oA pn1), .string ql1, .pointer (oA qn1), .string dl1, .pointer (oA dn1), l1, g1], .agg #[.pointer (some ⟨e2, 0, none⟩), r2, .string pl2, .pointer (oA pn2), .string ql2, .pointer (oA qn2), .string dl2, .pointer (oA dn2), l2, g2]] W fun e w' => e = .returned (.int .i64 (locC x.loc y.loc)) ∧ Below W2.heap.size W2 w') :=
  ⟨fun W hb => (local_ W e1 e2 r1 r2 l1 l2 g1 g2 pl1 pl2 ql1 ql2 dl1 dl2 pn1 pn2 qn1 qn2 dn1 dn2 x.loc y.loc (s1.below (zq hb2 hb2.size hb)) (s2.below (zq hb2 hb2.size hb)) k1.loc k2.loc (hGL.lt (zq hb2 hb2.size hb))).mono (by rintro e w' ⟨rfl, h⟩; exact ⟨by first | rfl | skip, zq hb hb.size h⟩)⟩
 have C2 : za (legC x.leg y.leg = 0 → ∀ W : World, Below W2.heap.size W2 W → Calls Tryz.prog 140 #[.agg #[.pointer (some ⟨e1, 0, none⟩), r1, .string pl1, .pointer (oA pn1), .string ql1, .pointer (oA qn1), .string dl1, .pointer (oA dn1), l1, g1], .agg #[.pointer (some ⟨e2, 0, none⟩), r2, .string pl2, .pointer (oA pn2), .string ql2, .pointer (oA qn2), .string dl2, .pointer (oA dn2), l2, g2]] W fun e w' => e = .returned (.int .i64 (cmpN x.ep y.ep)) ∧ Below W2.heap.size W2 w') := ⟨fun hz W hb => by
  have hw := zq hb2 hb2.size hb
  by_cases hl : x.leg = []
  ·exact (epoch_ W e1 e2 r1 r2 l1 l2 g1 g2 pl1 pl2 ql1 ql2 dl1 dl2 pn1 pn2 qn1 qn2 dn1 dn2 _ _ ((a1 hl).below hw) ((a2 ((legC_zero hz).1 hl)).below hw)).mono (by rintro e w' ⟨rfl, h⟩; exact ⟨rfl, zq hb hb.size h⟩)
  ·have hl2 : y.leg ≠ [] := fun h => hl ((legC_zero hz).2 h)
   rw [k1.ep hl, k2.ep hl2]
   exact (epochM_ W e1 e2 r1 r2 l1 l2 g1 g2 pl1 pl2 ql1 ql2 dl1 dl2 pn1 pn2 qn1 qn2 dn1 dn2 ((b1 hl).below hw) ((b2 hl2).below hw)).mono (by rintro e w' ⟨rfl, h⟩; exact ⟨rfl, zq hb hb.size h⟩)⟩
 obtain ⟨d1, hd1⟩ : ∃ d, d = legC x.leg y.leg := ⟨_, rfl⟩
 rw [← hd1] at C1 hr C2
 clear hd1
 obtain ⟨d3, hd3⟩ : ∃ d, d = relC x.rel y.rel := ⟨_, rfl⟩
 rw [← hd3] at C3 hr
 clear hd3
 obtain ⟨d4, hd4⟩ : ∃ d, d = preC x y := ⟨_, rfl⟩
 rw [← hd4] at C4 hr
 clear hd4
 obtain ⟨d5, hd5⟩ : ∃ d, d = postC x y := ⟨_, rfl⟩
 rw [← hd5] at C5 hr
 clear hd5
 obtain ⟨d6, hd6⟩ : ∃ d, d = devC x y := ⟨_, rfl⟩
 rw [← hd6] at C6 hr
 clear hd6
 obtain ⟨d7, hd7⟩ : ∃ d, d = locC x.loc y.loc := ⟨_, rfl⟩
 rw [← hd7] at C7 hr
 clear hd7
 obtain ⟨d2, hd2⟩ : ∃ d, d = cmpN x.ep y.ep := ⟨_, rfl⟩
 rw [← hd2] at C2 hr
 clear hd2
 have ga0 := GA.out
 have gb0 := GB.out
 have x0 := fun j : Nat => zi ga0 j
 have y0 := fun j : Nat => zi gb0 j
 rw [hW2] at x0 y0
 clear ga0 gb0 ga gb hW2 hb2 h1 h2 k1 k2 a1 b1 c1 m1 n1 o1 s1 t1 a2 b2 c2 m2 n2 o2 s2 t2 hGL
 by_cases f1 : d1 ≠ 0
 ·have HS : za (r = d1) := ⟨by rw [hr]; simp only [zsb, if_true, if_neg f1]⟩
  have z1 : (d1 != 0) = true := by simpa using f1
  have zz1 : (d1 == 0) = false := by simpa using f1
  clear hr f1
  go_enter Tryz.func120, Tryz.ntmps120
  try rw [← HW2.out]
  go_wp2_with (first | (go_at_call 139; (with_reducible refine (C1.out _ (by first | exact BB0.out)).mono ?_); rintro e' w1 ⟨rfl, bb1⟩; have BB1 := za.mk bb1; have ga1 := zj GA.out bb1; have gb1 := zj GB.out bb1; have x1 := fun j : Nat => zi ga1 j; have y1 := fun j : Nat => zi gb1 j; clear bb1 ga1 gb1))
  go_ret
  exact ⟨by rw [HS.out]; rfl, zq HB2.out HB2.out.size BB1.out⟩
 ·obtain rfl : d1 = 0 := by simpa using f1
  replace C2 := za.mk (C2.out rfl)
  clear f1
  by_cases f2 : d2 ≠ 0
  ·have HS : za (r = d2) := ⟨by rw [hr]; simp only [zsb, if_true, if_neg f2]⟩
   have z2 : (d2 != 0) = true := by simpa using f2
   have zz2 : (d2 == 0) = false := by simpa using f2
   clear hr f2
   go_enter Tryz.func120, Tryz.ntmps120
   try rw [← HW2.out]
   go_wp2_with (first | (go_at_call 139; (with_reducible refine (C1.out _ (by first | exact BB0.out)).mono ?_); rintro e' w1 ⟨rfl, bb1⟩; have BB1 := za.mk bb1; have ga1 := zj GA.out bb1; have gb1 := zj GB.out bb1; have x1 := fun j : Nat => zi ga1 j; have y1 := fun j : Nat => zi gb1 j; clear bb1 ga1 gb1) | (go_at_call 140; (with_reducible refine (C2.out _ (by first | exact BB1.out | exact BB0.out)).mono ?_); rintro e' w2 ⟨rfl, bb2⟩; have BB2 := za.mk bb2; have ga2 := zj GA.out bb2; have gb2 := zj GB.out bb2; have x2 := fun j : Nat => zi ga2 j; have y2 := fun j : Nat => zi gb2 j; clear bb2 ga2 gb2))
   go_ret
   exact ⟨by rw [HS.out]; rfl, zq HB2.out HB2.out.size BB2.out⟩
  ·obtain rfl : d2 = 0 := by simpa using f2
   clear f2
   by_cases f3 : d3 ≠ 0
   ·have HS : za (r = d3) := ⟨by rw [hr]; simp only [zsb, if_true, if_neg f3]⟩
    have z3 : (d3 != 0) = true := by simpa using f3
    have zz3 : (d3 == 0) = false := by simpa using f3
    clear hr f3
    go_enter Tryz.func120, Tryz.ntmps120
    try rw [← HW2.out]
    go_wp2_with (first | (go_at_call 139; (with_reducible refine (C1.out _ (by first | exact BB0.out)).mono ?_); rintro e' w1 ⟨rfl, bb1⟩; have BB1 := za.mk bb1; have ga1 := zj GA.out bb1; have gb1 := zj GB.out bb1; have x1 := fun j : Nat => zi ga1 j; have y1 := fun j : Nat => zi gb1 j; clear bb1 ga1 gb1) | (go_at_call 140; (with_reducible refine (C2.out _ (by first | exact BB1.out | exact BB0.out)).mono ?_); rintro e' w2 ⟨rfl, bb2⟩; have BB2 := za.mk bb2; have ga2 := zj GA.out bb2; have gb2 := zj GB.out bb2; have x2 := fun j : Nat => zi ga2 j; have y2 := fun j : Nat => zi gb2 j; clear bb2 ga2 gb2) | (go_at_call 141; (with_reducible refine (C3.out _ (by first | exact BB2.out | exact BB1.out | exact BB0.out)).mono ?_); rintro e' w3 ⟨rfl, bb3⟩; have BB3 := za.mk bb3; have ga3 := zj GA.out bb3; have gb3 := zj GB.out bb3; have x3 := fun j : Nat => zi ga3 j; have y3 := fun j : Nat => zi gb3 j; clear bb3 ga3 gb3))
    go_ret
    exact ⟨by rw [HS.out]; rfl, zq HB2.out HB2.out.size BB3.out⟩
   ·obtain rfl : d3 = 0 := by simpa using f3
    clear f3
    by_cases f4 : d4 ≠ 0
    ·have HS : za (r = d4) := ⟨by rw [hr]; simp only [zsb, if_true, if_neg f4]⟩
     have z4 : (d4 != 0) = true := by simpa using f4
     have zz4 : (d4 == 0) = false := by simpa using f4
     clear hr f4
     go_enter Tryz.func120, Tryz.ntmps120
     try rw [← HW2.out]
     go_wp2_with (first | (go_at_call 139; (with_reducible refine (C1.out _ (by first | exact BB0.out)).mono ?_); rintro e' w1 ⟨rfl, bb1⟩; have BB1 := za.mk bb1; have ga1 := zj GA.out bb1; have gb1 := zj GB.out bb1; have x1 := fun j : Nat => zi ga1 j; have y1 := fun j : Nat => zi gb1 j; clear bb1 ga1 gb1) | (go_at_call 140; (with_reducible refine (C2.out _ (by first | exact BB1.out | exact BB0.out)).mono ?_); rintro e' w2 ⟨rfl, bb2⟩; have BB2 := za.mk bb2; have ga2 := zj GA.out bb2; have gb2 := zj GB.out bb2; have x2 := fun j : Nat => zi ga2 j; have y2 := fun j : Nat => zi gb2 j; clear bb2 ga2 gb2) | (go_at_call 141; (with_reducible refine (C3.out _ (by first | exact BB2.out | exact BB1.out | exact BB0.out)).mono ?_); rintro e' w3 ⟨rfl, bb3⟩; have BB3 := za.mk bb3; have ga3 := zj GA.out bb3; have gb3 := zj GB.out bb3; have x3 := fun j : Nat => zi ga3 j; have y3 := fun j : Nat => zi gb3 j; clear bb3 ga3 gb3) | (go_at_call 142; (with_reducible refine (C4.out _ (by first | exact BB3.out | exact BB2.out | exact BB1.out | exact BB0.out)).mono ?_); rintro e' w4 ⟨rfl, bb4⟩; have BB4 := za.mk bb4; have ga4 := zj GA.out bb4; have gb4 := zj GB.out bb4; have x4 := fun j : Nat => zi ga4 j; have y4 := fun j : Nat => zi gb4 j; clear bb4 ga4 gb4))
     go_ret
     exact ⟨by rw [HS.out]; rfl, zq HB2.out HB2.out.size BB4.out⟩
    ·obtain rfl : d4 = 0 := by simpa using f4
     clear f4
     by_cases f5 : d5 ≠ 0
     ·have HS : za (r = d5) := ⟨by rw [hr]; simp only [zsb, if_true, if_neg f5]⟩
      have z5 : (d5 != 0) = true := by simpa using f5
      have zz5 : (d5 == 0) = false := by simpa using f5
      clear hr f5
      go_enter Tryz.func120, Tryz.ntmps120
      try rw [← HW2.out]
      go_wp2_with (first | (go_at_call 139; (with_reducible refine (C1.out _ (by first | exact BB0.out)).mono ?_); rintro e' w1 ⟨rfl, bb1⟩; have BB1 := za.mk bb1; have ga1 := zj GA.out bb1; have gb1 := zj GB.out bb1; have x1 := fun j : Nat => zi ga1 j; have y1 := fun j : Nat => zi gb1 j; clear bb1 ga1 gb1) | (go_at_call 140; (with_reducible refine (C2.out _ (by first | exact BB1.out | exact BB0.out)).mono ?_); rintro e' w2 ⟨rfl, bb2⟩; have BB2 := za.mk bb2; have ga2 := zj GA.out bb2; have gb2 := zj GB.out bb2; have x2 := fun j : Nat => zi ga2 j; have y2 := fun j : Nat => zi gb2 j; clear bb2 ga2 gb2) | (go_at_call 141; (with_reducible refine (C3.out _ (by first | exact BB2.out | exact BB1.out | exact BB0.out)).mono ?_); rintro e' w3 ⟨rfl, bb3⟩; have BB3 := za.mk bb3; have ga3 := zj GA.out bb3; have gb3 := zj GB.out bb3; have x3 := fun j : Nat => zi ga3 j; have y3 := fun j : Nat => zi gb3 j; clear bb3 ga3 gb3) | (go_at_call 142; (with_reducible refine (C4.out _ (by first | exact BB3.out | exact BB2.out | exact BB1.out | exact BB0.out)).mono ?_); rintro e' w4 ⟨rfl, bb4⟩; have BB4 := za.mk bb4; have ga4 := zj GA.out bb4; have gb4 := zj GB.out bb4; have x4 := fun j : Nat => zi ga4 j; have y4 := fun j : Nat => zi gb4 j; clear bb4 ga4 gb4) | (go_at_call 143; (with_reducible refine (C5.out _ (by first | exact BB4.out | exact BB3.out | exact BB2.out | exact BB1.out | exact BB0.out)).mono ?_); rintro e' w5 ⟨rfl, bb5⟩; have BB5 := za.mk bb5; have ga5 := zj GA.out bb5; have gb5 := zj GB.out bb5; have x5 := fun j : Nat => zi ga5 j; have y5 := fun j : Nat => zi gb5 j; clear bb5 ga5 gb5))
      go_ret
      exact ⟨by rw [HS.out]; rfl, zq HB2.out HB2.out.size BB5.out⟩
     ·obtain rfl : d5 = 0 := by simpa using f5
      clear f5
      by_cases f6 : d6 ≠ 0
      ·have HS : za (r = d6) := ⟨by rw [hr]; simp only [zsb, if_true, if_neg f6]⟩
       have z6 : (d6 != 0) = true := by simpa using f6
       have zz6 : (d6 == 0) = false := by simpa using f6
       clear hr f6
       go_enter Tryz.func120, Tryz.ntmps120
       try rw [← HW2.out]
       go_wp2_with (first | (go_at_call 139; (with_reducible refine (C1.out _ (by first | exact BB0.out)).mono ?_); rintro e' w1 ⟨rfl, bb1⟩; have BB1 := za.mk bb1; have ga1 := zj GA.out bb1; have gb1 := zj GB.out bb1; have x1 := fun j : Nat => zi ga1 j; have y1 := fun j : Nat => zi gb1 j; clear bb1 ga1 gb1) | (go_at_call 140; (with_reducible refine (C2.out _ (by first | exact BB1.out | exact BB0.out)).mono ?_); rintro e' w2 ⟨rfl, bb2⟩; have BB2 := za.mk bb2; have ga2 := zj GA.out bb2; have gb2 := zj GB.out bb2; have x2 := fun j : Nat => zi ga2 j; have y2 := fun j : Nat => zi gb2 j; clear bb2 ga2 gb2) | (go_at_call 141; (with_reducible refine (C3.out _ (by first | exact BB2.out | exact BB1.out | exact BB0.out)).mono ?_); rintro e' w3 ⟨rfl, bb3⟩; have BB3 := za.mk bb3; have ga3 := zj GA.out bb3; have gb3 := zj GB.out bb3; have x3 := fun j : Nat => zi ga3 j; have y3 := fun j : Nat => zi gb3 j; clear bb3 ga3 gb3) | (go_at_call 142; (with_reducible refine (C4.out _ (by first | exact BB3.out | exact BB2.out | exact BB1.out | exact BB0.out)).mono ?_); rintro e' w4 ⟨rfl, bb4⟩; have BB4 := za.mk bb4; have ga4 := zj GA.out bb4; have gb4 := zj GB.out bb4; have x4 := fun j : Nat => zi ga4 j; have y4 := fun j : Nat => zi gb4 j; clear bb4 ga4 gb4) | (go_at_call 143; (with_reducible refine (C5.out _ (by first | exact BB4.out | exact BB3.out | exact BB2.out | exact BB1.out | exact BB0.out)).mono ?_); rintro e' w5 ⟨rfl, bb5⟩; have BB5 := za.mk bb5; have ga5 := zj GA.out bb5; have gb5 := zj GB.out bb5; have x5 := fun j : Nat => zi ga5 j; have y5 := fun j : Nat => zi gb5 j; clear bb5 ga5 gb5) | (go_at_call 144; (with_reducible refine (C6.out _ (by first | exact BB5.out | exact BB4.out | exact BB3.out | exact BB2.out | exact BB1.out | exact BB0.out)).mono ?_); rintro e' w6 ⟨rfl, bb6⟩; have BB6 := za.mk bb6; have ga6 := zj GA.out bb6; have gb6 := zj GB.out bb6; have x6 := fun j : Nat => zi ga6 j; have y6 := fun j : Nat => zi gb6 j; clear bb6 ga6 gb6))
       go_ret
       exact ⟨by rw [HS.out]; rfl, zq HB2.out HB2.out.size BB6.out⟩
      ·obtain rfl : d6 = 0 := by simpa using f6
       clear f6
       by_cases f7 : d7 ≠ 0
       ·have HS : za (r = d7) := ⟨by rw [hr]; simp only [zsb, if_true, if_neg f7]⟩
        have z7 : (d7 != 0) = true := by simpa using f7
        have zz7 : (d7 == 0) = false := by simpa using f7
        clear hr f7
        go_enter Tryz.func120, Tryz.ntmps120
        try rw [← HW2.out]
        go_wp2_with (first | (go_at_call 139; (with_reducible refine (C1.out _ (by first | exact BB0.out)).mono ?_); rintro e' w1 ⟨rfl, bb1⟩; have BB1 := za.mk bb1; have ga1 := zj GA.out bb1; have gb1 := zj GB.out bb1; have x1 := fun j : Nat => zi ga1 j; have y1 := fun j : Nat => zi gb1 j; clear bb1 ga1 gb1) | (go_at_call 140; (with_reducible refine (C2.out _ (by first | exact BB1.out | exact BB0.out)).mono ?_); rintro e' w2 ⟨rfl, bb2⟩; have BB2 := za.mk bb2; have ga2 := zj GA.out bb2; have gb2 := zj GB.out bb2; have x2 := fun j : Nat => zi ga2 j; have y2 := fun j : Nat => zi gb2 j; clear bb2 ga2 gb2) | (go_at_call 141; (with_reducible refine (C3.out _ (by first | exact BB2.out | exact BB1.out | exact BB0.out)).mono ?_); rintro e' w3 ⟨rfl, bb3⟩; have BB3 := za.mk bb3; have ga3 := zj GA.out bb3; have gb3 := zj GB.out bb3; have x3 := fun j : Nat => zi ga3 j; have y3 := fun j : Nat => zi gb3 j; clear bb3 ga3 gb3) | (go_at_call 142; (with_reducible refine (C4.out _ (by first | exact BB3.out | exact BB2.out | exact BB1.out | exact BB0.out)).mono ?_); rintro e' w4 ⟨rfl, bb4⟩; have BB4 := za.mk bb4; have ga4 := zj GA.out bb4; have gb4 := zj GB.out bb4; have x4 := fun j : Nat => zi ga4 j; have y4 := fun j : Nat => zi gb4 j; clear bb4 ga4 gb4) | (go_at_call 143; (with_reducible refine (C5.out _ (by first | exact BB4.out | exact BB3.out | exact BB2.out | exact BB1.out | exact BB0.out)).mono ?_); rintro e' w5 ⟨rfl, bb5⟩; have BB5 := za.mk bb5; have ga5 := zj GA.out bb5; have gb5 := zj GB.out bb5; have x5 := fun j : Nat => zi ga5 j; have y5 := fun j : Nat => zi gb5 j; clear bb5 ga5 gb5) | (go_at_call 144; (with_reducible refine (C6.out _ (by first | exact BB5.out | exact BB4.out | exact BB3.out | exact BB2.out | exact BB1.out | exact BB0.out)).mono ?_); rintro e' w6 ⟨rfl, bb6⟩; have BB6 := za.mk bb6; have ga6 := zj GA.out bb6; have gb6 := zj GB.out bb6; have x6 := fun j : Nat => zi ga6 j; have y6 := fun j : Nat => zi gb6 j; clear bb6 ga6 gb6) | (go_at_call 145; (with_reducible refine (C7.out _ (by first | exact BB6.out | exact BB5.out | exact BB4.out | exact BB3.out | exact BB2.out | exact BB1.out | exact BB0.out)).mono ?_); rintro e' w7 ⟨rfl, bb7⟩; have BB7 := za.mk bb7; have ga7 := zj GA.out bb7; have gb7 := zj GB.out bb7; have x7 := fun j : Nat => zi ga7 j; have y7 := fun j : Nat => zi gb7 j; clear bb7 ga7 gb7))
        go_ret
        exact ⟨by rw [HS.out]; rfl, zq HB2.out HB2.out.size BB7.out⟩
       ·obtain rfl : d7 = 0 := by simpa using f7
        clear f7
        have HS : za (r = 0) := ⟨by rw [hr]; simp only [zsb, if_true]⟩
        clear hr
        go_enter Tryz.func120, Tryz.ntmps120
        try rw [← HW2.out]
        go_wp2_with (first | (go_at_call 139; (with_reducible refine (C1.out _ (by first | exact BB0.out)).mono ?_); rintro e' w1 ⟨rfl, bb1⟩; have BB1 := za.mk bb1; have ga1 := zj GA.out bb1; have gb1 := zj GB.out bb1; have x1 := fun j : Nat => zi ga1 j; have y1 := fun j : Nat => zi gb1 j; clear bb1 ga1 gb1) | (go_at_call 140; (with_reducible refine (C2.out _ (by first | exact BB1.out | exact BB0.out)).mono ?_); rintro e' w2 ⟨rfl, bb2⟩; have BB2 := za.mk bb2; have ga2 := zj GA.out bb2; have gb2 := zj GB.out bb2; have x2 := fun j : Nat => zi ga2 j; have y2 := fun j : Nat => zi gb2 j; clear bb2 ga2 gb2) | (go_at_call 141; (with_reducible refine (C3.out _ (by first | exact BB2.out | exact BB1.out | exact BB0.out)).mono ?_); rintro e' w3 ⟨rfl, bb3⟩; have BB3 := za.mk bb3; have ga3 := zj GA.out bb3; have gb3 := zj GB.out bb3; have x3 := fun j : Nat => zi ga3 j; have y3 := fun j : Nat => zi gb3 j; clear bb3 ga3 gb3) | (go_at_call 142; (with_reducible refine (C4.out _ (by first | exact BB3.out | exact BB2.out | exact BB1.out | exact BB0.out)).mono ?_); rintro e' w4 ⟨rfl, bb4⟩; have BB4 := za.mk bb4; have ga4 := zj GA.out bb4; have gb4 := zj GB.out bb4; have x4 := fun j : Nat => zi ga4 j; have y4 := fun j : Nat => zi gb4 j; clear bb4 ga4 gb4) | (go_at_call 143; (with_reducible refine (C5.out _ (by first | exact BB4.out | exact BB3.out | exact BB2.out | exact BB1.out | exact BB0.out)).mono ?_); rintro e' w5 ⟨rfl, bb5⟩; have BB5 := za.mk bb5; have ga5 := zj GA.out bb5; have gb5 := zj GB.out bb5; have x5 := fun j : Nat => zi ga5 j; have y5 := fun j : Nat => zi gb5 j; clear bb5 ga5 gb5) | (go_at_call 144; (with_reducible refine (C6.out _ (by first | exact BB5.out | exact BB4.out | exact BB3.out | exact BB2.out | exact BB1.out | exact BB0.out)).mono ?_); rintro e' w6 ⟨rfl, bb6⟩; have BB6 := za.mk bb6; have ga6 := zj GA.out bb6; have gb6 := zj GB.out bb6; have x6 := fun j : Nat => zi ga6 j; have y6 := fun j : Nat => zi gb6 j; clear bb6 ga6 gb6) | (go_at_call 145; (with_reducible refine (C7.out _ (by first | exact BB6.out | exact BB5.out | exact BB4.out | exact BB3.out | exact BB2.out | exact BB1.out | exact BB0.out)).mono ?_); rintro e' w7 ⟨rfl, bb7⟩; have BB7 := za.mk bb7; have ga7 := zj GA.out bb7; have gb7 := zj GB.out bb7; have x7 := fun j : Nat => zi ga7 j; have y7 := fun j : Nat => zi gb7 j; clear bb7 ga7 gb7))
        go_ret
        exact ⟨by rw [HS.out]; rfl, zq HB2.out HB2.out.size BB7.out⟩
theorem compare_ (w : World) (v1 v2 : Value) (x y : YV) (h1 : YVAt w v1 x) (h2 : YVAt w v2 y) (k1 : YOk x) (k2 : YOk y) (hGL : GLe w) :
  Calls Tryz.prog 84 #[v1, v2] w fun e w' => e = .returned (.int .i64 (yC x y)) ∧ Below w.heap.size w w' := by
 have HC := za.mk (fun (W : World) (hb : Below w.heap.size w W) => compareV_ W v1 v2 x y (h1.below hb) (h2.below hb) k1 k2 (hGL.lt hb))
 obtain ⟨e1, r1, l1, g1, pl1, ql1, dl1, pn1, qn1, dn1, rfl, _⟩ := h1.at_
 obtain ⟨e2, r2, l2, g2, pl2, ql2, dl2, pn2, qn2, dn2, rfl, _⟩ := h2.at_
 have HB := za.mk (Below.refl w.heap.size w)
 obtain ⟨W2, hW2⟩ : ∃ W2, W2 = ((w.alloc (.cells #[.pointer (some ⟨e1, 0, none⟩), r1, .string pl1, .pointer (oA pn1), .string ql1, .pointer (oA qn1), .string dl1, .pointer (oA dn1), l1, g1] 72)).alloc (.cells #[.pointer (some ⟨e2, 0, none⟩), r2, .string pl2, .pointer (oA pn2), .string ql2, .pointer (oA qn2), .string dl2, .pointer (oA dn2), l2, g2] 72)) := ⟨_, rfl⟩
 have HW2 := za.mk hW2
 have hb2 : Below w.heap.size w W2 := by rw [hW2]; exact zf (zf HB.out _) _
 have HB2 := za.mk hb2
 have ga : W2.heap[w.heap.size]? = some (.cells #[.pointer (some ⟨e1, 0, none⟩), r1, .string pl1, .pointer (oA pn1), .string ql1, .pointer (oA qn1), .string dl1, .pointer (oA dn1), l1, g1] 72 (0, 0)) := by rw [hW2]; exact zab (zrc w _) _
 have gb : W2.heap[w.heap.size + 1]? = some (.cells #[.pointer (some ⟨e2, 0, none⟩), r2, .string pl2, .pointer (oA pn2), .string ql2, .pointer (oA qn2), .string dl2, .pointer (oA dn2), l2, g2] 72 (0, 0)) := by
  rw [hW2, ← zpc w (.cells #[.pointer (some ⟨e1, 0, none⟩), r1, .string pl1, .pointer (oA pn1), .string ql1, .pointer (oA qn1), .string dl1, .pointer (oA dn1), l1, g1] 72)]; exact alloc_at _ _
 have GA := za.mk ga
 have GB := za.mk gb
 have BB0 : za (Below W2.heap.size W2 ((w.alloc (.cells #[.pointer (some ⟨e1, 0, none⟩), r1, .string pl1, .pointer (oA pn1), .string ql1, .pointer (oA qn1), .string dl1, .pointer (oA dn1), l1, g1] 72)).alloc (.cells #[.pointer (some ⟨e2, 0, none⟩), r2, .string pl2, .pointer (oA pn2), .string ql2, .pointer (oA qn2), .string dl2, .pointer (oA dn2), l2, g2] 72))) := ⟨by rw [← hW2]; exact Below.refl _ _⟩
 have x0 := fun j : Nat => zi ga j
 have y0 := fun j : Nat => zi gb j
 rw [hW2] at x0 y0
 obtain ⟨r, hr⟩ : ∃ r, r = yC x y := ⟨_, rfl⟩
 rw [← hr] at HC ⊢
 clear ga gb hW2 hb2 h1 h2 k1 k2 hGL hr
 go_enter Tryz.func84, Tryz.ntmps84
 go_wp2_with (first | (go_at_call 120; (with_reducible refine (HC.out _ (by first | (rw [← HW2.out]; exact HB2.out))).mono ?_); rintro e' w1 ⟨rfl, bb⟩; rw [← HW2.out] at bb; have BB1 := za.mk (zq HB2.out HB2.out.size bb); clear bb))
 go_ret
 exact ⟨rfl, BB1.out⟩
end Go.Proofs.YtlijjnjpomnphaaGreatDoorG
end
section
namespace Go.Proofs.YtlijjnjpomnphaaGreatDoorG
open Go.RowKit YtlijjnjpomnphaaGreatDoorH YtlijjnjpomnphaaGreatDoorB YtlijjnjpomnphaaGreatDoor.S YtlijjnjpomnphaaGreatDoorW.PrintWords YtlijjnjpomnphaaGreatDoorW.PrintLast
def or0 (d : ByteArray) : ByteArray := if d.toList = [] then ⟨#[48]⟩ else d
def wordsB : List (ByteArray × ByteArray) := [(⟨#[97, 108, 112, 104, 97]⟩, ⟨#[97]⟩), (⟨#[98, 101, 116, 97]⟩, ⟨#[98]⟩), (⟨#[112, 114, 101, 118, 105, 101, 119]⟩, ⟨#[114, 99]⟩), (⟨#[112, 114, 101]⟩, ⟨#[114, 99]⟩), (⟨#[114, 99]⟩, ⟨#[114, 99]⟩), (⟨#[97]⟩, ⟨#[97]⟩), (⟨#[98]⟩, ⟨#[98]⟩), (⟨#[99]⟩, ⟨#[114, 99]⟩), (⟨#[112, 111, 115, 116]⟩, ⟨#[112, 111, 115, 116]⟩), (⟨#[114, 101, 118]⟩, ⟨#[112, 111, 115, 116]⟩), (⟨#[114]⟩, ⟨#[112, 111, 115, 116]⟩), (⟨#[100, 101, 118]⟩, ⟨#[100, 101, 118]⟩)]
def letB : Option (ByteArray × Nat) → ByteArray
 | none => ⟨#[]⟩
 | some p => p.1
theorem zyc {P : Program} {fn : Func} {p u : Tmp} {ty : TypeId} (h : fn.results = #[.cell p ty, .tmp u]) (tmps : Array Value) (w : World) (g : Nat) (t : TypeId) (cs : Array Value) (fr : Nat × Nat) (d : TypeDesc)
    (hp : tmps.getD p undef = .pointer (some ⟨g, 0, none⟩)) (hg : w.heap[g]? = some (.cells cs t fr))
    (hu : P.underlying ty = some d) (hd : (match d with | .struct _ | .array _ _ => true | _ => false) = true) (hi : (P.info? ty).map (·.size) = some cs.size) :
    (results fn tmps).run P w = .ok (.tuple #[.agg cs, tmps.getD u undef]) w := by
  rw [results_cell_tmp h, hp]
  simp [asAddr, run_loadVar_row w g t ty cs fr d hg hu hd hi, Result.andThen]
theorem KeptT.set {p : TypeId → Bool} {w : World} {g : Nat} {cs : Array Value} {t : TypeId} {fr : Nat × Nat} (hg : w.heap[g]? = some (.cells cs t fr)) (ht : p t = false) (i : Nat) (u : Value) : KeptT p w (w.setCell ⟨g, i, none⟩ u) := fun b cs2 t2 fr2 hb hp => by
 have hne : g ≠ b := by
  rintro rfl
  rw [hg] at hb
  cases hb
  rw [ht] at hp
  cases hp
 simp [World.setCell, Array.getElem?_modify, hne]
theorem lowerWord {l s : ByteArray} (h : (l, s) ∈ wordsB) : zqb.f l = some l := by
 simp only [wordsB, List.mem_cons, List.not_mem_nil, or_false, Prod.mk.injEq] at h
 rcases h with ⟨rfl, rfl⟩ | ⟨rfl, rfl⟩ | ⟨rfl, rfl⟩ | ⟨rfl, rfl⟩ | ⟨rfl, rfl⟩ | ⟨rfl, rfl⟩ | ⟨rfl, rfl⟩ | ⟨rfl, rfl⟩ | ⟨rfl, rfl⟩ | ⟨rfl, rfl⟩ | ⟨rfl, rfl⟩ | ⟨rfl, rfl⟩ <;> rfl
theorem letterW_ (w : World) (l s d : ByteArray) (h : (l, s) ∈ wordsB) (hp : Plain (or0 d)) (hd : zic (or0 d)) (hG : GLe w) :
  Calls Tryz.prog 72 #[.string l, .string d] w fun e w' => ∃ a, e = .returned (.tuple #[.agg #[.string s, .pointer (some ⟨a, 0, none⟩)], .nilIface]) ∧ BigAt w' a (dv (or0 d) (or0 d).size) ∧ Below w.heap.size w w' := by
 have HB := za.mk (Below.refl w.heap.size w)
 have HL := za.mk (fun W : World => zqb.calls l l W (lowerWord h))
 have G0 := za.mk (zrc w (.cells #[.string ⟨#[]⟩, .pointer none] 70))
 have HV := za.mk (fun (W : World) (hb : Below w.heap.size w W) => zie W _ hp (hG.lt hb) hd)
 have hcase : (d.toList = [] ∧ or0 d = ⟨#[48]⟩) ∨ (d.toList ≠ [] ∧ or0 d = d) := by
  unfold or0
  by_cases h : d.toList = []
  ·exact .inl ⟨h, if_pos h⟩
  ·exact .inr ⟨h, if_neg h⟩
 clear hp hd hG
 simp only [wordsB, List.mem_cons, List.not_mem_nil, or_false, Prod.mk.injEq] at h
 rcases hcase with ⟨h0, ho⟩ | ⟨h0, ho⟩
 ·have e1 : (d.toList == []) = true := by simpa using h0
  have e2 : (d.toList != []) = false := by simpa using h0
  have e3 : d.toList.isEmpty = true := by simpa using h0
  rw [ho] at HV ⊢
  clear h0 ho
  rcases h with ⟨rfl, rfl⟩ | ⟨rfl, rfl⟩ | ⟨rfl, rfl⟩ | ⟨rfl, rfl⟩ | ⟨rfl, rfl⟩ | ⟨rfl, rfl⟩ | ⟨rfl, rfl⟩ | ⟨rfl, rfl⟩ | ⟨rfl, rfl⟩ | ⟨rfl, rfl⟩ | ⟨rfl, rfl⟩ | ⟨rfl, rfl⟩
  all_goals
   go_enter Tryz.func72, Tryz.ntmps72
   go_wp2_with (first | (go_at_call 66; (with_reducible refine (HL.out _).mono ?_); rintro e' w1 ⟨rfl, hb⟩; have B1 := za.mk (zcb (zf HB.out _) hb); have G1 := za.mk (zj G0.out hb); clear hb) | (go_at_call 70; (with_reducible refine (HV.out _ B1.out).mono ?_); rintro e' w2 ⟨a, rfl, hA, hb⟩; have B2 := za.mk (zcb B1.out hb); have HA := za.mk hA; have G2 := za.mk (zj G1.out hb); have f0 := zr G2.out 0; have f1 := zr G2.out 1; have y0 := zi G2.out 0; have y1 := zi G2.out 1; clear hb hA))
   (try simp only [Exit.inBlock, Exit.then])
   refine bodyPost_ret (zyc rfl _ _ w.heap.size 70 _ (0, 0) _ rfl (zv (zv G2.out 0 _ rfl) 1 _ rfl) Tryz.underlying70 rfl (by kernel_rfl)) rfl ?_
   exact ⟨a, rfl, (HA.out.kept (KeptT.set G2.out (by decide) 0 _)).kept (KeptT.set (zv G2.out 0 _ rfl) (by decide) 1 _), zx (zx B2.out (Nat.le_refl _)) (Nat.le_refl _)⟩
 ·have e1 : (d.toList == []) = false := by simpa using h0
  have e2 : (d.toList != []) = true := by simpa using h0
  have e3 : d.toList.isEmpty = false := by simpa using h0
  rw [ho] at HV ⊢
  clear h0 ho
  rcases h with ⟨rfl, rfl⟩ | ⟨rfl, rfl⟩ | ⟨rfl, rfl⟩ | ⟨rfl, rfl⟩ | ⟨rfl, rfl⟩ | ⟨rfl, rfl⟩ | ⟨rfl, rfl⟩ | ⟨rfl, rfl⟩ | ⟨rfl, rfl⟩ | ⟨rfl, rfl⟩ | ⟨rfl, rfl⟩ | ⟨rfl, rfl⟩
  all_goals
   go_enter Tryz.func72, Tryz.ntmps72
   go_wp2_with (first | (go_at_call 66; (with_reducible refine (HL.out _).mono ?_); rintro e' w1 ⟨rfl, hb⟩; have B1 := za.mk (zcb (zf HB.out _) hb); have G1 := za.mk (zj G0.out hb); clear hb) | (go_at_call 70; (with_reducible refine (HV.out _ B1.out).mono ?_); rintro e' w2 ⟨a, rfl, hA, hb⟩; have B2 := za.mk (zcb B1.out hb); have HA := za.mk hA; have G2 := za.mk (zj G1.out hb); have f0 := zr G2.out 0; have f1 := zr G2.out 1; have y0 := zi G2.out 0; have y1 := zi G2.out 1; clear hb hA))
   (try simp only [Exit.inBlock, Exit.then])
   refine bodyPost_ret (zyc rfl _ _ w.heap.size 70 _ (0, 0) _ rfl (zv (zv G2.out 0 _ rfl) 1 _ rfl) Tryz.underlying70 rfl (by kernel_rfl)) rfl ?_
   exact ⟨a, rfl, (HA.out.kept (KeptT.set G2.out (by decide) 0 _)).kept (KeptT.set (zv G2.out 0 _ rfl) (by decide) 1 _), zx (zx B2.out (Nat.le_refl _)) (Nat.le_refl _)⟩
theorem letterH_ (w : World) (d : ByteArray) (h0 : d.toList ≠ []) (hp : Plain d) (hd : zic d) (hG : GLe w) :
  Calls Tryz.prog 72 #[.string ⟨#[]⟩, .string d] w fun e w' => ∃ a, e = .returned (.tuple #[.agg #[.string ⟨#[112, 111, 115, 116]⟩, .pointer (some ⟨a, 0, none⟩)], .nilIface]) ∧ BigAt w' a (dv d d.size) ∧ Below w.heap.size w w' := by
 have HB := za.mk (Below.refl w.heap.size w)
 have G0 := za.mk (zrc w (.cells #[.string ⟨#[]⟩, .pointer none] 70))
 have HV := za.mk (fun (W : World) (hb : Below w.heap.size w W) => zie W _ hp (hG.lt hb) hd)
 have e1 : (d.toList == []) = false := by simpa using h0
 have e2 : (d.toList != []) = true := by simpa using h0
 have e3 : d.toList.isEmpty = false := by simpa using h0
 clear hp hd hG h0
 go_enter Tryz.func72, Tryz.ntmps72
 go_wp2_with (first | (go_at_call 70; (with_reducible refine (HV.out _ (zf HB.out _)).mono ?_); rintro e' w2 ⟨a, rfl, hA, hb⟩; have B2 := za.mk (zcb (zf HB.out _) hb); have HA := za.mk hA; have G2 := za.mk (zj G0.out hb); have f0 := zr G2.out 0; have f1 := zr G2.out 1; have y0 := zi G2.out 0; have y1 := zi G2.out 1; clear hb hA))
 (try simp only [Exit.inBlock, Exit.then])
 refine bodyPost_ret (zyc rfl _ _ w.heap.size 70 _ (0, 0) _ rfl (zv (zv G2.out 0 _ rfl) 1 _ rfl) Tryz.underlying70 rfl (by kernel_rfl)) rfl ?_
 exact ⟨a, rfl, (HA.out.kept (KeptT.set G2.out (by decide) 0 _)).kept (KeptT.set (zv G2.out 0 _ rfl) (by decide) 1 _), zx (zx B2.out (Nat.le_refl _)) (Nat.le_refl _)⟩
theorem letterN_ (w : World) :
  Calls Tryz.prog 72 #[.string ⟨#[]⟩, .string ⟨#[]⟩] w fun e w' => e = .returned (.tuple #[.agg #[.string ⟨#[]⟩, .pointer none], .nilIface]) ∧ Below w.heap.size w w' := by
 have HB := za.mk (Below.refl w.heap.size w)
 have G0 := za.mk (zrc w (.cells #[.string ⟨#[]⟩, .pointer none] 70))
 have f0 := zr G0.out 0
 have f1 := zr G0.out 1
 have y0 := zi G0.out 0
 have y1 := zi G0.out 1
 go_enter Tryz.func72, Tryz.ntmps72
 go_wp2
 (try simp only [Exit.inBlock, Exit.then])
 refine bodyPost_ret (zyc rfl _ _ w.heap.size 70 _ (0, 0) _ rfl G0.out Tryz.underlying70 rfl (by kernel_rfl)) rfl ?_
 exact ⟨rfl, zf HB.out _⟩
def letW (l d : ByteArray) : Option (Option (ByteArray × ByteArray)) := if l = ⟨#[]⟩ then (if d.toList = [] then (if d = ⟨#[]⟩ then some none else none) else if Plain d ∧ zic d then some (some (⟨#[112, 111, 115, 116]⟩, d)) else none) else
 ((wordsB.find? (fun p => decide (p.1 = l))).bind fun p => if Plain (or0 d) ∧ zic (or0 d) then some (some (p.2, or0 d)) else none)
def letN (o : Option (ByteArray × ByteArray)) : Option (ByteArray × Nat) := o.map fun p => (p.1, dv p.2 p.2.size)
theorem letter_ (w : World) (l d : ByteArray) (o : Option (ByteArray × ByteArray)) (h : letW l d = some o) (hG : GLe w) :
  Calls Tryz.prog 72 #[.string l, .string d] w fun e w' => ∃ pn, e = .returned (.tuple #[.agg #[.string (letB (letN o)), .pointer (oA pn)], .nilIface]) ∧ LtAt w' (letB (letN o)) pn (letN o) ∧ Below w.heap.size w w' := by
 unfold letW at h
 by_cases h1 : l = ⟨#[]⟩
 ·rw [if_pos h1] at h
  subst h1
  by_cases h2 : d.toList = []
  ·rw [if_pos h2] at h
   by_cases h3 : d = ⟨#[]⟩
   ·rw [if_pos h3] at h
    cases h
    subst h3
    refine (letterN_ w).mono ?_
    rintro e w' ⟨rfl, hb⟩
    exact ⟨none, rfl, rfl, hb⟩
   ·rw [if_neg h3] at h; cases h
  ·rw [if_neg h2] at h
   by_cases h3 : Plain d ∧ zic d
   ·rw [if_pos h3] at h
    cases h
    refine (letterH_ w d h2 h3.1 h3.2 hG).mono ?_
    rintro e w' ⟨a, rfl, k, hb⟩
    exact ⟨some a, rfl, ⟨a, rfl, rfl, k⟩, hb⟩
   ·rw [if_neg h3] at h; cases h
 ·rw [if_neg h1] at h
  obtain ⟨p, hf, h⟩ := Option.bind_eq_some_iff.mp h
  by_cases h3 : Plain (or0 d) ∧ zic (or0 d)
  ·rw [if_pos h3] at h
   cases h
   have e1 : p.1 = l := of_decide_eq_true (by simpa using List.find?_some hf)
   have e2 := List.mem_of_find?_eq_some hf
   refine (letterW_ w l p.2 d (by rw [← e1]; exact e2) h3.1 h3.2 hG).mono ?_
   rintro e w' ⟨a, rfl, k, hb⟩
   exact ⟨some a, rfl, ⟨a, rfl, rfl, k⟩, hb⟩
  ·rw [if_neg h3] at h; cases h
end Go.Proofs.YtlijjnjpomnphaaGreatDoorG
end
section
namespace Go.Proofs.YtlijjnjpomnphaaGreatDoorG
open Go.RowKit YtlijjnjpomnphaaGreatDoorH YtlijjnjpomnphaaGreatDoorB YtlijjnjpomnphaaGreatDoorC YtlijjnjpomnphaaGreatDoor.S YtlijjnjpomnphaaGreatDoorW.PrintWords YtlijjnjpomnphaaGreatDoorW.PrintLast
theorem zpe {α : Type} {d : Kd α} {e base : Nat} {w w' : World} {ok : Nat → Prop} {v : Value} {xs : List α} {p : TypeId → Bool} (hE : d.E = []) (hp : p e = true) (h : Kd.R d e w base ok v xs) (k : KeptT p w w') : Kd.R d e w' base ok v xs :=
 Kd.R_mono (Kd.R_move (Kd.R_bound h) (fun b hb => by
  obtain ⟨_, _, _, q, hq, cells, hc⟩ := hb
  rw [hE] at hq
  have : q = e := by simpa using hq
  subst this
  exact k b _ _ _ hc hp)) (fun _ hk => hk.1)
theorem KeptT.row {α : Type} {d : Kd α} {e base : Nat} {w w' : World} {ok : Nat → Prop} {v : Value} {xs : List α} {p : TypeId → Bool} (hp : p e = false) (h : Kd.R d e w base ok v xs) (k : w.grownBy w' v.ownBlock) : KeptT p w w' := fun b cs2 t2 fr2 hb hq => k.block b (by
 rcases Nat.lt_or_ge b w.heap.size with hl | hl
 ·exact hl
 ·rw [Array.getElem?_eq_none hl] at hb; cases hb) (fun e2 => by
 obtain ⟨cells, hc⟩ := Kd.R_typed h b e2.symm
 rw [hc] at hb
 cases hb
 rw [hp] at hq
 cases hq)
theorem KeptT.sub {p q : TypeId → Bool} {w w' : World} (h : KeptT q w w') (hpq : ∀ t, p t = true → q t = true) : KeptT p w w' := fun k cs t fr hk hp => h k cs t fr hk (hpq t hp)
theorem KeptT.blk {p : TypeId → Bool} {w w' : World} {g : Nat} {cs : Array Value} {t : TypeId} {fr : Nat × Nat} (h : KeptT p w w') (hg : w.heap[g]? = some (.cells cs t fr)) (hp : p t = true) : w'.heap[g]? = some (.cells cs t fr) := (h g cs t fr hg hp).trans hg
theorem zyf {p : TypeId → Bool} {w W : World} {g : Nat} {cs : Array Value} {t : TypeId} {fr : Nat × Nat} (hg : w.heap[g]? = some (.cells cs t fr)) (ht : p t = false) (h : ∀ b, b ≠ g → W.heap[b]? = w.heap[b]?) : KeptT p w W := fun b cs2 t2 fr2 hb hp => h b (fun e => by
 subst e
 rw [hg] at hb
 cases hb
 rw [ht] at hp
 cases hp)
def notV (t : TypeId) : Bool := t != 72
theorem zdf (t : TypeId) (h : numT t = true) : notV t = true := by
 unfold numT at h
 unfold notV
 rcases Bool.or_eq_true_iff.mp h with h | h
 ·rw [of_decide_eq_true h]; decide
 ·rw [of_decide_eq_true h]; decide
structure Stab (F : World → Prop) : Prop where
 bel : ∀ w w' : World, Below w.heap.size w w' → F w → F w'
 kept : ∀ w w' : World, KeptT notV w w' → F w → F w'
theorem Stab.and {F G : World → Prop} (hf : Stab F) (hg : Stab G) : Stab (fun w => F w ∧ G w) := ⟨fun w w' h k => ⟨hf.bel w w' h k.1, hg.bel w w' h k.2⟩, fun w w' h k => ⟨hf.kept w w' h k.1, hg.kept w w' h k.2⟩⟩
theorem Stab.big (a n : Nat) : Stab (fun w => BigAt w a n) := ⟨fun _ _ h k => k.below h, fun _ _ h k => k.kept (h.sub zdf)⟩
theorem BigM.kept {w w' : World} {a : Nat} (h : BigM w a) (k : KeptT numT w w') : BigM w' a := by
 obtain ⟨v, h1, h2⟩ := h
 refine ⟨v, h1.same (k a _ _ _ h1 (by decide)), ?_⟩
 rcases h2 with ⟨e1, e2⟩ | ⟨g, full, e1, e2, e3, e4⟩
 ·exact .inl ⟨e1, e2⟩
 ·exact .inr ⟨g, full, e1, e2, e3.same (k g _ _ _ e3 (by decide)), e4⟩
theorem Stab.letter (pl : ByteArray) (pn : Option Nat) (o : Option (ByteArray × Nat)) : Stab (fun w => LtAt w pl pn o) := ⟨fun _ _ h k => k.below h, fun _ _ h k => by
 cases o with
 | none => exact k
 | some p => obtain ⟨a, h1, h2, h3⟩ := k; exact ⟨a, h1, h2, h3.kept (h.sub zdf)⟩⟩
def OwnT (base : Nat) (v : Value) (l : List ByteArray) (w : World) : Prop := Kd.R Kd.string 9 w base (fun _ => True) v l
theorem OwnT.row {w : World} {base : Nat} {v : Value} {l : List ByteArray} (h : OwnT base v l w) (hl : l.length ≤ 1000000) : TRow w v l := by
 obtain ⟨A, c, rfl⟩ := Kd.R_slice h
 exact ⟨A, c, rfl, (Kd.R_reads' h).2.1, hl, (Kd.R_reads' h).2.2⟩
theorem Stab.texts (base : Nat) (v : Value) (l : List ByteArray) : Stab (OwnT base v l) := ⟨fun _ _ h k => Kd.R_below k h, fun _ _ h k => zpe (p := notV) rfl (by decide) k h⟩
def ptrs (l : List (Nat × Nat)) : List (List Value) := l.map fun x => [.pointer (some ⟨x.1, 0, none⟩)]
theorem zah (l : List (Nat × Nat)) : (ptrs l).length = l.length := by simp [ptrs]
theorem ptrs_snoc (l : List (Nat × Nat)) (x : Nat × Nat) : ptrs (l ++ [x]) = ptrs l ++ [[.pointer (some ⟨x.1, 0, none⟩)]] := by simp [ptrs]
def ROwn (base : Nat) (v : Value) (l : List (Nat × Nat)) (w : World) : Prop := Kd.R (Kd.raw 1) 66 w base (fun _ => True) v (ptrs l) ∧ ∀ x ∈ l, BigAt w x.1 x.2
theorem ROwn.row {w : World} {base : Nat} {v : Value} {l : List (Nat × Nat)} (h : ROwn base v l w) (hl : l.length ≤ 1000000) : RRow w v (l.map (·.2)) := by
  obtain ⟨hr, hx⟩ := h
  rcases Nat.eq_zero_or_pos l.length with h0 | h0
  · obtain ⟨A, c, e, _⟩ := Kd.R_reads hr
    rw [zah] at e
    exact ⟨A, c, by rw [List.length_map]; exact e, by rw [List.length_map]; exact hl, fun i x hi => by rw [List.eq_nil_of_length_eq_zero h0] at hi; simp at hi⟩
  · obtain ⟨g, cap, e, _⟩ := Kd.R_form hr (by rw [zah]; exact h0)
    subst e
    refine ⟨some ⟨g, 0, none⟩, cap, by rw [zah, List.length_map], by rw [List.length_map]; exact hl, fun i n hi => ?_⟩
    rw [List.getElem?_map] at hi
    obtain ⟨x, hx1, rfl⟩ := Option.map_eq_some_iff.mp hi
    have hil : i < l.length := (List.getElem?_eq_some_iff.1 hx1).1
    obtain ⟨c, hc1, hM, hcc, _⟩ := Kd.R_elem hr [] (i : Int) (by omega) (by rw [zah]; omega)
    have hgd : (ptrs l).getD (i : Int).toNat [] = [.pointer (some ⟨x.1, 0, none⟩)] := by
      rw [List.getD_eq_getElem?_getD]
      unfold ptrs
      rw [List.getElem?_map, show ((i : Int).toNat) = i by omega, hx1]
      rfl
    rw [hgd] at hM
    obtain ⟨rfl, _⟩ := hM
    have h0' := hcc 0 _ rfl
    rw [show (i : Int).toNat * (Kd.raw 1).sz + 0 = i by show (i : Int).toNat * 1 + 0 = i; omega] at h0'
    exact ⟨g, x.1, rfl, h0', hx x (List.mem_of_getElem? hx1)⟩
theorem Stab.rel (base : Nat) (v : Value) (l : List (Nat × Nat)) : Stab (ROwn base v l) := ⟨fun _ _ h k => ⟨Kd.R_below k.1 h, fun x hx => (k.2 x hx).below h⟩, fun _ _ h k => ⟨zpe (p := notV) rfl (by decide) k.1 h, fun x hx => (k.2 x hx).kept (h.sub zdf)⟩⟩
structure PInv (w wr : World) (g2 g4 g5 : Nat) (M C : Array Value) (F : World → Prop) : Prop where
 b2 : wr.heap[g2]? = some (.cells #[.pointer none, .slice none 0 0, .string ⟨#[]⟩, .pointer none, .string ⟨#[]⟩, .pointer none, .string ⟨#[]⟩, .pointer none, .slice none 0 0, .slice none 0 0] 72 (0, 0))
 b4 : wr.heap[g4]? = some (.cells M 104 (0, 0))
 b5 : wr.heap[g5]? = some (.cells C 72 (0, 0))
 below : Below w.heap.size w wr
 st : Stab F
 f : F wr
section
variable {w wr : World} {g2 g4 g5 : Nat} {M C : Array Value} {F : World → Prop}
theorem PInv.to (H : PInv w wr g2 g4 g5 M C F) {w' : World} (k : Below wr.heap.size wr w') : PInv w w' g2 g4 g5 M C F := ⟨zj H.b2 k, zj H.b4 k, zj H.b5 k, zq H.below H.below.size k, H.st, H.st.bel _ _ k H.f⟩
theorem PInv.put (H : PInv w wr g2 g4 g5 M C F) (hg : w.heap.size ≤ g5) (h2 : g2 ≠ g5) (h4 : g4 ≠ g5) (j : Nat) (v : Value) : PInv w (wr.setCell ⟨g5, j, none⟩ v) g2 g4 g5 M (C.setIfInBounds j v) F :=
 ⟨zlc H.b2 (p := ⟨g5, j, none⟩) (fun e => h2 e) v, zlc H.b4 (p := ⟨g5, j, none⟩) (fun e => h4 e) v, zv H.b5 j v rfl, H.below.setCell (p := ⟨g5, j, none⟩) hg v, H.st, H.st.kept _ _ (KeptT.set H.b5 (by decide) j v) H.f⟩
theorem PInv.add (H : PInv w wr g2 g4 g5 M C F) {G : World → Prop} (hs : Stab G) (hg : G wr) : PInv w wr g2 g4 g5 M C (fun w => F w ∧ G w) := ⟨H.b2, H.b4, H.b5, H.below, H.st.and hs, H.f, hg⟩
end
end Go.Proofs.YtlijjnjpomnphaaGreatDoorG
end
section
namespace Go.Proofs.YtlijjnjpomnphaaGreatDoorG
open Go.RowKit YtlijjnjpomnphaaGreatDoorH YtlijjnjpomnphaaGreatDoorB YtlijjnjpomnphaaGreatDoorC YtlijjnjpomnphaaGreatDoor.S YtlijjnjpomnphaaGreatDoorW.PrintWords YtlijjnjpomnphaaGreatDoorW.PrintLast
theorem zth {P : Program} {fn : Func} {p : Tmp} {ty : TypeId} (h : fn.results = #[.cell p ty]) (tmps : Array Value) (w : World) (g : Nat) (t : TypeId) (cs : Array Value) (fr : Nat × Nat) (d : TypeDesc)
    (hp : tmps.getD p undef = .pointer (some ⟨g, 0, none⟩)) (hg : w.heap[g]? = some (.cells cs t fr))
    (hu : P.underlying ty = some d) (hd : (match d with | .struct _ | .array _ _ => true | _ => false) = true) (hi : (P.info? ty).map (·.size) = some cs.size) :
    (results fn tmps).run P w = .ok (.agg cs) w := results_cell_row h tmps w g t cs fr d hp hg hu hd hi
def PVAt (w : World) (v : Value) (x : YV) : Prop := ∃ (e1 : Nat) (r1 l1 g1 : Value) (pn1 qn1 dn1 : Option Nat) (ns : List (Nat × Nat)), v = .agg #[.pointer (some ⟨e1, 0, none⟩), r1, .string (letB x.pre), .pointer (oA pn1), .string (letB x.post), .pointer (oA qn1), .string (letB x.dev), .pointer (oA dn1), l1, g1] ∧
  ((x.leg = [] → BigAt w e1 x.ep) ∧ (x.leg ≠ [] → BigM w e1)) ∧ (ROwn 0 r1 ns w ∧ ns.map (·.2) = x.rel ∧ ns.length ≤ 1000000) ∧ (LtAt w (letB x.pre) pn1 x.pre ∧ LtAt w (letB x.post) qn1 x.post ∧ LtAt w (letB x.dev) dn1 x.dev) ∧ (OwnT 0 l1 x.loc w ∧ x.loc.length ≤ 1000000) ∧ OwnT 0 g1 x.leg w ∧ x.leg.length ≤ 1000000
theorem PVAt.below {w w' : World} {v : Value} {x : YV} (h : PVAt w v x) (hb : Below w.heap.size w w') : PVAt w' v x := by
 obtain ⟨e1, r1, l1, g1, pn1, qn1, dn1, ns, rfl, ⟨h1, h2⟩, ⟨h3, h4⟩, ⟨h5, h6, h7⟩, ⟨h8, h9⟩, h10, h11⟩ := h
 exact ⟨e1, r1, l1, g1, pn1, qn1, dn1, ns, rfl, ⟨fun e => (h1 e).below hb, fun e => (h2 e).below hb⟩, ⟨(Stab.rel _ _ _).bel _ _ hb h3, h4⟩, ⟨h5.below hb, h6.below hb, h7.below hb⟩, ⟨(Stab.texts _ _ _).bel _ _ hb h8, h9⟩, (Stab.texts _ _ _).bel _ _ hb h10, h11⟩
theorem PVAt.kept {w w' : World} {v : Value} {x : YV} (h : PVAt w v x) (hb : KeptT notV w w') : PVAt w' v x := by
 obtain ⟨e1, r1, l1, g1, pn1, qn1, dn1, ns, rfl, ⟨h1, h2⟩, ⟨h3, h4⟩, ⟨h5, h6, h7⟩, ⟨h8, h9⟩, h10, h11⟩ := h
 exact ⟨e1, r1, l1, g1, pn1, qn1, dn1, ns, rfl, ⟨fun e => (h1 e).kept (hb.sub zdf), fun e => (h2 e).kept (hb.sub zdf)⟩, ⟨(Stab.rel _ _ _).kept _ _ hb h3, h4⟩, ⟨(Stab.letter _ _ _).kept _ _ hb h5, (Stab.letter _ _ _).kept _ _ hb h6, (Stab.letter _ _ _).kept _ _ hb h7⟩, ⟨(Stab.texts _ _ _).kept _ _ hb h8, h9⟩, (Stab.texts _ _ _).kept _ _ hb h10, h11⟩
theorem PVAt.form {w : World} {v : Value} {x : YV} (h : PVAt w v x) : ∃ (e1 : Nat) (A1 A2 A3 : Option Addr) (n1 c1 c2 c3 : Nat) (pn1 qn1 dn1 : Option Nat), v = .agg #[.pointer (some ⟨e1, 0, none⟩), .slice A1 n1 c1, .string (letB x.pre), .pointer (oA pn1), .string (letB x.post), .pointer (oA qn1), .string (letB x.dev), .pointer (oA dn1), .slice A2 x.loc.length c2, .slice A3 x.leg.length c3] := by
 obtain ⟨e1, r1, l1, g1, pn1, qn1, dn1, ns, rfl, _, ⟨h3, _⟩, _, ⟨h8, _⟩, h10, _⟩ := h
 obtain ⟨A1, c1, rfl⟩ := Kd.R_slice h3.1
 obtain ⟨A2, c2, rfl⟩ := Kd.R_slice h8
 obtain ⟨A3, c3, rfl⟩ := Kd.R_slice h10
 exact ⟨e1, A1, A2, A3, _, c1, c2, c3, pn1, qn1, dn1, rfl⟩
theorem PVAt.yv {w : World} {v : Value} {x : YV} (h : PVAt w v x) : YVAt w v x := by
 obtain ⟨e1, r1, l1, g1, pn1, qn1, dn1, ns, rfl, ⟨h1, h2⟩, ⟨h3, h4, h12⟩, ⟨h5, h6, h7⟩, ⟨h8, h9⟩, h10, h11⟩ := h
 exact ⟨⟨e1, r1, l1, g1, _, _, _, pn1, qn1, dn1, rfl, h1, h2, by rw [← h4]; exact h3.row h12, h5, h6, h7, h8.row h9, h10.row h11⟩⟩
theorem legacyV_ (w : World) (s : ByteArray) (k : Nat) (l : List ByteArray) (h : zc.f k s = some l) (hl : l.length ≤ 1000000) (h0 : l ≠ []) :
  Calls Tryz.prog 68 #[.string s] w fun e w' => ∃ v, e = .returned v ∧ PVAt w' v ⟨0, [], none, none, none, [], l⟩ ∧ Below w.heap.size w w' := by
 have HB := za.mk (Below.refl w.heap.size w)
 have G0 := za.mk (zrc w (.cells #[.pointer none, .slice none 0 0, .string ⟨#[]⟩, .pointer none, .string ⟨#[]⟩, .pointer none, .string ⟨#[]⟩, .pointer none, .slice none 0 0, .slice none 0 0] 72))
 have HP := za.mk (fun W : World => zc.calls k s l W h)
 have HL := za.mk (And.intro hl h0)
 clear h hl h0
 go_enter Tryz.func68, Tryz.ntmps68
 go_wp2_with (first | (go_at_call 91; (with_reducible refine (HP.out _).mono ?_); rintro e' w1 ⟨v1, rfl, ho, hb⟩; obtain ⟨A1, c1, rfl⟩ := Kd.R_slice ho; have O1 := za.mk ho; have B1 := za.mk (zcb (zf HB.out _) hb); have G1 := za.mk (zj G0.out hb); clear ho hb) | (go_at_call 69; (with_reducible refine (newInt_m1 _).mono ?_); rintro e' w2 ⟨a, rfl, hm, hb⟩; have M2 := za.mk hm; have B2 := za.mk (zcb B1.out hb); have O2 := za.mk (Kd.R_below O1.out hb); have G2 := za.mk (zj G1.out hb); have fz := fun j : Nat => zr G2.out j; have yz := fun j : Nat => zi G2.out j; clear hm hb O1))
 (try simp only [Exit.inBlock, Exit.then])
 refine bodyPost_ret (zth rfl _ _ w.heap.size 72 _ (0, 0) _ rfl (put10 G2.out) Tryz.underlying72 rfl (by kernel_rfl)) rfl ?_
 have hK := fun (W : World) (h : ∀ b, b ≠ w.heap.size → W.heap[b]? = w2.heap[b]?) => zyf (p := notV) (W := W) G2.out (by decide) h
 refine ⟨_, rfl, ⟨a, .slice none 0 0, .slice none 0 0, .slice A1 l.length c1, none, none, none, [], rfl, ⟨fun e => absurd e HL.out.2, fun _ => M2.out.kept ((hK _ (fun b h => by repeat rw [Below.heap_setCell _ _ _ _ h])).sub zdf)⟩, ⟨⟨Kd.R_nil _ _ _ _ _, fun x hx => by simp at hx⟩, rfl, by simp⟩, ⟨rfl, rfl, rfl⟩, ⟨Kd.R_nil _ _ _ _ _, by simp⟩, ?_, HL.out.1⟩, ?_⟩
 ·exact Kd.R_lower ((Stab.texts _ _ _).kept _ _ (hK _ (fun b h => by repeat rw [Below.heap_setCell _ _ _ _ h])) O2.out) (Nat.zero_le _)
 ·have b5 := B2.out
  repeat (first | (with_reducible exact b5) | refine zx ?_ (Nat.le_refl _))
end Go.Proofs.YtlijjnjpomnphaaGreatDoorG
end
section
namespace Go.Proofs.YtlijjnjpomnphaaGreatDoorG
open Go.RowKit YtlijjnjpomnphaaGreatDoorH YtlijjnjpomnphaaGreatDoorB YtlijjnjpomnphaaGreatDoorC YtlijjnjpomnphaaGreatDoor.S YtlijjnjpomnphaaGreatDoorW.PrintWords YtlijjnjpomnphaaGreatDoorW.PrintLast
structure YD where
 ep : ByteArray
 rel : List ByteArray
 pre : Option (ByteArray × ByteArray)
 post : Option (ByteArray × ByteArray)
 dev : Option (ByteArray × ByteArray)
 loc : List ByteArray
 leg : List ByteArray
def dvB (s : ByteArray) : Nat := dv s s.size
def YD.num (x : YD) : YV := ⟨dvB x.ep, x.rel.map dvB, letN x.pre, letN x.post, letN x.dev, x.loc, x.leg⟩
def NumOk (s : ByteArray) : Prop := Plain s ∧ zic s
instance (s : ByteArray) : Decidable (NumOk s) := inferInstanceAs (Decidable (_ ∧ _))
def legY (k : Nat) (s : ByteArray) : Option YD := (zc.f k s).bind fun l => if l.length ≤ 1000000 ∧ l ≠ [] then some ⟨⟨#[]⟩, [], none, none, none, [], l⟩ else none
def numY (k : Nat) (ep rel prel pren postn1 postn2 postl devl devn loc : ByteArray) : Option YD := if ep.toList = [] ∨ NumOk ep then
 (zhb.f k rel ⟨#[46]⟩).bind fun rs => if rs.length ≤ 1000000 ∧ ∀ d ∈ rs, NumOk d then
  (letW prel pren).bind fun pre => (letW postl (if postn1.toList = [] then postn2 else postn1)).bind fun post => (letW devl devn).bind fun dev => (zw.f k loc).bind fun ls => if ls.length ≤ 1000000 then
   some ⟨if ep.toList = [] then ⟨#[]⟩ else ep, rs, pre, post, dev, ls, []⟩ else none else none else none
def parseY (k : Nat) (s : ByteArray) : Option YD := (zqb.f s).bind fun t => (zb.f k t).bind fun m => if m.1 = true then numY k m.2.1 m.2.2.1 m.2.2.2.1 m.2.2.2.2.1 m.2.2.2.2.2.1 m.2.2.2.2.2.2.1 m.2.2.2.2.2.2.2.1 m.2.2.2.2.2.2.2.2.1 m.2.2.2.2.2.2.2.2.2.1 m.2.2.2.2.2.2.2.2.2.2 else legY k t
theorem numY_inv {k : Nat} {ep rel prel pren postn1 postn2 postl devl devn loc : ByteArray} {x : YD} (h : numY k ep rel prel pren postn1 postn2 postl devl devn loc = some x) :
  (ep.toList = [] ∨ NumOk ep) ∧ zhb.f k rel ⟨#[46]⟩ = some x.rel ∧ x.rel.length ≤ 1000000 ∧ (∀ d ∈ x.rel, NumOk d) ∧ letW prel pren = some x.pre ∧ letW postl (if postn1.toList = [] then postn2 else postn1) = some x.post ∧ letW devl devn = some x.dev ∧
   zw.f k loc = some x.loc ∧ x.loc.length ≤ 1000000 ∧ x.ep = (if ep.toList = [] then ⟨#[]⟩ else ep) ∧ x.leg = [] := by
 unfold numY at h
 by_cases h1 : ep.toList = [] ∨ NumOk ep
 ·rw [if_pos h1] at h
  obtain ⟨rs, h2, h⟩ := Option.bind_eq_some_iff.mp h
  by_cases h3 : rs.length ≤ 1000000 ∧ ∀ d ∈ rs, NumOk d
  ·rw [if_pos h3] at h
   obtain ⟨p, h4, h⟩ := Option.bind_eq_some_iff.mp h
   obtain ⟨q, h5, h⟩ := Option.bind_eq_some_iff.mp h
   obtain ⟨d, h6, h⟩ := Option.bind_eq_some_iff.mp h
   obtain ⟨ls, h7, h⟩ := Option.bind_eq_some_iff.mp h
   by_cases h8 : ls.length ≤ 1000000
   ·rw [if_pos h8] at h
    cases h
    exact ⟨h1, h2, h3.1, h3.2, h4, h5, h6, h7, h8, rfl, rfl⟩
   ·rw [if_neg h8] at h; cases h
  ·rw [if_neg h3] at h; cases h
 ·rw [if_neg h1] at h; cases h
theorem parseL_ (w : World) (s t : ByteArray) (k : Nat) (l : List ByteArray) (m2 m3 m4 m5 m6 m7 m8 m9 m10 m11 : ByteArray) (h1 : zqb.f s = some t) (h2 : zb.f k t = some (false, m2, m3, m4, m5, m6, m7, m8, m9, m10, m11)) (h3 : zc.f k t = some l) (hl : l.length ≤ 1000000) (h0 : l ≠ []) :
  Calls Tryz.prog 39 #[.string s] w fun e w' => ∃ v, e = .returned (.tuple #[v, .nilIface]) ∧ PVAt w' v ⟨0, [], none, none, none, [], l⟩ ∧ Below w.heap.size w w' := by
 have HB := za.mk (Below.refl w.heap.size w)
 have G0 := za.mk (zrc w (.cells #[.pointer none, .slice none 0 0, .string ⟨#[]⟩, .pointer none, .string ⟨#[]⟩, .pointer none, .string ⟨#[]⟩, .pointer none, .slice none 0 0, .slice none 0 0] 72))
 have HT := za.mk (fun W : World => zqb.calls s t W h1)
 have HM := za.mk (fun W : World => zb.calls k t _ _ _ _ _ _ _ _ _ _ _ W h2)
 have HL := za.mk (fun W : World => legacyV_ W t k l h3 hl h0)
 clear h1 h2 h3 hl h0
 go_enter Tryz.func39, Tryz.ntmps39
 go_wp2_with (first | (go_at_call 66; (with_reducible refine (HT.out _).mono ?_); rintro e' w1 ⟨rfl, hb⟩; have B1 := za.mk (zcb (zf HB.out _) hb); have G1 := za.mk (zj G0.out hb); clear hb) | (go_at_call 67; (with_reducible refine (HM.out _).mono ?_); rintro e' w2 ⟨rfl, hb⟩; have B2 := za.mk (zcb B1.out hb); have G2 := za.mk (zj G1.out hb); have yz := fun j : Nat => zi (zrc w2 (.cells #[.bool false, .string m2, .string m3, .string m4, .string m5, .string m6, .string m7, .string m8, .string m9, .string m10, .string m11] 104)) j; clear hb) | (go_at_call 68; (with_reducible refine (HL.out _).mono ?_); rintro e' w3 ⟨v, rfl, hv, hb⟩; have HV := za.mk hv; obtain ⟨e1, A1, A2, A3, n1, c1, c2, c3, pn1, qn1, dn1, hve⟩ := hv.form; subst hve; have B3 := za.mk (zcb (zf B2.out _) hb); have G3 := za.mk (zj (zab G2.out _) hb); have fz := fun j : Nat => zr G3.out j; have yw := fun j : Nat => zi G3.out j; clear hb hv yz))
 (try simp only [Exit.inBlock, Exit.then])
 refine bodyPost_ret (zyc rfl _ _ w.heap.size 72 _ (0, 0) _ rfl (put10 G3.out) Tryz.underlying72 rfl (by kernel_rfl)) rfl ?_
 refine ⟨_, rfl, HV.out.kept (zyf G3.out (by decide) (fun b h => by repeat rw [Below.heap_setCell _ _ _ _ h])), ?_⟩
 have b5 := B3.out
 repeat (first | (with_reducible exact b5) | refine zx ?_ (Nat.le_refl _))
theorem infoPI : (Tryz.prog.info? 66).map (fun i => (i.zero, i.size, i.bytes)) = some (some (.pointer none), 1, 8) := by kernel_rfl
def notP (t : TypeId) : Bool := t != 66
theorem PInv.append {w wr w7 : World} {g2 g4 g5 : Nat} {M C : Array Value} {F : World → Prop} {rv v1 : Value} {ns : List (Nat × Nat)} {a n : Nat} (H : PInv w wr g2 g4 g5 M C (fun W => F W ∧ ROwn w.heap.size rv ns W)) (hS : Stab F) (hF : ∀ W W', KeptT notP W W' → F W → F W')
  (ho : Kd.R (Kd.raw 1) 66 w7 w.heap.size (fun _ => True) v1 (ptrs ns ++ [[.pointer (some ⟨a, 0, none⟩)]])) (hg : wr.grownBy w7 rv.ownBlock) (hA : BigAt wr a n) :
  PInv w w7 g2 g4 g5 M C (fun W => F W ∧ ROwn w.heap.size v1 (ns ++ [(a, n)]) W) := by
 have K : KeptT notP wr w7 := KeptT.row (by decide) H.f.2.1 hg
 have KN : KeptT numT wr w7 := K.sub (fun t ht => by
  unfold numT at ht
  rcases Bool.or_eq_true_iff.mp ht with h | h
  ·rw [of_decide_eq_true h]; decide
  ·rw [of_decide_eq_true h]; decide)
 refine ⟨K.blk H.b2 (by decide), K.blk H.b4 (by decide), K.blk H.b5 (by decide), H.below.grown hg H.below.size (fun b e => Kd.R_base H.f.2.1 b e), hS.and (Stab.rel _ _ _), hF _ _ K H.f.1, ?_, fun x hx => ?_⟩
 ·rw [ptrs_snoc]; exact ho
 ·rcases List.mem_append.mp hx with hx | hx
  ·exact (H.f.2.2 x hx).kept KN
  ·have e := List.mem_singleton.1 hx; subst e; exact hA.kept KN
theorem BigAt.notP {W W' : World} {a n : Nat} (K : KeptT notP W W') (h : BigAt W a n) : BigAt W' a n := h.kept (K.sub (fun t ht => by
 unfold numT at ht
 rcases Bool.or_eq_true_iff.mp ht with h | h
 ·rw [of_decide_eq_true h]; decide
 ·rw [of_decide_eq_true h]; decide))
theorem OwnT.notP {W W' : World} {b : Nat} {v : Value} {l : List ByteArray} (K : KeptT notP W W') (h : OwnT b v l W) : OwnT b v l W' := zpe (p := Go.Proofs.YtlijjnjpomnphaaGreatDoorG.notP) rfl (by decide) h K
theorem parseN_ (w : World) (s t : ByteArray) (k : Nat) (x : YD) (m2 m3 m4 m5 m6 m7 m8 m9 m10 m11 : ByteArray) (h1 : zqb.f s = some t) (h2 : zb.f k t = some (true, m2, m3, m4, m5, m6, m7, m8, m9, m10, m11)) (h3 : numY k m2 m3 m4 m5 m6 m7 m8 m9 m10 m11 = some x) (hG : GLe w) :
    Calls Tryz.prog 39 #[.string s] w fun e w' => ∃ v, e = .returned (.tuple #[v, .nilIface]) ∧ PVAt w' v x.num ∧ Below w.heap.size w w' := by
  obtain ⟨i1, i2, i3, i4, i5, i6, i7, i8, i9, i10, i11⟩ := numY_inv h3
  have HB := za.mk (Below.refl w.heap.size w)
  have G0 := za.mk (zrc w (.cells #[.pointer none, .slice none 0 0, .string ⟨#[]⟩, .pointer none, .string ⟨#[]⟩, .pointer none, .string ⟨#[]⟩, .pointer none, .slice none 0 0, .slice none 0 0] 72))
  have HT := za.mk (fun W : World => zqb.calls s t W h1)
  have HM := za.mk (fun W : World => zb.calls k t _ _ _ _ _ _ _ _ _ _ _ W h2)
  have HSP := za.mk (fun W : World => zhb.calls k m3 ⟨#[46]⟩ x.rel W i2)
  have HLO := za.mk (fun W : World => zw.calls k m11 x.loc W i8)
  have HL1 := za.mk (fun (W : World) (hb : Below w.heap.size w W) => letter_ W m4 m5 x.pre i5 (hG.lt hb))
  have HL3 := za.mk (fun (W : World) (hb : Below w.heap.size w W) => letter_ W m9 m10 x.dev i7 (hG.lt hb))
  have HX := za.mk (And.intro i3 (And.intro i4 (And.intro i9 (And.intro i10 i11))))
  have HGL := za.mk hG
  obtain ⟨M, hM⟩ : ∃ M : Array Value, M = #[.bool true, .string m2, .string m3, .string m4, .string m5, .string m6, .string m7, .string m8, .string m9, .string m10, .string m11] := ⟨_, rfl⟩
  have HMM := za.mk hM
  obtain ⟨m67, hm67⟩ : ∃ m67, m67 = (if m6.toList = [] then m7 else m6) := ⟨_, rfl⟩
  rw [← hm67] at i6
  have HM67 := za.mk hm67
  have HL2 := za.mk (fun (W : World) (hb : Below w.heap.size w W) => letter_ W m8 m67 x.post i6 (hG.lt hb))
  clear hm67
  clear h1 h2 h3 i2 i3 i4 i5 i6 i7 i8 i9 i10 i11 hG hM
  go_enter Tryz.func39, Tryz.ntmps39
  go_upto_if 32 with (first | (go_at_call 66; (with_reducible refine (HT.out _).mono ?_); rintro e' w1 ⟨rfl, hb⟩; have B1 := za.mk (zcb (zf HB.out _) hb); have G1 := za.mk (zj G0.out hb); clear hb) | (go_at_call 67; (with_reducible refine (HM.out _).mono ?_); rintro e' w2 ⟨rfl, hb⟩; have B2 := za.mk (zcb B1.out hb); have G2 := za.mk (zj G1.out hb); have yz := fun j : Nat => zi (zrc w2 (.cells #[.bool true, .string m2, .string m3, .string m4, .string m5, .string m6, .string m7, .string m8, .string m9, .string m10, .string m11] 104)) j; clear hb) | (go_at_call 69; go_loud ((with_reducible refine (newInt_zero _).mono ?_); rintro e' w3 ⟨rfl, hz, hb⟩; rw [zpc, zpc] at hz; have b5_ := zrc (w2.alloc (.cells #[.bool true, .string m2, .string m3, .string m4, .string m5, .string m6, .string m7, .string m8, .string m9, .string m10, .string m11] 104)) (.cells #[.pointer none, .slice none 0 0, .string ⟨#[]⟩, .pointer none, .string ⟨#[]⟩, .pointer none, .string ⟨#[]⟩, .pointer none, .slice none 0 0, .slice none 0 0] 72); rw [zpc] at b5_; have I3 : za (PInv w w3 w.heap.size w2.heap.size (w2.heap.size + 1) M #[.pointer none, .slice none 0 0, .string ⟨#[]⟩, .pointer none, .string ⟨#[]⟩, .pointer none, .string ⟨#[]⟩, .pointer none, .slice none 0 0, .slice none 0 0] (fun W => BigAt W (w2.heap.size + 1 + 1) 0)) := ⟨⟨zj (zab (zab G2.out _) _) hb, by rw [HMM.out]; exact zj (zab (zrc w2 _) _) hb, zj b5_ hb, zcb (zf (zf B2.out _) _) hb, Stab.big _ _, hz⟩⟩; have yc0 := (zi I3.out.b5 0).trans rfl; have yf0 := zr I3.out.b5 0; have ym1 := (zi (I3.out.put (by have := B2.out.size; omega) (by have := B2.out.size; omega) (by omega) 0 (.pointer (some ⟨w2.heap.size + 1 + 1, 0, none⟩))).b4 1).trans (by rw [HMM.out]; rfl : M[1]? = some (.string m2)); clear hz hb b5_ yz)))
  have I4 := za.mk (I3.out.put (by have := B2.out.size; omega) (by have := B2.out.size; omega) (by omega) 0 (.pointer (some ⟨w2.heap.size + 1 + 1, 0, none⟩)))
  have HPW := za.mk (Nat.le_trans B2.out.size (Nat.le_refl _) : w.heap.size ≤ w2.heap.size)
  clear I3 G0 G1 G2 HB B1
  go_cut [3] (fun v3 wc => v3 = .nilIface ∧ ∃ e0 : Nat, za (PInv w wc w.heap.size w2.heap.size (w2.heap.size + 1) M #[.pointer (some ⟨e0, 0, none⟩), .slice none 0 0, .string ⟨#[]⟩, .pointer none, .string ⟨#[]⟩, .pointer none, .string ⟨#[]⟩, .pointer none, .slice none 0 0, .slice none 0 0] (fun W => BigAt W e0 (dvB x.ep))))
  case first =>
    by_cases he : m2.toList = []
    · have e1 : (m2.toList == []) = true := by simpa using he
      have e2 : (m2.toList != []) = false := by simpa using he
      have e3 : m2.toList.isEmpty = true := by simpa using he
      have HE : dvB x.ep = 0 := by rw [HX.out.2.2.2.1, if_pos he]; rfl
      clear he i1
      simp only [e3, Bool.not_true, Bool.not_false]
      go_wp2
      go_meet
      exact ⟨rfl, _, ⟨by rw [HE]; exact I4.out⟩⟩
    · have e1 : (m2.toList == []) = false := by simpa using he
      have e2 : (m2.toList != []) = true := by simpa using he
      have e3 : m2.toList.isEmpty = false := by simpa using he
      have HN : za (Plain m2 ∧ zic m2) := ⟨i1.resolve_left he⟩
      have HE : za (x.ep = m2) := ⟨by rw [HX.out.2.2.2.1, if_neg he]⟩
      clear he i1
      simp only [e3, Bool.not_true, Bool.not_false]
      go_wp2_with (first | (go_at_call 70; (with_reducible refine (zie _ m2 HN.out.1 (HGL.out.lt I4.out.below) HN.out.2).mono ?_); rintro e' w4 ⟨a, rfl, hA, hb⟩; have I5 := za.mk (I4.out.to hb); have HA := za.mk hA; have yc0 := (zi I5.out.b5 0).trans rfl; have yf0 := zr I5.out.b5 0; clear hb hA))
      go_meet
      have I6 := I5.out.put (by have := B2.out.size; omega) (by have := B2.out.size; omega) (by omega) 0 (.pointer (some ⟨a, 0, none⟩))
      exact ⟨rfl, a, ⟨⟨I6.b2, I6.b4, I6.b5, I6.below, Stab.big _ _, by rw [HE.out]; exact (Stab.big _ _).kept _ _ (KeptT.set I5.out.b5 (by decide) 0 _) HA.out⟩⟩⟩
  case rest =>
    clear I4 i1
    obtain ⟨rfl, e0, I4⟩ := hcut
    have ym2 := (zi I4.out.b4 2).trans (by rw [HMM.out]; rfl : M[2]? = some (.string m3))
    go_wp2_with (first | (go_at_call 71; (with_reducible refine (HSP.out _).mono ?_); rintro e' w5 ⟨sp, rfl, hr, hb⟩; obtain ⟨A, cap, rfl⟩ := Kd.R_slice hr; have I5 := za.mk ((I4.out.to hb).add (Stab.texts _ _ _) hr); clear hb hr))
    clear I4 ym2
    obtain ⟨b0, hb0⟩ : ∃ b0, b0 = wc.heap.size := ⟨_, rfl⟩
    rw [← hb0] at I5
    clear hb0
    have I6 : za (PInv w w5 w.heap.size w2.heap.size (w2.heap.size + 1) M #[.pointer (some ⟨e0, 0, none⟩), .slice none 0 0, .string ⟨#[]⟩, .pointer none, .string ⟨#[]⟩, .pointer none, .string ⟨#[]⟩, .pointer none, .slice none 0 0, .slice none 0 0] (fun W => (BigAt W e0 (dvB x.ep) ∧ OwnT b0 (.slice A x.rel.length cap) x.rel W) ∧ ROwn w.heap.size (.slice none 0 0) [] W)) := ⟨I5.out.add (Stab.rel _ _ _) ⟨Kd.R_nil _ _ _ _ _, fun x hx => by simp at hx⟩⟩
    clear I5
    go_loopw [3, 48] (fun v3 iv wr => v3 = .nilIface ∧ ∃ (i : Nat) (rv : Value) (ns : List (Nat × Nat)), i ≤ x.rel.length ∧ iv = .int .i64 (i : Int) ∧ za (ns.map (·.2) = (x.rel.take i).map dvB) ∧ za (PInv w wr w.heap.size w2.heap.size (w2.heap.size + 1) M #[.pointer (some ⟨e0, 0, none⟩), rv, .string ⟨#[]⟩, .pointer none, .string ⟨#[]⟩, .pointer none, .string ⟨#[]⟩, .pointer none, .slice none 0 0, .slice none 0 0] (fun W => (BigAt W e0 (dvB x.ep) ∧ OwnT b0 (.slice A x.rel.length cap) x.rel W) ∧ ROwn w.heap.size rv ns W))) (fun _ iv _ => x.rel.length - (intOf iv).toNat)
    case atStart => exact ⟨rfl, 0, _, [], Nat.zero_le _, rfl, ⟨rfl⟩, I6⟩
    case round =>
      obtain ⟨rfl, i, rv, ns, hi, rfl, hns, HI⟩ := hrel
      clear I6
      by_cases hlt : i < x.rel.length
      · have i3 : decide ((i : Int) < (x.rel.length : Int)) = true := decide_eq_true (by omega)
        have i4 : ((i : Int) < (x.rel.length : Int)) = True := eq_true (by omega)
        have i5 : (0 ≤ (i : Int)) = True := eq_true (by omega)
        have WR : wrap64 ((i : Int) + 1) = ((i + 1 : Nat) : Int) := by have := HX.out.1; unfold wrap64; omega
        have LT := za.mk hlt
        obtain ⟨d, hd⟩ : ∃ d, x.rel[i]? = some d := ⟨_, List.getElem?_eq_getElem (by omega)⟩
        have HD : za (Plain d ∧ zic d) := ⟨HX.out.2.1 d (List.mem_of_getElem? hd)⟩
        have HNL : za (ns.length ≤ 1000000) := ⟨by have q1 := congrArg List.length hns.out; have q2 := HX.out.1; rw [List.length_map, List.length_map, List.length_take] at q1; omega⟩
        have HN1 : za (ns.map (·.2) ++ [dvB d] = (x.rel.take (i + 1)).map dvB) := ⟨by rw [hns.out, List.take_add_one, hd, List.map_append]; rfl⟩
        have HOT : Kd.R Kd.string 9 wr b0 (fun _ => True) (.slice A x.rel.length cap) x.rel := HI.out.f.1.2
        obtain ⟨b, cap2, hsl, _⟩ := Kd.R_form HOT (by omega)
        have y0 : wr.cell? ⟨b, i, none⟩ = some (.string d) := by
          rw [hsl] at HOT
          obtain ⟨c, hc1, hM, hcc, _⟩ := Kd.R_elem HOT ByteArray.empty (i : Int) (by omega) (by omega)
          have hgd : x.rel.getD (i : Int).toNat ByteArray.empty = d := by
            rw [List.getD_eq_getElem?_getD, show ((i : Int).toNat) = i by omega, hd]; rfl
          rw [hgd] at hM
          have hM2 : c = [.string d] := hM
          have := hcc 0 (.string d) (by rw [hM2]; rfl)
          rw [show (i : Int).toNat * Kd.string.sz + 0 = i by show (i : Int).toNat * 1 + 0 = i; omega] at this
          exact this
        injection hsl with hs1 hs2 hs3
        clear HOT hd hi hlt hns hs2 hs3
        subst hs1
        go_wp2_with (first | (go_at_call 70; (with_reducible refine (zie wr d HD.out.1 (HGL.out.lt HI.out.below) HD.out.2).mono ?_); rintro e' w6 ⟨a, rfl, hA, hb⟩; have I6 := za.mk (HI.out.to hb); have HA := za.mk hA; have x6 := (zi I6.out.b5 1).trans rfl; clear hb hA) | ((with_reducible refine zvb (b := .append) (xs := #[.tmp 62, .tmp 64]) rfl ?_); at_builtin; go_loud (refine Kd.R_append (Kd.raw 1) (w0 := w6) w.heap.size rfl (.tmp 62) (.tmp 64) 68 66 (.pointer none) 8 rfl Tryz.underlying68 infoPI rfl (by decide) (by omega) rv (ptrs ns) [.pointer (some ⟨a, 0, none⟩)] [.pointer (some ⟨a, 0, none⟩)] (fun _ => True) (fun _ => False) rfl rfl ?aP (fun _ hk => hk.elim) (fun _ _ => trivial) I6.out.f.2.1 (Below.refl _ _) I6.out.below.size ?aL ?_; (case aP => exact ⟨rfl, rfl, by intro u hu; simp at hu; rcases hu with rfl; rfl⟩); (case aL => rw [zah]; have := HNL.out; omega); intro v1 w7 ho hb hg hat; obtain ⟨A1, n1, cp1, rfl⟩ : ∃ A n c, v1 = .slice A n c := (by obtain ⟨A, c, e⟩ := Kd.R_slice ho; exact ⟨A, _, c, e⟩); have I7 := za.mk (I6.out.append ((Stab.big _ _).and (Stab.texts _ _ _)) (fun W W' K h => ⟨h.1.notP K, h.2.notP K⟩) ho hg HA.out); have x7 := (zi I7.out.b5 1).trans rfl; have f7 := zr I7.out.b5 1; have I8 := za.mk (I7.out.put (by have := B2.out.size; omega) (by have := B2.out.size; omega) (by omega) 1 (.slice A1 n1 cp1)); clear ho hb hg hat)))
        go_roundw
        all_goals first | exact ⟨rfl, i + 1, .slice A1 n1 cp1, _, LT.out, by first | rfl | go_num, ⟨by rw [List.map_append]; exact HN1.out⟩, I8⟩ | exact zgf _ i LT.out | exact meas_up1 _ i LT.out | exact zdg _ i LT.out WR
      · obtain rfl : i = x.rel.length := by omega
        have i3 : decide ((x.rel.length : Int) < (x.rel.length : Int)) = false := decide_eq_false (by omega)
        have i4 : ((x.rel.length : Int) < (x.rel.length : Int)) = False := eq_false (by omega)
        have HNS : za (ns.map (·.2) = x.rel.map dvB) := ⟨by rw [hns.out, List.take_length]⟩
        clear hlt hi hns
        obtain ⟨Ar, nr, cr, rfl⟩ : ∃ A n c, rv = .slice A n c := (by obtain ⟨A, c, e⟩ := Kd.R_slice HI.out.f.2.1; exact ⟨A, _, c, e⟩)
        have ym3 := (zi HI.out.b4 3).trans (by rw [HMM.out]; rfl : M[3]? = some (.string m4))
        have ym4 := (zi HI.out.b4 4).trans (by rw [HMM.out]; rfl : M[4]? = some (.string m5))
        go_upto_if 85 with (first | (go_at_call 72; (with_reducible refine (HL1.out _ HI.out.below).mono ?_); rintro e' w8 ⟨pn, rfl, hL, hb⟩; have I9 := za.mk (((HI.out.to hb).add (Stab.letter _ _ _) hL).to (zf (Below.refl _ _) (.cells #[.string (letB (letN x.pre)), .pointer (oA pn)] 70))); have yl := fun j : Nat => zi (zrc w8 (.cells #[.string (letB (letN x.pre)), .pointer (oA pn)] 70)) j; have yc2 := (zi I9.out.b5 2).trans rfl; have yf2 := zr I9.out.b5 2; have yc3 := (zi I9.out.b5 3).trans rfl; have yf3 := zr I9.out.b5 3; have I10 := za.mk ((I9.out.put (by have := B2.out.size; omega) (by have := B2.out.size; omega) (by omega) 2 (.string (letB (letN x.pre)))).put (by have := B2.out.size; omega) (by have := B2.out.size; omega) (by omega) 3 (.pointer (oA pn))); have ym5 := (zi I10.out.b4 5).trans (by rw [HMM.out]; rfl : M[5]? = some (.string m6)); have ym6 := (zi I10.out.b4 6).trans (by rw [HMM.out]; rfl : M[6]? = some (.string m7)); clear hL hb HI ym3 ym4))
        go_cut [3, 15] (fun v3 v15 wc => v3 = .nilIface ∧ v15 = .string m67 ∧ za (PInv w wc w.heap.size w2.heap.size (w2.heap.size + 1) M #[.pointer (some ⟨e0, 0, none⟩), .slice Ar nr cr, .string (letB (letN x.pre)), .pointer (oA pn), .string ⟨#[]⟩, .pointer none, .string ⟨#[]⟩, .pointer none, .slice none 0 0, .slice none 0 0] (fun W => ((BigAt W e0 (dvB x.ep) ∧ OwnT b0 (.slice A x.rel.length cap) x.rel W) ∧ ROwn w.heap.size (.slice Ar nr cr) ns W) ∧ LtAt W (letB (letN x.pre)) pn (letN x.pre))))
        case first =>
          by_cases he : m6.toList = []
          · have e3 : m6.toList.isEmpty = true := by simpa using he
            have e1 : (m6.toList == []) = true := by simpa using he
            have e2 : (m6.toList != []) = false := by simpa using he
            have HE : m67 = m7 := by rw [HM67.out, if_pos he]
            clear he
            try simp only [e1, e2, e3, Bool.not_true, Bool.not_false]
            go_wp2
            go_meet
            exact ⟨rfl, by rw [HE], I10⟩
          · have e3 : m6.toList.isEmpty = false := by simpa using he
            have e1 : (m6.toList == []) = false := by simpa using he
            have e2 : (m6.toList != []) = true := by simpa using he
            have HE : m67 = m6 := by rw [HM67.out, if_neg he]
            clear he
            try simp only [e1, e2, e3, Bool.not_true, Bool.not_false]
            go_wp2
            go_meet
            exact ⟨rfl, by rw [HE], I10⟩
        case rest =>
          clear I9 I10
          obtain ⟨rfl, rfl, I12⟩ := hcut
          have ym7 := (zi I12.out.b4 7).trans (by rw [HMM.out]; rfl : M[7]? = some (.string m8))
          go_wp2_with (first | (go_at_call 72; (with_reducible refine (HL2.out _ I12.out.below).mono ?_); rintro e' w10 ⟨qn, rfl, hL, hb⟩; have I13 := za.mk (((I12.out.to hb).add (Stab.letter _ _ _) hL).to (zf (Below.refl _ _) (.cells #[.string (letB (letN x.post)), .pointer (oA qn)] 70))); have yl := fun j : Nat => zi (zrc w10 (.cells #[.string (letB (letN x.post)), .pointer (oA qn)] 70)) j; have yc4 := (zi I13.out.b5 4).trans rfl; have yf4 := zr I13.out.b5 4; have yc5 := (zi I13.out.b5 5).trans rfl; have yf5 := zr I13.out.b5 5; have I14 := za.mk ((I13.out.put (by have := B2.out.size; omega) (by have := B2.out.size; omega) (by omega) 4 (.string (letB (letN x.post)))).put (by have := B2.out.size; omega) (by have := B2.out.size; omega) (by omega) 5 (.pointer (oA qn))); have ym8 := (zi I14.out.b4 8).trans (by rw [HMM.out]; rfl : M[8]? = some (.string m9)); have ym9 := (zi I14.out.b4 9).trans (by rw [HMM.out]; rfl : M[9]? = some (.string m10)); clear hL hb I12 ym7) | (go_at_call 72; (with_reducible refine (HL3.out _ I14.out.below).mono ?_); rintro e' w11 ⟨dn, rfl, hL, hb⟩; have I15 := za.mk (((I14.out.to hb).add (Stab.letter _ _ _) hL).to (zf (Below.refl _ _) (.cells #[.string (letB (letN x.dev)), .pointer (oA dn)] 70))); have yk := fun j : Nat => zi (zrc w11 (.cells #[.string (letB (letN x.dev)), .pointer (oA dn)] 70)) j; have yc6 := (zi I15.out.b5 6).trans rfl; have yf6 := zr I15.out.b5 6; have yc7 := (zi I15.out.b5 7).trans rfl; have yf7 := zr I15.out.b5 7; have I16 := za.mk ((I15.out.put (by have := B2.out.size; omega) (by have := B2.out.size; omega) (by omega) 6 (.string (letB (letN x.dev)))).put (by have := B2.out.size; omega) (by have := B2.out.size; omega) (by omega) 7 (.pointer (oA dn))); have ym10 := (zi I16.out.b4 10).trans (by rw [HMM.out]; rfl : M[10]? = some (.string m11)); clear hL hb I14 I13 ym8 ym9 yl) | (go_at_call 73; (with_reducible refine (HLO.out _).mono ?_); rintro e' w13 ⟨lv, rfl, hr, hb⟩; obtain ⟨A2, cp2, rfl⟩ := Kd.R_slice hr; have I17 := za.mk ((I16.out.to hb).add (Stab.texts _ _ _) hr); have yc8 := (zi I17.out.b5 8).trans rfl; have yf8 := zr I17.out.b5 8; have I18 := za.mk (I17.out.put (by have := B2.out.size; omega) (by have := B2.out.size; omega) (by omega) 8 (.slice A2 x.loc.length cp2)); have fz := fun j : Nat => zr I18.out.b2 j; have yw := fun j : Nat => zi I18.out.b2 j; have yc := fun j : Nat => zi I18.out.b5 j; clear hr hb I16 I15 ym10 yk))
          (try simp only [Exit.inBlock, Exit.then])
          refine bodyPost_ret (zyc rfl _ _ w.heap.size 72 _ (0, 0) _ rfl (put10 I18.out.b2) Tryz.underlying72 rfl (by kernel_rfl)) rfl ?_
          refine ⟨_, rfl, ?_, ?_⟩
          · refine PVAt.kept (w := w13.setCell ⟨w2.heap.size + 1, 8, none⟩ (.slice A2 x.loc.length cp2)) ?_ (zyf I18.out.b2 (by decide) (fun b h => by repeat rw [Below.heap_setCell _ _ _ _ h]))
            obtain ⟨⟨⟨⟨⟨⟨F1, F2⟩, F3⟩, F4⟩, F5⟩, F6⟩, F7⟩ := I18.out.f
            have hlen : ns.length ≤ 1000000 := by have q1 := congrArg List.length HNS.out; have q2 := HX.out.1; rw [List.length_map, List.length_map] at q1; omega
            exact ⟨e0, .slice Ar nr cr, .slice A2 x.loc.length cp2, .slice none 0 0, pn, qn, dn, ns, rfl, ⟨fun _ => F1, fun e => absurd HX.out.2.2.2.2 e⟩, ⟨⟨Kd.R_lower F3.1 (Nat.zero_le _), F3.2⟩, HNS.out, hlen⟩, ⟨F4, F5, F6⟩, ⟨Kd.R_lower F7 (Nat.zero_le _), HX.out.2.2.1⟩, by show OwnT 0 _ x.leg _; rw [HX.out.2.2.2.2]; exact Kd.R_nil _ _ _ _ _, by show x.leg.length ≤ _; rw [HX.out.2.2.2.2]; exact Nat.zero_le _⟩
          · have b5 := I18.out.below
            repeat (first | (with_reducible exact b5) | refine zx ?_ (Nat.le_refl _))
theorem parse_ (w : World) (s : ByteArray) (k : Nat) (x : YD) (h : parseY k s = some x) (hG : GLe w) :
  Calls Tryz.prog 39 #[.string s] w fun e w' => ∃ v, e = .returned (.tuple #[v, .nilIface]) ∧ PVAt w' v x.num ∧ Below w.heap.size w w' := by
 unfold parseY at h
 obtain ⟨t, h1, h⟩ := Option.bind_eq_some_iff.mp h
 obtain ⟨⟨m1, m2, m3, m4, m5, m6, m7, m8, m9, m10, m11⟩, h2, h⟩ := Option.bind_eq_some_iff.mp h
 cases m1 with
 | true =>
  rw [if_pos rfl] at h
  exact parseN_ w s t k x m2 m3 m4 m5 m6 m7 m8 m9 m10 m11 h1 h2 h hG
 | false =>
  rw [if_neg (by simp)] at h
  unfold legY at h
  obtain ⟨l, h3, h⟩ := Option.bind_eq_some_iff.mp h
  by_cases hl : l.length ≤ 1000000 ∧ l ≠ []
  ·rw [if_pos hl] at h
   cases h
   exact parseL_ w s t k l m2 m3 m4 m5 m6 m7 m8 m9 m10 m11 h1 h2 h3 hl.1 hl.2
  ·rw [if_neg hl] at h; cases h
end Go.Proofs.YtlijjnjpomnphaaGreatDoorG
end
section
namespace Go.Proofs.YtlijjnjpomnphaaGreatDoorG
open Go.RowKit YtlijjnjpomnphaaGreatDoorH YtlijjnjpomnphaaGreatDoorB YtlijjnjpomnphaaGreatDoorC YtlijjnjpomnphaaGreatDoor.S YtlijjnjpomnphaaGreatDoorW.PrintWords YtlijjnjpomnphaaGreatDoorW.PrintLast
theorem compareStr_ (w : World) (v : Value) (x : YV) (b : ByteArray) (q : YD) (k : Nat) (hv : PVAt w v x) (k1 : YOk x) (k2 : YOk q.num) (hGL : GLe w) (h0 : parseY k b = some q) :
  Calls Tryz.prog 49 #[v, .string b] w fun e w' => e = .returned (.tuple #[.int .i64 (yC x q.num), .nilIface]) ∧ Below w.heap.size w w' := by
 have HV := za.mk hv
 obtain ⟨e1, A1, A2, A3, n1, c1, c2, c3, pn1, qn1, dn1, hve⟩ := hv.form
 subst hve
 have HP := za.mk (fun (W : World) (h : Below w.heap.size w W) => parse_ W b k q h0 (hGL.lt h))
 have HC := za.mk (fun (W : World) (v1 v2 : Value) (h : Below w.heap.size w W) (h1 : YVAt W v1 x) (h2 : YVAt W v2 q.num) => compare_ W v1 v2 x q.num h1 h2 k1 k2 (hGL.lt h))
 have HB := za.mk (Below.refl w.heap.size w)
 clear hv k1 k2 hGL h0
 go_enter Tryz.func49, Tryz.ntmps49
 go_wp2_with (first | (go_at_call 39; (with_reducible refine (HP.out _ (zf HB.out _)).mono ?_); rintro e' w1 ⟨u, rfl, hy, hb⟩; have HY := za.mk hy; obtain ⟨e2, A4, A5, A6, n2, c4, c5, c6, pn2, qn2, dn2, hue⟩ := hy.form; subst hue; have B1 := za.mk (zcb (zf HB.out _) hb); have xx := fun j : Nat => zi (zab (zj (zrc w (.cells #[.pointer (some ⟨e1, 0, none⟩), .slice A1 n1 c1, .string (letB x.pre), .pointer (oA pn1), .string (letB x.post), .pointer (oA qn1), .string (letB x.dev), .pointer (oA dn1), .slice A2 x.loc.length c2, .slice A3 x.leg.length c3] 72)) hb) (.cells #[.pointer (some ⟨e2, 0, none⟩), .slice A4 n2 c4, .string (letB q.num.pre), .pointer (oA pn2), .string (letB q.num.post), .pointer (oA qn2), .string (letB q.num.dev), .pointer (oA dn2), .slice A5 q.num.loc.length c5, .slice A6 q.num.leg.length c6] 72)) j; clear hy hb) | (go_at_call 84; refine (HC.out _ _ _ (zf B1.out _) (HV.out.yv.below (zf B1.out _)) (HY.out.yv.below (zf (Below.refl _ _) _))).mono ?_; rintro e' w2 ⟨rfl, hb⟩; have B2 := za.mk (zcb (zf B1.out _) hb); clear hb))
 go_ret2
 exact ⟨rfl, B2.out⟩
theorem compareText_ (w : World) (a b : ByteArray) (p q : YD) (k : Nat) (hGL : GLe w) (h1 : parseY k a = some p) (h2 : parseY k b = some q) (k1 : YOk p.num) (k2 : YOk q.num) :
  Calls Tryz.prog 23 #[.string a, .string b] w fun e w' => e = .returned (.tuple #[.int .i64 (yC p.num q.num), .bool true]) ∧ Below w.heap.size w w' := by
 have HP := za.mk (parse_ w a k p h1 hGL)
 have HS := za.mk (fun (W : World) (v : Value) (h : Below w.heap.size w W) (hv : PVAt W v p.num) => compareStr_ W v p.num b q k hv k1 k2 (hGL.lt h) h2)
 have HB := za.mk (Below.refl w.heap.size w)
 clear hGL h1 h2 k1 k2
 go_enter Tryz.func23, Tryz.ntmps23
 go_upto_region 5 with (first | (go_at_call 39; (with_reducible refine HP.out.mono ?_); rintro e' w1 ⟨u, rfl, hy, hb⟩; have HY := za.mk hy; obtain ⟨e2, A4, A5, A6, n2, c4, c5, c6, pn2, qn2, dn2, hue⟩ := hy.form; subst hue; have B1 := za.mk hb; clear hy hb) | (go_at_call 49; refine (HS.out _ _ (zf B1.out _) (HY.out.below (zf (Below.refl _ _) _))).mono ?_; rintro e' w2 ⟨rfl, hb⟩; have B2 := za.mk (zcb (zf B1.out _) hb); clear hb))
 go_region_with (fail)
 all_goals (try go_wp2)
 all_goals go_ret2
 all_goals exact ⟨rfl, zh B2.out⟩
end Go.Proofs.YtlijjnjpomnphaaGreatDoorG
end
