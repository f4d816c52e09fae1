/- Contracts of math/big's scan, SetString and of convertToBigInt, and of (nat).cmp; each as its theorem says. -/
import Derived.Test.YtdjkekgfeadmoaaGreatDoorKA
namespace Go.Proofs.YtdjkekgfeadmoaaGreatDoorG
open Go.RowKit Go.Proofs.YtdjkekgfeadmoaaGreatDoorW.PrintWords Go.Proofs.YtdjkekgfeadmoaaGreatDoorW.PrintLast
set_option linter.unusedVariables false
set_option linter.unusedSimpArgs false

theorem word19 : IsW 10000000000000000000 := by unfold IsW W64; omega
theorem word_of {d : Nat} (h : d < 1000000000000000000) : IsW d := by unfold IsW W64; omega
theorem pow_word {i : Nat} (h : i < 19) : IsW (10 ^ i) := by
 have := pow19 h
 unfold IsW W64
 omega
theorem pow_ne (i : Nat) : 10 ^ i ≠ 0 := by
 have := Nat.pow_pos (n := i) (show 0 < 10 by omega)
 omega
def ten19i : Nat := 10000000000000000000
theorem ten19i_cast : ((ten19i : Nat) : Int) = 10000000000000000000 := by unfold ten19i; simp
theorem mulAdd19_ (w : World) (B : Nat) (v : Value) (l : List Nat) (r : Nat) (h : NatS w B v l) (hBs : B ≤ w.heap.size) (hr : IsW r) (hl : l.length ≤ 1000000) :
  Calls Tryz.prog 71 #[v, v, .int .u64 10000000000000000000, .int .u64 (r : Int)] w fun e w' => ∃ v' l', e = .returned v' ∧ NatS w' B v' l' ∧ num l' = num l * ten19i + r ∧ l' = trimW l' ∧ l'.length ≤ l.length + 1 ∧ Below B w w' := by
 have t := mulAddWW_ w B v l ten19i r h hBs (by unfold ten19i IsW W64; omega) (by unfold ten19i; omega) hr hl
 rw [ten19i_cast] at t
 exact t
theorem cast_one (k : Nat) : Value.int .i64 ((k : Int) + 1) = Value.int .i64 ((k + 1 : Nat) : Int) := rfl
theorem meas_one (k n : Nat) (h : k < n) : n - (intOf (.int .i64 ((k : Int) + 1))).toNat < n - (intOf (.int .i64 (k : Int))).toNat := by
 simp only [intOf]
 omega
theorem Sc.fill {B b : Nat} {w wr w5 : World} {s : ByteArray} {v v5 : Value} {k d i : Nat} {l l5 : List Nat} (h : Sc B b w wr s v k d i) (hd : Dig (bt s k)) (hi : i + 1 = 19) (m1 : NatS w5 B v5 l5) (m3 : l5 = trimW l5) (m4 : l5.length ≤ l.length + 1) (m5 : Below B wr w5)
  (m2 : num l5 = num l * ten19i + (d * 10 + (bt s k - 48).toNat)) (n2 : num l * 10 ^ i + d = dv s k) (n4 : l.length ≤ k) : Sc B b w w5 s v5 (k + 1) 0 0 := by
 refine ⟨⟨l5, m1, ?_, m3, by omega⟩, by omega, by simp, by omega, fun j hj => ?_, h.bel.below m5⟩
 ·have e : i = 18 := by omega
  have e3 : dv s (k + 1) = dv s k * 10 + (bt s k - 48).toNat := rfl
  rw [e3, m2, ← n2, e]
  unfold ten19i
  exact full_word _ _ _
 ·by_cases ej : j = k
  ·rw [ej]; exact hd
  ·exact h.dig j (by omega)
/-- Where the reader stands at the loop's head, and what was read. -/
def Head (w : World) (b : Nat) (s : ByteArray) (k : Nat) (ch er : Value) (EP : Addr) : Prop :=
 (k < s.size ∧ er = .nilIface ∧ ch = .int .u8 (bt s k) ∧ Rd w b s (k + 1) (-1)) ∨ (k = s.size ∧ er = ErrV EP ∧ ch = .int .u8 0 ∧ Rd w b s s.size (-1))
/-- The next byte, or the end. -/
theorem next_ (w : World) (b k : Nat) (s : ByteArray) (p : Int) (EP : Addr) (h : Rd w b s k p) (hk : k ≤ s.size) (hs : s.size ≤ 1000000) (hE : w.cell? ⟨3, 0, none⟩ = some (ErrV EP)) (hb : b ≠ 3) :
  Calls Tryz.prog 123 #[.pointer (some ⟨b, 0, none⟩)] w fun e w' => ∃ ch er, e = .returned (.tuple #[ch, er]) ∧ Head w' b s k ch er EP ∧ w.grownBy w' (some b) := by
 rcases Nat.lt_or_ge k s.size with h1 | h1
 ·refine (readByte_ w b k s p h h1 (by omega)).mono ?_
  rintro e w' ⟨rfl, h2, h3⟩
  exact ⟨_, _, rfl, .inl ⟨h1, rfl, rfl, h2⟩, h3⟩
 ·obtain rfl : k = s.size := by omega
  refine (readByte_end w b s p _ h hE hb (by omega)).mono ?_
  rintro e w' ⟨rfl, h2, h3⟩
  exact ⟨_, _, rfl, .inr ⟨rfl, rfl, rfl, h2⟩, h3⟩
/-- The outcome. -/
def Out (B b : Nat) (w : World) (s : ByteArray) (NP : Addr) (e : Ending) (w' : World) : Prop :=
 ∃ (v er : Value) (l : List Nat) (r : Nat), e = .returned (.tuple #[v, .int .i64 10, .int .i64 (r : Int), er]) ∧ NatS w' B v l ∧ num l = dv s r ∧ l = trimW l ∧ r ≤ s.size ∧ (∀ j : Nat, j < r → Dig (bt s j)) ∧ (r < s.size → ¬ Dig (bt s r)) ∧
  (r = 0 → er = ErrV NP) ∧ (0 < r → er = .nilIface) ∧ (∃ q, Rd w' b s r q) ∧ Bel B b w w'

set_option maxRecDepth 100000 in
set_option maxHeartbeats 4000000 in
theorem natScan_ (w : World) (B b : Nat) (s : ByteArray) (p : Int) (EP NP : Addr) (h : Rd w b s 0 p) (h0 : 0 < s.size) (hs : s.size ≤ 1000000) (hb : b < B) (hBs : B ≤ w.heap.size)
  (hE : w.cell? ⟨3, 0, none⟩ = some (ErrV EP)) (hN : w.cell? ⟨7, 0, none⟩ = some (ErrV NP)) (hbg : 7 < b) :
  Calls Tryz.prog 66 #[.slice none 0 0, .iface 68 (.pointer (some ⟨b, 0, none⟩)), .int .i64 10, .bool false] w (Out B b w s NP) := by
 have HFIRST := Aside0.mk (readByte_ w b 0 s p h h0 (by omega))
 have e0 : ((0 : Nat) : Int) = 0 := rfl
 rw [e0] at HFIRST
 have i1 := inv_ReadByte (some ⟨b, 0, none⟩)
 have i2 := inv_UnreadByte (some ⟨b, 0, none⟩)
 have i3 := ent_ReadByte
 have i4 := ent_UnreadByte
 have HE := Aside0.mk hE
 have HN := Aside0.mk hN
 clear h hE hN
 go_enter Tryz.func66, Tryz.ntmps66
 go_wp2_with (first
  | (go_at_call 123; refine HFIRST.out.mono ?_; rintro e' w1 ⟨rfl, r1, g1⟩; have R1 := Aside0.mk r1; have G1 := Aside0.mk g1; clear r1 g1)
  | (go_at_call 70; refine (maxPow_ _).mono ?_; rintro e' w2 ⟨rfl, rfl⟩))
 have HB0 : Aside0 (B ≤ w.heap.size) := ⟨hBs⟩
 have HBB : Aside0 (b < B ∧ 7 < b ∧ s.size ≤ 1000000 ∧ 0 < s.size) := ⟨⟨hb, hbg, hs, h0⟩⟩
 have START : Aside0 (Sc B b w w2 s (.slice none 0 0) 0 0 0 ∧ Head w2 b s 0 (.int .u8 (bt s 0)) .nilIface EP) := ⟨⟨⟨⟨[], .inl ⟨rfl, rfl⟩, by simp [num, dv], rfl, by simp⟩, by omega, by simp, by omega, fun j hj => by omega, (Bel.refl B b w).grown G1.out (by omega) hBs⟩, .inl ⟨h0, rfl, rfl, R1.out⟩⟩⟩
 clear R1 G1 HFIRST h0 hs hb hBs hbg
 go_loopw [0, 3, 10, 11, 13, 14, 15, 20, 21, 22] (fun z fr cnt er pv iv ch di ii dp wr => ∃ k d i : Nat, k ≤ s.size ∧ fr = .bool false ∧ cnt = .int .i64 k ∧ (∃ pr : Int, pv = .int .i32 pr ∧ pr ≠ 95) ∧ iv = .bool false ∧ di = .int .u64 (d : Int) ∧ ii = .int .i64 (i : Int) ∧ dp = .int .i64 (-1) ∧ Aside0 (Sc B b w wr s z k d i) ∧ Aside0 (Head wr b s k ch er EP)) (fun _ _ cnt _ _ _ _ _ _ _ _ => s.size - (intOf cnt).toNat)
 case atStart => exact ⟨0, 0, 0, Nat.zero_le _, rfl, rfl, ⟨46, rfl, by decide⟩, rfl, rfl, rfl, rfl, ⟨START.out.1⟩, ⟨START.out.2⟩⟩
 case round =>
  clear START
  obtain ⟨k, d, i, hk, rfl, rfl, ⟨pr, rfl, hpr⟩, rfl, rfl, rfl, rfl, hsc, hhd⟩ := hrel
  have q1 := eq_err EP
  have q2 := eq_nil_err EP
  have q3 : (pr == 95) = false := by rw [beq_eq_false_iff_ne]; exact hpr
  rcases hhd.out with ⟨hks, he, hch, hr⟩ | ⟨hks, he, hch, hr⟩
  ·subst he
   subst hch
   have HR := Aside0.mk hr
   have HUN := Aside0.mk (unreadByte_ wr b k s (-1) hr (by have h_ := HBB.out.2.2.1; omega))
   clear hr hhd
   by_cases hdig : Dig (bt s k)
   ·have HDIG := Aside0.mk hdig
    have HNEXT := Aside0.mk (fun w3 (h : Rd w3 b s (k + 1) (-1)) (hE : w3.cell? ⟨3, 0, none⟩ = some (ErrV EP)) => next_ w3 b (k + 1) s (-1) EP h hks HBB.out.2.2.1 hE (by have h_ := HBB.out.2.1; omega))
    obtain ⟨x, hx⟩ : ∃ x : Nat, x = (bt s k - 48).toNat := ⟨_, rfl⟩
    obtain ⟨c, hc⟩ : ∃ c, c = bt s k := ⟨_, rfl⟩
    rw [← hc]
    have hd1 : 48 ≤ c := by rw [hc]; exact hdig.1
    have hd2 : c ≤ 57 := by rw [hc]; exact hdig.2
    have hxc : (x : Int) = c - 48 := by rw [hx, ← hc]; omega
    have HX := Aside0.mk hx
    have f1 : (c == 46) = false := by rw [beq_eq_false_iff_ne]; omega
    have f2 : (c == 95) = false := by rw [beq_eq_false_iff_ne]; omega
    have f3 : decide (48 ≤ c) = true := decide_eq_true hd1
    have f4 : decide (c ≤ 57) = true := decide_eq_true hd2
    have f5 : (c - 48) % 256 = (x : Int) := by omega
    have f6 : IntKind.u64.wrap (x : Int) = (x : Int) := wrap_W (by unfold W64; omega)
    have hw := hsc.out.word
    obtain ⟨m, hm⟩ : ∃ m : Nat, m = d * 10 := ⟨_, rfl⟩
    obtain ⟨d2, hd⟩ : ∃ d2 : Nat, d2 = d * 10 + x := ⟨_, rfl⟩
    have f7 : IntKind.u64.wrap ((d : Int) * 10) = (m : Int) := by
     have e : (d : Int) * 10 = (m : Int) := by omega
     rw [e]
     exact wrap_W (by unfold W64; omega)
    have f8 : IntKind.u64.wrap ((m : Int) + (x : Int)) = (d2 : Int) := by
     have e : (m : Int) + (x : Int) = (d2 : Int) := by omega
     rw [e]
     exact wrap_W (by unfold W64; omega)
    have f9 : decide ((x : Int) ≥ 10) = false := decide_eq_false (by omega)
    have f9b : (10 ≤ (x : Int)) = False := eq_false (by omega)
    have f10 : wrap64 ((k : Int) + 1) = (k : Int) + 1 := by have h_ := HBB.out.2.2.1; unfold wrap64; omega
    have f11 : wrap64 ((i : Int) + 1) = (i : Int) + 1 := by have h_ := hsc.out.i19; unfold wrap64; omega
    have HD2 := Aside0.mk hd
    have HW2 : Aside0 (IsW d2) := ⟨by unfold IsW W64; omega⟩
    have hEw : wr.cell? ⟨3, 0, none⟩ = some (ErrV EP) := by
     rw [hsc.out.bel.cell (p := ⟨3, 0, none⟩) (by have h_ := HBB.out.1; have h2_ := HBB.out.2.1; show 3 < B; omega) (by have h2_ := HBB.out.2.1; show 3 ≠ b; omega)]
     exact HE.out
    have HEW := Aside0.mk hEw
    have HI := Aside0.mk hsc.out.i19
    clear hEw hx hc hdig hm hd hw hd1 hd2 hxc
    by_cases hi : i + 1 = 19
    ·have g1 : ((i : Int) + 1 == 19) = true := by rw [beq_iff_eq]; omega
     have g2 : (i : Int) + 1 = 19 := by omega
     go_wp2_with (first
      | (go_at_call 71; obtain ⟨l, hl1, hl2, hl3, hl4⟩ := hsc.out.nat; refine (mulAdd19_ wr B u0 l d2 hl1 (Nat.le_trans HB0.out hsc.out.bel.size) HW2.out (Nat.le_trans hl4 (Nat.le_trans (Nat.le_of_lt hks) HBB.out.2.2.1))).mono ?_; rintro e' w5 ⟨v5, l5, rfl, m1, m2, m3, m4, m5⟩; have M := Aside0.mk (And.intro m1 (And.intro m2 (And.intro m3 (And.intro m4 m5)))); have R5 : Aside0 (Rd w5 b s (k + 1) (-1)) := ⟨HR.out.same (m5.block b HBB.out.1)⟩; have E5 : Aside0 (w5.cell? ⟨3, 0, none⟩ = some (ErrV EP)) := ⟨by rw [← HEW.out]; exact World.cell?_of_block (m5.block _ (by have h_ := HBB.out.1; have h2_ := HBB.out.2.1; show 3 < B; omega))⟩; have L := Aside0.mk (And.intro hl2 (And.intro hl4 hl1)); clear m1 m2 m3 m4 m5 hl1 hl2 hl3 hl4)
      | (go_at_call 123; refine (HNEXT.out _ R5.out E5.out).mono ?_; rintro e' w6 ⟨ch6, er6, rfl, hh6, hg6⟩; have H6 := Aside0.mk hh6; have G6 := Aside0.mk hg6; clear hh6 hg6))
     go_roundw
     case rel =>
      obtain ⟨m1, m2, m3, m4, m5⟩ := M.out
      obtain ⟨n2, n4, n1⟩ := L.out
      have hs2 : Sc B b w w5 s v5 (k + 1) 0 0 := hsc.out.fill HDIG.out hi m1 m3 m4 m5 (by rw [m2, HD2.out, HX.out]) n2 n4
      exact ⟨k + 1, 0, 0, Nat.succ_le_of_lt hks, rfl, cast_one k, ⟨48, rfl, by decide⟩, rfl, rfl, rfl, rfl, ⟨hs2.grown G6.out HBB.out.1 HB0.out⟩, H6⟩
     case measure => exact meas_one k s.size hks
    ·have HI19 : Aside0 (i + 1 < 19) := ⟨by have h_ := HI.out; omega⟩
     have g1 : ((i : Int) + 1 == 19) = false := by rw [beq_eq_false_iff_ne]; omega
     have g2 : ¬ ((i : Int) + 1 = 19) := by omega
     go_wp2_with (first
      | (go_at_call 123; refine (HNEXT.out _ HR.out HEW.out).mono ?_; rintro e' w6 ⟨ch6, er6, rfl, hh6, hg6⟩; have H6 := Aside0.mk hh6; have G6 := Aside0.mk hg6; clear hh6 hg6))
     go_roundw
     case rel =>
      have hs2 := (hsc.out.digit HDIG.out HI19.out).grown G6.out HBB.out.1 HB0.out
      exact ⟨k + 1, d2, i + 1, Nat.succ_le_of_lt hks, rfl, cast_one k, ⟨48, rfl, by decide⟩, rfl, rfl, cast_one i, rfl, ⟨by rw [HD2.out, HX.out]; exact hs2⟩, H6⟩
     case measure => exact meas_one k s.size hks
   ·have HND := Aside0.mk hdig
    obtain ⟨c, hc⟩ : ∃ c, c = bt s k := ⟨_, rfl⟩
    have hr0 := bt_range s k
    rw [← hc] at hr0 ⊢
    have hnd : ¬ (48 ≤ c ∧ c ≤ 57) := by rw [hc]; exact hdig
    clear hdig hc hks
    by_cases hcc : c = 46
    ·subst hcc
     clear hnd hr0
     go_upto_region 80 with (first | (go_at_call 124; refine HUN.out.mono ?_; rintro e' w3 ⟨rfl, r3, g3⟩; have R3 := Aside0.mk r3; have S3 : Aside0 (Sc B b w w3 s u0 k d i) := ⟨hsc.out.grown g3 HBB.out.1 HB0.out⟩; have hE3 : w3.cell? ⟨3, 0, none⟩ = some (.iface 103 (.pointer (some EP))) := (S3.out.bel.cell (p := ⟨3, 0, none⟩) (by have h_ := HBB.out.1; have h2_ := HBB.out.2.1; show 3 < B; omega) (by have h2_ := HBB.out.2.1; show 3 ≠ b; omega)).trans HE.out; have hN3 : w3.cell? ⟨7, 0, none⟩ = some (.iface 103 (.pointer (some NP))) := (S3.out.bel.cell (p := ⟨7, 0, none⟩) (by have h_ := HBB.out.1; have h2_ := HBB.out.2.1; show 7 < B; omega) (by have h2_ := HBB.out.2.1; show 7 ≠ b; omega)).trans HN.out; clear r3 g3))
     by_cases hk0 : k = 0
     ·have hi0 := S3.out.ile
      have c1 : ((k : Int) == 0) = true := by rw [beq_iff_eq]; omega
      have c2 : (k : Int) = 0 := by omega
      have c3 : (i : Int) = 0 := by omega
      have c4 : decide (0 < (i : Int)) = false := decide_eq_false (by omega)
      go_wp2
      (try simp only [Exit.inBlock, Exit.then])
      refine bodyPost_ret (results_tmp4 rfl _ _ _) rfl ?_
      obtain ⟨l, hl1, hl2, hl3, hl4⟩ := S3.out.nat
      obtain rfl : k = 0 := by omega
      obtain rfl : i = 0 := by omega
      exact ⟨_, _, l, 0, rfl, hl1, by have h_ := S3.out.dlt; simp at h_; rw [h_] at hl2; simpa using hl2, hl3, hk, S3.out.dig, (fun _ => HND.out), fun _ => rfl, (fun h => absurd h (Nat.lt_irrefl _)), ⟨-1, R3.out⟩, S3.out.bel⟩
     ·by_cases hi0 : i = 0
      ·have c1 : ((k : Int) == 0) = false := by rw [beq_eq_false_iff_ne]; omega
       have c2 : ¬ ((k : Int) = 0) := by omega
       have c3 : (i : Int) = 0 := by omega
       have c4 : decide (0 < (i : Int)) = false := decide_eq_false (by omega)
       go_wp2
       (try simp only [Exit.inBlock, Exit.then])
       refine bodyPost_ret (results_tmp4 rfl _ _ _) rfl ?_
       obtain ⟨l, hl1, hl2, hl3, hl4⟩ := S3.out.nat
       obtain rfl : i = 0 := by omega
       exact ⟨_, _, l, k, rfl, hl1, by have h_ := S3.out.dlt; simp at h_; rw [h_] at hl2; simpa using hl2, hl3, hk, S3.out.dig, (fun _ => HND.out), (fun h => absurd h (by omega)), fun _ => rfl, ⟨-1, R3.out⟩, S3.out.bel⟩
      ·have c1 : ((k : Int) == 0) = false := by rw [beq_eq_false_iff_ne]; omega
       have c2 : ¬ ((k : Int) = 0) := by omega
       have c4 : decide (0 < (i : Int)) = true := decide_eq_true (by omega)
       have c5 := S3.out.i19
       go_wp2_with (first | (go_at_call 72; refine (pow_ i (by omega) (by omega) _).mono ?_; rintro e' w4 ⟨rfl, hw4⟩; have hw4 := hw4.symm; subst hw4) | (go_at_call 71; obtain ⟨l, hl1, hl2, hl3, hl4⟩ := S3.out.nat; refine (mulAddWW_ w3 B u0 l (10 ^ i) d hl1 (Nat.le_trans HB0.out S3.out.bel.size) (pow_word S3.out.i19) (pow_ne i) (word_of S3.out.word) (Nat.le_trans hl4 (Nat.le_trans hk HBB.out.2.2.1))).mono ?_; rintro e' w5 ⟨v5, l5, rfl, m1, m2, m3, m4, m5⟩; have M := Aside0.mk (And.intro m1 (And.intro (m2.trans hl2) (And.intro m3 m5))); clear m1 m2 m3 m4 m5 hl1 hl2 hl3 hl4))
       (try simp only [Exit.inBlock, Exit.then])
       refine bodyPost_ret (results_tmp4 rfl _ _ _) rfl ?_
       obtain ⟨m1, m2, m3, m5⟩ := M.out
       exact ⟨_, _, l5, k, rfl, m1, m2, m3, hk, S3.out.dig, (fun _ => HND.out), (fun h => absurd h (by omega)), fun _ => rfl, ⟨-1, R3.out.same (m5.block b HBB.out.1)⟩, S3.out.bel.below m5⟩
    ·have hn8 := hcc
     clear hcc
     by_cases hcc : c = 95
     ·subst hcc
      clear hnd hr0
      go_upto_region 80 with (first | (go_at_call 124; refine HUN.out.mono ?_; rintro e' w3 ⟨rfl, r3, g3⟩; have R3 := Aside0.mk r3; have S3 : Aside0 (Sc B b w w3 s u0 k d i) := ⟨hsc.out.grown g3 HBB.out.1 HB0.out⟩; have hE3 : w3.cell? ⟨3, 0, none⟩ = some (.iface 103 (.pointer (some EP))) := (S3.out.bel.cell (p := ⟨3, 0, none⟩) (by have h_ := HBB.out.1; have h2_ := HBB.out.2.1; show 3 < B; omega) (by have h2_ := HBB.out.2.1; show 3 ≠ b; omega)).trans HE.out; have hN3 : w3.cell? ⟨7, 0, none⟩ = some (.iface 103 (.pointer (some NP))) := (S3.out.bel.cell (p := ⟨7, 0, none⟩) (by have h_ := HBB.out.1; have h2_ := HBB.out.2.1; show 7 < B; omega) (by have h2_ := HBB.out.2.1; show 7 ≠ b; omega)).trans HN.out; clear r3 g3))
      by_cases hk0 : k = 0
      ·have hi0 := S3.out.ile
       have c1 : ((k : Int) == 0) = true := by rw [beq_iff_eq]; omega
       have c2 : (k : Int) = 0 := by omega
       have c3 : (i : Int) = 0 := by omega
       have c4 : decide (0 < (i : Int)) = false := decide_eq_false (by omega)
       go_wp2
       (try simp only [Exit.inBlock, Exit.then])
       refine bodyPost_ret (results_tmp4 rfl _ _ _) rfl ?_
       obtain ⟨l, hl1, hl2, hl3, hl4⟩ := S3.out.nat
       obtain rfl : k = 0 := by omega
       obtain rfl : i = 0 := by omega
       exact ⟨_, _, l, 0, rfl, hl1, by have h_ := S3.out.dlt; simp at h_; rw [h_] at hl2; simpa using hl2, hl3, hk, S3.out.dig, (fun _ => HND.out), fun _ => rfl, (fun h => absurd h (Nat.lt_irrefl _)), ⟨-1, R3.out⟩, S3.out.bel⟩
      ·by_cases hi0 : i = 0
       ·have c1 : ((k : Int) == 0) = false := by rw [beq_eq_false_iff_ne]; omega
        have c2 : ¬ ((k : Int) = 0) := by omega
        have c3 : (i : Int) = 0 := by omega
        have c4 : decide (0 < (i : Int)) = false := decide_eq_false (by omega)
        go_wp2
        (try simp only [Exit.inBlock, Exit.then])
        refine bodyPost_ret (results_tmp4 rfl _ _ _) rfl ?_
        obtain ⟨l, hl1, hl2, hl3, hl4⟩ := S3.out.nat
        obtain rfl : i = 0 := by omega
        exact ⟨_, _, l, k, rfl, hl1, by have h_ := S3.out.dlt; simp at h_; rw [h_] at hl2; simpa using hl2, hl3, hk, S3.out.dig, (fun _ => HND.out), (fun h => absurd h (by omega)), fun _ => rfl, ⟨-1, R3.out⟩, S3.out.bel⟩
       ·have c1 : ((k : Int) == 0) = false := by rw [beq_eq_false_iff_ne]; omega
        have c2 : ¬ ((k : Int) = 0) := by omega
        have c4 : decide (0 < (i : Int)) = true := decide_eq_true (by omega)
        have c5 := S3.out.i19
        go_wp2_with (first | (go_at_call 72; refine (pow_ i (by omega) (by omega) _).mono ?_; rintro e' w4 ⟨rfl, hw4⟩; have hw4 := hw4.symm; subst hw4) | (go_at_call 71; obtain ⟨l, hl1, hl2, hl3, hl4⟩ := S3.out.nat; refine (mulAddWW_ w3 B u0 l (10 ^ i) d hl1 (Nat.le_trans HB0.out S3.out.bel.size) (pow_word S3.out.i19) (pow_ne i) (word_of S3.out.word) (Nat.le_trans hl4 (Nat.le_trans hk HBB.out.2.2.1))).mono ?_; rintro e' w5 ⟨v5, l5, rfl, m1, m2, m3, m4, m5⟩; have M := Aside0.mk (And.intro m1 (And.intro (m2.trans hl2) (And.intro m3 m5))); clear m1 m2 m3 m4 m5 hl1 hl2 hl3 hl4))
        (try simp only [Exit.inBlock, Exit.then])
        refine bodyPost_ret (results_tmp4 rfl _ _ _) rfl ?_
        obtain ⟨m1, m2, m3, m5⟩ := M.out
        exact ⟨_, _, l5, k, rfl, m1, m2, m3, hk, S3.out.dig, (fun _ => HND.out), (fun h => absurd h (by omega)), fun _ => rfl, ⟨-1, R3.out.same (m5.block b HBB.out.1)⟩, S3.out.bel.below m5⟩
     ·have hn7 := hcc
      clear hcc
      by_cases hcc : 97 ≤ c ∧ c ≤ 122
      ·have f1 : (c == 46) = false := by rw [beq_eq_false_iff_ne]; omega
       have f2 : (c == 95) = false := by rw [beq_eq_false_iff_ne]; omega
       have f3 : decide (48 ≤ c) = true := decide_eq_true (by omega)
       have f4 : decide (c ≤ 57) = false := decide_eq_false (by omega)
       have f5 : decide (97 ≤ c) = true := decide_eq_true (by omega)
       have f6 : decide (c ≤ 122) = true := decide_eq_true (by omega)
       obtain ⟨y, hy⟩ : ∃ y : Nat, y = (c - 97).toNat := ⟨_, rfl⟩
       obtain ⟨x, hx⟩ : ∃ x : Nat, x = y + 10 := ⟨_, rfl⟩
       have f7 : (c - 97) % 256 = (y : Int) := by omega
       have f8 : ((y : Int) + 10) % 256 = (x : Int) := by omega
       have f9 : IntKind.u64.wrap (x : Int) = (x : Int) := wrap_W (by unfold W64; omega)
       have f10 : decide ((x : Int) ≥ 10) = true := decide_eq_true (by omega)
       have f10b : (10 ≤ (x : Int)) = True := eq_true (by omega)
       clear hx hy hcc
       clear hnd hr0
       go_upto_region 80 with (first | (go_at_call 124; refine HUN.out.mono ?_; rintro e' w3 ⟨rfl, r3, g3⟩; have R3 := Aside0.mk r3; have S3 : Aside0 (Sc B b w w3 s u0 k d i) := ⟨hsc.out.grown g3 HBB.out.1 HB0.out⟩; have hE3 : w3.cell? ⟨3, 0, none⟩ = some (.iface 103 (.pointer (some EP))) := (S3.out.bel.cell (p := ⟨3, 0, none⟩) (by have h_ := HBB.out.1; have h2_ := HBB.out.2.1; show 3 < B; omega) (by have h2_ := HBB.out.2.1; show 3 ≠ b; omega)).trans HE.out; have hN3 : w3.cell? ⟨7, 0, none⟩ = some (.iface 103 (.pointer (some NP))) := (S3.out.bel.cell (p := ⟨7, 0, none⟩) (by have h_ := HBB.out.1; have h2_ := HBB.out.2.1; show 7 < B; omega) (by have h2_ := HBB.out.2.1; show 7 ≠ b; omega)).trans HN.out; clear r3 g3))
       by_cases hk0 : k = 0
       ·have hi0 := S3.out.ile
        have c1 : ((k : Int) == 0) = true := by rw [beq_iff_eq]; omega
        have c2 : (k : Int) = 0 := by omega
        have c3 : (i : Int) = 0 := by omega
        have c4 : decide (0 < (i : Int)) = false := decide_eq_false (by omega)
        go_wp2
        (try simp only [Exit.inBlock, Exit.then])
        refine bodyPost_ret (results_tmp4 rfl _ _ _) rfl ?_
        obtain ⟨l, hl1, hl2, hl3, hl4⟩ := S3.out.nat
        obtain rfl : k = 0 := by omega
        obtain rfl : i = 0 := by omega
        exact ⟨_, _, l, 0, rfl, hl1, by have h_ := S3.out.dlt; simp at h_; rw [h_] at hl2; simpa using hl2, hl3, hk, S3.out.dig, (fun _ => HND.out), fun _ => rfl, (fun h => absurd h (Nat.lt_irrefl _)), ⟨-1, R3.out⟩, S3.out.bel⟩
       ·by_cases hi0 : i = 0
        ·have c1 : ((k : Int) == 0) = false := by rw [beq_eq_false_iff_ne]; omega
         have c2 : ¬ ((k : Int) = 0) := by omega
         have c3 : (i : Int) = 0 := by omega
         have c4 : decide (0 < (i : Int)) = false := decide_eq_false (by omega)
         go_wp2
         (try simp only [Exit.inBlock, Exit.then])
         refine bodyPost_ret (results_tmp4 rfl _ _ _) rfl ?_
         obtain ⟨l, hl1, hl2, hl3, hl4⟩ := S3.out.nat
         obtain rfl : i = 0 := by omega
         exact ⟨_, _, l, k, rfl, hl1, by have h_ := S3.out.dlt; simp at h_; rw [h_] at hl2; simpa using hl2, hl3, hk, S3.out.dig, (fun _ => HND.out), (fun h => absurd h (by omega)), fun _ => rfl, ⟨-1, R3.out⟩, S3.out.bel⟩
        ·have c1 : ((k : Int) == 0) = false := by rw [beq_eq_false_iff_ne]; omega
         have c2 : ¬ ((k : Int) = 0) := by omega
         have c4 : decide (0 < (i : Int)) = true := decide_eq_true (by omega)
         have c5 := S3.out.i19
         go_wp2_with (first | (go_at_call 72; refine (pow_ i (by omega) (by omega) _).mono ?_; rintro e' w4 ⟨rfl, hw4⟩; have hw4 := hw4.symm; subst hw4) | (go_at_call 71; obtain ⟨l, hl1, hl2, hl3, hl4⟩ := S3.out.nat; refine (mulAddWW_ w3 B u0 l (10 ^ i) d hl1 (Nat.le_trans HB0.out S3.out.bel.size) (pow_word S3.out.i19) (pow_ne i) (word_of S3.out.word) (Nat.le_trans hl4 (Nat.le_trans hk HBB.out.2.2.1))).mono ?_; rintro e' w5 ⟨v5, l5, rfl, m1, m2, m3, m4, m5⟩; have M := Aside0.mk (And.intro m1 (And.intro (m2.trans hl2) (And.intro m3 m5))); clear m1 m2 m3 m4 m5 hl1 hl2 hl3 hl4))
         (try simp only [Exit.inBlock, Exit.then])
         refine bodyPost_ret (results_tmp4 rfl _ _ _) rfl ?_
         obtain ⟨m1, m2, m3, m5⟩ := M.out
         exact ⟨_, _, l5, k, rfl, m1, m2, m3, hk, S3.out.dig, (fun _ => HND.out), (fun h => absurd h (by omega)), fun _ => rfl, ⟨-1, R3.out.same (m5.block b HBB.out.1)⟩, S3.out.bel.below m5⟩
      ·have hn6 := hcc
       clear hcc
       by_cases hcc : 65 ≤ c ∧ c ≤ 90
       ·have f1 : (c == 46) = false := by rw [beq_eq_false_iff_ne]; omega
        have f2 : (c == 95) = false := by rw [beq_eq_false_iff_ne]; omega
        have f3 : decide (48 ≤ c) = true := decide_eq_true (by omega)
        have f4 : decide (c ≤ 57) = false := decide_eq_false (by omega)
        have f5 : decide (97 ≤ c) = false := decide_eq_false (by omega)
        have f6 : decide (65 ≤ c) = true := decide_eq_true (by omega)
        have f6b : decide (c ≤ 90) = true := decide_eq_true (by omega)
        obtain ⟨y, hy⟩ : ∃ y : Nat, y = (c - 65).toNat := ⟨_, rfl⟩
        obtain ⟨x, hx⟩ : ∃ x : Nat, x = y + 10 := ⟨_, rfl⟩
        have f7 : (c - 65) % 256 = (y : Int) := by omega
        have f8 : ((y : Int) + 10) % 256 = (x : Int) := by omega
        have f9 : IntKind.u64.wrap (x : Int) = (x : Int) := wrap_W (by unfold W64; omega)
        have f10 : decide ((x : Int) ≥ 10) = true := decide_eq_true (by omega)
        have f10b : (10 ≤ (x : Int)) = True := eq_true (by omega)
        clear hx hy hcc
        clear hnd hr0
        go_upto_region 80 with (first | (go_at_call 124; refine HUN.out.mono ?_; rintro e' w3 ⟨rfl, r3, g3⟩; have R3 := Aside0.mk r3; have S3 : Aside0 (Sc B b w w3 s u0 k d i) := ⟨hsc.out.grown g3 HBB.out.1 HB0.out⟩; have hE3 : w3.cell? ⟨3, 0, none⟩ = some (.iface 103 (.pointer (some EP))) := (S3.out.bel.cell (p := ⟨3, 0, none⟩) (by have h_ := HBB.out.1; have h2_ := HBB.out.2.1; show 3 < B; omega) (by have h2_ := HBB.out.2.1; show 3 ≠ b; omega)).trans HE.out; have hN3 : w3.cell? ⟨7, 0, none⟩ = some (.iface 103 (.pointer (some NP))) := (S3.out.bel.cell (p := ⟨7, 0, none⟩) (by have h_ := HBB.out.1; have h2_ := HBB.out.2.1; show 7 < B; omega) (by have h2_ := HBB.out.2.1; show 7 ≠ b; omega)).trans HN.out; clear r3 g3))
        by_cases hk0 : k = 0
        ·have hi0 := S3.out.ile
         have c1 : ((k : Int) == 0) = true := by rw [beq_iff_eq]; omega
         have c2 : (k : Int) = 0 := by omega
         have c3 : (i : Int) = 0 := by omega
         have c4 : decide (0 < (i : Int)) = false := decide_eq_false (by omega)
         go_wp2
         (try simp only [Exit.inBlock, Exit.then])
         refine bodyPost_ret (results_tmp4 rfl _ _ _) rfl ?_
         obtain ⟨l, hl1, hl2, hl3, hl4⟩ := S3.out.nat
         obtain rfl : k = 0 := by omega
         obtain rfl : i = 0 := by omega
         exact ⟨_, _, l, 0, rfl, hl1, by have h_ := S3.out.dlt; simp at h_; rw [h_] at hl2; simpa using hl2, hl3, hk, S3.out.dig, (fun _ => HND.out), fun _ => rfl, (fun h => absurd h (Nat.lt_irrefl _)), ⟨-1, R3.out⟩, S3.out.bel⟩
        ·by_cases hi0 : i = 0
         ·have c1 : ((k : Int) == 0) = false := by rw [beq_eq_false_iff_ne]; omega
          have c2 : ¬ ((k : Int) = 0) := by omega
          have c3 : (i : Int) = 0 := by omega
          have c4 : decide (0 < (i : Int)) = false := decide_eq_false (by omega)
          go_wp2
          (try simp only [Exit.inBlock, Exit.then])
          refine bodyPost_ret (results_tmp4 rfl _ _ _) rfl ?_
          obtain ⟨l, hl1, hl2, hl3, hl4⟩ := S3.out.nat
          obtain rfl : i = 0 := by omega
          exact ⟨_, _, l, k, rfl, hl1, by have h_ := S3.out.dlt; simp at h_; rw [h_] at hl2; simpa using hl2, hl3, hk, S3.out.dig, (fun _ => HND.out), (fun h => absurd h (by omega)), fun _ => rfl, ⟨-1, R3.out⟩, S3.out.bel⟩
         ·have c1 : ((k : Int) == 0) = false := by rw [beq_eq_false_iff_ne]; omega
          have c2 : ¬ ((k : Int) = 0) := by omega
          have c4 : decide (0 < (i : Int)) = true := decide_eq_true (by omega)
          have c5 := S3.out.i19
          go_wp2_with (first | (go_at_call 72; refine (pow_ i (by omega) (by omega) _).mono ?_; rintro e' w4 ⟨rfl, hw4⟩; have hw4 := hw4.symm; subst hw4) | (go_at_call 71; obtain ⟨l, hl1, hl2, hl3, hl4⟩ := S3.out.nat; refine (mulAddWW_ w3 B u0 l (10 ^ i) d hl1 (Nat.le_trans HB0.out S3.out.bel.size) (pow_word S3.out.i19) (pow_ne i) (word_of S3.out.word) (Nat.le_trans hl4 (Nat.le_trans hk HBB.out.2.2.1))).mono ?_; rintro e' w5 ⟨v5, l5, rfl, m1, m2, m3, m4, m5⟩; have M := Aside0.mk (And.intro m1 (And.intro (m2.trans hl2) (And.intro m3 m5))); clear m1 m2 m3 m4 m5 hl1 hl2 hl3 hl4))
          (try simp only [Exit.inBlock, Exit.then])
          refine bodyPost_ret (results_tmp4 rfl _ _ _) rfl ?_
          obtain ⟨m1, m2, m3, m5⟩ := M.out
          exact ⟨_, _, l5, k, rfl, m1, m2, m3, hk, S3.out.dig, (fun _ => HND.out), (fun h => absurd h (by omega)), fun _ => rfl, ⟨-1, R3.out.same (m5.block b HBB.out.1)⟩, S3.out.bel.below m5⟩
       ·have hn5 := hcc
        clear hcc
        by_cases hcc : c < 48
        ·have f1 : (c == 46) = false := by rw [beq_eq_false_iff_ne]; omega
         have f2 : (c == 95) = false := by rw [beq_eq_false_iff_ne]; omega
         have f3 : decide (48 ≤ c) = false := decide_eq_false (by omega)
         have f4 : decide (97 ≤ c) = false := decide_eq_false (by omega)
         have f5 : decide (65 ≤ c) = false := decide_eq_false (by omega)
         clear hcc
         clear hnd hr0
         go_upto_region 80 with (first | (go_at_call 124; refine HUN.out.mono ?_; rintro e' w3 ⟨rfl, r3, g3⟩; have R3 := Aside0.mk r3; have S3 : Aside0 (Sc B b w w3 s u0 k d i) := ⟨hsc.out.grown g3 HBB.out.1 HB0.out⟩; have hE3 : w3.cell? ⟨3, 0, none⟩ = some (.iface 103 (.pointer (some EP))) := (S3.out.bel.cell (p := ⟨3, 0, none⟩) (by have h_ := HBB.out.1; have h2_ := HBB.out.2.1; show 3 < B; omega) (by have h2_ := HBB.out.2.1; show 3 ≠ b; omega)).trans HE.out; have hN3 : w3.cell? ⟨7, 0, none⟩ = some (.iface 103 (.pointer (some NP))) := (S3.out.bel.cell (p := ⟨7, 0, none⟩) (by have h_ := HBB.out.1; have h2_ := HBB.out.2.1; show 7 < B; omega) (by have h2_ := HBB.out.2.1; show 7 ≠ b; omega)).trans HN.out; clear r3 g3))
         by_cases hk0 : k = 0
         ·have hi0 := S3.out.ile
          have c1 : ((k : Int) == 0) = true := by rw [beq_iff_eq]; omega
          have c2 : (k : Int) = 0 := by omega
          have c3 : (i : Int) = 0 := by omega
          have c4 : decide (0 < (i : Int)) = false := decide_eq_false (by omega)
          go_wp2
          (try simp only [Exit.inBlock, Exit.then])
          refine bodyPost_ret (results_tmp4 rfl _ _ _) rfl ?_
          obtain ⟨l, hl1, hl2, hl3, hl4⟩ := S3.out.nat
          obtain rfl : k = 0 := by omega
          obtain rfl : i = 0 := by omega
          exact ⟨_, _, l, 0, rfl, hl1, by have h_ := S3.out.dlt; simp at h_; rw [h_] at hl2; simpa using hl2, hl3, hk, S3.out.dig, (fun _ => HND.out), fun _ => rfl, (fun h => absurd h (Nat.lt_irrefl _)), ⟨-1, R3.out⟩, S3.out.bel⟩
         ·by_cases hi0 : i = 0
          ·have c1 : ((k : Int) == 0) = false := by rw [beq_eq_false_iff_ne]; omega
           have c2 : ¬ ((k : Int) = 0) := by omega
           have c3 : (i : Int) = 0 := by omega
           have c4 : decide (0 < (i : Int)) = false := decide_eq_false (by omega)
           go_wp2
           (try simp only [Exit.inBlock, Exit.then])
           refine bodyPost_ret (results_tmp4 rfl _ _ _) rfl ?_
           obtain ⟨l, hl1, hl2, hl3, hl4⟩ := S3.out.nat
           obtain rfl : i = 0 := by omega
           exact ⟨_, _, l, k, rfl, hl1, by have h_ := S3.out.dlt; simp at h_; rw [h_] at hl2; simpa using hl2, hl3, hk, S3.out.dig, (fun _ => HND.out), (fun h => absurd h (by omega)), fun _ => rfl, ⟨-1, R3.out⟩, S3.out.bel⟩
          ·have c1 : ((k : Int) == 0) = false := by rw [beq_eq_false_iff_ne]; omega
           have c2 : ¬ ((k : Int) = 0) := by omega
           have c4 : decide (0 < (i : Int)) = true := decide_eq_true (by omega)
           have c5 := S3.out.i19
           go_wp2_with (first | (go_at_call 72; refine (pow_ i (by omega) (by omega) _).mono ?_; rintro e' w4 ⟨rfl, hw4⟩; have hw4 := hw4.symm; subst hw4) | (go_at_call 71; obtain ⟨l, hl1, hl2, hl3, hl4⟩ := S3.out.nat; refine (mulAddWW_ w3 B u0 l (10 ^ i) d hl1 (Nat.le_trans HB0.out S3.out.bel.size) (pow_word S3.out.i19) (pow_ne i) (word_of S3.out.word) (Nat.le_trans hl4 (Nat.le_trans hk HBB.out.2.2.1))).mono ?_; rintro e' w5 ⟨v5, l5, rfl, m1, m2, m3, m4, m5⟩; have M := Aside0.mk (And.intro m1 (And.intro (m2.trans hl2) (And.intro m3 m5))); clear m1 m2 m3 m4 m5 hl1 hl2 hl3 hl4))
           (try simp only [Exit.inBlock, Exit.then])
           refine bodyPost_ret (results_tmp4 rfl _ _ _) rfl ?_
           obtain ⟨m1, m2, m3, m5⟩ := M.out
           exact ⟨_, _, l5, k, rfl, m1, m2, m3, hk, S3.out.dig, (fun _ => HND.out), (fun h => absurd h (by omega)), fun _ => rfl, ⟨-1, R3.out.same (m5.block b HBB.out.1)⟩, S3.out.bel.below m5⟩
        ·have hn4 := hcc
         clear hcc
         by_cases hcc : c ≤ 64
         ·have f1 : (c == 46) = false := by rw [beq_eq_false_iff_ne]; omega
          have f2 : (c == 95) = false := by rw [beq_eq_false_iff_ne]; omega
          have f3 : decide (48 ≤ c) = true := decide_eq_true (by omega)
          have f4 : decide (c ≤ 57) = false := decide_eq_false (by omega)
          have f5 : decide (97 ≤ c) = false := decide_eq_false (by omega)
          have f6 : decide (65 ≤ c) = false := decide_eq_false (by omega)
          clear hcc
          clear hnd hr0
          go_upto_region 80 with (first | (go_at_call 124; refine HUN.out.mono ?_; rintro e' w3 ⟨rfl, r3, g3⟩; have R3 := Aside0.mk r3; have S3 : Aside0 (Sc B b w w3 s u0 k d i) := ⟨hsc.out.grown g3 HBB.out.1 HB0.out⟩; have hE3 : w3.cell? ⟨3, 0, none⟩ = some (.iface 103 (.pointer (some EP))) := (S3.out.bel.cell (p := ⟨3, 0, none⟩) (by have h_ := HBB.out.1; have h2_ := HBB.out.2.1; show 3 < B; omega) (by have h2_ := HBB.out.2.1; show 3 ≠ b; omega)).trans HE.out; have hN3 : w3.cell? ⟨7, 0, none⟩ = some (.iface 103 (.pointer (some NP))) := (S3.out.bel.cell (p := ⟨7, 0, none⟩) (by have h_ := HBB.out.1; have h2_ := HBB.out.2.1; show 7 < B; omega) (by have h2_ := HBB.out.2.1; show 7 ≠ b; omega)).trans HN.out; clear r3 g3))
          by_cases hk0 : k = 0
          ·have hi0 := S3.out.ile
           have c1 : ((k : Int) == 0) = true := by rw [beq_iff_eq]; omega
           have c2 : (k : Int) = 0 := by omega
           have c3 : (i : Int) = 0 := by omega
           have c4 : decide (0 < (i : Int)) = false := decide_eq_false (by omega)
           go_wp2
           (try simp only [Exit.inBlock, Exit.then])
           refine bodyPost_ret (results_tmp4 rfl _ _ _) rfl ?_
           obtain ⟨l, hl1, hl2, hl3, hl4⟩ := S3.out.nat
           obtain rfl : k = 0 := by omega
           obtain rfl : i = 0 := by omega
           exact ⟨_, _, l, 0, rfl, hl1, by have h_ := S3.out.dlt; simp at h_; rw [h_] at hl2; simpa using hl2, hl3, hk, S3.out.dig, (fun _ => HND.out), fun _ => rfl, (fun h => absurd h (Nat.lt_irrefl _)), ⟨-1, R3.out⟩, S3.out.bel⟩
          ·by_cases hi0 : i = 0
           ·have c1 : ((k : Int) == 0) = false := by rw [beq_eq_false_iff_ne]; omega
            have c2 : ¬ ((k : Int) = 0) := by omega
            have c3 : (i : Int) = 0 := by omega
            have c4 : decide (0 < (i : Int)) = false := decide_eq_false (by omega)
            go_wp2
            (try simp only [Exit.inBlock, Exit.then])
            refine bodyPost_ret (results_tmp4 rfl _ _ _) rfl ?_
            obtain ⟨l, hl1, hl2, hl3, hl4⟩ := S3.out.nat
            obtain rfl : i = 0 := by omega
            exact ⟨_, _, l, k, rfl, hl1, by have h_ := S3.out.dlt; simp at h_; rw [h_] at hl2; simpa using hl2, hl3, hk, S3.out.dig, (fun _ => HND.out), (fun h => absurd h (by omega)), fun _ => rfl, ⟨-1, R3.out⟩, S3.out.bel⟩
           ·have c1 : ((k : Int) == 0) = false := by rw [beq_eq_false_iff_ne]; omega
            have c2 : ¬ ((k : Int) = 0) := by omega
            have c4 : decide (0 < (i : Int)) = true := decide_eq_true (by omega)
            have c5 := S3.out.i19
            go_wp2_with (first | (go_at_call 72; refine (pow_ i (by omega) (by omega) _).mono ?_; rintro e' w4 ⟨rfl, hw4⟩; have hw4 := hw4.symm; subst hw4) | (go_at_call 71; obtain ⟨l, hl1, hl2, hl3, hl4⟩ := S3.out.nat; refine (mulAddWW_ w3 B u0 l (10 ^ i) d hl1 (Nat.le_trans HB0.out S3.out.bel.size) (pow_word S3.out.i19) (pow_ne i) (word_of S3.out.word) (Nat.le_trans hl4 (Nat.le_trans hk HBB.out.2.2.1))).mono ?_; rintro e' w5 ⟨v5, l5, rfl, m1, m2, m3, m4, m5⟩; have M := Aside0.mk (And.intro m1 (And.intro (m2.trans hl2) (And.intro m3 m5))); clear m1 m2 m3 m4 m5 hl1 hl2 hl3 hl4))
            (try simp only [Exit.inBlock, Exit.then])
            refine bodyPost_ret (results_tmp4 rfl _ _ _) rfl ?_
            obtain ⟨m1, m2, m3, m5⟩ := M.out
            exact ⟨_, _, l5, k, rfl, m1, m2, m3, hk, S3.out.dig, (fun _ => HND.out), (fun h => absurd h (by omega)), fun _ => rfl, ⟨-1, R3.out.same (m5.block b HBB.out.1)⟩, S3.out.bel.below m5⟩
         ·have hn3 := hcc
          clear hcc
          by_cases hcc : c ≤ 96
          ·have f1 : (c == 46) = false := by rw [beq_eq_false_iff_ne]; omega
           have f2 : (c == 95) = false := by rw [beq_eq_false_iff_ne]; omega
           have f3 : decide (48 ≤ c) = true := decide_eq_true (by omega)
           have f4 : decide (c ≤ 57) = false := decide_eq_false (by omega)
           have f5 : decide (97 ≤ c) = false := decide_eq_false (by omega)
           have f6 : decide (65 ≤ c) = true := decide_eq_true (by omega)
           have f7 : decide (c ≤ 90) = false := decide_eq_false (by omega)
           clear hcc
           clear hnd hr0
           go_upto_region 80 with (first | (go_at_call 124; refine HUN.out.mono ?_; rintro e' w3 ⟨rfl, r3, g3⟩; have R3 := Aside0.mk r3; have S3 : Aside0 (Sc B b w w3 s u0 k d i) := ⟨hsc.out.grown g3 HBB.out.1 HB0.out⟩; have hE3 : w3.cell? ⟨3, 0, none⟩ = some (.iface 103 (.pointer (some EP))) := (S3.out.bel.cell (p := ⟨3, 0, none⟩) (by have h_ := HBB.out.1; have h2_ := HBB.out.2.1; show 3 < B; omega) (by have h2_ := HBB.out.2.1; show 3 ≠ b; omega)).trans HE.out; have hN3 : w3.cell? ⟨7, 0, none⟩ = some (.iface 103 (.pointer (some NP))) := (S3.out.bel.cell (p := ⟨7, 0, none⟩) (by have h_ := HBB.out.1; have h2_ := HBB.out.2.1; show 7 < B; omega) (by have h2_ := HBB.out.2.1; show 7 ≠ b; omega)).trans HN.out; clear r3 g3))
           by_cases hk0 : k = 0
           ·have hi0 := S3.out.ile
            have c1 : ((k : Int) == 0) = true := by rw [beq_iff_eq]; omega
            have c2 : (k : Int) = 0 := by omega
            have c3 : (i : Int) = 0 := by omega
            have c4 : decide (0 < (i : Int)) = false := decide_eq_false (by omega)
            go_wp2
            (try simp only [Exit.inBlock, Exit.then])
            refine bodyPost_ret (results_tmp4 rfl _ _ _) rfl ?_
            obtain ⟨l, hl1, hl2, hl3, hl4⟩ := S3.out.nat
            obtain rfl : k = 0 := by omega
            obtain rfl : i = 0 := by omega
            exact ⟨_, _, l, 0, rfl, hl1, by have h_ := S3.out.dlt; simp at h_; rw [h_] at hl2; simpa using hl2, hl3, hk, S3.out.dig, (fun _ => HND.out), fun _ => rfl, (fun h => absurd h (Nat.lt_irrefl _)), ⟨-1, R3.out⟩, S3.out.bel⟩
           ·by_cases hi0 : i = 0
            ·have c1 : ((k : Int) == 0) = false := by rw [beq_eq_false_iff_ne]; omega
             have c2 : ¬ ((k : Int) = 0) := by omega
             have c3 : (i : Int) = 0 := by omega
             have c4 : decide (0 < (i : Int)) = false := decide_eq_false (by omega)
             go_wp2
             (try simp only [Exit.inBlock, Exit.then])
             refine bodyPost_ret (results_tmp4 rfl _ _ _) rfl ?_
             obtain ⟨l, hl1, hl2, hl3, hl4⟩ := S3.out.nat
             obtain rfl : i = 0 := by omega
             exact ⟨_, _, l, k, rfl, hl1, by have h_ := S3.out.dlt; simp at h_; rw [h_] at hl2; simpa using hl2, hl3, hk, S3.out.dig, (fun _ => HND.out), (fun h => absurd h (by omega)), fun _ => rfl, ⟨-1, R3.out⟩, S3.out.bel⟩
            ·have c1 : ((k : Int) == 0) = false := by rw [beq_eq_false_iff_ne]; omega
             have c2 : ¬ ((k : Int) = 0) := by omega
             have c4 : decide (0 < (i : Int)) = true := decide_eq_true (by omega)
             have c5 := S3.out.i19
             go_wp2_with (first | (go_at_call 72; refine (pow_ i (by omega) (by omega) _).mono ?_; rintro e' w4 ⟨rfl, hw4⟩; have hw4 := hw4.symm; subst hw4) | (go_at_call 71; obtain ⟨l, hl1, hl2, hl3, hl4⟩ := S3.out.nat; refine (mulAddWW_ w3 B u0 l (10 ^ i) d hl1 (Nat.le_trans HB0.out S3.out.bel.size) (pow_word S3.out.i19) (pow_ne i) (word_of S3.out.word) (Nat.le_trans hl4 (Nat.le_trans hk HBB.out.2.2.1))).mono ?_; rintro e' w5 ⟨v5, l5, rfl, m1, m2, m3, m4, m5⟩; have M := Aside0.mk (And.intro m1 (And.intro (m2.trans hl2) (And.intro m3 m5))); clear m1 m2 m3 m4 m5 hl1 hl2 hl3 hl4))
             (try simp only [Exit.inBlock, Exit.then])
             refine bodyPost_ret (results_tmp4 rfl _ _ _) rfl ?_
             obtain ⟨m1, m2, m3, m5⟩ := M.out
             exact ⟨_, _, l5, k, rfl, m1, m2, m3, hk, S3.out.dig, (fun _ => HND.out), (fun h => absurd h (by omega)), fun _ => rfl, ⟨-1, R3.out.same (m5.block b HBB.out.1)⟩, S3.out.bel.below m5⟩
          ·have hn2 := hcc
           clear hcc
           have f1 : (c == 46) = false := by rw [beq_eq_false_iff_ne]; omega
           have f2 : (c == 95) = false := by rw [beq_eq_false_iff_ne]; omega
           have f3 : decide (48 ≤ c) = true := decide_eq_true (by omega)
           have f4 : decide (c ≤ 57) = false := decide_eq_false (by omega)
           have f5 : decide (97 ≤ c) = true := decide_eq_true (by omega)
           have f6 : decide (c ≤ 122) = false := decide_eq_false (by omega)
           have f7 : decide (65 ≤ c) = true := decide_eq_true (by omega)
           have f8 : decide (c ≤ 90) = false := decide_eq_false (by omega)

           clear hnd hr0
           go_upto_region 80 with (first | (go_at_call 124; refine HUN.out.mono ?_; rintro e' w3 ⟨rfl, r3, g3⟩; have R3 := Aside0.mk r3; have S3 : Aside0 (Sc B b w w3 s u0 k d i) := ⟨hsc.out.grown g3 HBB.out.1 HB0.out⟩; have hE3 : w3.cell? ⟨3, 0, none⟩ = some (.iface 103 (.pointer (some EP))) := (S3.out.bel.cell (p := ⟨3, 0, none⟩) (by have h_ := HBB.out.1; have h2_ := HBB.out.2.1; show 3 < B; omega) (by have h2_ := HBB.out.2.1; show 3 ≠ b; omega)).trans HE.out; have hN3 : w3.cell? ⟨7, 0, none⟩ = some (.iface 103 (.pointer (some NP))) := (S3.out.bel.cell (p := ⟨7, 0, none⟩) (by have h_ := HBB.out.1; have h2_ := HBB.out.2.1; show 7 < B; omega) (by have h2_ := HBB.out.2.1; show 7 ≠ b; omega)).trans HN.out; clear r3 g3))
           by_cases hk0 : k = 0
           ·have hi0 := S3.out.ile
            have c1 : ((k : Int) == 0) = true := by rw [beq_iff_eq]; omega
            have c2 : (k : Int) = 0 := by omega
            have c3 : (i : Int) = 0 := by omega
            have c4 : decide (0 < (i : Int)) = false := decide_eq_false (by omega)
            go_wp2
            (try simp only [Exit.inBlock, Exit.then])
            refine bodyPost_ret (results_tmp4 rfl _ _ _) rfl ?_
            obtain ⟨l, hl1, hl2, hl3, hl4⟩ := S3.out.nat
            obtain rfl : k = 0 := by omega
            obtain rfl : i = 0 := by omega
            exact ⟨_, _, l, 0, rfl, hl1, by have h_ := S3.out.dlt; simp at h_; rw [h_] at hl2; simpa using hl2, hl3, hk, S3.out.dig, (fun _ => HND.out), fun _ => rfl, (fun h => absurd h (Nat.lt_irrefl _)), ⟨-1, R3.out⟩, S3.out.bel⟩
           ·by_cases hi0 : i = 0
            ·have c1 : ((k : Int) == 0) = false := by rw [beq_eq_false_iff_ne]; omega
             have c2 : ¬ ((k : Int) = 0) := by omega
             have c3 : (i : Int) = 0 := by omega
             have c4 : decide (0 < (i : Int)) = false := decide_eq_false (by omega)
             go_wp2
             (try simp only [Exit.inBlock, Exit.then])
             refine bodyPost_ret (results_tmp4 rfl _ _ _) rfl ?_
             obtain ⟨l, hl1, hl2, hl3, hl4⟩ := S3.out.nat
             obtain rfl : i = 0 := by omega
             exact ⟨_, _, l, k, rfl, hl1, by have h_ := S3.out.dlt; simp at h_; rw [h_] at hl2; simpa using hl2, hl3, hk, S3.out.dig, (fun _ => HND.out), (fun h => absurd h (by omega)), fun _ => rfl, ⟨-1, R3.out⟩, S3.out.bel⟩
            ·have c1 : ((k : Int) == 0) = false := by rw [beq_eq_false_iff_ne]; omega
             have c2 : ¬ ((k : Int) = 0) := by omega
             have c4 : decide (0 < (i : Int)) = true := decide_eq_true (by omega)
             have c5 := S3.out.i19
             go_wp2_with (first | (go_at_call 72; refine (pow_ i (by omega) (by omega) _).mono ?_; rintro e' w4 ⟨rfl, hw4⟩; have hw4 := hw4.symm; subst hw4) | (go_at_call 71; obtain ⟨l, hl1, hl2, hl3, hl4⟩ := S3.out.nat; refine (mulAddWW_ w3 B u0 l (10 ^ i) d hl1 (Nat.le_trans HB0.out S3.out.bel.size) (pow_word S3.out.i19) (pow_ne i) (word_of S3.out.word) (Nat.le_trans hl4 (Nat.le_trans hk HBB.out.2.2.1))).mono ?_; rintro e' w5 ⟨v5, l5, rfl, m1, m2, m3, m4, m5⟩; have M := Aside0.mk (And.intro m1 (And.intro (m2.trans hl2) (And.intro m3 m5))); clear m1 m2 m3 m4 m5 hl1 hl2 hl3 hl4))
             (try simp only [Exit.inBlock, Exit.then])
             refine bodyPost_ret (results_tmp4 rfl _ _ _) rfl ?_
             obtain ⟨m1, m2, m3, m5⟩ := M.out
             exact ⟨_, _, l5, k, rfl, m1, m2, m3, hk, S3.out.dig, (fun _ => HND.out), (fun h => absurd h (by omega)), fun _ => rfl, ⟨-1, R3.out.same (m5.block b HBB.out.1)⟩, S3.out.bel.below m5⟩
  ·subst he
   subst hch
   have HR : Aside0 (Rd wr b s k (-1)) := ⟨by rw [hks]; exact hr⟩
   have hE3 : wr.cell? ⟨3, 0, none⟩ = some (.iface 103 (.pointer (some EP))) := (hsc.out.bel.cell (p := ⟨3, 0, none⟩) (by have h_ := HBB.out.1; have h2_ := HBB.out.2.1; show 3 < B; omega) (by have h2_ := HBB.out.2.1; show 3 ≠ b; omega)).trans HE.out
   have hN3 : wr.cell? ⟨7, 0, none⟩ = some (.iface 103 (.pointer (some NP))) := (hsc.out.bel.cell (p := ⟨7, 0, none⟩) (by have h_ := HBB.out.1; have h2_ := HBB.out.2.1; show 7 < B; omega) (by have h2_ := HBB.out.2.1; show 7 ≠ b; omega)).trans HN.out
   have HKS := Aside0.mk hks
   simp only [ErrV]
   clear hr hhd hks
   go_upto_region 80 with (fail)
   by_cases hk0 : k = 0
   ·have hi0 := hsc.out.ile
    have c1 : ((k : Int) == 0) = true := by rw [beq_iff_eq]; omega
    have c2 : (k : Int) = 0 := by omega
    have c3 : (i : Int) = 0 := by omega
    have c4 : decide (0 < (i : Int)) = false := decide_eq_false (by omega)
    go_wp2
    (try simp only [Exit.inBlock, Exit.then])
    refine bodyPost_ret (results_tmp4 rfl _ _ _) rfl ?_
    obtain ⟨l, hl1, hl2, hl3, hl4⟩ := hsc.out.nat
    obtain rfl : k = 0 := by omega
    obtain rfl : i = 0 := by omega
    exact ⟨_, _, l, 0, rfl, hl1, by have h_ := hsc.out.dlt; simp at h_; rw [h_] at hl2; simpa using hl2, hl3, hk, hsc.out.dig, (fun h => absurd h (by rw [HKS.out]; exact Nat.lt_irrefl _)), fun _ => rfl, (fun h => absurd h (Nat.lt_irrefl _)), ⟨-1, HR.out⟩, hsc.out.bel⟩
   ·by_cases hi0 : i = 0
    ·have c1 : ((k : Int) == 0) = false := by rw [beq_eq_false_iff_ne]; omega
     have c2 : ¬ ((k : Int) = 0) := by omega
     have c3 : (i : Int) = 0 := by omega
     have c4 : decide (0 < (i : Int)) = false := decide_eq_false (by omega)
     go_wp2
     (try simp only [Exit.inBlock, Exit.then])
     refine bodyPost_ret (results_tmp4 rfl _ _ _) rfl ?_
     obtain ⟨l, hl1, hl2, hl3, hl4⟩ := hsc.out.nat
     obtain rfl : i = 0 := by omega
     exact ⟨_, _, l, k, rfl, hl1, by have h_ := hsc.out.dlt; simp at h_; rw [h_] at hl2; simpa using hl2, hl3, hk, hsc.out.dig, (fun h => absurd h (by rw [HKS.out]; exact Nat.lt_irrefl _)), (fun h => absurd h (by omega)), fun _ => rfl, ⟨-1, HR.out⟩, hsc.out.bel⟩
    ·have c1 : ((k : Int) == 0) = false := by rw [beq_eq_false_iff_ne]; omega
     have c2 : ¬ ((k : Int) = 0) := by omega
     have c4 : decide (0 < (i : Int)) = true := decide_eq_true (by omega)
     have c5 := hsc.out.i19
     go_wp2_with (first | (go_at_call 72; refine (pow_ i (by omega) (by omega) _).mono ?_; rintro e' w4 ⟨rfl, hw4⟩; have hw4 := hw4.symm; subst hw4) | (go_at_call 71; obtain ⟨l, hl1, hl2, hl3, hl4⟩ := hsc.out.nat; refine (mulAddWW_ wr B u0 l (10 ^ i) d hl1 (Nat.le_trans HB0.out hsc.out.bel.size) (pow_word hsc.out.i19) (pow_ne i) (word_of hsc.out.word) (Nat.le_trans hl4 (Nat.le_trans hk HBB.out.2.2.1))).mono ?_; rintro e' w5 ⟨v5, l5, rfl, m1, m2, m3, m4, m5⟩; have M := Aside0.mk (And.intro m1 (And.intro (m2.trans hl2) (And.intro m3 m5))); clear m1 m2 m3 m4 m5 hl1 hl2 hl3 hl4))
     (try simp only [Exit.inBlock, Exit.then])
     refine bodyPost_ret (results_tmp4 rfl _ _ _) rfl ?_
     obtain ⟨m1, m2, m3, m5⟩ := M.out
     exact ⟨_, _, l5, k, rfl, m1, m2, m3, hk, hsc.out.dig, (fun h => absurd h (by rw [HKS.out]; exact Nat.lt_irrefl _)), (fun h => absurd h (by omega)), fun _ => rfl, ⟨-1, HR.out.same (m5.block b HBB.out.1)⟩, hsc.out.bel.below m5⟩
end Go.Proofs.YtdjkekgfeadmoaaGreatDoorG

/- Contracts of math/big's (*Int).scan, setFromScanner, SetString, at base ten and on texts without a sign, and of convertToBigInt. -/
namespace Go.Proofs.YtdjkekgfeadmoaaGreatDoorG
open Go.RowKit Go.Proofs.YtdjkekgfeadmoaaGreatDoorW.PrintWords Go.Proofs.YtdjkekgfeadmoaaGreatDoorW.PrintLast
set_option linter.unusedVariables false
set_option linter.unusedSimpArgs false

/-- A big.Int's two cells. -/
def Bg (w : World) (a : Nat) (ng : Bool) (v : Value) : Prop := w.heap[a]? = some (.cells #[.bool ng, v] 62 (0, 0))
theorem Bg.c0 {w : World} {a : Nat} {ng : Bool} {v : Value} (h : Bg w a ng v) : w.cell? ⟨a, 0, none⟩ = some (.bool ng) := by unfold Bg at h; simp [World.cell?, h]
theorem Bg.c1 {w : World} {a : Nat} {ng : Bool} {v : Value} (h : Bg w a ng v) : w.cell? ⟨a, 1, none⟩ = some v := by unfold Bg at h; simp [World.cell?, h]
theorem Bg.free {w : World} {a : Nat} {ng : Bool} {v : Value} (h : Bg w a ng v) (j : Nat) : w.frozen? ⟨a, j, none⟩ = false := by unfold Bg at h; simp [World.frozen?, h]
theorem Bg.set1 {w : World} {a : Nat} {ng : Bool} {v : Value} (h : Bg w a ng v) (u : Value) : Bg (w.setCell ⟨a, 1, none⟩ u) a ng u := by
 unfold Bg at h ⊢
 simp [World.setCell, Array.getElem?_modify, h]
theorem Bg.set0 {w : World} {a : Nat} {ng : Bool} {v : Value} (h : Bg w a ng v) (u : Bool) : Bg (w.setCell ⟨a, 0, none⟩ (.bool u)) a u v := by
 unfold Bg at h ⊢
 simp [World.setCell, Array.getElem?_modify, h]
theorem Bg.same {w w' : World} {a : Nat} {ng : Bool} {v : Value} (h : Bg w a ng v) (hb : w'.heap[a]? = w.heap[a]?) : Bg w' a ng v := by unfold Bg at h ⊢; rw [hb]; exact h
theorem Bg.lt {w : World} {a : Nat} {ng : Bool} {v : Value} (h : Bg w a ng v) : a < w.heap.size := (Array.getElem?_eq_some_iff.1 h).1
theorem set_block_other {w : World} {g i k : Nat} {v : Value} (h : k ≠ g) : (w.setCell ⟨g, i, none⟩ v).heap[k]? = w.heap[k]? := by
 have : g ≠ k := fun e => h e.symm
 simp [World.setCell, Array.getElem?_modify, this]
theorem NatS.other {w w' : World} {B : Nat} {v : Value} {l : List Nat} (h : NatS w B v l) (hk : ∀ k, B ≤ k → k < w.heap.size → w'.heap[k]? = w.heap[k]?) : NatS w' B v l := by
 rcases h with h | ⟨g, full, h1, h2, h3, h4⟩
 ·exact .inl h
 ·exact .inr ⟨g, full, h1, h2, h3.same (hk g h2 h3.lt), h4⟩
theorem NatS.shape {w : World} {B : Nat} {v : Value} {l : List Nat} (h : NatS w B v l) : ∃ p c, v = .slice p l.length c := by
 rcases h with ⟨rfl, rfl⟩ | ⟨g, full, rfl, _⟩
 ·exact ⟨none, 0, rfl⟩
 ·exact ⟨_, _, rfl⟩
theorem Bel.toBelow {B b B0 : Nat} {w w' : World} (h : Bel B b w w') (h1 : B0 ≤ B) (h2 : B0 ≤ b) : Below B0 w w' := ⟨h.os, h.tape, h.output, h.size, fun k hk => h.block k (by omega) (by omega)⟩

/-- What (*Int).scan comes to: r digits read. -/
structure Scanned (B0 H a b : Nat) (s : ByteArray) (w w' : World) (r : Nat) : Prop where
 big : ∃ v l, Bg w' a false v ∧ NatS w' H v l ∧ num l = dv s r ∧ l = trimW l
 le : r ≤ s.size
 dig : ∀ j : Nat, j < r → Dig (bt s j)
 fin : r < s.size → ¬ Dig (bt s r)
 rd : ∃ q, Rd w' b s r q
 below : Below B0 w w'

set_option maxRecDepth 100000 in
set_option maxHeartbeats 4000000 in
theorem intScan_ (w : World) (B0 a b : Nat) (s : ByteArray) (p : Int) (EP NP : Addr) (hz : Bg w a false (.slice none 0 0)) (h : Rd w b s 0 p) (h0 : 0 < s.size) (hs : s.size ≤ 1000000) (h1 : bt s 0 ≠ 45) (h2 : bt s 0 ≠ 43) (hab : a ≠ b) (hBa : B0 ≤ a) (hBb : B0 ≤ b)
  (hE : w.cell? ⟨3, 0, none⟩ = some (ErrV EP)) (hN : w.cell? ⟨7, 0, none⟩ = some (ErrV NP)) (hbg : 7 < b) (hag : 7 < a) :
  Calls Tryz.prog 60 #[.pointer (some ⟨a, 0, none⟩), .iface 68 (.pointer (some ⟨b, 0, none⟩)), .int .i64 10] w fun e w' => ∃ r, Scanned B0 w.heap.size a b s w w' r ∧
   (r = 0 → e = .returned (.tuple #[.pointer none, .int .i64 10, ErrV NP])) ∧ (0 < r → e = .returned (.tuple #[.pointer (some ⟨a, 0, none⟩), .int .i64 10, .nilIface])) := by
 have HS := Aside0.mk (scanSign_ w b s p h h0 (by omega) h1 h2)
 have hb := h.lt
 have ha := hz.lt
 have HNAT := Aside0.mk (fun w1 (r1 : Rd w1 b s 0 (-1)) (g1 : w.grownBy w1 (some b)) => natScan_ w1 w.heap.size b s (-1) EP NP r1 h0 hs hb g1.size
  ((World.cell?_of_block (g1.block 3 (by omega) (fun e => by have := Option.some.inj e; omega))).trans hE) ((World.cell?_of_block (g1.block 7 (by omega) (fun e => by have := Option.some.inj e; omega))).trans hN) hbg)
 have HZ1 := Aside0.mk (fun w1 (g1 : w.grownBy w1 (some b)) => hz.same (w' := w1) (g1.block a ha (fun e => hab (Option.some.inj e))))
 have hc1 : ∀ w1, w.grownBy w1 (some b) → w1.cell? ⟨a, 1, none⟩ = some (.slice none 0 0) := fun w1 g1 => (HZ1.out w1 g1).c1
 have HC1 := Aside0.mk hc1
 have F := Aside0.mk (And.intro hb (And.intro ha (And.intro hab (And.intro hBa hBb))))
 clear h hz h0 hs h1 h2 hE hN hbg hag hb ha hc1 hab hBa hBb
 go_enter Tryz.func60, Tryz.ntmps60
 go_upto_region 5 with (first
  | (go_at_call 65; refine HS.out.mono ?_; rintro e' w1 ⟨rfl, r1, g1⟩; have R1 := Aside0.mk r1; have G1 := Aside0.mk g1; have c1 := HC1.out w1 g1; clear r1 g1)
  | (go_at_call 66; refine (HNAT.out w1 R1.out G1.out).mono ?_; rintro e' w2 ⟨v, er, l, r, rfl, n1, n2, n3, n4, n5, n6, n7, n8, n9, n10⟩; obtain ⟨pv, cv, hv⟩ := n1.shape; subst hv; have O := Aside0.mk (And.intro n1 (And.intro n2 (And.intro n3 (And.intro n4 (And.intro n5 (And.intro n6 (And.intro n7 (And.intro n8 (And.intro n9 n10))))))))); have Z2 : Aside0 (Bg w2 a false (.slice none 0 0)) := ⟨(HZ1.out w1 G1.out).same (n10.block a F.out.2.1 F.out.2.2.1)⟩; have d1 := Z2.out.c1; have d2 := Z2.out.free 1; clear n1 n2 n3 n4 n5 n6 n7 n8 n9 n10 c1))
 obtain ⟨n1, n2, n3, n4, n5, n6, n7, n8, n9, n10⟩ := O.out
 obtain ⟨v, hv⟩ : ∃ v, v = Value.slice pv l.length cv := ⟨_, rfl⟩
 rw [← hv] at n1
 have Z3 := Z2.out.set1 v
 have fin : ∀ w', Bg w' a false v → (∀ k, k ≠ a → w'.heap[k]? = w2.heap[k]?) → w'.os = w2.os ∧ w'.tape = w2.tape ∧ w'.output = w2.output ∧ w'.heap.size = w2.heap.size → Scanned B0 w.heap.size a b s w w' r := by
  intro w' hb2 hk hrest
  obtain ⟨f1, f2, f3, f4, f5⟩ := F.out
  obtain ⟨q, hq⟩ := n9
  refine ⟨⟨v, l, hb2, n1.other (fun k hk1 _ => hk k (by omega)), n2, n3⟩, n4, n5, n6, ⟨q, hq.same (hk b (fun e => f3 e.symm))⟩, ?_⟩
  have hbl : Below B0 w w2 := Below.trans ⟨G1.out.os, G1.out.tape, G1.out.output, G1.out.size, fun k hk2 => G1.out.block k (by omega) (fun e => by have := Option.some.inj e; omega)⟩ (n10.toBelow (by omega) f5)
  exact ⟨hrest.1.trans hbl.os, hrest.2.1.trans hbl.tape, hrest.2.2.1.trans hbl.output, by rw [hrest.2.2.2]; exact hbl.size, fun k hk2 => (hk k (by omega)).trans (hbl.block k hk2)⟩
 have FIN := Aside0.mk fin
 subst hv
 have e1 := Z3.c1
 have e0 := Z3.c0
 have f0 := Z3.free 0
 have Z4 := Aside0.mk (Z3.set0 false)
 have ZZ3 := Aside0.mk Z3
 by_cases hr0 : r = 0
 ·have her := n7 hr0
  subst her
  simp only [ErrV]
  have HR := Aside0.mk hr0
  clear fin n1 n2 n3 n4 n5 n6 n7 n8 n9 n10 Z3 hr0
  go_wp2
  go_ret3
  exact ⟨r, FIN.out _ ZZ3.out (fun k hk => set_block_other hk) ⟨rfl, rfl, rfl, by simp [World.setCell]⟩, fun _ => rfl, fun h => absurd HR.out (Nat.pos_iff_ne_zero.1 h)⟩
 ·have her := n8 (Nat.pos_of_ne_zero hr0)
  subst her
  have HR := Aside0.mk hr0
  clear fin n1 n2 n3 n4 n5 n6 n7 n8 n9 n10 Z3 hr0
  by_cases hl : 0 < l.length
  ·have b1 : decide (0 < (l.length : Int)) = true := decide_eq_true (by omega)
   go_wp2
   go_ret3
   exact ⟨r, FIN.out _ Z4.out (fun k hk => (set_block_other hk).trans (set_block_other hk)) ⟨rfl, rfl, rfl, by simp [World.setCell]⟩, fun h => absurd h HR.out, fun _ => rfl⟩
  ·have b1 : decide (0 < (l.length : Int)) = false := decide_eq_false (by omega)
   go_wp2
   go_ret3
   exact ⟨r, FIN.out _ Z4.out (fun k hk => (set_block_other hk).trans (set_block_other hk)) ⟨rfl, rfl, rfl, by simp [World.setCell]⟩, fun h => absurd h HR.out, fun _ => rfl⟩
end Go.Proofs.YtdjkekgfeadmoaaGreatDoorG

/- Contracts of math/big's setFromScanner and SetString, at base ten and on texts without a sign, and of convertToBigInt. -/
namespace Go.Proofs.YtdjkekgfeadmoaaGreatDoorG
open Go.RowKit Go.Proofs.YtdjkekgfeadmoaaGreatDoorW.PrintWords Go.Proofs.YtdjkekgfeadmoaaGreatDoorW.PrintLast
set_option linter.unusedVariables false
set_option linter.unusedSimpArgs false

theorem neq_err (a : Addr) (W : World) : (binOp .neq 36 (.iface 103 (.pointer (some a))) (.iface 103 (.pointer (some a)))).run Tryz.prog W = .ok (.bool false) W := by
 have h := eq_err a W
 simp only [binOp] at h ⊢
 simp only [Op.equal, Op.maxDepth] at h ⊢
 obtain ⟨i, hi, hc⟩ := Option.map_eq_some_iff.1 errInfo
 obtain ⟨j, hj⟩ := Option.isSome_iff_exists.1 errPointee
 simp [run_equalIn_iface_ptr_same (P := Tryz.prog) W 9998 a Tryz.underlying36 Tryz.underlying103 hi hc hj]
theorem neq_nil_err (a : Addr) (W : World) : (binOp .neq 36 .nilIface (.iface 103 (.pointer (some a)))).run Tryz.prog W = .ok (.bool true) W := by
 have h : ∀ d : Nat, (Op.equalIn (d + 1) 36 .nilIface (.iface 103 (.pointer (some a)))).run Tryz.prog W = .ok false W := fun d => by simp [Op.equalIn, run_underlying Tryz.underlying36]
 simp only [binOp]
 simp [Op.equal, Op.maxDepth, h 9999]
/-- How many digits a text begins with. -/
theorem digits_ahead (s : ByteArray) : ∃ r, r ≤ s.size ∧ (∀ j : Nat, j < r → Dig (bt s j)) ∧ (r < s.size → ¬ Dig (bt s r)) := by
 have : ∀ n k : Nat, s.size - k = n → k ≤ s.size → (∀ j : Nat, j < k → Dig (bt s j)) → ∃ r, r ≤ s.size ∧ (∀ j : Nat, j < r → Dig (bt s j)) ∧ (r < s.size → ¬ Dig (bt s r)) := by
  intro n
  induction n with
  | zero => intro k h1 h2 h3; exact ⟨k, h2, h3, fun h => by omega⟩
  | succ n ih =>
   intro k h1 h2 h3
   by_cases hd : Dig (bt s k)
   ·refine ih (k + 1) (by omega) (by omega) (fun j hj => ?_)
    by_cases e : j = k
    ·rw [e]; exact hd
    ·exact h3 j (by omega)
   ·exact ⟨k, h2, h3, fun _ => hd⟩
 exact this _ 0 rfl (Nat.zero_le _) (fun j hj => by omega)
theorem digits_one {s : ByteArray} {r q : Nat} (h1 : r ≤ s.size) (h2 : ∀ j : Nat, j < r → Dig (bt s j)) (h3 : r < s.size → ¬ Dig (bt s r)) (k1 : q ≤ s.size) (k2 : ∀ j : Nat, j < q → Dig (bt s j)) (k3 : q < s.size → ¬ Dig (bt s q)) : r = q := by
 rcases Nat.lt_trichotomy r q with h | h | h
 ·exact absurd (k2 r h) (h3 (by omega))
 ·exact h
 ·exact absurd (h2 q h) (k3 (by omega))
/-- All of a text are digits, and there is one. -/
def AllDig (s : ByteArray) : Prop := 0 < s.size ∧ ∀ j : Nat, j < s.size → Dig (bt s j)
/-- What setFromScanner comes to. -/
structure Set_ (B0 H a : Nat) (s : ByteArray) (w w' : World) (e : Ending) : Prop where
 ok : AllDig s → e = .returned (.tuple #[.pointer (some ⟨a, 0, none⟩), .bool true]) ∧ ∃ v l, Bg w' a false v ∧ NatS w' H v l ∧ num l = dv s s.size ∧ l = trimW l
 no : ¬ AllDig s → e = .returned (.tuple #[.pointer none, .bool false])
 below : Below B0 w w'

set_option maxRecDepth 100000 in
set_option maxHeartbeats 4000000 in
theorem setFromScanner_ (w : World) (B0 a b : Nat) (s : ByteArray) (p : Int) (EP NP : Addr) (hz : Bg w a false (.slice none 0 0)) (h : Rd w b s 0 p) (h0 : 0 < s.size) (hs : s.size ≤ 1000000) (h1 : bt s 0 ≠ 45) (h2 : bt s 0 ≠ 43) (hab : a ≠ b) (hBa : B0 ≤ a) (hBb : B0 ≤ b)
  (hE : w.cell? ⟨3, 0, none⟩ = some (ErrV EP)) (hN : w.cell? ⟨7, 0, none⟩ = some (ErrV NP)) (hbg : 7 < b) (hag : 7 < a) (hg0 : 7 < B0) :
  Calls Tryz.prog 52 #[.pointer (some ⟨a, 0, none⟩), .iface 68 (.pointer (some ⟨b, 0, none⟩)), .int .i64 10] w (fun e w' => Set_ B0 w.heap.size a s w w' e) := by
 have HI := Aside0.mk (intScan_ w B0 a b s p EP NP hz h h0 hs h1 h2 hab hBa hBb hE hN hbg hag)
 have F := Aside0.mk (And.intro h0 (And.intro hs (And.intro hab (And.intro hBa (And.intro hBb (And.intro hg0 (And.intro hE (And.intro h.lt hbg))))))))
 have i1 := inv_ReadByte (some ⟨b, 0, none⟩)
 have i3 := ent_ReadByte
 have q1 := neq_err EP
 have q2 := neq_nil_err EP
 clear hz h h0 hs h1 h2 hab hBa hBb hE hN hbg hag hg0
 go_enter Tryz.func52, Tryz.ntmps52
 obtain ⟨r, hr1, hr2, hr3⟩ := digits_ahead s
 have hscan : Calls Tryz.prog 60 #[.pointer (some ⟨a, 0, none⟩), .iface 68 (.pointer (some ⟨b, 0, none⟩)), .int .i64 10] w (fun e w' => Scanned B0 w.heap.size a b s w w' r ∧ e = .returned (if r = 0 then .tuple #[.pointer none, .int .i64 10, ErrV NP] else .tuple #[.pointer (some ⟨a, 0, none⟩), .int .i64 10, .nilIface])) := by
  refine HI.out.mono ?_
  rintro e w' ⟨q, hsc, hz, hp⟩
  have e1 : q = r := digits_one hsc.le hsc.dig hsc.fin hr1 hr2 hr3
  subst e1
  refine ⟨hsc, ?_⟩
  by_cases h0 : q = 0
  ·rw [if_pos h0]; exact hz h0
  ·rw [if_neg h0]; exact hp (Nat.pos_of_ne_zero h0)
 have hnot : (r = 0 ∨ r < s.size) → ¬ AllDig s := by
  intro h hall
  rcases h with h | h
  ·subst h
   exact hr3 hall.1 (hall.2 0 hall.1)
  ·exact hr3 h (hall.2 r h)
 have hall : 0 < r → r = s.size → AllDig s := fun h1 h2 => ⟨by omega, fun j hj => hr2 j (by omega)⟩
 have HNOT := Aside0.mk hnot
 have HALL := Aside0.mk hall
 clear hnot hall
 have HD := Aside0.mk (And.intro hr1 (And.intro hr2 hr3))
 clear hr1 hr2 hr3
 by_cases hr0 : r = 0
 ·rw [if_pos hr0] at hscan
  simp only [ErrV] at hscan
  have HSC := Aside0.mk hscan
  have HR0 := Aside0.mk hr0
  clear hscan hr0
  go_wp2_with (first | (go_at_call 60; refine HSC.out.mono ?_; rintro e' w1 ⟨hsc, rfl⟩; have SC := Aside0.mk hsc; clear hsc))
  go_ret2
  exact ⟨fun h => absurd h (HNOT.out (.inl HR0.out)), fun _ => rfl, SC.out.below⟩
 ·rw [if_neg hr0] at hscan
  have HSC := Aside0.mk hscan
  have HR0 := Aside0.mk hr0
  clear hscan hr0
  have hrd : ∀ w1, Scanned B0 w.heap.size a b s w w1 r → Calls Tryz.prog 123 #[.pointer (some ⟨b, 0, none⟩)] w1 fun e w' => ∃ ch er, e = .returned (.tuple #[ch, er]) ∧ Head w' b s r ch er EP ∧ w1.grownBy w' (some b) := by
   intro w1 hsc
   obtain ⟨f1, f2, f3, f4, f5, f6, f7, f8, f9⟩ := F.out
   obtain ⟨q, hq⟩ := hsc.rd
   exact next_ w1 b r s q EP hq HD.out.1 f2 ((World.cell?_of_block (hsc.below.block 3 (by omega))).trans f7) (by omega)
  have hEw : ∀ w1 w2, Scanned B0 w.heap.size a b s w w1 r → w1.grownBy w2 (some b) → w2.cell? ⟨3, 0, none⟩ = some (.iface 103 (.pointer (some EP))) := by
   intro w1 w2 hsc hg
   obtain ⟨f1, f2, f3, f4, f5, f6, f7, f8, f9⟩ := F.out
   have hsz := hsc.below.size
   exact ((World.cell?_of_block (hg.block 3 (by omega) (fun e => by have := Option.some.inj e; omega))).trans (World.cell?_of_block (hsc.below.block 3 (by omega)))).trans f7
  have HRD := Aside0.mk hrd
  have HEW := Aside0.mk hEw
  have hset : ∀ w1 w2, Scanned B0 w.heap.size a b s w w1 r → w1.grownBy w2 (some b) → (∃ v l, Bg w2 a false v ∧ NatS w2 w.heap.size v l ∧ num l = dv s r ∧ l = trimW l) ∧ Below B0 w w2 := by
   intro w1 w2 hsc hg
   obtain ⟨f1, f2, f3, f4, f5, f6, f7, f8, f9⟩ := F.out
   obtain ⟨v, l, g1, g2, g3, g4⟩ := hsc.big
   have hsz := hsc.below.size
   exact ⟨⟨v, l, g1.same (hg.block a g1.lt (fun e => f3 (Option.some.inj e))), g2.grown hg f8, g3, g4⟩, hsc.below.grown hg (by have := g1.lt; omega) (fun k hk => by cases hk; exact f5)⟩
  have HSET := Aside0.mk hset
  clear hrd hEw hset
  go_upto_region 5 with (first
   | (go_at_call 60; refine HSC.out.mono ?_; rintro e' w1 ⟨hsc, rfl⟩; have SC := Aside0.mk hsc; clear hsc)
   | (go_at_call 123; refine (HRD.out w1 SC.out).mono ?_; rintro e' w2 ⟨ch, er, rfl, hh, hg⟩; have HH := Aside0.mk hh; have HG := Aside0.mk hg; have e1 := HEW.out w1 w2 SC.out hg; clear hh hg))
  obtain ⟨⟨v, l, g1, g2, g3, g4⟩, hbel⟩ := HSET.out w1 w2 SC.out HG.out
  have G := Aside0.mk (And.intro g1 (And.intro g2 (And.intro g3 (And.intro g4 hbel))))
  clear g1 g2 g3 g4 hbel
  rcases HH.out with ⟨hlt, he, hch, hr⟩ | ⟨hlt, he, hch, hr⟩
  ·subst he
   subst hch
   have HLT := Aside0.mk hlt
   clear hlt hr HH
   go_wp2
   go_ret2
   exact ⟨fun h => absurd h (HNOT.out (.inr HLT.out)), fun _ => rfl, G.out.2.2.2.2⟩
  ·subst he
   subst hch
   simp only [ErrV]
   have HLT := Aside0.mk hlt
   clear hlt hr HH
   go_wp2
   go_ret2
   refine ⟨fun _ => ⟨rfl, v, l, G.out.1, G.out.2.1, ?_, G.out.2.2.2.1⟩, fun h => absurd (HALL.out (Nat.pos_of_ne_zero HR0.out) HLT.out) h, G.out.2.2.2.2⟩
   rw [← HLT.out]
   exact G.out.2.2.1
end Go.Proofs.YtdjkekgfeadmoaaGreatDoorG

/- Contracts of math/big's SetString (base ten, a text without a sign, not empty) and of convertToBigInt there. -/
namespace Go.Proofs.YtdjkekgfeadmoaaGreatDoorG
open Go.RowKit Go.Proofs.YtdjkekgfeadmoaaGreatDoorW.PrintWords Go.Proofs.YtdjkekgfeadmoaaGreatDoorW.PrintLast
set_option linter.unusedVariables false
set_option linter.unusedSimpArgs false

theorem alloc_heap (w : World) (o : Obj) : (w.alloc o).heap = w.heap.push o := rfl
theorem alloc_at (w : World) (o : Obj) : (w.alloc o).heap[w.heap.size]? = some o := by rw [alloc_heap]; simp
theorem alloc_old (w : World) (o : Obj) {k : Nat} (h : k < w.heap.size) : (w.alloc o).heap[k]? = w.heap[k]? := by rw [alloc_heap, Array.getElem?_push, if_neg (by omega)]
theorem alloc_size (w : World) (o : Obj) : (w.alloc o).heap.size = w.heap.size + 1 := by rw [alloc_heap, Array.size_push]

set_option maxRecDepth 100000 in
theorem setString_ (w : World) (B0 a : Nat) (s : ByteArray) (EP NP : Addr) (hz : Bg w a false (.slice none 0 0)) (h0 : 0 < s.size) (hs : s.size ≤ 1000000) (h1 : bt s 0 ≠ 45) (h2 : bt s 0 ≠ 43) (hBa : B0 ≤ a)
  (hE : w.cell? ⟨3, 0, none⟩ = some (ErrV EP)) (hN : w.cell? ⟨7, 0, none⟩ = some (ErrV NP)) (hg0 : 7 < B0) :
  Calls Tryz.prog 45 #[.pointer (some ⟨a, 0, none⟩), .string s, .int .i64 10] w (fun e w' => Set_ B0 (w.heap.size + 1) a s w w' e) := by
 have ha := hz.lt
 obtain ⟨w1, hw1⟩ : ∃ w1, w1 = w.alloc (.cells #[.string s, .int .i64 0, .int .i64 (-1)] 89) := ⟨_, rfl⟩
 have hsz : w1.heap.size = w.heap.size + 1 := by rw [hw1]; exact alloc_size _ _
 have hold : ∀ k, k < w.heap.size → w1.heap[k]? = w.heap[k]? := fun k hk => by rw [hw1]; exact alloc_old _ _ hk
 have hrd : Rd w1 w.heap.size s 0 (-1) := by unfold Rd; rw [hw1]; exact alloc_at _ _
 have hcon := setFromScanner_ w1 B0 a w.heap.size s (-1) EP NP (hz.same (hold a ha)) hrd h0 hs h1 h2 (by omega) hBa (by omega) ((World.cell?_of_block (hold _ (by show 3 < _; omega))).trans hE) ((World.cell?_of_block (hold _ (by show 7 < _; omega))).trans hN) (by omega) (by omega) hg0
 have HB : Aside0 (Below B0 w w1) := ⟨by rw [hw1]; exact below_alloc_ _ (by omega)⟩
 rw [hsz] at hcon
 have HNEW := Aside0.mk (newReader_ w s)
 have HW1 := Aside0.mk hw1
 by_cases hall : AllDig s
 ·have HCON := Aside0.mk (hcon.mono (R' := fun e w' => e = .returned (.tuple #[.pointer (some ⟨a, 0, none⟩), .bool true]) ∧ Set_ B0 (w.heap.size + 1) a s w1 w' e) (fun e w' h => ⟨(h.ok hall).1, h⟩))
  clear hz h0 hs h1 h2 hBa hE hN hg0 ha hsz hold hrd hcon hw1
  go_enter Tryz.func45, Tryz.ntmps45
  go_wp2_with (first
   | (go_at_call 53; refine HNEW.out.mono ?_; rintro e' w2 ⟨rfl, hw2⟩; have hw3 := hw2.trans HW1.out.symm; clear hw2; subst hw3)
   | (go_at_call 52; refine HCON.out.mono ?_; rintro e' w3 ⟨rfl, hst⟩; have ST := Aside0.mk hst; clear hst))
  go_ret2
  exact ⟨fun h => ⟨rfl, (ST.out.ok h).2⟩, fun h => absurd hall h, HB.out.trans ST.out.below⟩
 ·have HCON := Aside0.mk (hcon.mono (R' := fun e w' => e = .returned (.tuple #[.pointer none, .bool false]) ∧ Set_ B0 (w.heap.size + 1) a s w1 w' e) (fun e w' h => ⟨h.no hall, h⟩))
  clear hz h0 hs h1 h2 hBa hE hN hg0 ha hsz hold hrd hcon hw1
  go_enter Tryz.func45, Tryz.ntmps45
  go_wp2_with (first
   | (go_at_call 53; refine HNEW.out.mono ?_; rintro e' w2 ⟨rfl, hw2⟩; have hw3 := hw2.trans HW1.out.symm; clear hw2; subst hw3)
   | (go_at_call 52; refine HCON.out.mono ?_; rintro e' w3 ⟨rfl, hst⟩; have ST := Aside0.mk hst; clear hst))
  go_ret2
  exact ⟨fun h => absurd h hall, fun _ => rfl, HB.out.trans ST.out.below⟩
/-- What convertToBigInt comes to: H: the heap's size at the call. -/
structure Conv (s : ByteArray) (EV : Addr) (w w' : World) (e : Ending) : Prop where
 ok : AllDig s → ∃ v l, e = .returned (.tuple #[.pointer (some ⟨w.heap.size, 0, none⟩), .nilIface]) ∧ Bg w' w.heap.size false v ∧ NatS w' w.heap.size v l ∧ num l = dv s s.size ∧ l = trimW l
 no : ¬ AllDig s → e = .returned (.tuple #[.pointer none, ErrV EV])
 below : Below w.heap.size w w'
theorem NatS.lower {w : World} {B B' : Nat} {v : Value} {l : List Nat} (h : NatS w B v l) (hB : B' ≤ B) : NatS w B' v l := by
 rcases h with h | ⟨g, full, h1, h2, h3⟩
 ·exact .inl h
 ·exact .inr ⟨g, full, h1, by omega, h3⟩
set_option maxRecDepth 100000 in
theorem convert_ (w : World) (s : ByteArray) (EV EP NP : Addr) (h0 : 0 < s.size) (hs : s.size ≤ 1000000) (h1 : bt s 0 ≠ 45) (h2 : bt s 0 ≠ 43)
  (hV : w.cell? ⟨0, 0, none⟩ = some (ErrV EV)) (hE : w.cell? ⟨3, 0, none⟩ = some (ErrV EP)) (hN : w.cell? ⟨7, 0, none⟩ = some (ErrV NP)) (hg0 : 7 < w.heap.size) :
  Calls Tryz.prog 35 #[.string s] w (fun e w' => Conv s EV w w' e) := by
 obtain ⟨w1, hw1⟩ : ∃ w1, w1 = w.alloc (.cells #[.bool false, .slice none 0 0] 62) := ⟨_, rfl⟩
 have hsz : w1.heap.size = w.heap.size + 1 := by rw [hw1]; exact alloc_size _ _
 have hold : ∀ k, k < w.heap.size → w1.heap[k]? = w.heap[k]? := fun k hk => by rw [hw1]; exact alloc_old _ _ hk
 have hz : Bg w1 w.heap.size false (.slice none 0 0) := by unfold Bg; rw [hw1]; exact alloc_at _ _
 have hcon := setString_ w1 w.heap.size w.heap.size s EP NP hz h0 hs h1 h2 (Nat.le_refl _) ((World.cell?_of_block (hold _ (by show 3 < _; omega))).trans hE) ((World.cell?_of_block (hold _ (by show 7 < _; omega))).trans hN) (by omega)
 have hbel : Below w.heap.size w w1 := by rw [hw1]; exact below_alloc_ _ (Nat.le_refl _)
 have HB := Aside0.mk hbel
 have HV := Aside0.mk (fun w2 (h : Below w.heap.size w1 w2) => ((World.cell?_of_block (h.block 0 (by omega))).trans (World.cell?_of_block (hold _ (by show 0 < _; omega)))).trans hV)
 rw [hw1] at hcon HB HV
 by_cases hall : AllDig s
 ·have HCON := Aside0.mk (hcon.mono (R' := fun e w' => e = .returned (.tuple #[.pointer (some ⟨w.heap.size, 0, none⟩), .bool true]) ∧ Set_ w.heap.size (w1.heap.size + 1) w.heap.size s w1 w' e) (fun e w' h => by rw [← hw1] at h; exact ⟨(h.ok hall).1, h⟩))
  rw [hw1] at HCON
  clear hz h0 hs h1 h2 hE hN hg0 hsz hold hcon hbel hw1 hV
  go_enter Tryz.func35, Tryz.ntmps35
  go_wp2_with (first
   | (go_at_call 45; refine HCON.out.mono ?_; rintro e' w3 ⟨rfl, hst⟩; have ST := Aside0.mk hst; clear hst))
  go_ret2
  obtain ⟨_, v, l, q1, q2, q3, q4⟩ := ST.out.ok hall
  exact ⟨fun _ => ⟨v, l, rfl, q1, q2.lower (by rw [alloc_size]; omega), q3, q4⟩, fun h => absurd hall h, HB.out.trans ST.out.below⟩
 ·have HCON := Aside0.mk (hcon.mono (R' := fun e w' => e = .returned (.tuple #[.pointer none, .bool false]) ∧ Below w.heap.size w1 w' ) (fun e w' h => by rw [← hw1] at h; exact ⟨h.no hall, h.below⟩))
  rw [hw1] at HCON
  clear hz h0 hs h1 h2 hE hN hg0 hsz hold hcon hbel hw1 hV
  simp only [ErrV] at HV
  go_enter Tryz.func35, Tryz.ntmps35
  go_wp2_with (first
   | (go_at_call 45; refine HCON.out.mono ?_; rintro e' w3 ⟨rfl, hst⟩; have ST := Aside0.mk hst; have cv := HV.out w3 hst; clear hst))
  go_quiet (fail)
  go_wp2
  go_ret2
  exact ⟨fun h => absurd h hall, fun _ => rfl, by first | exact HB.out.trans ST.out | (apply pw_below_drewN; exact HB.out.trans ST.out)⟩
end Go.Proofs.YtdjkekgfeadmoaaGreatDoorG

/- Contract of math/big's (nat).cmp: which place decides. -/
namespace Go.Proofs.YtdjkekgfeadmoaaGreatDoorG
open Go.RowKit Go.Proofs.YtdjkekgfeadmoaaGreatDoorW.PrintWords Go.Proofs.YtdjkekgfeadmoaaGreatDoorW.PrintLast
set_option linter.unusedVariables false
set_option linter.unusedSimpArgs false

/-- What (nat).cmp answers of two rows: by their lengths, else by the words at the highest place at which they part. -/
def CmpAt (lx ly : List Nat) (r : Int) : Prop :=
 (lx.length < ly.length ∧ r = -1) ∨ (ly.length < lx.length ∧ r = 1) ∨ (lx.length = ly.length ∧ lx.length = 0 ∧ r = 0) ∨
 (lx.length = ly.length ∧ ∃ i, i < lx.length ∧ (∀ j, i < j → j < lx.length → lx.getD j 0 = ly.getD j 0) ∧ (i = 0 ∨ lx.getD i 0 ≠ ly.getD i 0) ∧ r = (if lx.getD i 0 < ly.getD i 0 then -1 else if ly.getD i 0 < lx.getD i 0 then 1 else 0))
theorem Drawn0.trans {w w1 w2 : World} (h : Drawn0 w w1) (k : Drawn0 w1 w2) : Drawn0 w w2 := by
 obtain ⟨n, hn⟩ := h.out
 obtain ⟨m, hm⟩ := k.out
 exact ⟨⟨n + m, by rw [hm, hn, World.drewN_drewN]⟩⟩
theorem meas_plain (m k : Nat) (h : m < k) : (intOf (.int .i64 (m : Int))).toNat < (intOf (.int .i64 (k : Int))).toNat := by
 simp only [intOf]
 omega
theorem meas_wrap (m k : Nat) (h : m < k) (e : wrap64 (m : Int) = (m : Int)) : (intOf (.int .i64 (wrap64 (m : Int)))).toNat < (intOf (.int .i64 (k : Int))).toNat := by
 rw [e]
 exact meas_plain m k h
theorem NatS.reads {w : World} {B : Nat} {v : Value} {l : List Nat} (h : NatS w B v l) : ∃ (g c : Nat) (p : Option Addr), v = .slice p l.length c ∧ (l.length ≠ 0 → p = some ⟨g, 0, none⟩ ∧ ∀ i, i < l.length → w.cell? ⟨g, i, none⟩ = some (.int .u64 (l.getD i 0 : Nat))) := by
 rcases h with ⟨rfl, rfl⟩ | ⟨g, full, rfl, h1, h2, h3, h4, h5, h6⟩
 ·exact ⟨0, 0, none, rfl, fun h => absurd rfl h⟩
 ·refine ⟨g, full.length, _, rfl, fun _ => ⟨rfl, fun i hi => ?_⟩⟩
  have h7 := h2.cell i (by omega)
  have e : (full.take l.length).getD i 0 = full.getD i 0 := by rw [List.getD_eq_getElem?_getD, List.getD_eq_getElem?_getD, List.getElem?_take_of_lt hi]
  rw [h3] at e
  rw [h7, e]

set_option maxRecDepth 100000 in
set_option maxHeartbeats 4000000 in
theorem natCmp_ (w : World) (Bx By : Nat) (vx vy : Value) (lx ly : List Nat) (hx : NatS w Bx vx lx) (hy : NatS w By vy ly) (hlx : lx.length ≤ 1000000) (hly : ly.length ≤ 1000000) :
  Calls Tryz.prog 46 #[vx, vy] w fun e w' => ∃ r, e = .returned (.int .i64 r) ∧ CmpAt lx ly r ∧ Drawn0 w w' := by
 obtain ⟨gx, cx, px, rfl, rx⟩ := hx.reads
 obtain ⟨gy, cy, py, rfl, ry⟩ := hy.reads
 have HW := Aside0.mk (Drawn0.refl w)
 clear hx hy
 by_cases hlen : lx.length = ly.length
 ·by_cases h0 : lx.length = 0
  ·have c1 : ((lx.length : Int) == 0) = true := by rw [beq_iff_eq]; omega
   have h0y : ly.length = 0 := by omega
   have F := Aside0.mk (And.intro hlen h0)
   clear rx ry hlx hly hlen
   go_enter Tryz.func46, Tryz.ntmps46
   go_wp2
   go_ret
   exact ⟨0, rfl, .inr (.inr (.inl ⟨F.out.1, F.out.2, rfl⟩)), HW.out⟩
  ·obtain ⟨rfl, rx2⟩ := rx h0
   obtain ⟨rfl, ry2⟩ := ry (by omega)
   obtain ⟨n, hn⟩ : ∃ n, n = lx.length := ⟨_, rfl⟩
   have hny : ly.length = n := by omega
   have F := Aside0.mk (And.intro hn (And.intro hny hlx))
   rw [← hn] at rx2 h0 hlx ⊢
   rw [hny] at ry2 ⊢
   have RX := Aside0.mk rx2
   have RY := Aside0.mk ry2
   have N0 := Aside0.mk h0
   have N1 : Aside0 (n - 1 < n ∧ (Value.int .i64 ((n : Int) - 1) : Value) = Value.int .i64 ((n - 1 : Nat) : Int) ∧ ∀ j, n - 1 < j → j < n → lx.getD j 0 = ly.getD j 0) := ⟨⟨by omega, by congr 1; omega, fun j h1 h2 => by omega⟩⟩
   have c1 : ((n : Int) == 0) = false := by rw [beq_eq_false_iff_ne]; omega
   have c2 : ¬ ((n : Int) = 0) := by omega
   clear rx ry rx2 ry2 hly hlen hn hny h0
   go_enter Tryz.func46, Tryz.ntmps46
   go_wp2
   go_loopw [7] (fun i wr => ∃ k : Nat, k < n ∧ i = .int .i64 k ∧ Aside0 (∀ j, k < j → j < n → lx.getD j 0 = ly.getD j 0) ∧ Aside0 (Drawn0 w wr)) (fun i _ => (intOf i).toNat)
   case atStart => exact ⟨n - 1, N1.out.1, by first | exact N1.out.2.1 | rfl, ⟨N1.out.2.2⟩, HW⟩
   case round =>
    obtain ⟨k, hk, rfl, hj, hw⟩ := hrel
    have old : ∀ (g : Nat) (x : Value), w.cell? ⟨g, k, none⟩ = some x → wr.cell? ⟨g, k, none⟩ = some x := by
     intro g x h
     obtain ⟨m, hm⟩ := hw.out.out
     rw [hm]
     exact h
    have a1 := old gx _ (RX.out k hk)
    have a2 := old gy _ (RY.out k hk)
    clear old
    obtain ⟨x, hx⟩ : ∃ x, x = lx.getD k 0 := ⟨_, rfl⟩
    obtain ⟨y, hy⟩ : ∃ y, y = ly.getD k 0 := ⟨_, rfl⟩
    rw [← hx] at a1
    rw [← hy] at a2
    have XY := Aside0.mk (And.intro hx hy)
    have K := Aside0.mk hk
    have KI : ((k : Int) < (n : Int)) = True := eq_true (by omega)
    have KD : decide ((k : Int) < (n : Int)) = true := decide_eq_true (by omega)
    have K0 : (0 ≤ (k : Int)) = True := eq_true (by omega)
    clear hx hy
    have fin : ∀ wz, Drawn0 wr wz → (k = 0 ∨ x ≠ y) → ∀ r : Int, r = (if x < y then -1 else if y < x then 1 else 0) → ∃ r', (Ending.returned (.int .i64 r) : Ending) = .returned (.int .i64 r') ∧ CmpAt lx ly r' ∧ Drawn0 w wz := by
     intro wz hz h1 r hr
     obtain ⟨f1, f2, f3⟩ := F.out
     refine ⟨r, rfl, .inr (.inr (.inr ⟨by omega, k, by omega, fun j h1 h2 => hj.out j h1 (by omega), ?_, ?_⟩)), Drawn0.trans hw.out hz⟩
     ·rw [← XY.out.1, ← XY.out.2]; exact h1
     ·rw [← XY.out.1, ← XY.out.2]; exact hr
    have FIN := Aside0.mk fin
    clear fin
    have go : (k = 0 ∨ x ≠ y) → Aside0 ((k = 0 ∨ x ≠ y)) := fun h => ⟨h⟩
    by_cases hxy : x = y
    ·by_cases hk0 : k = 0
     ·have G := go (.inl hk0)
      have d0 : decide (0 < (k : Int)) = false := decide_eq_false (by omega)
      have d0n : decide (0 < k) = false := decide_eq_false (by omega)
      have d1 : decide ((x : Int) < (y : Int)) = false := decide_eq_false (by omega)
      have d1n : decide (x < y) = false := decide_eq_false (by omega)
      have d2 : decide ((y : Int) < (x : Int)) = false := decide_eq_false (by omega)
      have d2n : decide (y < x) = false := decide_eq_false (by omega)
      have d3 : ((x : Int) == (y : Int)) = true := by rw [beq_iff_eq]; omega
      have d3n : (x == y) = true := by rw [beq_iff_eq]; omega
      have d3m : decide (x = y) = true := decide_eq_true (by omega)
      have R : Aside0 ((0 : Int) = (if x < y then -1 else if y < x then 1 else 0)) := ⟨by rw [if_neg (by omega), if_neg (by omega)]⟩
      clear hk0 hk hxy go
      go_wp2
      go_quiet (fail)
      go_wp2
      (try go_quiet (fail))
      go_wp2
      (try go_quiet (fail))
      go_wp2
      go_ret
      refine FIN.out _ ?_ G.out _ R.out
      (repeat (first | exact Drawn0.refl _ | apply Drawn0.step))
     ·obtain ⟨m, hm⟩ : ∃ m, m = k - 1 := ⟨_, rfl⟩
      have d0 : decide (0 < (k : Int)) = true := decide_eq_true (by omega)
      have d0n : decide (0 < k) = true := decide_eq_true (by omega)
      have d0m : (0 < k) = True := eq_true (by omega)
      have d3 : ((x : Int) == (y : Int)) = true := by rw [beq_iff_eq]; omega
      have d3n : (x == y) = true := by rw [beq_iff_eq]; omega
      have d3m : decide (x = y) = true := decide_eq_true (by omega)
      have e2 : (k : Int) - 1 = (m : Int) := by omega
      have e1 : wrap64 (m : Int) = (m : Int) := by unfold wrap64; have := F.out.2.2; have := F.out.1; omega
      have HXY := Aside0.mk hxy
      have HM := Aside0.mk (And.intro hm hk0)
      have MES : Aside0 (m < k) := ⟨by omega⟩
      have STEP : Aside0 (∀ j, m < j → j ≠ k → k < j) := ⟨fun j h1 h2 => by omega⟩
      clear hk0 hk hxy go hm
      go_wp2
      go_quiet (fail)
      go_wp2
      go_roundw
      case rel =>
       refine ⟨m, Nat.lt_trans MES.out K.out, by first | rfl | go_num, ⟨fun j h1 h2 => ?_⟩, ⟨Drawn0.trans hw.out (by (repeat (first | exact Drawn0.refl _ | apply Drawn0.step)))⟩⟩
       by_cases ej : j = k
       ·rw [ej, ← XY.out.1, ← XY.out.2]; exact HXY.out
       ·exact hj.out j (STEP.out j h1 ej) h2
      case measure => first | exact meas_wrap m k MES.out e1 | exact meas_plain m k MES.out
    ·have G := go (.inr hxy)
     by_cases hk0 : k = 0
     ·have d0 : decide (0 < (k : Int)) = false := decide_eq_false (by omega)
      have d0n : decide (0 < k) = false := decide_eq_false (by omega)
      have d3 : ((x : Int) == (y : Int)) = false := by rw [beq_eq_false_iff_ne]; omega
      have d3n : (x == y) = false := by rw [beq_eq_false_iff_ne]; omega
      have d3m : decide (x = y) = false := decide_eq_false (by omega)
      by_cases hlt : x < y
      ·have d1 : decide ((x : Int) < (y : Int)) = true := decide_eq_true (by omega)
       have d1n : decide (x < y) = true := decide_eq_true (by omega)
       have R : Aside0 ((-1 : Int) = (if x < y then -1 else if y < x then 1 else 0)) := ⟨by rw [if_pos hlt]⟩
       clear hk0 hk hxy go hlt
       go_wp2
       go_quiet (fail)
       go_wp2
       (try go_quiet (fail))
       go_wp2
       (try go_quiet (fail))
       go_wp2
       go_ret
       refine FIN.out _ ?_ G.out _ R.out
       (repeat (first | exact Drawn0.refl _ | apply Drawn0.step))
      ·have d1 : decide ((x : Int) < (y : Int)) = false := decide_eq_false (by omega)
       have d1n : decide (x < y) = false := decide_eq_false (by omega)
       have d2 : decide ((y : Int) < (x : Int)) = true := decide_eq_true (by omega)
       have d2n : decide (y < x) = true := decide_eq_true (by omega)
       have R : Aside0 ((1 : Int) = (if x < y then -1 else if y < x then 1 else 0)) := ⟨by rw [if_neg hlt, if_pos (by omega)]⟩
       clear hk0 hk hxy go hlt
       go_wp2
       go_quiet (fail)
       go_wp2
       (try go_quiet (fail))
       go_wp2
       (try go_quiet (fail))
       go_wp2
       go_ret
       refine FIN.out _ ?_ G.out _ R.out
       (repeat (first | exact Drawn0.refl _ | apply Drawn0.step))
     ·have d0 : decide (0 < (k : Int)) = true := decide_eq_true (by omega)
      have d0n : decide (0 < k) = true := decide_eq_true (by omega)
      have d3 : ((x : Int) == (y : Int)) = false := by rw [beq_eq_false_iff_ne]; omega
      have d3n : (x == y) = false := by rw [beq_eq_false_iff_ne]; omega
      have d3m : decide (x = y) = false := decide_eq_false (by omega)
      by_cases hlt : x < y
      ·have d1 : decide ((x : Int) < (y : Int)) = true := decide_eq_true (by omega)
       have d1n : decide (x < y) = true := decide_eq_true (by omega)
       have R : Aside0 ((-1 : Int) = (if x < y then -1 else if y < x then 1 else 0)) := ⟨by rw [if_pos hlt]⟩
       clear hk0 hk hxy go hlt
       go_wp2
       go_quiet (fail)
       go_wp2
       (try go_quiet (fail))
       go_wp2
       (try go_quiet (fail))
       go_wp2
       go_ret
       refine FIN.out _ ?_ G.out _ R.out
       (repeat (first | exact Drawn0.refl _ | apply Drawn0.step))
      ·have d1 : decide ((x : Int) < (y : Int)) = false := decide_eq_false (by omega)
       have d1n : decide (x < y) = false := decide_eq_false (by omega)
       have d2 : decide ((y : Int) < (x : Int)) = true := decide_eq_true (by omega)
       have d2n : decide (y < x) = true := decide_eq_true (by omega)
       have R : Aside0 ((1 : Int) = (if x < y then -1 else if y < x then 1 else 0)) := ⟨by rw [if_neg hlt, if_pos (by omega)]⟩
       clear hk0 hk hxy go hlt
       go_wp2
       go_quiet (fail)
       go_wp2
       (try go_quiet (fail))
       go_wp2
       (try go_quiet (fail))
       go_wp2
       go_ret
       refine FIN.out _ ?_ G.out _ R.out
       (repeat (first | exact Drawn0.refl _ | apply Drawn0.step))
 ·have F := Aside0.mk hlen
  have c1 : ((lx.length : Int) == (ly.length : Int)) = false := by rw [beq_eq_false_iff_ne]; omega
  have c2 : ¬ ((lx.length : Int) = (ly.length : Int)) := by omega
  have c1n : (lx.length == ly.length) = false := by rw [beq_eq_false_iff_ne]; omega
  have c1m : decide (lx.length = ly.length) = false := decide_eq_false (by omega)
  by_cases hlt : lx.length < ly.length
  ·have d1 : decide ((lx.length : Int) < (ly.length : Int)) = true := decide_eq_true (by omega)
   have d1n : decide (lx.length < ly.length) = true := decide_eq_true (by omega)
   have L := Aside0.mk hlt
   clear rx ry hlx hly hlen hlt
   go_enter Tryz.func46, Tryz.ntmps46
   go_wp2
   go_ret
   exact ⟨-1, rfl, .inl ⟨L.out, rfl⟩, HW.out⟩
  ·have d1 : decide ((lx.length : Int) < (ly.length : Int)) = false := decide_eq_false (by omega)
   have d1n : decide (lx.length < ly.length) = false := decide_eq_false (by omega)
   have d2n : decide (ly.length < lx.length) = true := decide_eq_true (by omega)
   have d2 : decide ((ly.length : Int) < (lx.length : Int)) = true := decide_eq_true (by omega)
   have L : Aside0 (ly.length < lx.length) := ⟨by omega⟩
   clear rx ry hlx hly hlen hlt
   go_enter Tryz.func46, Tryz.ntmps46
   go_wp2
   go_ret
   exact ⟨1, rfl, .inr (.inl ⟨L.out, rfl⟩), HW.out⟩
end Go.Proofs.YtdjkekgfeadmoaaGreatDoorG
