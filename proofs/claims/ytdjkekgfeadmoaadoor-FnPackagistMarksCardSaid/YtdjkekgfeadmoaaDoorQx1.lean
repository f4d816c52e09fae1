/- Proved here: each Go function that is named in this text, called as its theorem 'calls' says, returns what its Lean function 'f' tells, and of the memory that was there nothing is changed (a row of a law: the law returns true). Conditions: those that stand in each theorem; where 'f' tells none, nothing is said. Laid by a program of this seat's prover out of the translation; Lean checks it. -/
import Derived.Test.YtdjkekgfeadmoaaDoorQx0
namespace Go.Proofs.YtdjkekgfeadmoaaDoor.Q
open Go.RowKit Go.Proofs.YtdjkekgfeadmoaaDoorH Go.Proofs.YtdjkekgfeadmoaaDoorG Go.Proofs.YtdjkekgfeadmoaaDoorW.PrintWords Go.Proofs.YtdjkekgfeadmoaaDoorW.PrintLast Go.Proofs.YtdjkekgfeadmoaaDoorW.PrintMore
attribute [local go_sem] max2_int min2_int max_two min_two max_three min_three max_four min_four   -- for this text's walks alone
set_option linter.unusedVariables false
set_option linter.unusedSimpArgs false

/-! ### laws_short: function 7 -/
def laws_short.l0 : Nat → List ByteArray → List ByteArray → Int → Int → Option (Bool)
 | 0, _, _, _, _ => none
 | k + 1, x0, x5, x6, x7 => if x7 < x6 then (if 0 ≤ x7 then (if x7 < (x5.length : Int) then (if ((rdOf ByteArray.empty x5 x7).size : Int) > 1200 then (some false) else (laws_short.l0 k x0 x5 x6 (wrap64 (x7 + 1)))) else (none)) else (none)) else (some (decide ((x0.length : Int) ≤ 60)))
def laws_short.f (k : Nat) (l0 : List ByteArray) : Option (Bool) := laws_short.l0 k l0 l0 (l0.length : Int) 0
theorem laws_short.mono_l : ∀ k, (∀ y0 y1 y2 y3, LeO (laws_short.l0 k y0 y1 y2 y3) (laws_short.l0 (k + 1) y0 y1 y2 y3))
 | 0 => fun _ _ _ _ r h => by simp [laws_short.l0] at h
 | k + 1 => by
  have ih0 := laws_short.mono_l k
  ·intro y0 y1 y2 y3
   unfold laws_short.l0
   repeat' first
   | (with_reducible exact ih0 _ _ _ _)
   | (with_reducible exact LeO.refl _)
   | (with_reducible exact LeO.none _)
   | (with_reducible refine LeO.ite ?_ ?_)
   | (with_reducible refine LeO.bind ?_ (fun _ => ?_))
   | exact ih0 _ _ _ _
   | exact LeO.none _
   | refine LeO.ite ?_ ?_
   | refine LeO.bind ?_ (fun _ => ?_)
theorem laws_short.mono : ∀ a0 k, LeO (laws_short.f k a0) (laws_short.f (k + 1) a0) := by
 intro a0 k
 have ih0 := laws_short.mono_l k
 unfold laws_short.f
 repeat' first
   | (with_reducible exact ih0 _ _ _ _)
   | (with_reducible exact LeO.refl _)
   | (with_reducible exact LeO.none _)
   | (with_reducible refine LeO.ite ?_ ?_)
   | (with_reducible refine LeO.bind ?_ (fun _ => ?_))
   | exact ih0 _ _ _ _
   | exact LeO.none _
   | refine LeO.ite ?_ ?_
   | refine LeO.bind ?_ (fun _ => ?_)
set_option maxHeartbeats 8000000 in
set_option maxRecDepth 100000 in
theorem laws_short.calls (k : Nat) (A0 : Option Addr) (c0 : Nat) (l0 : List ByteArray) (r : Bool) (w : World) (hr0 : Kd.C Kd.string w A0 l0.length l0) (hc0 : l0.length ≤ c0) (h : laws_short.f k l0 = some r) :
  Calls Tryd.prog 7 #[.slice A0 l0.length c0] w fun e w' => e = .returned (.bool r) ∧ Drawn0 w w' := by
 have HR0 := Aside0.mk hr0
 have HC0 := Aside0.mk hc0
 clear hr0 hc0
 have H : (laws_short.l0 k l0 l0 (l0.length : Int) 0) = some r := h
 clear h
 have H' := Aside0.mk H
 clear H
 go_enter Tryd.func7, Tryd.ntmps7
 go_wp2
 (try simp only [Act.put, List.setIfInBounds_toArray, List.set_cons_zero, List.set_cons_succ])
 go_loopg [7] k (fun kq v7 w' => ∃ (x7_1 : Int), v7 = .int .i64 x7_1 ∧ Aside0 (laws_short.l0 kq l0 l0 (l0.length : Int) x7_1 = some r) ∧ Aside0 (kq ≤ k) ∧ Drawn0 w w')
 case atStart => exact ⟨(0), (by first | rfl | (simp; done) | (simp [*]; done) | (simp [bne_nil_hyb]; done) | (simp [bne_nil_hyb, *]; done)), H', ⟨Nat.le_refl _⟩, by repeat (first | exact Drawn0.refl _ | apply Drawn0.step)⟩
 case round =>
  clear H'
  obtain ⟨x7_1, rfl, HA, HK1, ⟨m1, rfl⟩⟩ := hrel
  cases gk with
  | zero => exact absurd HA.out (by simp [laws_short.l0])
  | succ k1 =>
   have H := HA.out
   clear HA
   simp only [laws_short.l0] at H
   by_cases c2 : x7_1 < (l0.length : Int)
   ·rw [if_pos c2] at H
    have c2b0 : decide (x7_1 < (l0.length : Int)) = true := decide_eq_true c2
    clear c2
    by_cases c3 : 0 ≤ x7_1
    ·rw [if_pos c3] at H
     have c3b0 : decide (0 ≤ x7_1) = true := decide_eq_true c3
     clear c3
     by_cases c4 : x7_1 < (l0.length : Int)
     ·rw [if_pos c4] at H
      have c4b0 : decide (x7_1 < (l0.length : Int)) = true := decide_eq_true c4
      clear c4
      by_cases c5 : ((rdOf ByteArray.empty l0 x7_1).size : Int) > 1200
      ·rw [if_pos c5] at H
       have c5b0 : decide (1200 < ((rdOf ByteArray.empty l0 x7_1).size : Int)) = true := decide_eq_true c5
       have c5b1 : decide (1200 < (rdOf ByteArray.empty l0 x7_1).size) = true := decide_eq_true (by omega)
       clear c5
       obtain rfl := Option.some.inj H
       have p101 : 0 ≤ (x7_1 : Int) := of_decide_eq_true (by first | (with_reducible assumption) | assumption)
       have q101 : x7_1 < (l0.length : Int) := of_decide_eq_true (by first | (with_reducible assumption) | assumption)
       obtain ⟨ad101, e101, hx101_0⟩ := Kd.at_string HR0.out x7_1 p101 q101
       cases e101
       replace p101 := eq_true p101
       replace q101 := eq_true q101
       go_wp2
       go_ret
       exact ⟨by first | rfl | (simp; done) | (simp [*]; done) | (simp [bne_nil_hyb]; done) | (simp [bne_nil_hyb, *]; done), by repeat (first | exact Drawn0.refl _ | apply Drawn0.step)⟩
      ·rw [if_neg c5] at H
       have c5b0 : decide (1200 < ((rdOf ByteArray.empty l0 x7_1).size : Int)) = false := decide_eq_false c5
       have c5b1 : decide (1200 < (rdOf ByteArray.empty l0 x7_1).size) = false := decide_eq_false (by omega)
       clear c5
       have H' := Aside0.mk H
       clear H
       have p101 : 0 ≤ (x7_1 : Int) := of_decide_eq_true (by first | (with_reducible assumption) | assumption)
       have q101 : x7_1 < (l0.length : Int) := of_decide_eq_true (by first | (with_reducible assumption) | assumption)
       obtain ⟨ad101, e101, hx101_0⟩ := Kd.at_string HR0.out x7_1 p101 q101
       cases e101
       replace p101 := eq_true p101
       replace q101 := eq_true q101
       go_wp2
       go_roundg k1
       case measure => have := HK1.out; omega
       case rel => exact ⟨(wrap64 (x7_1 + 1)), (by first | rfl | (simp; done) | (simp [*]; done) | (simp [bne_nil_hyb]; done) | (simp [bne_nil_hyb, *]; done)), H', ⟨by have := HK1.out; omega⟩, by repeat (first | exact Drawn0.refl _ | apply Drawn0.step)⟩
     ·rw [if_neg c4] at H
      exact absurd H (by simp)
    ·rw [if_neg c3] at H
     exact absurd H (by simp)
   ·rw [if_neg c2] at H
    have c2b0 : decide (x7_1 < (l0.length : Int)) = false := decide_eq_false c2
    clear c2
    obtain rfl := Option.some.inj H
    go_wp2
    go_ret
    exact ⟨by first | rfl | (simp; done) | (simp [*]; done) | (simp [bne_nil_hyb]; done) | (simp [bne_nil_hyb, *]; done), by repeat (first | exact Drawn0.refl _ | apply Drawn0.step)⟩

/-! ### laws_digits: function 14 -/
def laws_digits.l0 : Nat → ByteArray → Int → Option (Bool)
 | 0, _, _ => none
 | k + 1, x0, x3 => if x3 < (x0.size : Int) then (if 0 ≤ x3 then (if (bt x0 x3) < 48 then (some false) else (if (bt x0 x3) > 57 then (some false) else (laws_digits.l0 k x0 (wrap64 (x3 + 1))))) else (none)) else (some (x0.toList != ([] : List UInt8)))
def laws_digits.f (k : Nat) (a0 : ByteArray) : Option (Bool) := laws_digits.l0 k a0 0
theorem laws_digits.mono_l : ∀ k, (∀ y0 y1, LeO (laws_digits.l0 k y0 y1) (laws_digits.l0 (k + 1) y0 y1))
 | 0 => fun _ _ r h => by simp [laws_digits.l0] at h
 | k + 1 => by
  have ih0 := laws_digits.mono_l k
  ·intro y0 y1
   unfold laws_digits.l0
   repeat' first
   | (with_reducible exact ih0 _ _)
   | (with_reducible exact LeO.refl _)
   | (with_reducible exact LeO.none _)
   | (with_reducible refine LeO.ite ?_ ?_)
   | (with_reducible refine LeO.bind ?_ (fun _ => ?_))
   | exact ih0 _ _
   | exact LeO.none _
   | refine LeO.ite ?_ ?_
   | refine LeO.bind ?_ (fun _ => ?_)
theorem laws_digits.mono : ∀ a0 k, LeO (laws_digits.f k a0) (laws_digits.f (k + 1) a0) := by
 intro a0 k
 have ih0 := laws_digits.mono_l k
 unfold laws_digits.f
 repeat' first
   | (with_reducible exact ih0 _ _)
   | (with_reducible exact LeO.refl _)
   | (with_reducible exact LeO.none _)
   | (with_reducible refine LeO.ite ?_ ?_)
   | (with_reducible refine LeO.bind ?_ (fun _ => ?_))
   | exact ih0 _ _
   | exact LeO.none _
   | refine LeO.ite ?_ ?_
   | refine LeO.bind ?_ (fun _ => ?_)
set_option maxHeartbeats 8000000 in
set_option maxRecDepth 100000 in
theorem laws_digits.calls (k : Nat) (a0 : ByteArray) (r : Bool) (w : World) (h : laws_digits.f k a0 = some r) :
  Calls Tryd.prog 14 #[.string a0] w fun e w' => e = .returned (.bool r) ∧ Drawn0 w w' := by
 have H : (laws_digits.l0 k a0 0) = some r := h
 clear h
 have H' := Aside0.mk H
 clear H
 go_enter Tryd.func14, Tryd.ntmps14
 go_wp2
 (try simp only [Act.put, List.setIfInBounds_toArray, List.set_cons_zero, List.set_cons_succ])
 go_loopg [3] k (fun kq v3 w' => ∃ (x3_1 : Int), v3 = .int .i64 x3_1 ∧ Aside0 (laws_digits.l0 kq a0 x3_1 = some r) ∧ Aside0 (kq ≤ k) ∧ Drawn0 w w')
 case atStart => exact ⟨(0), (by first | rfl | (simp; done) | (simp [*]; done) | (simp [bne_nil_hyb]; done) | (simp [bne_nil_hyb, *]; done)), H', ⟨Nat.le_refl _⟩, by repeat (first | exact Drawn0.refl _ | apply Drawn0.step)⟩
 case round =>
  clear H'
  try clear c1
  obtain ⟨x3_1, rfl, HA, HK1, ⟨m1, rfl⟩⟩ := hrel
  cases gk with
  | zero => exact absurd HA.out (by simp [laws_digits.l0])
  | succ k1 =>
   have H := HA.out
   clear HA
   simp only [laws_digits.l0] at H
   by_cases c2 : x3_1 < (a0.size : Int)
   ·rw [if_pos c2] at H
    have c2b0 : decide (x3_1 < (a0.size : Int)) = true := decide_eq_true c2
    clear c2
    by_cases c3 : 0 ≤ x3_1
    ·rw [if_pos c3] at H
     have c3b0 : decide (0 ≤ x3_1) = true := decide_eq_true c3
     clear c3
     by_cases c5 : (bt a0 x3_1) < 48
     ·rw [if_pos c5] at H
      have c5b0 : decide ((bt a0 x3_1) < 48) = true := decide_eq_true c5
      clear c5
      obtain rfl := Option.some.inj H
      have p4 : 0 ≤ (x3_1 : Int) := of_decide_eq_true (by first | (with_reducible assumption) | assumption)
      have q4 : x3_1 < (a0.size : Int) := of_decide_eq_true (by first | (with_reducible assumption) | assumption)
      have hx4 := bt_at a0 x3_1
      replace p4 := eq_true p4
      replace q4 := eq_true q4
      go_wp2
      go_ret
      exact ⟨by first | rfl | (simp; done) | (simp [*]; done) | (simp [bne_nil_hyb]; done) | (simp [bne_nil_hyb, *]; done), by repeat (first | exact Drawn0.refl _ | apply Drawn0.step)⟩
     ·rw [if_neg c5] at H
      have c5b0 : decide ((bt a0 x3_1) < 48) = false := decide_eq_false c5
      clear c5
      by_cases c7 : (bt a0 x3_1) > 57
      ·rw [if_pos c7] at H
       have c7b0 : decide (57 < (bt a0 x3_1)) = true := decide_eq_true c7
       clear c7
       obtain rfl := Option.some.inj H
       have p4 : 0 ≤ (x3_1 : Int) := of_decide_eq_true (by first | (with_reducible assumption) | assumption)
       have q4 : x3_1 < (a0.size : Int) := of_decide_eq_true (by first | (with_reducible assumption) | assumption)
       have hx4 := bt_at a0 x3_1
       replace p4 := eq_true p4
       replace q4 := eq_true q4
       have p6 : 0 ≤ (x3_1 : Int) := of_decide_eq_true (by first | (with_reducible assumption) | assumption)
       have q6 : x3_1 < (a0.size : Int) := of_decide_eq_true (by first | (with_reducible assumption) | assumption)
       have hx6 := bt_at a0 x3_1
       replace p6 := eq_true p6
       replace q6 := eq_true q6
       go_wp2
       go_ret
       exact ⟨by first | rfl | (simp; done) | (simp [*]; done) | (simp [bne_nil_hyb]; done) | (simp [bne_nil_hyb, *]; done), by repeat (first | exact Drawn0.refl _ | apply Drawn0.step)⟩
      ·rw [if_neg c7] at H
       have c7b0 : decide (57 < (bt a0 x3_1)) = false := decide_eq_false c7
       clear c7
       have H' := Aside0.mk H
       clear H
       have p4 : 0 ≤ (x3_1 : Int) := of_decide_eq_true (by first | (with_reducible assumption) | assumption)
       have q4 : x3_1 < (a0.size : Int) := of_decide_eq_true (by first | (with_reducible assumption) | assumption)
       have hx4 := bt_at a0 x3_1
       replace p4 := eq_true p4
       replace q4 := eq_true q4
       have p6 : 0 ≤ (x3_1 : Int) := of_decide_eq_true (by first | (with_reducible assumption) | assumption)
       have q6 : x3_1 < (a0.size : Int) := of_decide_eq_true (by first | (with_reducible assumption) | assumption)
       have hx6 := bt_at a0 x3_1
       replace p6 := eq_true p6
       replace q6 := eq_true q6
       go_wp2
       go_roundg k1
       case measure => have := HK1.out; omega
       case rel => exact ⟨(wrap64 (x3_1 + 1)), (by first | rfl | (simp; done) | (simp [*]; done) | (simp [bne_nil_hyb]; done) | (simp [bne_nil_hyb, *]; done)), H', ⟨by have := HK1.out; omega⟩, by repeat (first | exact Drawn0.refl _ | apply Drawn0.step)⟩
    ·rw [if_neg c3] at H
     exact absurd H (by simp)
   ·rw [if_neg c2] at H
    have c2b0 : decide (x3_1 < (a0.size : Int)) = false := decide_eq_false c2
    clear c2
    obtain rfl := Option.some.inj H
    go_wp2
    go_ret
    exact ⟨by first | rfl | (simp; done) | (simp [*]; done) | (simp [bne_nil_hyb]; done) | (simp [bne_nil_hyb, *]; done), by repeat (first | exact Drawn0.refl _ | apply Drawn0.step)⟩

/-! ### laws_numbered: function 8 -/
mutual
def laws_numbered.l0 : Nat → ByteArray → Int → Int → Int → Int → Option (Bool)
 | 0, _, _, _, _, _ => none
 | k + 1, x0, x1, x5, x6, x7 => if x7 ≤ (x0.size : Int) then (if x7 < (x0.size : Int) then (if 0 ≤ x7 then (laws_numbered.j1 k x0 x1 x5 x6 x7 ((bt x0 x7) != 46)) else (none)) else (laws_numbered.j1 k x0 x1 x5 x6 x7 false)) else (some (decide (x5 ≤ x1)))
def laws_numbered.j1 : Nat → ByteArray → Int → Int → Int → Int → Bool → Option (Bool)
 | 0, _, _, _, _, _, _ => none
 | k + 1, x0, x1, x5, x6, x7, x24 => if x24 = true then (laws_numbered.l0 k x0 x1 x5 x6 (wrap64 (x7 + 1))) else (if 0 ≤ x6 then (if x6 ≤ x7 then (if x7 ≤ (x0.size : Int) then ((some (x0.extract (x6 : Int).toNat (x7 : Int).toNat : ByteArray)).bind fun y102 => ((laws_digits.f k y102).bind fun t103 => (if t103 = true then (if (y102.size : Int) > 1 then (if 0 < (y102.size : Int) then (if (bt y102 0) = 48 then (laws_numbered.j2 k x0 x1 x5 x7 true) else (laws_numbered.j2 k x0 x1 x5 x7 (decide ((y102.size : Int) > 15)))) else (none)) else (laws_numbered.j2 k x0 x1 x5 x7 (decide ((y102.size : Int) > 15)))) else (laws_numbered.j2 k x0 x1 x5 x7 true)))) else (none)) else (none)) else (none))
def laws_numbered.j2 : Nat → ByteArray → Int → Int → Int → Bool → Option (Bool)
 | 0, _, _, _, _, _ => none
 | k + 1, x0, x1, x5, x7, x46 => if x46 = true then (some false) else (if x7 < (x0.size : Int) then (laws_numbered.l0 k x0 x1 (wrap64 (x5 + 1)) (wrap64 (x7 + 1)) (wrap64 (x7 + 1))) else (laws_numbered.l0 k x0 x1 x5 (wrap64 (x7 + 1)) (wrap64 (x7 + 1))))
end
def laws_numbered.f (k : Nat) (a0 : ByteArray) (a1 : Int) : Option (Bool) := laws_numbered.l0 k a0 a1 1 0 0
theorem laws_numbered.mono_l : ∀ k, (∀ y0 y1 y2 y3 y4, LeO (laws_numbered.l0 k y0 y1 y2 y3 y4) (laws_numbered.l0 (k + 1) y0 y1 y2 y3 y4)) ∧ (∀ y0 y1 y2 y3 y4 y5, LeO (laws_numbered.j1 k y0 y1 y2 y3 y4 y5) (laws_numbered.j1 (k + 1) y0 y1 y2 y3 y4 y5)) ∧ (∀ y0 y1 y2 y3 y4, LeO (laws_numbered.j2 k y0 y1 y2 y3 y4) (laws_numbered.j2 (k + 1) y0 y1 y2 y3 y4))
 | 0 => ⟨fun _ _ _ _ _ r h => by simp [laws_numbered.l0] at h, fun _ _ _ _ _ _ r h => by simp [laws_numbered.j1] at h, fun _ _ _ _ _ r h => by simp [laws_numbered.j2] at h⟩
 | k + 1 => by
  obtain ⟨ih0, ih1, ih2⟩ := laws_numbered.mono_l k
  refine ⟨?_, ?_, ?_⟩
  ·intro y0 y1 y2 y3 y4
   unfold laws_numbered.l0
   repeat' first
   | (with_reducible exact ih0 _ _ _ _ _)
   | (with_reducible exact ih1 _ _ _ _ _ _)
   | (with_reducible exact ih2 _ _ _ _ _)
   | (with_reducible exact laws_digits.mono _ _)
   | (with_reducible exact LeO.refl _)
   | (with_reducible exact LeO.none _)
   | (with_reducible refine LeO.ite ?_ ?_)
   | (with_reducible refine LeO.bind ?_ (fun _ => ?_))
   | exact ih0 _ _ _ _ _
   | exact ih1 _ _ _ _ _ _
   | exact ih2 _ _ _ _ _
   | exact laws_digits.mono _ _
   | exact LeO.none _
   | refine LeO.ite ?_ ?_
   | refine LeO.bind ?_ (fun _ => ?_)
  ·intro y0 y1 y2 y3 y4 y5
   unfold laws_numbered.j1
   repeat' first
   | (with_reducible exact ih0 _ _ _ _ _)
   | (with_reducible exact ih1 _ _ _ _ _ _)
   | (with_reducible exact ih2 _ _ _ _ _)
   | (with_reducible exact laws_digits.mono _ _)
   | (with_reducible exact LeO.refl _)
   | (with_reducible exact LeO.none _)
   | (with_reducible refine LeO.ite ?_ ?_)
   | (with_reducible refine LeO.bind ?_ (fun _ => ?_))
   | exact ih0 _ _ _ _ _
   | exact ih1 _ _ _ _ _ _
   | exact ih2 _ _ _ _ _
   | exact laws_digits.mono _ _
   | exact LeO.none _
   | refine LeO.ite ?_ ?_
   | refine LeO.bind ?_ (fun _ => ?_)
  ·intro y0 y1 y2 y3 y4
   unfold laws_numbered.j2
   repeat' first
   | (with_reducible exact ih0 _ _ _ _ _)
   | (with_reducible exact ih1 _ _ _ _ _ _)
   | (with_reducible exact ih2 _ _ _ _ _)
   | (with_reducible exact laws_digits.mono _ _)
   | (with_reducible exact LeO.refl _)
   | (with_reducible exact LeO.none _)
   | (with_reducible refine LeO.ite ?_ ?_)
   | (with_reducible refine LeO.bind ?_ (fun _ => ?_))
   | exact ih0 _ _ _ _ _
   | exact ih1 _ _ _ _ _ _
   | exact ih2 _ _ _ _ _
   | exact laws_digits.mono _ _
   | exact LeO.none _
   | refine LeO.ite ?_ ?_
   | refine LeO.bind ?_ (fun _ => ?_)
theorem laws_numbered.mono : ∀ a0 a1 k, LeO (laws_numbered.f k a0 a1) (laws_numbered.f (k + 1) a0 a1) := by
 intro a0 a1 k
 obtain ⟨ih0, ih1, ih2⟩ := laws_numbered.mono_l k
 unfold laws_numbered.f
 repeat' first
   | (with_reducible exact ih0 _ _ _ _ _)
   | (with_reducible exact ih1 _ _ _ _ _ _)
   | (with_reducible exact ih2 _ _ _ _ _)
   | (with_reducible exact laws_digits.mono _ _)
   | (with_reducible exact LeO.refl _)
   | (with_reducible exact LeO.none _)
   | (with_reducible refine LeO.ite ?_ ?_)
   | (with_reducible refine LeO.bind ?_ (fun _ => ?_))
   | exact ih0 _ _ _ _ _
   | exact ih1 _ _ _ _ _ _
   | exact ih2 _ _ _ _ _
   | exact laws_digits.mono _ _
   | exact LeO.none _
   | refine LeO.ite ?_ ?_
   | refine LeO.bind ?_ (fun _ => ?_)
set_option maxHeartbeats 8000000 in
set_option maxRecDepth 100000 in
theorem laws_numbered.calls (k : Nat) (a0 : ByteArray) (a1 : Int) (r : Bool) (w : World) (h : laws_numbered.f k a0 a1 = some r) :
  Calls Tryd.prog 8 #[.string a0, .int .i64 a1] w fun e w' => e = .returned (.bool r) ∧ Drawn0 w w' := by
 have H : (laws_numbered.l0 k a0 a1 1 0 0) = some r := h
 clear h
 have H' := Aside0.mk H
 clear H
 go_enter Tryd.func8, Tryd.ntmps8
 go_wp2
 (try simp only [Act.put, List.setIfInBounds_toArray, List.set_cons_zero, List.set_cons_succ])
 go_loopg [5, 6, 7] k (fun kq v5 v6 v7 w' => ∃ (x5_1 : Int) (x6_1 : Int) (x7_1 : Int), v5 = .int .i64 x5_1 ∧ v6 = .int .i64 x6_1 ∧ v7 = .int .i64 x7_1 ∧ Aside0 (laws_numbered.l0 kq a0 a1 x5_1 x6_1 x7_1 = some r) ∧ Aside0 (kq ≤ k) ∧ Drawn0 w w')
 case atStart => exact ⟨(1), (0), (0), (by first | rfl | (simp; done) | (simp [*]; done) | (simp [bne_nil_hyb]; done) | (simp [bne_nil_hyb, *]; done)), (by first | rfl | (simp; done) | (simp [*]; done) | (simp [bne_nil_hyb]; done) | (simp [bne_nil_hyb, *]; done)), (by first | rfl | (simp; done) | (simp [*]; done) | (simp [bne_nil_hyb]; done) | (simp [bne_nil_hyb, *]; done)), H', ⟨Nat.le_refl _⟩, by repeat (first | exact Drawn0.refl _ | apply Drawn0.step)⟩
 case round =>
  clear H'
  try clear p2
  obtain ⟨x5_1, x6_1, x7_1, rfl, rfl, rfl, HA, HK1, ⟨m1, rfl⟩⟩ := hrel
  cases gk with
  | zero => exact absurd HA.out (by simp [laws_numbered.l0])
  | succ k1 =>
   have H := HA.out
   clear HA
   simp only [laws_numbered.l0] at H
   by_cases c3 : x7_1 ≤ (a0.size : Int)
   ·rw [if_pos c3] at H
    have c3b0 : decide (x7_1 ≤ (a0.size : Int)) = true := decide_eq_true c3
    clear c3
    have HC4 := Aside0.mk H
    clear H
    go_upto_region 5 with (fail)
    go_cut [24] (fun v24 wc => ∃ (kq : Nat) (x24_3 : Bool), v24 = .bool x24_3 ∧ Aside0 (laws_numbered.j1 kq a0 a1 x5_1 x6_1 x7_1 x24_3 = some r) ∧ Aside0 (kq ≤ k1) ∧ Drawn0 w wc)
    case first =>
     have H := HC4.out
     clear HC4
     by_cases c5 : x7_1 < (a0.size : Int)
     ·rw [if_pos c5] at H
      have c5b0 : decide (x7_1 < (a0.size : Int)) = true := decide_eq_true c5
      clear c5
      (first | rw [c5b0] | (simp only [i64_w, i32_w]; rw [c5b0]) | skip)
      by_cases c6 : 0 ≤ x7_1
      ·rw [if_pos c6] at H
       have c6b0 : decide (0 ≤ x7_1) = true := decide_eq_true c6
       clear c6
       have H' := Aside0.mk H
       clear H
       have p7 : 0 ≤ (x7_1 : Int) := of_decide_eq_true (by first | (with_reducible assumption) | assumption)
       have q7 : x7_1 < (a0.size : Int) := of_decide_eq_true (by first | (with_reducible assumption) | assumption)
       have hx7 := bt_at a0 x7_1
       replace p7 := eq_true p7
       replace q7 := eq_true q7
       go_wp2
       go_meet
       case rel => exact ⟨_, (((bt a0 x7_1) != 46)), (by first | rfl | (simp; done) | (simp [*]; done) | (simp [bne_nil_hyb]; done) | (simp [bne_nil_hyb, *]; done)), H', ⟨by have := HK1.out; first | omega | exact Nat.le_refl _⟩, by repeat (first | exact Drawn0.refl _ | apply Drawn0.step)⟩
      ·rw [if_neg c6] at H
       exact absurd H (by simp)
     ·rw [if_neg c5] at H
      have c5b0 : decide (x7_1 < (a0.size : Int)) = false := decide_eq_false c5
      clear c5
      (first | rw [c5b0] | (simp only [i64_w, i32_w]; rw [c5b0]) | skip)
      have H' := Aside0.mk H
      clear H
      go_wp2
      go_meet
      case rel => exact ⟨_, (false), (by first | rfl | (simp; done) | (simp [*]; done) | (simp [bne_nil_hyb]; done) | (simp [bne_nil_hyb, *]; done)), H', ⟨by have := HK1.out; first | omega | exact Nat.le_refl _⟩, by repeat (first | exact Drawn0.refl _ | apply Drawn0.step)⟩
    case rest =>
     clear HC4
     try clear p2
     try clear c3
     try clear c3b0
     try clear c5
     try clear c5b0
     try clear c6
     try clear c6b0
     try clear p7
     try clear q7
     try clear hx7
     try clear p2
     try clear p7
     try clear q7
     obtain ⟨kq, x24_3, rfl, HA, HJ3, ⟨mc3, rfl⟩⟩ := hcut
     cases kq with
     | zero => exact absurd HA.out (by simp [laws_numbered.j1])
     | succ kj3 =>
      have H := HA.out
      clear HA
      simp only [laws_numbered.j1] at H
      by_cases c8 : x24_3 = true
      ·subst c8
       have H1 : (laws_numbered.l0 kj3 a0 a1 x5_1 x6_1 (wrap64 (x7_1 + 1))) = some r := by rw [if_pos rfl] at H; exact H
       clear H
       have H := H1
       clear H1
       have H' := Aside0.mk H
       clear H
       go_wp2
       go_roundg kj3
       case measure => have := HK1.out; have := HJ3.out; omega
       case rel => exact ⟨(x5_1), (x6_1), (wrap64 (x7_1 + 1)), (by first | rfl | (simp; done) | (simp [*]; done) | (simp [bne_nil_hyb]; done) | (simp [bne_nil_hyb, *]; done)), (by first | rfl | (simp; done) | (simp [*]; done) | (simp [bne_nil_hyb]; done) | (simp [bne_nil_hyb, *]; done)), (by first | rfl | (simp; done) | (simp [*]; done) | (simp [bne_nil_hyb]; done) | (simp [bne_nil_hyb, *]; done)), H', ⟨by have := HK1.out; have := HJ3.out; omega⟩, by repeat (first | exact Drawn0.refl _ | apply Drawn0.step)⟩
      ·replace c8 := Bool.eq_false_iff.mpr c8
       subst c8
       have H1 : (if 0 ≤ x6_1 then (if x6_1 ≤ x7_1 then (if x7_1 ≤ (a0.size : Int) then ((some (a0.extract (x6_1 : Int).toNat (x7_1 : Int).toNat : ByteArray)).bind fun y102 => ((laws_digits.f kj3 y102).bind fun t103 => (if t103 = true then (if (y102.size : Int) > 1 then (if 0 < (y102.size : Int) then (if (bt y102 0) = 48 then (laws_numbered.j2 kj3 a0 a1 x5_1 x7_1 true) else (laws_numbered.j2 kj3 a0 a1 x5_1 x7_1 (decide ((y102.size : Int) > 15)))) else (none)) else (laws_numbered.j2 kj3 a0 a1 x5_1 x7_1 (decide ((y102.size : Int) > 15)))) else (laws_numbered.j2 kj3 a0 a1 x5_1 x7_1 true)))) else (none)) else (none)) else (none)) = some r := by rw [if_neg (show ¬ (false = true) by decide)] at H; exact H
       clear H
       have H := H1
       clear H1
       by_cases c9 : 0 ≤ x6_1
       ·rw [if_pos c9] at H
        have c9b0 := eq_true c9
        have c9b1 : decide (0 ≤ x6_1) = true := decide_eq_true c9
        clear c9
        by_cases c10 : x6_1 ≤ x7_1
        ·rw [if_pos c10] at H
         have c10b0 := eq_true c10
         have c10b1 : decide (x6_1 ≤ x7_1) = true := decide_eq_true c10
         clear c10
         by_cases c11 : x7_1 ≤ (a0.size : Int)
         ·rw [if_pos c11] at H
          have c11b0 := eq_true c11
          have c11b1 : decide (x7_1 ≤ (a0.size : Int)) = true := decide_eq_true c11
          clear c11
          obtain ⟨y102, hy102⟩ : ∃ y_ : ByteArray, y_ = (a0.extract (x6_1 : Int).toNat (x7_1 : Int).toNat) := ⟨_, rfl⟩
          replace H : ((laws_digits.f kj3 y102).bind fun t103 => (if t103 = true then (if (y102.size : Int) > 1 then (if 0 < (y102.size : Int) then (if (bt y102 0) = 48 then (laws_numbered.j2 kj3 a0 a1 x5_1 x7_1 true) else (laws_numbered.j2 kj3 a0 a1 x5_1 x7_1 (decide ((y102.size : Int) > 15)))) else (none)) else (laws_numbered.j2 kj3 a0 a1 x5_1 x7_1 (decide ((y102.size : Int) > 15)))) else (laws_numbered.j2 kj3 a0 a1 x5_1 x7_1 true))) = some r := by first | (rw [hy102]; with_reducible exact H) | (have H2_ := (Option.bind_some _ _).symm.trans H; rw [hy102]; with_reducible exact H2_) | (have H2_ := (Option.bind_some _ _).symm.trans H; with_reducible exact H2_) | with_reducible exact H | (rw [hy102]; exact H) | exact H
          have Ny102 := Aside0.mk hy102
          clear hy102
          have HC12 := Aside0.mk H
          clear H
          go_upto_region 7 with (first | ((with_reducible refine gate_dst (N := 28) rfl ?_); (try (refine gate_guard (by rfl) ?_; dsimp only)); refine named_event ?hg (N := 28) ?hd (v := .string (a0.extract (x6_1 : Int).toNat (x7_1 : Int).toNat)) (v' := .string y102) ?hr (congrArg Value.string Ny102.out.symm) ?_; (case hd => rfl); (case hg => rfl); (case hr => first | (go_simp; done) | (go_simp; rfl))))
          (try simp only [Act.put, List.setIfInBounds_toArray, List.set_cons_zero, List.set_cons_succ])
          go_cut [46] (fun v46 wc => ∃ (kq : Nat) (x46_11 : Bool), v46 = .bool x46_11 ∧ Aside0 (laws_numbered.j2 kq a0 a1 x5_1 x7_1 x46_11 = some r) ∧ Aside0 (kq ≤ kj3) ∧ Drawn0 w wc)
          case first =>
           have H := HC12.out
           clear HC12
           replace H := Option.bind_eq_some_iff.mp H
           obtain ⟨t103, A130, H⟩ := H
           replace H : (if t103 = true then (if (y102.size : Int) > 1 then (if 0 < (y102.size : Int) then (if (bt y102 0) = 48 then (laws_numbered.j2 kj3 a0 a1 x5_1 x7_1 true) else (laws_numbered.j2 kj3 a0 a1 x5_1 x7_1 (decide ((y102.size : Int) > 15)))) else (none)) else (laws_numbered.j2 kj3 a0 a1 x5_1 x7_1 (decide ((y102.size : Int) > 15)))) else (laws_numbered.j2 kj3 a0 a1 x5_1 x7_1 true)) = some r := H
           have A13 := Aside0.mk A130
           clear A130
           by_cases c14 : t103 = true
           ·subst c14
            have H1 : (if (y102.size : Int) > 1 then (if 0 < (y102.size : Int) then (if (bt y102 0) = 48 then (laws_numbered.j2 kj3 a0 a1 x5_1 x7_1 true) else (laws_numbered.j2 kj3 a0 a1 x5_1 x7_1 (decide ((y102.size : Int) > 15)))) else (none)) else (laws_numbered.j2 kj3 a0 a1 x5_1 x7_1 (decide ((y102.size : Int) > 15)))) = some r := by rw [if_pos rfl] at H; exact H
            clear H
            have H := H1
            clear H1
            by_cases c15 : (y102.size : Int) > 1
            ·rw [if_pos c15] at H
             have c15b0 : decide (1 < (y102.size : Int)) = true := decide_eq_true c15
             have c15b1 : decide (1 < y102.size) = true := decide_eq_true (by omega)
             clear c15
             (first | rw [c15b0] | (simp only [i64_w, i32_w]; rw [c15b0]) | skip)
             by_cases c16 : 0 < (y102.size : Int)
             ·rw [if_pos c16] at H
              have c16b0 : decide (0 < (y102.size : Int)) = true := decide_eq_true c16
              have c16b1 : decide (0 < y102.size) = true := decide_eq_true (by omega)
              clear c16
              by_cases c18 : (bt y102 0) = 48
              ·rw [if_pos c18] at H
               have c18b0 : ((bt y102 0) == 48) = true := beq_iff_eq.mpr c18
               have c18b1 : ((bt y102 0) != 48) = false := bne_eq_false_iff_eq.mpr c18
               clear c18
               have H' := Aside0.mk H
               clear H
               go_wp2_with (first | ((with_reducible refine gate_callee (f := 14) rfl ?_); refine goesL_ (some 30) rfl rfl Tryd.func14 (by kernel_rfl) rfl #[.string y102] rfl (by (try simp only [List.map_toArray, List.map_cons, List.map_nil]); first | done | rfl | (simp only [List.length_drop, List.length_take]; rfl)) ?_; (with_reducible refine (laws_digits.calls kj3 y102 true _ A13.out).mono ?_); rintro e w' ⟨rfl, ⟨nd, rfl⟩⟩; refine ⟨_, rfl, ?_⟩; have p17 : 0 ≤ (0 : Int) := (by omega); have q17 : 0 < y102.size := (by have : (0 : Int) < (y102.size : Int) := of_decide_eq_true (by first | (with_reducible assumption) | assumption); omega); have hx17 : ∀ h : 0 < y102.size, ((y102[0]'h).toNat : Int) = bt y102 0 := bt_at y102 0; clear p17; have qi17 : (0 < (y102.size : Int)) = True := eq_true (of_decide_eq_true (by first | (with_reducible assumption) | assumption)); replace q17 := eq_true q17))
               go_meet
               case rel => exact ⟨_, (true), (by first | rfl | (simp; done) | (simp [*]; done) | (simp [bne_nil_hyb]; done) | (simp [bne_nil_hyb, *]; done)), H', ⟨by have := HK1.out; have := HJ3.out; first | omega | exact Nat.le_refl _⟩, by repeat (first | exact Drawn0.refl _ | apply Drawn0.step)⟩
              ·rw [if_neg c18] at H
               have c18b0 : ((bt y102 0) == 48) = false := beq_eq_false_iff_ne.mpr c18
               have c18b1 : ((bt y102 0) != 48) = true := bne_iff_ne.mpr c18
               have H' := Aside0.mk H
               clear H
               go_wp2_with (first | ((with_reducible refine gate_callee (f := 14) rfl ?_); refine goesL_ (some 30) rfl rfl Tryd.func14 (by kernel_rfl) rfl #[.string y102] rfl (by (try simp only [List.map_toArray, List.map_cons, List.map_nil]); first | done | rfl | (simp only [List.length_drop, List.length_take]; rfl)) ?_; (with_reducible refine (laws_digits.calls kj3 y102 true _ A13.out).mono ?_); rintro e w' ⟨rfl, ⟨nd, rfl⟩⟩; refine ⟨_, rfl, ?_⟩; have p17 : 0 ≤ (0 : Int) := (by omega); have q17 : 0 < y102.size := (by have : (0 : Int) < (y102.size : Int) := of_decide_eq_true (by first | (with_reducible assumption) | assumption); omega); have hx17 : ∀ h : 0 < y102.size, ((y102[0]'h).toNat : Int) = bt y102 0 := bt_at y102 0; clear p17; have qi17 : (0 < (y102.size : Int)) = True := eq_true (of_decide_eq_true (by first | (with_reducible assumption) | assumption)); replace q17 := eq_true q17))
               go_meet
               case rel => exact ⟨_, (decide ((y102.size : Int) > 15)), (by first | rfl | (simp; done) | (simp [*]; done) | (simp [bne_nil_hyb]; done) | (simp [bne_nil_hyb, *]; done)), H', ⟨by have := HK1.out; have := HJ3.out; first | omega | exact Nat.le_refl _⟩, by repeat (first | exact Drawn0.refl _ | apply Drawn0.step)⟩
             ·rw [if_neg c16] at H
              exact absurd H (by simp)
            ·rw [if_neg c15] at H
             have c15b0 : decide (1 < (y102.size : Int)) = false := decide_eq_false c15
             have c15b1 : decide (1 < y102.size) = false := decide_eq_false (by omega)
             clear c15
             (first | rw [c15b0] | (simp only [i64_w, i32_w]; rw [c15b0]) | skip)
             have H' := Aside0.mk H
             clear H
             go_wp2_with (first | ((with_reducible refine gate_callee (f := 14) rfl ?_); refine goesL_ (some 30) rfl rfl Tryd.func14 (by kernel_rfl) rfl #[.string y102] rfl (by (try simp only [List.map_toArray, List.map_cons, List.map_nil]); first | done | rfl | (simp only [List.length_drop, List.length_take]; rfl)) ?_; (with_reducible refine (laws_digits.calls kj3 y102 true _ A13.out).mono ?_); rintro e w' ⟨rfl, ⟨nd, rfl⟩⟩; refine ⟨_, rfl, ?_⟩))
             go_meet
             case rel => exact ⟨_, (decide ((y102.size : Int) > 15)), (by first | rfl | (simp; done) | (simp [*]; done) | (simp [bne_nil_hyb]; done) | (simp [bne_nil_hyb, *]; done)), H', ⟨by have := HK1.out; have := HJ3.out; first | omega | exact Nat.le_refl _⟩, by repeat (first | exact Drawn0.refl _ | apply Drawn0.step)⟩
           ·replace c14 := Bool.eq_false_iff.mpr c14
            subst c14
            have H1 : (laws_numbered.j2 kj3 a0 a1 x5_1 x7_1 true) = some r := by rw [if_neg (show ¬ (false = true) by decide)] at H; exact H
            clear H
            have H := H1
            clear H1
            have H' := Aside0.mk H
            clear H
            go_wp2_with (first | ((with_reducible refine gate_callee (f := 14) rfl ?_); refine goesL_ (some 30) rfl rfl Tryd.func14 (by kernel_rfl) rfl #[.string y102] rfl (by (try simp only [List.map_toArray, List.map_cons, List.map_nil]); first | done | rfl | (simp only [List.length_drop, List.length_take]; rfl)) ?_; (with_reducible refine (laws_digits.calls kj3 y102 false _ A13.out).mono ?_); rintro e w' ⟨rfl, ⟨nd, rfl⟩⟩; refine ⟨_, rfl, ?_⟩))
            go_meet
            case rel => exact ⟨_, (true), (by first | rfl | (simp; done) | (simp [*]; done) | (simp [bne_nil_hyb]; done) | (simp [bne_nil_hyb, *]; done)), H', ⟨by have := HK1.out; have := HJ3.out; first | omega | exact Nat.le_refl _⟩, by repeat (first | exact Drawn0.refl _ | apply Drawn0.step)⟩
          case rest =>
           clear HC12
           try clear c1
           try clear p1
           try clear q1
           try clear hx1
           try clear qi1
           try clear p2
           try clear c3
           try clear c3b0
           try clear c5
           try clear c5b0
           try clear c6
           try clear c6b0
           try clear p6
           try clear p7
           try clear q7
           try clear hx7
           try clear c8
           try clear c9
           try clear c9b0
           try clear c9b1
           try clear c10
           try clear c10b0
           try clear c10b1
           try clear c11
           try clear c11b0
           try clear c11b1
           try clear c14
           try clear c15
           try clear c15b0
           try clear c15b1
           try clear c16
           try clear c16b0
           try clear c16b1
           try clear p17
           try clear q17
           try clear hx17
           try clear qi17
           try clear c18
           try clear c18b0
           try clear c18b1
           try clear p17
           try clear p2
           try clear p7
           try clear q17
           try clear q7
           obtain ⟨kq, x46_11, rfl, HA, HJ11, ⟨mc11, rfl⟩⟩ := hcut
           cases kq with
           | zero => exact absurd HA.out (by simp [laws_numbered.j2])
           | succ kj11 =>
            have H := HA.out
            clear HA
            simp only [laws_numbered.j2] at H
            by_cases c19 : x46_11 = true
            ·subst c19
             have H1 : (some false) = some r := by rw [if_pos rfl] at H; exact H
             clear H
             have H := H1
             clear H1
             obtain rfl := Option.some.inj H
             go_wp2
             go_ret
             exact ⟨by first | rfl | (simp; done) | (simp [*]; done) | (simp [bne_nil_hyb]; done) | (simp [bne_nil_hyb, *]; done), by repeat (first | exact Drawn0.refl _ | apply Drawn0.step)⟩
            ·replace c19 := Bool.eq_false_iff.mpr c19
             subst c19
             have H1 : (if x7_1 < (a0.size : Int) then (laws_numbered.l0 kj11 a0 a1 (wrap64 (x5_1 + 1)) (wrap64 (x7_1 + 1)) (wrap64 (x7_1 + 1))) else (laws_numbered.l0 kj11 a0 a1 x5_1 (wrap64 (x7_1 + 1)) (wrap64 (x7_1 + 1)))) = some r := by rw [if_neg (show ¬ (false = true) by decide)] at H; exact H
             clear H
             have H := H1
             clear H1
             by_cases c20 : x7_1 < (a0.size : Int)
             ·rw [if_pos c20] at H
              have c20b0 : decide (x7_1 < (a0.size : Int)) = true := decide_eq_true c20
              clear c20
              have H' := Aside0.mk H
              clear H
              go_wp2
              go_roundg kj11
              case measure => have := HK1.out; have := HJ3.out; have := HJ11.out; omega
              case rel => exact ⟨(wrap64 (x5_1 + 1)), (wrap64 (x7_1 + 1)), (wrap64 (x7_1 + 1)), (by first | rfl | (simp; done) | (simp [*]; done) | (simp [bne_nil_hyb]; done) | (simp [bne_nil_hyb, *]; done)), (by first | rfl | (simp; done) | (simp [*]; done) | (simp [bne_nil_hyb]; done) | (simp [bne_nil_hyb, *]; done)), (by first | rfl | (simp; done) | (simp [*]; done) | (simp [bne_nil_hyb]; done) | (simp [bne_nil_hyb, *]; done)), H', ⟨by have := HK1.out; have := HJ3.out; have := HJ11.out; omega⟩, by repeat (first | exact Drawn0.refl _ | apply Drawn0.step)⟩
             ·rw [if_neg c20] at H
              have c20b0 : decide (x7_1 < (a0.size : Int)) = false := decide_eq_false c20
              clear c20
              have H' := Aside0.mk H
              clear H
              go_wp2
              go_roundg kj11
              case measure => have := HK1.out; have := HJ3.out; have := HJ11.out; omega
              case rel => exact ⟨(x5_1), (wrap64 (x7_1 + 1)), (wrap64 (x7_1 + 1)), (by first | rfl | (simp; done) | (simp [*]; done) | (simp [bne_nil_hyb]; done) | (simp [bne_nil_hyb, *]; done)), (by first | rfl | (simp; done) | (simp [*]; done) | (simp [bne_nil_hyb]; done) | (simp [bne_nil_hyb, *]; done)), (by first | rfl | (simp; done) | (simp [*]; done) | (simp [bne_nil_hyb]; done) | (simp [bne_nil_hyb, *]; done)), H', ⟨by have := HK1.out; have := HJ3.out; have := HJ11.out; omega⟩, by repeat (first | exact Drawn0.refl _ | apply Drawn0.step)⟩
         ·rw [if_neg c11] at H
          exact absurd H (by simp)
        ·rw [if_neg c10] at H
         exact absurd H (by simp)
       ·rw [if_neg c9] at H
        exact absurd H (by simp)
   ·rw [if_neg c3] at H
    have c3b0 : decide (x7_1 ≤ (a0.size : Int)) = false := decide_eq_false c3
    clear c3
    obtain rfl := Option.some.inj H
    go_wp2
    go_ret
    exact ⟨by first | rfl | (simp; done) | (simp [*]; done) | (simp [bne_nil_hyb]; done) | (simp [bne_nil_hyb, *]; done), by repeat (first | exact Drawn0.refl _ | apply Drawn0.step)⟩

/-! ### semantic_zzIndex: function 30 -/
def semantic_zzIndex.l0 : Nat → ByteArray → ByteArray → Int → Option (Int)
 | 0, _, _, _ => none
 | k + 1, x0, x1, x5 => if (wrap64 (x5 + (x1.size : Int))) ≤ (x0.size : Int) then (if 0 ≤ x5 then (if x5 ≤ (wrap64 (x5 + (x1.size : Int))) then (if (x0.extract (x5 : Int).toNat ((wrap64 (x5 + (x1.size : Int))) : Int).toNat).toList = x1.toList then (some x5) else (semantic_zzIndex.l0 k x0 x1 (wrap64 (x5 + 1)))) else (none)) else (none)) else (some (-1))
def semantic_zzIndex.f (k : Nat) (a0 : ByteArray) (a1 : ByteArray) : Option (Int) := semantic_zzIndex.l0 k a0 a1 0
theorem semantic_zzIndex.mono_l : ∀ k, (∀ y0 y1 y2, LeO (semantic_zzIndex.l0 k y0 y1 y2) (semantic_zzIndex.l0 (k + 1) y0 y1 y2))
 | 0 => fun _ _ _ r h => by simp [semantic_zzIndex.l0] at h
 | k + 1 => by
  have ih0 := semantic_zzIndex.mono_l k
  ·intro y0 y1 y2
   unfold semantic_zzIndex.l0
   repeat' first
   | (with_reducible exact ih0 _ _ _)
   | (with_reducible exact LeO.refl _)
   | (with_reducible exact LeO.none _)
   | (with_reducible refine LeO.ite ?_ ?_)
   | (with_reducible refine LeO.bind ?_ (fun _ => ?_))
   | exact ih0 _ _ _
   | exact LeO.none _
   | refine LeO.ite ?_ ?_
   | refine LeO.bind ?_ (fun _ => ?_)
theorem semantic_zzIndex.mono : ∀ a0 a1 k, LeO (semantic_zzIndex.f k a0 a1) (semantic_zzIndex.f (k + 1) a0 a1) := by
 intro a0 a1 k
 have ih0 := semantic_zzIndex.mono_l k
 unfold semantic_zzIndex.f
 repeat' first
   | (with_reducible exact ih0 _ _ _)
   | (with_reducible exact LeO.refl _)
   | (with_reducible exact LeO.none _)
   | (with_reducible refine LeO.ite ?_ ?_)
   | (with_reducible refine LeO.bind ?_ (fun _ => ?_))
   | exact ih0 _ _ _
   | exact LeO.none _
   | refine LeO.ite ?_ ?_
   | refine LeO.bind ?_ (fun _ => ?_)
set_option maxHeartbeats 8000000 in
set_option maxRecDepth 100000 in
theorem semantic_zzIndex.calls (k : Nat) (a0 : ByteArray) (a1 : ByteArray) (r : Int) (w : World) (h : semantic_zzIndex.f k a0 a1 = some r) :
  Calls Tryd.prog 30 #[.string a0, .string a1] w fun e w' => e = .returned (.int .i64 r) ∧ Drawn0 w w' := by
 have H : (semantic_zzIndex.l0 k a0 a1 0) = some r := h
 clear h
 have H' := Aside0.mk H
 clear H
 go_enter Tryd.func30, Tryd.ntmps30
 go_wp2
 (try simp only [Act.put, List.setIfInBounds_toArray, List.set_cons_zero, List.set_cons_succ])
 go_loopg [5] k (fun kq v5 w' => ∃ (x5_1 : Int), v5 = .int .i64 x5_1 ∧ Aside0 (semantic_zzIndex.l0 kq a0 a1 x5_1 = some r) ∧ Aside0 (kq ≤ k) ∧ Drawn0 w w')
 case atStart => exact ⟨(0), (by first | rfl | (simp; done) | (simp [*]; done) | (simp [bne_nil_hyb]; done) | (simp [bne_nil_hyb, *]; done)), H', ⟨Nat.le_refl _⟩, by repeat (first | exact Drawn0.refl _ | apply Drawn0.step)⟩
 case round =>
  clear H'
  try clear p2
  obtain ⟨x5_1, rfl, HA, HK1, ⟨m1, rfl⟩⟩ := hrel
  cases gk with
  | zero => exact absurd HA.out (by simp [semantic_zzIndex.l0])
  | succ k1 =>
   have H := HA.out
   clear HA
   simp only [semantic_zzIndex.l0] at H
   by_cases c3 : (wrap64 (x5_1 + (a1.size : Int))) ≤ (a0.size : Int)
   ·rw [if_pos c3] at H
    have c3b0 : decide ((wrap64 (x5_1 + (a1.size : Int))) ≤ (a0.size : Int)) = true := decide_eq_true c3
    clear c3
    by_cases c4 : 0 ≤ x5_1
    ·rw [if_pos c4] at H
     have c4b0 := eq_true c4
     have c4b1 : decide (0 ≤ x5_1) = true := decide_eq_true c4
     clear c4
     by_cases c5 : x5_1 ≤ (wrap64 (x5_1 + (a1.size : Int)))
     ·rw [if_pos c5] at H
      have c5b0 := eq_true c5
      have c5b1 : decide (x5_1 ≤ (wrap64 (x5_1 + (a1.size : Int)))) = true := decide_eq_true c5
      have c6b0 := eq_true (of_decide_eq_true (by first | (with_reducible assumption) | assumption) : (wrap64 (x5_1 + (a1.size : Int))) ≤ (a0.size : Int))
      by_cases c7 : (a0.extract (x5_1 : Int).toNat ((wrap64 (x5_1 + (a1.size : Int))) : Int).toNat).toList = a1.toList
      ·rw [if_pos c7] at H
       have c7b0 : ((a0.extract (x5_1 : Int).toNat ((wrap64 (x5_1 + (a1.size : Int))) : Int).toNat).toList == a1.toList) = true := beq_iff_eq.mpr c7
       have c7b1 : ((a0.extract (x5_1 : Int).toNat ((wrap64 (x5_1 + (a1.size : Int))) : Int).toNat).toList != a1.toList) = false := bne_eq_false_iff_eq.mpr c7
       clear c7
       obtain rfl := Option.some.inj H
       go_wp2
       go_ret
       exact ⟨by first | rfl | (simp; done) | (simp [*]; done) | (simp [bne_nil_hyb]; done) | (simp [bne_nil_hyb, *]; done), by repeat (first | exact Drawn0.refl _ | apply Drawn0.step)⟩
      ·rw [if_neg c7] at H
       have c7b0 : ((a0.extract (x5_1 : Int).toNat ((wrap64 (x5_1 + (a1.size : Int))) : Int).toNat).toList == a1.toList) = false := beq_eq_false_iff_ne.mpr c7
       have c7b1 : ((a0.extract (x5_1 : Int).toNat ((wrap64 (x5_1 + (a1.size : Int))) : Int).toNat).toList != a1.toList) = true := bne_iff_ne.mpr c7
       have H' := Aside0.mk H
       clear H
       go_wp2
       go_roundg k1
       case measure => have := HK1.out; omega
       case rel => exact ⟨(wrap64 (x5_1 + 1)), (by first | rfl | (simp; done) | (simp [*]; done) | (simp [bne_nil_hyb]; done) | (simp [bne_nil_hyb, *]; done)), H', ⟨by have := HK1.out; omega⟩, by repeat (first | exact Drawn0.refl _ | apply Drawn0.step)⟩
     ·rw [if_neg c5] at H
      exact absurd H (by simp)
    ·rw [if_neg c4] at H
     exact absurd H (by simp)
   ·rw [if_neg c3] at H
    have c3b0 : decide ((wrap64 (x5_1 + (a1.size : Int))) ≤ (a0.size : Int)) = false := decide_eq_false c3
    clear c3
    obtain rfl := Option.some.inj H
    go_wp2
    go_ret
    exact ⟨by first | rfl | (simp; done) | (simp [*]; done) | (simp [bne_nil_hyb]; done) | (simp [bne_nil_hyb, *]; done), by repeat (first | exact Drawn0.refl _ | apply Drawn0.step)⟩

/-! ### semantic_zzSplit: function 26 -/
def semantic_zzSplit.l1 : Nat → ByteArray → ByteArray → List ByteArray → Option (List ByteArray)
 | 0, _, _, _ => none
 | k + 1, x0, x1, x5 => (semantic_zzIndex.f k x0 x1).bind fun t104 => (if t104 < 0 then (if x5.length < 8796093022208 then (some (x5 ++ [x0])) else (none)) else (if 0 ≤ t104 then (if t104 ≤ (x0.size : Int) then (if x5.length < 8796093022208 then (if 0 ≤ (wrap64 (t104 + (x1.size : Int))) then (if (wrap64 (t104 + (x1.size : Int))) ≤ (x0.size : Int) then (semantic_zzSplit.l1 k (x0.extract ((wrap64 (t104 + (x1.size : Int))) : Int).toNat x0.size) x1 (x5 ++ [x0.extract 0 (t104 : Int).toNat])) else (none)) else (none)) else (none)) else (none)) else (none)))
def semantic_zzSplit.f (k : Nat) (a0 : ByteArray) (a1 : ByteArray) : Option (List ByteArray) := if (a1.size : Int) = 0 then (none) else (semantic_zzSplit.l1 k a0 a1 ([] : List ByteArray))
theorem semantic_zzSplit.mono_l : ∀ k, (∀ y0 y1 y2, LeO (semantic_zzSplit.l1 k y0 y1 y2) (semantic_zzSplit.l1 (k + 1) y0 y1 y2))
 | 0 => fun _ _ _ r h => by simp [semantic_zzSplit.l1] at h
 | k + 1 => by
  have ih0 := semantic_zzSplit.mono_l k
  ·intro y0 y1 y2
   unfold semantic_zzSplit.l1
   repeat' first
   | (with_reducible exact ih0 _ _ _)
   | (with_reducible exact semantic_zzIndex.mono _ _ _)
   | (with_reducible exact LeO.refl _)
   | (with_reducible exact LeO.none _)
   | (with_reducible refine LeO.ite ?_ ?_)
   | (with_reducible refine LeO.bind ?_ (fun _ => ?_))
   | exact ih0 _ _ _
   | exact semantic_zzIndex.mono _ _ _
   | exact LeO.none _
   | refine LeO.ite ?_ ?_
   | refine LeO.bind ?_ (fun _ => ?_)
theorem semantic_zzSplit.mono : ∀ a0 a1 k, LeO (semantic_zzSplit.f k a0 a1) (semantic_zzSplit.f (k + 1) a0 a1) := by
 intro a0 a1 k
 have ih0 := semantic_zzSplit.mono_l k
 unfold semantic_zzSplit.f
 repeat' first
   | (with_reducible exact ih0 _ _ _)
   | (with_reducible exact semantic_zzIndex.mono _ _ _)
   | (with_reducible exact LeO.refl _)
   | (with_reducible exact LeO.none _)
   | (with_reducible refine LeO.ite ?_ ?_)
   | (with_reducible refine LeO.bind ?_ (fun _ => ?_))
   | exact ih0 _ _ _
   | exact semantic_zzIndex.mono _ _ _
   | exact LeO.none _
   | refine LeO.ite ?_ ?_
   | refine LeO.bind ?_ (fun _ => ?_)
set_option maxHeartbeats 8000000 in
set_option maxRecDepth 100000 in
theorem semantic_zzSplit.calls (k : Nat) (a0 : ByteArray) (a1 : ByteArray) (r : List ByteArray) (w : World) (h : semantic_zzSplit.f k a0 a1 = some r) :
  Calls Tryd.prog 26 #[.string a0, .string a1] w fun e w' => ∃ v0_ : Value, e = .returned (v0_) ∧ Kd.R Kd.string 9 w' w.heap.size (fun _ => True) v0_ r ∧ Below w.heap.size w w' := by
 have HB := Aside0.mk (Below.refl w.heap.size w)
 have H : (if (a1.size : Int) = 0 then (none) else (semantic_zzSplit.l1 k a0 a1 ([] : List ByteArray))) = some r := h
 clear h
 by_cases c3 : (a1.size : Int) = 0
 ·rw [if_pos c3] at H
  exact absurd H (by simp)
 ·rw [if_neg c3] at H
  have c3b0 : ((a1.size : Int) == 0) = false := beq_eq_false_iff_ne.mpr c3
  have c3b1 : ((a1.size : Int) != 0) = true := bne_iff_ne.mpr c3
  have H' := Aside0.mk H
  clear H
  go_enter Tryd.func26, Tryd.ntmps26
  go_wp2
  (try simp only [Act.put, List.setIfInBounds_toArray, List.set_cons_zero, List.set_cons_succ])
  go_loopg [0, 5] k (fun kq v0 v5 w' => ∃ (x0_1 : ByteArray) (x5_1 : List ByteArray), v0 = .string x0_1 ∧ Aside0 (semantic_zzSplit.l1 kq x0_1 a1 x5_1 = some r) ∧ Aside0 (kq ≤ k) ∧ Aside0 (Kd.R Kd.string 9 w' w.heap.size (fun _ => True) v5 x5_1) ∧ Aside0 (Below w.heap.size w w'))
  case atStart => exact ⟨(a0), (([] : List ByteArray)), (by first | rfl | (simp; done) | (simp [*]; done) | (simp [bne_nil_hyb]; done) | (simp [bne_nil_hyb, *]; done)), H', ⟨Nat.le_refl _⟩, ⟨by first | exact Kd.R_nil _ _ _ _ _ | exact Kd.N_nil _ _ _ _ _ | exact Kd.V_nil _ _ _ _ _ | exact Kd.Q_nil _ _ _ _ _ | exact Kd.S_nil _ _ _ _ _⟩, ⟨by repeat (first | (with_reducible first | exact HB.out | apply below_alloc | apply pw_below_drewN | apply below_drew1) | exact HB.out)⟩⟩
  case round =>
   clear H'
   try clear c2
   try clear p2
   try clear c3
   try clear c3b0
   try clear c3b1
   obtain ⟨x0_1, x5_1, rfl, HA, HK1, HO_5, HB⟩ := hrel
   cases gk with
   | zero => exact absurd HA.out (by simp [semantic_zzSplit.l1])
   | succ k1 =>
    have H := HA.out
    clear HA
    simp only [semantic_zzSplit.l1] at H
    replace H := Option.bind_eq_some_iff.mp H
    obtain ⟨t104, A40, H⟩ := H
    replace H : (if t104 < 0 then (if x5_1.length < 8796093022208 then (some (x5_1 ++ [x0_1])) else (none)) else (if 0 ≤ t104 then (if t104 ≤ (x0_1.size : Int) then (if x5_1.length < 8796093022208 then (if 0 ≤ (wrap64 (t104 + (a1.size : Int))) then (if (wrap64 (t104 + (a1.size : Int))) ≤ (x0_1.size : Int) then (semantic_zzSplit.l1 k1 (x0_1.extract ((wrap64 (t104 + (a1.size : Int))) : Int).toNat x0_1.size) a1 (x5_1 ++ [x0_1.extract 0 (t104 : Int).toNat])) else (none)) else (none)) else (none)) else (none)) else (none))) = some r := H
    have A4 := Aside0.mk A40
    clear A40
    by_cases c5 : t104 < 0
    ·rw [if_pos c5] at H
     have c5b0 : decide (t104 < 0) = true := decide_eq_true c5
     clear c5
     by_cases c6 : x5_1.length < 8796093022208
     ·rw [if_pos c6] at H
      have LMc6 := Aside0.mk c6
      clear c6
      obtain ⟨y105, hy105⟩ : ∃ y_ : List ByteArray, y_ = (x5_1 ++ [x0_1]) := ⟨_, rfl⟩
      replace H : (some y105) = some r := by first | (rw [hy105]; with_reducible exact H) | (have H2_ := (Option.bind_some _ _).symm.trans H; rw [hy105]; with_reducible exact H2_) | (have H2_ := (Option.bind_some _ _).symm.trans H; with_reducible exact H2_) | with_reducible exact H | (rw [hy105]; exact H) | exact H
      have Ny105 := Aside0.mk hy105
      clear hy105
      obtain rfl := Option.some.inj H
      go_wp2_with (first | ((with_reducible refine gate_callee (f := 30) rfl ?_); refine goesL_ (some 39) rfl rfl Tryd.func30 (by kernel_rfl) rfl #[.string x0_1, .string a1] rfl (by (try simp only [List.map_toArray, List.map_cons, List.map_nil]); first | done | rfl | (simp only [List.length_drop, List.length_take]; rfl)) ?_; (with_reducible refine (semantic_zzIndex.calls k1 x0_1 a1 t104 _ A4.out).mono ?_); rintro e w' ⟨rfl, ⟨nd, rfl⟩⟩; refine ⟨_, rfl, ?_⟩) | ((with_reducible refine gate_builtin (b := .append) (xs := #[.tmp 42, .tmp 44]) rfl ?_); at_builtin; refine Kd.R_append Kd.string (w0 := w) w.heap.size rfl (.tmp 42) (.tmp 44) 25 9 (.string ⟨#[]⟩) 16 rfl Tryd.underlying25 info9 rfl (by decide) (by omega) u5 x5_1 x0_1 [.string x0_1] (fun _ => True) (fun _ => False) rfl rfl ?aP (fun _ hk => hk.elim) ?aF ?aO ?aB ?aS ?aL ?_; (case aP => exact rfl); (case aB => exact (by repeat (first | (with_reducible first | exact HB.out | apply below_alloc | apply pw_below_drewN | apply below_drew1) | exact HB.out))); (case aF => exact (fun _ _ => trivial)); (case aO => exact (by (with_reducible repeat (first | apply Kd.R_alloc | apply Kd.R_drewN | apply Kd.R_drew)); exact HO_5.out)); (case aS => exact (below_size (by repeat (first | (with_reducible first | exact HB.out | apply below_alloc | apply pw_below_drewN | apply below_drew1) | exact HB.out)))); (case aL => have := LMc6.out; omega); intro v106 w7 ho hb hg hat; rw [← Ny105.out] at ho; have n0_ := Aside0.mk (hb); have n1_ := Aside0.mk (ho); clear HB; clear HO_5; have HB := n0_; have HO107 := n1_; clear n0_ n1_; clear ho hb hg hat))
      go_ret
      exact ⟨_, by first | rfl | (simp [errW_none, errW_some] <;> rfl) | (simp [*, errW_none, errW_some] <;> rfl) | (simp [bne_nil_hyb]; done), by (with_reducible repeat (first | apply Kd.R_alloc | apply Kd.R_drewN | apply Kd.R_drew)); exact HO107.out, by repeat (first | (with_reducible first | exact HB.out | apply below_alloc | apply pw_below_drewN | apply below_drew1) | exact HB.out)⟩
     ·rw [if_neg c6] at H
      exact absurd H (by simp)
    ·rw [if_neg c5] at H
     have c5b0 : decide (t104 < 0) = false := decide_eq_false c5
     clear c5
     by_cases c8 : 0 ≤ t104
     ·rw [if_pos c8] at H
      have c8b0 := eq_true c8
      have c8b1 : decide (0 ≤ t104) = true := decide_eq_true c8
      clear c8
      by_cases c9 : t104 ≤ (x0_1.size : Int)
      ·rw [if_pos c9] at H
       have c9b0 := eq_true c9
       have c9b1 : decide (t104 ≤ (x0_1.size : Int)) = true := decide_eq_true c9
       clear c9
       by_cases c10 : x5_1.length < 8796093022208
       ·rw [if_pos c10] at H
        have LMc10 := Aside0.mk c10
        clear c10
        obtain ⟨y108, hy108⟩ : ∃ y_ : List ByteArray, y_ = (x5_1 ++ [x0_1.extract 0 (t104 : Int).toNat]) := ⟨_, rfl⟩
        replace H : (if 0 ≤ (wrap64 (t104 + (a1.size : Int))) then (if (wrap64 (t104 + (a1.size : Int))) ≤ (x0_1.size : Int) then (semantic_zzSplit.l1 k1 (x0_1.extract ((wrap64 (t104 + (a1.size : Int))) : Int).toNat x0_1.size) a1 y108) else (none)) else (none)) = some r := by first | (rw [hy108]; with_reducible exact H) | (have H2_ := (Option.bind_some _ _).symm.trans H; rw [hy108]; with_reducible exact H2_) | (have H2_ := (Option.bind_some _ _).symm.trans H; with_reducible exact H2_) | with_reducible exact H | (rw [hy108]; exact H) | exact H
        have Ny108 := Aside0.mk hy108
        clear hy108
        obtain ⟨ji11, hji11⟩ : ∃ j_ : Int, (wrap64 (t104 + (a1.size : Int))) = j_ := ⟨_, rfl⟩
        replace H : (if 0 ≤ (ji11) then (if (ji11) ≤ (x0_1.size : Int) then (semantic_zzSplit.l1 k1 (x0_1.extract ((ji11) : Int).toNat x0_1.size) a1 y108) else (none)) else (none)) = some r := by first | (rw [hji11] at H; exact H) | (simp only [hji11] at H ⊢; exact H)
        (try rw [hji11] at A4)
        have hji11w : (IntKind.i64.wrap (t104 + (a1.size : Int))) = ji11 := (i64_w _).trans hji11
        by_cases c12 : 0 ≤ (ji11)
        ·rw [if_pos c12] at H
         have c12b0 := eq_true c12
         have c12b1 : decide (0 ≤ (ji11)) = true := decide_eq_true c12
         clear c12
         by_cases c13 : (ji11) ≤ (x0_1.size : Int)
         ·rw [if_pos c13] at H
          have c13b0 := eq_true c13
          have c13b1 : decide ((ji11) ≤ (x0_1.size : Int)) = true := decide_eq_true c13
          clear c13
          have H' := Aside0.mk H
          clear H
          go_wp2_with (first | ((with_reducible refine gate_callee (f := 30) rfl ?_); refine goesL_ (some 39) rfl rfl Tryd.func30 (by kernel_rfl) rfl #[.string x0_1, .string a1] rfl (by (try simp only [List.map_toArray, List.map_cons, List.map_nil]); first | done | rfl | (simp only [List.length_drop, List.length_take]; rfl)) ?_; (with_reducible refine (semantic_zzIndex.calls k1 x0_1 a1 t104 _ A4.out).mono ?_); rintro e w' ⟨rfl, ⟨nd, rfl⟩⟩; refine ⟨_, rfl, ?_⟩) | ((with_reducible refine gate_builtin (b := .append) (xs := #[.tmp 46, .tmp 50]) rfl ?_); at_builtin; refine Kd.R_append Kd.string (w0 := w) w.heap.size rfl (.tmp 46) (.tmp 50) 25 9 (.string ⟨#[]⟩) 16 rfl Tryd.underlying25 info9 rfl (by decide) (by omega) u5 x5_1 (x0_1.extract 0 (t104 : Int).toNat) [.string (x0_1.extract 0 (t104 : Int).toNat)] (fun _ => True) (fun _ => False) rfl rfl ?aP (fun _ hk => hk.elim) ?aF ?aO ?aB ?aS ?aL ?_; (case aP => exact rfl); (case aB => exact (by repeat (first | (with_reducible first | exact HB.out | apply below_alloc | apply pw_below_drewN | apply below_drew1) | exact HB.out))); (case aF => exact (fun _ _ => trivial)); (case aO => exact (by (with_reducible repeat (first | apply Kd.R_alloc | apply Kd.R_drewN | apply Kd.R_drew)); exact HO_5.out)); (case aS => exact (below_size (by repeat (first | (with_reducible first | exact HB.out | apply below_alloc | apply pw_below_drewN | apply below_drew1) | exact HB.out)))); (case aL => have := LMc10.out; omega); intro v109 w14 ho hb hg hat; rw [← Ny108.out] at ho; have n0_ := Aside0.mk (hb); have n1_ := Aside0.mk (ho); clear HB; clear HO_5; have HB := n0_; have HO110 := n1_; clear n0_ n1_; clear ho hb hg hat))
          go_roundg k1
          case measure => have := HK1.out; omega
          case rel => exact ⟨(x0_1.extract ((ji11) : Int).toNat x0_1.size), (y108), (by first | rfl | (simp; done) | (simp only [← hji11] <;> (first | rfl | simp)) | (simp [*]; done)), H', ⟨by have := HK1.out; omega⟩, ⟨by (with_reducible repeat (first | apply Kd.R_alloc | apply Kd.R_drewN | apply Kd.R_drew)); exact HO110.out⟩, ⟨by repeat (first | (with_reducible first | exact HB.out | apply below_alloc | apply pw_below_drewN | apply below_drew1) | exact HB.out)⟩⟩
         ·rw [if_neg c13] at H
          exact absurd H (by simp)
        ·rw [if_neg c12] at H
         exact absurd H (by simp)
       ·rw [if_neg c10] at H
        exact absurd H (by simp)
      ·rw [if_neg c9] at H
       exact absurd H (by simp)
     ·rw [if_neg c8] at H
      exact absurd H (by simp)

end Go.Proofs.YtdjkekgfeadmoaaDoor.Q
