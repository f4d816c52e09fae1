/- Proved here: each Go function that is named in this text, called as its theorem 'calls' says, returns what its Lean function 'f' tells, and of the memory that was there nothing is changed (a row of a law: the law returns true). Conditions: those that stand in each theorem; where 'f' tells none, nothing is said. Laid by a program of this seat's prover out of the translation; Lean checks it. -/
import Derived.Test.YteffbgjfhbgooaaDoorMx0
namespace Go.Proofs.YteffbgjfhbgooaaDoor.M
open Go.RowKit Go.Proofs.YteffbgjfhbgooaaDoorH Go.Proofs.YteffbgjfhbgooaaDoorW.PrintWords Go.Proofs.YteffbgjfhbgooaaDoorW.PrintLast Go.Proofs.YteffbgjfhbgooaaDoorW.PrintMore
attribute [local go_sem] max2_int min2_int max_two min_two max_three min_three max_four min_four   -- for this text's walks alone
set_option linter.unusedVariables false
set_option linter.unusedSimpArgs false

/-! ### laws_short: function 10 -/
def laws_short.l0 : Nat → List ByteArray → List ByteArray → Int → Int → Option (Bool)
  | 0, _, _, _, _ => none
  | k + 1, x0, x5, x6, x7 => if x7 < x6 then (if 0 ≤ x7 then (if x7 < (x5.length : Int) then (if ((rdOf ByteArray.empty x5 x7).size : Int) > 1200 then (some false) else (laws_short.l0 k x0 x5 x6 (wrap64 (x7 + 1)))) else (none)) else (none)) else (some (decide ((x0.length : Int) ≤ 60)))
def laws_short.f (k : Nat) (l0 : List ByteArray) : Option (Bool) := laws_short.l0 k l0 l0 (l0.length : Int) 0
theorem laws_short.mono_l : ∀ k, (∀ y0 y1 y2 y3, LeO (laws_short.l0 k y0 y1 y2 y3) (laws_short.l0 (k + 1) y0 y1 y2 y3))
  | 0 => fun _ _ _ _ r h => by simp [laws_short.l0] at h
  | k + 1 => by
    have ih0 := laws_short.mono_l k
    · intro y0 y1 y2 y3
      unfold laws_short.l0
      repeat' first
      | (with_reducible exact ih0 _ _ _ _)
      | (with_reducible exact LeO.refl _)
      | (with_reducible exact LeO.none _)
      | (with_reducible refine LeO.ite ?_ ?_)
      | (with_reducible refine LeO.bind ?_ (fun _ => ?_))
      | exact ih0 _ _ _ _
      | exact LeO.none _
      | refine LeO.ite ?_ ?_
      | refine LeO.bind ?_ (fun _ => ?_)
theorem laws_short.mono : ∀ a0 k, LeO (laws_short.f k a0) (laws_short.f (k + 1) a0) := by
  intro a0 k
  have ih0 := laws_short.mono_l k
  unfold laws_short.f
  repeat' first
      | (with_reducible exact ih0 _ _ _ _)
      | (with_reducible exact LeO.refl _)
      | (with_reducible exact LeO.none _)
      | (with_reducible refine LeO.ite ?_ ?_)
      | (with_reducible refine LeO.bind ?_ (fun _ => ?_))
      | exact ih0 _ _ _ _
      | exact LeO.none _
      | refine LeO.ite ?_ ?_
      | refine LeO.bind ?_ (fun _ => ?_)
set_option maxHeartbeats 8000000 in
set_option maxRecDepth 100000 in
theorem laws_short.calls (k : Nat) (A0 : Option Addr) (c0 : Nat) (l0 : List ByteArray) (r : Bool) (w : World) (hr0 : Kd.C Kd.string w A0 l0.length l0) (hc0 : l0.length ≤ c0) (h : laws_short.f k l0 = some r) :
    Calls Tryd.prog 10 #[.slice A0 l0.length c0] w fun e w' => e = .returned (.bool r) ∧ Drawn0 w w' := by
  have HR0 := Aside0.mk hr0
  have HC0 := Aside0.mk hc0
  clear hr0 hc0
  have H : (laws_short.l0 k l0 l0 (l0.length : Int) 0) = some r := h
  clear h
  have H' := Aside0.mk H
  clear H
  go_enter Tryd.func10, Tryd.ntmps10
  go_wp2
  (try simp only [Act.put, List.setIfInBounds_toArray, List.set_cons_zero, List.set_cons_succ])
  go_loopg [7] k (fun kq v7 w' => ∃ (x7_1 : Int), v7 = .int .i64 x7_1 ∧ Aside0 (laws_short.l0 kq l0 l0 (l0.length : Int) x7_1 = some r) ∧ Aside0 (kq ≤ k) ∧ Drawn0 w w')
  case atStart => exact ⟨(0), (by first | rfl | (simp; done) | (simp [*]; done) | (simp [bne_nil_hyb]; done) | (simp [bne_nil_hyb, *]; done)), H', ⟨Nat.le_refl _⟩, by repeat (first | exact Drawn0.refl _ | apply Drawn0.step)⟩
  case round =>
    clear H'
    try clear c1
    obtain ⟨x7_1, rfl, HA, HK1, ⟨m1, rfl⟩⟩ := hrel
    cases gk with
    | zero => exact absurd HA.out (by simp [laws_short.l0])
    | succ k1 =>
      have H := HA.out
      clear HA
      simp only [laws_short.l0] at H
      by_cases c2 : x7_1 < (l0.length : Int)
      · rw [if_pos c2] at H
        have c2b0 : decide (x7_1 < (l0.length : Int)) = true := decide_eq_true c2
        clear c2
        by_cases c3 : 0 ≤ x7_1
        · rw [if_pos c3] at H
          have c3b0 : decide (0 ≤ x7_1) = true := decide_eq_true c3
          clear c3
          by_cases c4 : x7_1 < (l0.length : Int)
          · rw [if_pos c4] at H
            have c4b0 : decide (x7_1 < (l0.length : Int)) = true := decide_eq_true c4
            clear c4
            by_cases c5 : ((rdOf ByteArray.empty l0 x7_1).size : Int) > 1200
            · rw [if_pos c5] at H
              have c5b0 : decide (1200 < ((rdOf ByteArray.empty l0 x7_1).size : Int)) = true := decide_eq_true c5
              have c5b1 : decide (1200 < (rdOf ByteArray.empty l0 x7_1).size) = true := decide_eq_true (by omega)
              clear c5
              obtain rfl := Option.some.inj H
              have p101 : 0 ≤ (x7_1 : Int) := of_decide_eq_true (by first | (with_reducible assumption) | assumption)
              have q101 : x7_1 < (l0.length : Int) := of_decide_eq_true (by first | (with_reducible assumption) | assumption)
              obtain ⟨ad101, e101, hx101_0⟩ := Kd.at_string HR0.out x7_1 p101 q101
              cases e101
              replace p101 := eq_true p101
              replace q101 := eq_true q101
              go_wp2
              go_ret
              exact ⟨by first | rfl | (simp; done) | (simp [*]; done) | (simp [bne_nil_hyb]; done) | (simp [bne_nil_hyb, *]; done), by repeat (first | exact Drawn0.refl _ | apply Drawn0.step)⟩
            · rw [if_neg c5] at H
              have c5b0 : decide (1200 < ((rdOf ByteArray.empty l0 x7_1).size : Int)) = false := decide_eq_false c5
              have c5b1 : decide (1200 < (rdOf ByteArray.empty l0 x7_1).size) = false := decide_eq_false (by omega)
              clear c5
              have H' := Aside0.mk H
              clear H
              have p101 : 0 ≤ (x7_1 : Int) := of_decide_eq_true (by first | (with_reducible assumption) | assumption)
              have q101 : x7_1 < (l0.length : Int) := of_decide_eq_true (by first | (with_reducible assumption) | assumption)
              obtain ⟨ad101, e101, hx101_0⟩ := Kd.at_string HR0.out x7_1 p101 q101
              cases e101
              replace p101 := eq_true p101
              replace q101 := eq_true q101
              go_wp2
              go_roundg k1
              case measure => have := HK1.out; omega
              case rel => exact ⟨(wrap64 (x7_1 + 1)), (by first | rfl | (simp; done) | (simp [*]; done) | (simp [bne_nil_hyb]; done) | (simp [bne_nil_hyb, *]; done)), H', ⟨by have := HK1.out; omega⟩, by repeat (first | exact Drawn0.refl _ | apply Drawn0.step)⟩
          · rw [if_neg c4] at H
            exact absurd H (by simp)
        · rw [if_neg c3] at H
          exact absurd H (by simp)
      · rw [if_neg c2] at H
        have c2b0 : decide (x7_1 < (l0.length : Int)) = false := decide_eq_false c2
        clear c2
        obtain rfl := Option.some.inj H
        go_wp2
        go_ret
        exact ⟨by first | rfl | (simp; done) | (simp [*]; done) | (simp [bne_nil_hyb]; done) | (simp [bne_nil_hyb, *]; done), by repeat (first | exact Drawn0.refl _ | apply Drawn0.step)⟩

/-! ### laws_digits: function 20 -/
def laws_digits.l0 : Nat → ByteArray → Int → Option (Bool)
  | 0, _, _ => none
  | k + 1, x0, x3 => if x3 < (x0.size : Int) then (if 0 ≤ x3 then (if (bt x0 x3) < 48 then (some false) else (if (bt x0 x3) > 57 then (some false) else (laws_digits.l0 k x0 (wrap64 (x3 + 1))))) else (none)) else (some (x0.toList != ([] : List UInt8)))
def laws_digits.f (k : Nat) (a0 : ByteArray) : Option (Bool) := laws_digits.l0 k a0 0
theorem laws_digits.mono_l : ∀ k, (∀ y0 y1, LeO (laws_digits.l0 k y0 y1) (laws_digits.l0 (k + 1) y0 y1))
  | 0 => fun _ _ r h => by simp [laws_digits.l0] at h
  | k + 1 => by
    have ih0 := laws_digits.mono_l k
    · intro y0 y1
      unfold laws_digits.l0
      repeat' first
      | (with_reducible exact ih0 _ _)
      | (with_reducible exact LeO.refl _)
      | (with_reducible exact LeO.none _)
      | (with_reducible refine LeO.ite ?_ ?_)
      | (with_reducible refine LeO.bind ?_ (fun _ => ?_))
      | exact ih0 _ _
      | exact LeO.none _
      | refine LeO.ite ?_ ?_
      | refine LeO.bind ?_ (fun _ => ?_)
theorem laws_digits.mono : ∀ a0 k, LeO (laws_digits.f k a0) (laws_digits.f (k + 1) a0) := by
  intro a0 k
  have ih0 := laws_digits.mono_l k
  unfold laws_digits.f
  repeat' first
      | (with_reducible exact ih0 _ _)
      | (with_reducible exact LeO.refl _)
      | (with_reducible exact LeO.none _)
      | (with_reducible refine LeO.ite ?_ ?_)
      | (with_reducible refine LeO.bind ?_ (fun _ => ?_))
      | exact ih0 _ _
      | exact LeO.none _
      | refine LeO.ite ?_ ?_
      | refine LeO.bind ?_ (fun _ => ?_)
set_option maxHeartbeats 8000000 in
set_option maxRecDepth 100000 in
theorem laws_digits.calls (k : Nat) (a0 : ByteArray) (r : Bool) (w : World) (h : laws_digits.f k a0 = some r) :
    Calls Tryd.prog 20 #[.string a0] w fun e w' => e = .returned (.bool r) ∧ Drawn0 w w' := by
  have H : (laws_digits.l0 k a0 0) = some r := h
  clear h
  have H' := Aside0.mk H
  clear H
  go_enter Tryd.func20, Tryd.ntmps20
  go_wp2
  (try simp only [Act.put, List.setIfInBounds_toArray, List.set_cons_zero, List.set_cons_succ])
  go_loopg [3] k (fun kq v3 w' => ∃ (x3_1 : Int), v3 = .int .i64 x3_1 ∧ Aside0 (laws_digits.l0 kq a0 x3_1 = some r) ∧ Aside0 (kq ≤ k) ∧ Drawn0 w w')
  case atStart => exact ⟨(0), (by first | rfl | (simp; done) | (simp [*]; done) | (simp [bne_nil_hyb]; done) | (simp [bne_nil_hyb, *]; done)), H', ⟨Nat.le_refl _⟩, by repeat (first | exact Drawn0.refl _ | apply Drawn0.step)⟩
  case round =>
    clear H'
    obtain ⟨x3_1, rfl, HA, HK1, ⟨m1, rfl⟩⟩ := hrel
    cases gk with
    | zero => exact absurd HA.out (by simp [laws_digits.l0])
    | succ k1 =>
      have H := HA.out
      clear HA
      simp only [laws_digits.l0] at H
      by_cases c2 : x3_1 < (a0.size : Int)
      · rw [if_pos c2] at H
        have c2b0 : decide (x3_1 < (a0.size : Int)) = true := decide_eq_true c2
        clear c2
        by_cases c3 : 0 ≤ x3_1
        · rw [if_pos c3] at H
          have c3b0 : decide (0 ≤ x3_1) = true := decide_eq_true c3
          clear c3
          by_cases c5 : (bt a0 x3_1) < 48
          · rw [if_pos c5] at H
            have c5b0 : decide ((bt a0 x3_1) < 48) = true := decide_eq_true c5
            clear c5
            obtain rfl := Option.some.inj H
            have p4 : 0 ≤ (x3_1 : Int) := of_decide_eq_true (by first | (with_reducible assumption) | assumption)
            have q4 : x3_1 < (a0.size : Int) := of_decide_eq_true (by first | (with_reducible assumption) | assumption)
            have hx4 := bt_at a0 x3_1
            replace p4 := eq_true p4
            replace q4 := eq_true q4
            go_wp2
            go_ret
            exact ⟨by first | rfl | (simp; done) | (simp [*]; done) | (simp [bne_nil_hyb]; done) | (simp [bne_nil_hyb, *]; done), by repeat (first | exact Drawn0.refl _ | apply Drawn0.step)⟩
          · rw [if_neg c5] at H
            have c5b0 : decide ((bt a0 x3_1) < 48) = false := decide_eq_false c5
            clear c5
            by_cases c7 : (bt a0 x3_1) > 57
            · rw [if_pos c7] at H
              have c7b0 : decide (57 < (bt a0 x3_1)) = true := decide_eq_true c7
              clear c7
              obtain rfl := Option.some.inj H
              have p4 : 0 ≤ (x3_1 : Int) := of_decide_eq_true (by first | (with_reducible assumption) | assumption)
              have q4 : x3_1 < (a0.size : Int) := of_decide_eq_true (by first | (with_reducible assumption) | assumption)
              have hx4 := bt_at a0 x3_1
              replace p4 := eq_true p4
              replace q4 := eq_true q4
              have p6 : 0 ≤ (x3_1 : Int) := of_decide_eq_true (by first | (with_reducible assumption) | assumption)
              have q6 : x3_1 < (a0.size : Int) := of_decide_eq_true (by first | (with_reducible assumption) | assumption)
              have hx6 := bt_at a0 x3_1
              replace p6 := eq_true p6
              replace q6 := eq_true q6
              go_wp2
              go_ret
              exact ⟨by first | rfl | (simp; done) | (simp [*]; done) | (simp [bne_nil_hyb]; done) | (simp [bne_nil_hyb, *]; done), by repeat (first | exact Drawn0.refl _ | apply Drawn0.step)⟩
            · rw [if_neg c7] at H
              have c7b0 : decide (57 < (bt a0 x3_1)) = false := decide_eq_false c7
              clear c7
              have H' := Aside0.mk H
              clear H
              have p4 : 0 ≤ (x3_1 : Int) := of_decide_eq_true (by first | (with_reducible assumption) | assumption)
              have q4 : x3_1 < (a0.size : Int) := of_decide_eq_true (by first | (with_reducible assumption) | assumption)
              have hx4 := bt_at a0 x3_1
              replace p4 := eq_true p4
              replace q4 := eq_true q4
              have p6 : 0 ≤ (x3_1 : Int) := of_decide_eq_true (by first | (with_reducible assumption) | assumption)
              have q6 : x3_1 < (a0.size : Int) := of_decide_eq_true (by first | (with_reducible assumption) | assumption)
              have hx6 := bt_at a0 x3_1
              replace p6 := eq_true p6
              replace q6 := eq_true q6
              go_wp2
              go_roundg k1
              case measure => have := HK1.out; omega
              case rel => exact ⟨(wrap64 (x3_1 + 1)), (by first | rfl | (simp; done) | (simp [*]; done) | (simp [bne_nil_hyb]; done) | (simp [bne_nil_hyb, *]; done)), H', ⟨by have := HK1.out; omega⟩, by repeat (first | exact Drawn0.refl _ | apply Drawn0.step)⟩
        · rw [if_neg c3] at H
          exact absurd H (by simp)
      · rw [if_neg c2] at H
        have c2b0 : decide (x3_1 < (a0.size : Int)) = false := decide_eq_false c2
        clear c2
        obtain rfl := Option.some.inj H
        go_wp2
        go_ret
        exact ⟨by first | rfl | (simp; done) | (simp [*]; done) | (simp [bne_nil_hyb]; done) | (simp [bne_nil_hyb, *]; done), by repeat (first | exact Drawn0.refl _ | apply Drawn0.step)⟩

/-! ### laws_ascii: function 22 -/
mutual
def laws_ascii.l0 : Nat → List ByteArray → Int → Int → Option (Bool)
  | 0, _, _, _ => none
  | k + 1, x6, x7, x8 => if x8 < x7 then (if 0 ≤ x8 then (if x8 < (x6.length : Int) then (laws_ascii.l1 k (rdOf ByteArray.empty x6 x8) 0 x6 x7 x8) else (none)) else (none)) else (some true)
def laws_ascii.l1 : Nat → ByteArray → Int → List ByteArray → Int → Int → Option (Bool)
  | 0, _, _, _, _, _ => none
  | k + 1, x4, x5, x6, x7, x8 => if x5 < (x4.size : Int) then (if 0 ≤ x5 then (if (bt x4 x5) > 127 then (some false) else (laws_ascii.l1 k x4 (wrap64 (x5 + 1)) x6 x7 x8)) else (none)) else (laws_ascii.l0 k x6 x7 (wrap64 (x8 + 1)))
end
def laws_ascii.f (k : Nat) (l0 : List ByteArray) : Option (Bool) := laws_ascii.l0 k l0 (l0.length : Int) 0
theorem laws_ascii.mono_l : ∀ k, (∀ y0 y1 y2, LeO (laws_ascii.l0 k y0 y1 y2) (laws_ascii.l0 (k + 1) y0 y1 y2)) ∧ (∀ y0 y1 y2 y3 y4, LeO (laws_ascii.l1 k y0 y1 y2 y3 y4) (laws_ascii.l1 (k + 1) y0 y1 y2 y3 y4))
  | 0 => ⟨fun _ _ _ r h => by simp [laws_ascii.l0] at h, fun _ _ _ _ _ r h => by simp [laws_ascii.l1] at h⟩
  | k + 1 => by
    obtain ⟨ih0, ih1⟩ := laws_ascii.mono_l k
    refine ⟨?_, ?_⟩
    · intro y0 y1 y2
      unfold laws_ascii.l0
      repeat' first
      | (with_reducible exact ih0 _ _ _)
      | (with_reducible exact ih1 _ _ _ _ _)
      | (with_reducible exact LeO.refl _)
      | (with_reducible exact LeO.none _)
      | (with_reducible refine LeO.ite ?_ ?_)
      | (with_reducible refine LeO.bind ?_ (fun _ => ?_))
      | exact ih0 _ _ _
      | exact ih1 _ _ _ _ _
      | exact LeO.none _
      | refine LeO.ite ?_ ?_
      | refine LeO.bind ?_ (fun _ => ?_)
    · intro y0 y1 y2 y3 y4
      unfold laws_ascii.l1
      repeat' first
      | (with_reducible exact ih0 _ _ _)
      | (with_reducible exact ih1 _ _ _ _ _)
      | (with_reducible exact LeO.refl _)
      | (with_reducible exact LeO.none _)
      | (with_reducible refine LeO.ite ?_ ?_)
      | (with_reducible refine LeO.bind ?_ (fun _ => ?_))
      | exact ih0 _ _ _
      | exact ih1 _ _ _ _ _
      | exact LeO.none _
      | refine LeO.ite ?_ ?_
      | refine LeO.bind ?_ (fun _ => ?_)
theorem laws_ascii.mono : ∀ a0 k, LeO (laws_ascii.f k a0) (laws_ascii.f (k + 1) a0) := by
  intro a0 k
  obtain ⟨ih0, ih1⟩ := laws_ascii.mono_l k
  unfold laws_ascii.f
  repeat' first
      | (with_reducible exact ih0 _ _ _)
      | (with_reducible exact ih1 _ _ _ _ _)
      | (with_reducible exact LeO.refl _)
      | (with_reducible exact LeO.none _)
      | (with_reducible refine LeO.ite ?_ ?_)
      | (with_reducible refine LeO.bind ?_ (fun _ => ?_))
      | exact ih0 _ _ _
      | exact ih1 _ _ _ _ _
      | exact LeO.none _
      | refine LeO.ite ?_ ?_
      | refine LeO.bind ?_ (fun _ => ?_)
set_option maxHeartbeats 8000000 in
set_option maxRecDepth 100000 in
theorem laws_ascii.calls (k : Nat) (A0 : Option Addr) (c0 : Nat) (l0 : List ByteArray) (r : Bool) (w : World) (hr0 : Kd.C Kd.string w A0 l0.length l0) (hc0 : l0.length ≤ c0) (h : laws_ascii.f k l0 = some r) :
    Calls Tryd.prog 22 #[.slice A0 l0.length c0] w fun e w' => e = .returned (.bool r) ∧ Drawn0 w w' := by
  have HR0 := Aside0.mk hr0
  have HC0 := Aside0.mk hc0
  clear hr0 hc0
  have H : (laws_ascii.l0 k l0 (l0.length : Int) 0) = some r := h
  clear h
  have H' := Aside0.mk H
  clear H
  go_enter Tryd.func22, Tryd.ntmps22
  go_wp2
  (try simp only [Act.put, List.setIfInBounds_toArray, List.set_cons_zero, List.set_cons_succ])
  go_loopg [8] k (fun kq v8 w' => ∃ (x8_1 : Int), v8 = .int .i64 x8_1 ∧ Aside0 (laws_ascii.l0 kq l0 (l0.length : Int) x8_1 = some r) ∧ Aside0 (kq ≤ k) ∧ Drawn0 w w')
  case atStart => exact ⟨(0), (by first | rfl | (simp; done) | (simp [*]; done) | (simp [bne_nil_hyb]; done) | (simp [bne_nil_hyb, *]; done)), H', ⟨Nat.le_refl _⟩, by repeat (first | exact Drawn0.refl _ | apply Drawn0.step)⟩
  case round =>
    clear H'
    obtain ⟨x8_1, rfl, HA, HK1, ⟨m1, rfl⟩⟩ := hrel
    cases gk with
    | zero => exact absurd HA.out (by simp [laws_ascii.l0])
    | succ k1 =>
      have H := HA.out
      clear HA
      simp only [laws_ascii.l0] at H
      by_cases c2 : x8_1 < (l0.length : Int)
      · rw [if_pos c2] at H
        have c2b0 : decide (x8_1 < (l0.length : Int)) = true := decide_eq_true c2
        clear c2
        by_cases c3 : 0 ≤ x8_1
        · rw [if_pos c3] at H
          have c3b0 : decide (0 ≤ x8_1) = true := decide_eq_true c3
          clear c3
          by_cases c4 : x8_1 < (l0.length : Int)
          · rw [if_pos c4] at H
            have c4b0 : decide (x8_1 < (l0.length : Int)) = true := decide_eq_true c4
            clear c4
            have H' := Aside0.mk H
            clear H
            have p102 : 0 ≤ (x8_1 : Int) := of_decide_eq_true (by first | (with_reducible assumption) | assumption)
            have q102 : x8_1 < (l0.length : Int) := of_decide_eq_true (by first | (with_reducible assumption) | assumption)
            obtain ⟨ad102, e102, hx102_0⟩ := Kd.at_string HR0.out x8_1 p102 q102
            cases e102
            replace p102 := eq_true p102
            replace q102 := eq_true q102
            go_wp2
            (try simp only [Act.put, List.setIfInBounds_toArray, List.set_cons_zero, List.set_cons_succ])
            go_loopg [5] k1 (fun kq v5 w' => ∃ (x5_2 : Int), v5 = .int .i64 x5_2 ∧ Aside0 (laws_ascii.l1 kq (rdOf ByteArray.empty l0 x8_1) x5_2 l0 (l0.length : Int) x8_1 = some r) ∧ Aside0 (kq ≤ k1) ∧ Drawn0 w w')
            case atStart => exact ⟨(0), (by first | rfl | (simp; done) | (simp [*]; done) | (simp [bne_nil_hyb]; done) | (simp [bne_nil_hyb, *]; done)), H', ⟨Nat.le_refl _⟩, by repeat (first | exact Drawn0.refl _ | apply Drawn0.step)⟩
            case round =>
              clear H'
              try clear p1
              try clear q1
              try clear hx1
              try clear c2
              try clear c2b0
              try clear p2
              try clear c3
              try clear c3b0
              try clear c4
              try clear c4b0
              try clear hx102_0
              try clear p102
              try clear q102
              obtain ⟨x5_2, rfl, HA, HK2, ⟨m2, rfl⟩⟩ := hrel
              cases gk with
              | zero => exact absurd HA.out (by simp [laws_ascii.l1])
              | succ k2 =>
                have H := HA.out
                clear HA
                simp only [laws_ascii.l1] at H
                by_cases c5 : x5_2 < ((rdOf ByteArray.empty l0 x8_1).size : Int)
                · rw [if_pos c5] at H
                  have c5b0 : decide (x5_2 < ((rdOf ByteArray.empty l0 x8_1).size : Int)) = true := decide_eq_true c5
                  clear c5
                  by_cases c6 : 0 ≤ x5_2
                  · rw [if_pos c6] at H
                    have c6b0 : decide (0 ≤ x5_2) = true := decide_eq_true c6
                    clear c6
                    by_cases c8 : (bt (rdOf ByteArray.empty l0 x8_1) x5_2) > 127
                    · rw [if_pos c8] at H
                      have c8b0 : decide (127 < (bt (rdOf ByteArray.empty l0 x8_1) x5_2)) = true := decide_eq_true c8
                      clear c8
                      obtain rfl := Option.some.inj H
                      have p7 : 0 ≤ (x5_2 : Int) := of_decide_eq_true (by first | (with_reducible assumption) | assumption)
                      have q7 : x5_2 < ((rdOf ByteArray.empty l0 x8_1).size : Int) := of_decide_eq_true (by first | (with_reducible assumption) | assumption)
                      have hx7 := bt_at (rdOf ByteArray.empty l0 x8_1) x5_2
                      replace p7 := eq_true p7
                      replace q7 := eq_true q7
                      go_wp2
                      go_ret
                      exact ⟨by first | rfl | (simp; done) | (simp [*]; done) | (simp [bne_nil_hyb]; done) | (simp [bne_nil_hyb, *]; done), by repeat (first | exact Drawn0.refl _ | apply Drawn0.step)⟩
                    · rw [if_neg c8] at H
                      have c8b0 : decide (127 < (bt (rdOf ByteArray.empty l0 x8_1) x5_2)) = false := decide_eq_false c8
                      clear c8
                      have H' := Aside0.mk H
                      clear H
                      have p7 : 0 ≤ (x5_2 : Int) := of_decide_eq_true (by first | (with_reducible assumption) | assumption)
                      have q7 : x5_2 < ((rdOf ByteArray.empty l0 x8_1).size : Int) := of_decide_eq_true (by first | (with_reducible assumption) | assumption)
                      have hx7 := bt_at (rdOf ByteArray.empty l0 x8_1) x5_2
                      replace p7 := eq_true p7
                      replace q7 := eq_true q7
                      go_wp2
                      go_roundg k2
                      case measure => have := HK1.out; have := HK2.out; omega
                      case rel => exact ⟨(wrap64 (x5_2 + 1)), (by first | rfl | (simp; done) | (simp [*]; done) | (simp [bne_nil_hyb]; done) | (simp [bne_nil_hyb, *]; done)), H', ⟨by have := HK1.out; have := HK2.out; omega⟩, by repeat (first | exact Drawn0.refl _ | apply Drawn0.step)⟩
                  · rw [if_neg c6] at H
                    exact absurd H (by simp)
                · rw [if_neg c5] at H
                  have c5b0 : decide (x5_2 < ((rdOf ByteArray.empty l0 x8_1).size : Int)) = false := decide_eq_false c5
                  clear c5
                  have H' := Aside0.mk H
                  clear H
                  go_wp2
                  go_roundg k2
                  case measure => have := HK1.out; have := HK2.out; omega
                  case rel => exact ⟨(wrap64 (x8_1 + 1)), (by first | rfl | (simp; done) | (simp [*]; done) | (simp [bne_nil_hyb]; done) | (simp [bne_nil_hyb, *]; done)), H', ⟨by have := HK1.out; have := HK2.out; omega⟩, by repeat (first | exact Drawn0.refl _ | apply Drawn0.step)⟩
          · rw [if_neg c4] at H
            exact absurd H (by simp)
        · rw [if_neg c3] at H
          exact absurd H (by simp)
      · rw [if_neg c2] at H
        have c2b0 : decide (x8_1 < (l0.length : Int)) = false := decide_eq_false c2
        clear c2
        obtain rfl := Option.some.inj H
        go_wp2
        go_ret
        exact ⟨by first | rfl | (simp; done) | (simp [*]; done) | (simp [bne_nil_hyb]; done) | (simp [bne_nil_hyb, *]; done), by repeat (first | exact Drawn0.refl _ | apply Drawn0.step)⟩

-- LEFT OUT: function 60 (utf8_decodeRuneInStringSlow)

-- LEFT OUT: function 50 (utf8_DecodeRuneInString)

-- LEFT OUT: function 51 (semantic_zzDigit)

-- LEFT OUT: function 47 (semantic_zzPairs)

-- LEFT OUT: function 92 (cmp_isNaN_int)

-- LEFT OUT: function 79 (cmp_Less_int)

-- LEFT OUT: function 73 (slices_insertionSortOrdered_int)

-- LEFT OUT: function 87 (slices_siftDownOrdered_int)

-- LEFT OUT: function 74 (slices_heapSortOrdered_int)

-- LEFT OUT: function 82 (bits_Len32)

-- LEFT OUT: function 83 (bits_Len64)

-- LEFT OUT: function 68 (bits_Len)

-- LEFT OUT: function 88 (slices_nextPowerOfTwo)

-- NOT PRINTED: function 89 (slices_xorshift_Next)

-- LEFT OUT: function 75 (slices_breakPatternsOrdered_int)

-- LEFT OUT: function 93 (slices_order2Ordered_int)

-- LEFT OUT: function 91 (slices_medianOrdered_int)

-- LEFT OUT: function 90 (slices_medianAdjacentOrdered_int)

-- LEFT OUT: function 76 (slices_choosePivotOrdered_int)

-- LEFT OUT: function 77 (slices_reverseRangeOrdered_int)

-- LEFT OUT: function 78 (slices_partialInsertionSortOrdered_int)

-- LEFT OUT: function 80 (slices_partitionEqualOrdered_int)

-- LEFT OUT: function 81 (slices_partitionOrdered_int)

-- LEFT OUT: function 67 (slices_pdqsortOrdered_int)

-- LEFT OUT: function 58 (slices_Sort_int_int)

-- LEFT OUT: function 48 (sort_Ints)

-- BY HAND: function 40 (semantic_mavenFindTransitions)

/-! ### semantic_ZZMavenTransitions: function 36 -/
def semantic_ZZMavenTransitions.f (k : Nat) (a0 : ByteArray) : Option (List Int) := (semantic_mavenFindTransitions.f k a0).bind fun t103 => (some t103)
theorem semantic_ZZMavenTransitions.mono : ∀ a0 k, LeO (semantic_ZZMavenTransitions.f k a0) (semantic_ZZMavenTransitions.f (k + 1) a0) := by
  intro a0 k
  unfold semantic_ZZMavenTransitions.f
  repeat' first
      | (with_reducible exact semantic_mavenFindTransitions.mono _ _)
      | (with_reducible exact LeO.refl _)
      | (with_reducible exact LeO.none _)
      | (with_reducible refine LeO.ite ?_ ?_)
      | (with_reducible refine LeO.bind ?_ (fun _ => ?_))
      | exact semantic_mavenFindTransitions.mono _ _
      | exact LeO.none _
      | refine LeO.ite ?_ ?_
      | refine LeO.bind ?_ (fun _ => ?_)
set_option maxHeartbeats 8000000 in
set_option maxRecDepth 100000 in
theorem semantic_ZZMavenTransitions.calls (k : Nat) (a0 : ByteArray) (r : List Int) (w : World) (h : semantic_ZZMavenTransitions.f k a0 = some r) :
    Calls Tryd.prog 36 #[.string a0] w fun e w' => ∃ v0_ : Value, e = .returned (v0_) ∧ Kd.R (Kd.int .i64) 3 w' w.heap.size (fun _ => True) v0_ r ∧ Below w.heap.size w w' := by
  have HB := Aside0.mk (Below.refl w.heap.size w)
  have H : ((semantic_mavenFindTransitions.f k a0).bind fun t103 => (some t103)) = some r := h
  clear h
  replace H := Option.bind_eq_some_iff.mp H
  obtain ⟨t103, A20, H⟩ := H
  replace H : (some t103) = some r := H
  have A2 := Aside0.mk A20
  clear A20
  obtain rfl := Option.some.inj H
  go_enter Tryd.func36, Tryd.ntmps36
  go_wp2_with (first | ((with_reducible refine gate_callee (f := 40) rfl ?_); refine goesL_ (some 4) rfl rfl Tryd.func40 (by kernel_rfl) rfl #[.string a0] rfl (by (try simp only [List.map_toArray, List.map_cons, List.map_nil]); first | done | rfl | (simp only [List.length_drop, List.length_take]; rfl)) ?_; (with_reducible refine (semantic_mavenFindTransitions.calls k a0 t103 _ A2.out).mono ?_); rintro e w3 ⟨v104, rfl, ho0, hb⟩; refine ⟨_, rfl, ?_⟩; have n0_ := Aside0.mk (Kd.R_lower ho0 (below_size (by repeat (first | (with_reducible first | exact HB.out | apply below_alloc | apply pw_below_drewN | apply below_drew1) | exact HB.out)))); have n1_ := Aside0.mk (below_step (by repeat (first | (with_reducible first | exact HB.out | apply below_alloc | apply pw_below_drewN | apply below_drew1) | exact HB.out)) hb); clear HB; have HO105 := n0_; have HB := n1_; clear n0_ n1_; (try clear hb); (try clear hb2); (try clear hk); (try clear hi); (try clear ho0)))
  go_ret
  exact ⟨_, by first | rfl | (simp [errW_none, errW_some] <;> rfl) | (simp [*, errW_none, errW_some] <;> rfl) | (simp [bne_nil_hyb]; done), by (with_reducible repeat (first | apply Kd.R_alloc | apply Kd.R_drewN | apply Kd.R_drew)); exact HO105.out, by repeat (first | (with_reducible first | exact HB.out | apply below_alloc | apply pw_below_drewN | apply below_drew1) | exact HB.out)⟩

/-! ### impl_MavenTransitions: function 24 -/
def impl_MavenTransitions.f (k : Nat) (a0 : ByteArray) : Option (List Int) := (semantic_ZZMavenTransitions.f k a0).bind fun t106 => (some t106)
theorem impl_MavenTransitions.mono : ∀ a0 k, LeO (impl_MavenTransitions.f k a0) (impl_MavenTransitions.f (k + 1) a0) := by
  intro a0 k
  unfold impl_MavenTransitions.f
  repeat' first
      | (with_reducible exact semantic_ZZMavenTransitions.mono _ _)
      | (with_reducible exact LeO.refl _)
      | (with_reducible exact LeO.none _)
      | (with_reducible refine LeO.ite ?_ ?_)
      | (with_reducible refine LeO.bind ?_ (fun _ => ?_))
      | exact semantic_ZZMavenTransitions.mono _ _
      | exact LeO.none _
      | refine LeO.ite ?_ ?_
      | refine LeO.bind ?_ (fun _ => ?_)
set_option maxHeartbeats 8000000 in
set_option maxRecDepth 100000 in
theorem impl_MavenTransitions.calls (k : Nat) (a0 : ByteArray) (r : List Int) (w : World) (h : impl_MavenTransitions.f k a0 = some r) :
    Calls Tryd.prog 24 #[.string a0] w fun e w' => ∃ v0_ : Value, e = .returned (v0_) ∧ Kd.R (Kd.int .i64) 3 w' w.heap.size (fun _ => True) v0_ r ∧ Below w.heap.size w w' := by
  have HB := Aside0.mk (Below.refl w.heap.size w)
  have H : ((semantic_ZZMavenTransitions.f k a0).bind fun t106 => (some t106)) = some r := h
  clear h
  replace H := Option.bind_eq_some_iff.mp H
  obtain ⟨t106, A20, H⟩ := H
  replace H : (some t106) = some r := H
  have A2 := Aside0.mk A20
  clear A20
  obtain rfl := Option.some.inj H
  go_enter Tryd.func24, Tryd.ntmps24
  go_wp2_with (first | ((with_reducible refine gate_callee (f := 36) rfl ?_); refine goesL_ (some 4) rfl rfl Tryd.func36 (by kernel_rfl) rfl #[.string a0] rfl (by (try simp only [List.map_toArray, List.map_cons, List.map_nil]); first | done | rfl | (simp only [List.length_drop, List.length_take]; rfl)) ?_; (with_reducible refine (semantic_ZZMavenTransitions.calls k a0 t106 _ A2.out).mono ?_); rintro e w3 ⟨v107, rfl, ho0, hb⟩; refine ⟨_, rfl, ?_⟩; have n0_ := Aside0.mk (Kd.R_lower ho0 (below_size (by repeat (first | (with_reducible first | exact HB.out | apply below_alloc | apply pw_below_drewN | apply below_drew1) | exact HB.out)))); have n1_ := Aside0.mk (below_step (by repeat (first | (with_reducible first | exact HB.out | apply below_alloc | apply pw_below_drewN | apply below_drew1) | exact HB.out)) hb); clear HB; have HO108 := n0_; have HB := n1_; clear n0_ n1_; (try clear hb); (try clear hb2); (try clear hk); (try clear hi); (try clear ho0)))
  go_ret
  exact ⟨_, by first | rfl | (simp [errW_none, errW_some] <;> rfl) | (simp [*, errW_none, errW_some] <;> rfl) | (simp [bne_nil_hyb]; done), by (with_reducible repeat (first | apply Kd.R_alloc | apply Kd.R_drewN | apply Kd.R_drew)); exact HO108.out, by repeat (first | (with_reducible first | exact HB.out | apply below_alloc | apply pw_below_drewN | apply below_drew1) | exact HB.out)⟩

/-! ### spec_isDigit: function 28 -/
def spec_isDigit.f (a0 : Int) : Option (Bool) := if a0 ≥ 48 then (some (decide (a0 ≤ 57))) else (some false)
set_option maxHeartbeats 8000000 in
set_option maxRecDepth 100000 in
theorem spec_isDigit.calls (a0 : Int) (r : Bool) (w : World) (h : spec_isDigit.f a0 = some r) :
    Calls Tryd.prog 28 #[.int .u8 a0] w fun e w' => e = .returned (.bool r) ∧ Drawn0 w w' := by
  have H : (if a0 ≥ 48 then (some (decide (a0 ≤ 57))) else (some false)) = some r := h
  clear h
  by_cases c2 : a0 ≥ 48
  · rw [if_pos c2] at H
    have c2b0 : decide (48 ≤ a0) = true := decide_eq_true c2
    clear c2
    obtain rfl := Option.some.inj H
    go_enter Tryd.func28, Tryd.ntmps28
    go_wp2
    go_ret
    exact ⟨by first | rfl | (simp; done) | (simp [*]; done) | (simp [bne_nil_hyb]; done) | (simp [bne_nil_hyb, *]; done), by repeat (first | exact Drawn0.refl _ | apply Drawn0.step)⟩
  · rw [if_neg c2] at H
    have c2b0 : decide (48 ≤ a0) = false := decide_eq_false c2
    clear c2
    obtain rfl := Option.some.inj H
    go_enter Tryd.func28, Tryd.ntmps28
    go_wp2
    go_ret
    exact ⟨by first | rfl | (simp; done) | (simp [*]; done) | (simp [bne_nil_hyb]; done) | (simp [bne_nil_hyb, *]; done), by repeat (first | exact Drawn0.refl _ | apply Drawn0.step)⟩

/-! ### spec_MavenTransitions: function 25 -/
def spec_MavenTransitions.l0 : Nat → ByteArray → List Int → Int → Option (List Int)
  | 0, _, _, _ => none
  | k + 1, x0, x3, x4 => if x4 < (x0.size : Int) then (if 0 ≤ x4 then ((spec_isDigit.f (bt x0 x4)).bind fun t109 => (if 0 ≤ (wrap64 (x4 - 1)) then (if (wrap64 (x4 - 1)) < (x0.size : Int) then ((spec_isDigit.f (bt x0 (wrap64 (x4 - 1)))).bind fun t110 => (if (t109 != t110) = true then (if x3.length < 17592186044416 then (spec_MavenTransitions.l0 k x0 (x3 ++ [x4]) (wrap64 (x4 + 1))) else (none)) else (spec_MavenTransitions.l0 k x0 x3 (wrap64 (x4 + 1))))) else (none)) else (none))) else (none)) else (some x3)
def spec_MavenTransitions.f (k : Nat) (a0 : ByteArray) : Option (List Int) := spec_MavenTransitions.l0 k a0 ([] : List Int) 1
theorem spec_MavenTransitions.mono_l : ∀ k, (∀ y0 y1 y2, LeO (spec_MavenTransitions.l0 k y0 y1 y2) (spec_MavenTransitions.l0 (k + 1) y0 y1 y2))
  | 0 => fun _ _ _ r h => by simp [spec_MavenTransitions.l0] at h
  | k + 1 => by
    have ih0 := spec_MavenTransitions.mono_l k
    · intro y0 y1 y2
      unfold spec_MavenTransitions.l0
      repeat' first
      | (with_reducible exact ih0 _ _ _)
      | (with_reducible exact LeO.refl _)
      | (with_reducible exact LeO.none _)
      | (with_reducible refine LeO.ite ?_ ?_)
      | (with_reducible refine LeO.bind ?_ (fun _ => ?_))
      | exact ih0 _ _ _
      | exact LeO.none _
      | refine LeO.ite ?_ ?_
      | refine LeO.bind ?_ (fun _ => ?_)
theorem spec_MavenTransitions.mono : ∀ a0 k, LeO (spec_MavenTransitions.f k a0) (spec_MavenTransitions.f (k + 1) a0) := by
  intro a0 k
  have ih0 := spec_MavenTransitions.mono_l k
  unfold spec_MavenTransitions.f
  repeat' first
      | (with_reducible exact ih0 _ _ _)
      | (with_reducible exact LeO.refl _)
      | (with_reducible exact LeO.none _)
      | (with_reducible refine LeO.ite ?_ ?_)
      | (with_reducible refine LeO.bind ?_ (fun _ => ?_))
      | exact ih0 _ _ _
      | exact LeO.none _
      | refine LeO.ite ?_ ?_
      | refine LeO.bind ?_ (fun _ => ?_)
set_option maxHeartbeats 8000000 in
set_option maxRecDepth 100000 in
theorem spec_MavenTransitions.calls (k : Nat) (a0 : ByteArray) (r : List Int) (w : World) (h : spec_MavenTransitions.f k a0 = some r) :
    Calls Tryd.prog 25 #[.string a0] w fun e w' => ∃ v0_ : Value, e = .returned (v0_) ∧ Kd.R (Kd.int .i64) 3 w' w.heap.size (fun _ => True) v0_ r ∧ Below w.heap.size w w' := by
  have HB := Aside0.mk (Below.refl w.heap.size w)
  have H : (spec_MavenTransitions.l0 k a0 ([] : List Int) 1) = some r := h
  clear h
  have H' := Aside0.mk H
  clear H
  go_enter Tryd.func25, Tryd.ntmps25
  go_wp2
  repeat (go_quiet (fail); try go_wp2)
  (try simp only [Act.put, List.setIfInBounds_toArray, List.set_cons_zero, List.set_cons_succ])
  go_loopg [3, 4] k (fun kq v3 v4 w' => ∃ (x3_1 : List Int) (x4_1 : Int), v4 = .int .i64 x4_1 ∧ Aside0 (spec_MavenTransitions.l0 kq a0 x3_1 x4_1 = some r) ∧ Aside0 (kq ≤ k) ∧ Aside0 (Kd.R (Kd.int .i64) 3 w' w.heap.size (fun _ => True) v3 x3_1) ∧ Aside0 (Below w.heap.size w w'))
  case atStart => exact ⟨(([] : List Int)), (1), (by first | rfl | (simp; done) | (simp [*]; done) | (simp [bne_nil_hyb]; done) | (simp [bne_nil_hyb, *]; done)), H', ⟨Nat.le_refl _⟩, ⟨by first | exact Kd.R_nil _ _ _ _ _ | exact Kd.N_nil _ _ _ _ _ | exact Kd.V_nil _ _ _ _ _ | exact Kd.Q_nil _ _ _ _ _ | exact Kd.S_nil _ _ _ _ _⟩, ⟨by repeat (first | (with_reducible first | exact HB.out | apply below_alloc | apply pw_below_drewN | apply below_drew1) | exact HB.out)⟩⟩
  case round =>
    clear H'
    obtain ⟨x3_1, x4_1, rfl, HA, HK1, HO_3, HB⟩ := hrel
    cases gk with
    | zero => exact absurd HA.out (by simp [spec_MavenTransitions.l0])
    | succ k1 =>
      have H := HA.out
      clear HA
      simp only [spec_MavenTransitions.l0] at H
      by_cases c2 : x4_1 < (a0.size : Int)
      · rw [if_pos c2] at H
        have c2b0 : decide (x4_1 < (a0.size : Int)) = true := decide_eq_true c2
        clear c2
        by_cases c3 : 0 ≤ x4_1
        · rw [if_pos c3] at H
          have c3b0 : decide (0 ≤ x4_1) = true := decide_eq_true c3
          clear c3
          replace H := Option.bind_eq_some_iff.mp H
          obtain ⟨t109, A50, H⟩ := H
          replace H : (if 0 ≤ (wrap64 (x4_1 - 1)) then (if (wrap64 (x4_1 - 1)) < (a0.size : Int) then ((spec_isDigit.f (bt a0 (wrap64 (x4_1 - 1)))).bind fun t110 => (if (t109 != t110) = true then (if x3_1.length < 17592186044416 then (spec_MavenTransitions.l0 k1 a0 (x3_1 ++ [x4_1]) (wrap64 (x4_1 + 1))) else (none)) else (spec_MavenTransitions.l0 k1 a0 x3_1 (wrap64 (x4_1 + 1))))) else (none)) else (none)) = some r := H
          have A5 := Aside0.mk A50
          clear A50
          obtain ⟨ji6, hji6⟩ : ∃ j_ : Int, (wrap64 (x4_1 - 1)) = j_ := ⟨_, rfl⟩
          replace H : (if 0 ≤ (ji6) then (if (ji6) < (a0.size : Int) then ((spec_isDigit.f (bt a0 (ji6))).bind fun t110 => (if (t109 != t110) = true then (if x3_1.length < 17592186044416 then (spec_MavenTransitions.l0 k1 a0 (x3_1 ++ [x4_1]) (wrap64 (x4_1 + 1))) else (none)) else (spec_MavenTransitions.l0 k1 a0 x3_1 (wrap64 (x4_1 + 1))))) else (none)) else (none)) = some r := by first | (rw [hji6] at H; exact H) | (simp only [hji6] at H ⊢; exact H)
          (try rw [hji6] at A5)
          have hji6w : (IntKind.i64.wrap (x4_1 - 1)) = ji6 := (i64_w _).trans hji6
          by_cases c7 : 0 ≤ (ji6)
          · rw [if_pos c7] at H
            have c7b0 : decide (0 ≤ (ji6)) = true := decide_eq_true c7
            clear c7
            by_cases c8 : (ji6) < (a0.size : Int)
            · rw [if_pos c8] at H
              have c8b0 : decide ((ji6) < (a0.size : Int)) = true := decide_eq_true c8
              clear c8
              replace H := Option.bind_eq_some_iff.mp H
              obtain ⟨t110, A100, H⟩ := H
              replace H : (if (t109 != t110) = true then (if x3_1.length < 17592186044416 then (spec_MavenTransitions.l0 k1 a0 (x3_1 ++ [x4_1]) (wrap64 (x4_1 + 1))) else (none)) else (spec_MavenTransitions.l0 k1 a0 x3_1 (wrap64 (x4_1 + 1)))) = some r := H
              have A10 := Aside0.mk A100
              clear A100
              by_cases c11 : (t109 != t110) = true
              · rw [if_pos c11] at H
                have c11b0 : (t109 != t110) = true := c11
                (try (have c11b1 : decide (t109 = t110) = false := by simpa using c11))
                (try (have c11b2 : (t109 == t110) = false := by simpa using c11))
                (try (have c11b3 : ¬ (t109 = t110) := by simpa using c11))
                clear c11
                by_cases c12 : x3_1.length < 17592186044416
                · rw [if_pos c12] at H
                  have LMc12 := Aside0.mk c12
                  clear c12
                  obtain ⟨y111, hy111⟩ : ∃ y_ : List Int, y_ = (x3_1 ++ [x4_1]) := ⟨_, rfl⟩
                  replace H : (spec_MavenTransitions.l0 k1 a0 y111 (wrap64 (x4_1 + 1))) = some r := by first | (rw [hy111]; with_reducible exact H) | (have H2_ := (Option.bind_some _ _).symm.trans H; rw [hy111]; with_reducible exact H2_) | (have H2_ := (Option.bind_some _ _).symm.trans H; with_reducible exact H2_) | with_reducible exact H | (rw [hy111]; exact H) | exact H
                  have Ny111 := Aside0.mk hy111
                  clear hy111
                  have H' := Aside0.mk H
                  clear H
                  have p4 : 0 ≤ (x4_1 : Int) := of_decide_eq_true (by first | (with_reducible assumption) | assumption)
                  have q4 : x4_1 < (a0.size : Int) := of_decide_eq_true (by first | (with_reducible assumption) | assumption)
                  have hx4 := bt_at a0 x4_1
                  replace p4 := eq_true p4
                  replace q4 := eq_true q4
                  go_wp2_with (first | (go_at_call 28; (with_reducible refine (spec_isDigit.calls (bt a0 x4_1) t109 _ A5.out).mono ?_); rintro e w' ⟨rfl, ⟨nd, rfl⟩⟩; (try first | exact ⟨rfl, _, World.drewN_drewN _ _ _⟩ | exact ⟨rfl, _, Eq.trans (World.drewN_drewN _ _ _) (congrArg (World.drewN _) (Nat.add_assoc _ _ _))⟩); have p9 : 0 ≤ ((ji6) : Int) := of_decide_eq_true (by first | (with_reducible assumption) | assumption); have q9 : (ji6) < (a0.size : Int) := of_decide_eq_true (by first | (with_reducible assumption) | assumption); have hx9 := bt_at a0 (ji6); replace p9 := eq_true p9; replace q9 := eq_true q9) | (go_at_call 28; (with_reducible refine (spec_isDigit.calls (bt a0 (ji6)) t110 _ A10.out).mono ?_); rintro e w' ⟨rfl, ⟨nd, rfl⟩⟩; (try first | exact ⟨rfl, _, World.drewN_drewN _ _ _⟩ | exact ⟨rfl, _, Eq.trans (World.drewN_drewN _ _ _) (congrArg (World.drewN _) (Nat.add_assoc _ _ _))⟩)) | ((with_reducible refine gate_builtin (b := .append) (xs := #[.tmp 21, .tmp 23]) rfl ?_); at_builtin; refine Kd.R_append (Kd.int .i64) (w0 := w) w.heap.size rfl (.tmp 21) (.tmp 23) 31 3 (.int .i64 0) 8 rfl Tryd.underlying31 info3 rfl (by decide) (by omega) u3 x3_1 x4_1 [.int .i64 x4_1] (fun _ => True) (fun _ => False) rfl rfl ?aP (fun _ hk => hk.elim) ?aF ?aO ?aB ?aS ?aL ?_; (case aP => exact rfl); (case aB => exact (by repeat (first | (with_reducible first | exact HB.out | apply below_alloc | apply pw_below_drewN | apply below_drew1) | exact HB.out))); (case aF => exact (fun _ _ => trivial)); (case aO => exact (by (with_reducible repeat (first | apply Kd.R_alloc | apply Kd.R_drewN | apply Kd.R_drew)); exact HO_3.out)); (case aS => exact (below_size (by repeat (first | (with_reducible first | exact HB.out | apply below_alloc | apply pw_below_drewN | apply below_drew1) | exact HB.out)))); (case aL => have := LMc12.out; omega); intro v112 w13 ho hb hg hat; rw [← Ny111.out] at ho; have n0_ := Aside0.mk (hb); have n1_ := Aside0.mk (ho); clear HB; clear HO_3; have HB := n0_; have HO113 := n1_; clear n0_ n1_; clear ho hb hg hat))
                  repeat (go_quiet (first | (go_at_call 28; (with_reducible refine (spec_isDigit.calls (bt a0 x4_1) t109 _ A5.out).mono ?_); rintro e w' ⟨rfl, ⟨nd, rfl⟩⟩; (try first | exact ⟨rfl, _, World.drewN_drewN _ _ _⟩ | exact ⟨rfl, _, Eq.trans (World.drewN_drewN _ _ _) (congrArg (World.drewN _) (Nat.add_assoc _ _ _))⟩); have p9 : 0 ≤ ((ji6) : Int) := of_decide_eq_true (by first | (with_reducible assumption) | assumption); have q9 : (ji6) < (a0.size : Int) := of_decide_eq_true (by first | (with_reducible assumption) | assumption); have hx9 := bt_at a0 (ji6); replace p9 := eq_true p9; replace q9 := eq_true q9) | (go_at_call 28; (with_reducible refine (spec_isDigit.calls (bt a0 (ji6)) t110 _ A10.out).mono ?_); rintro e w' ⟨rfl, ⟨nd, rfl⟩⟩; (try first | exact ⟨rfl, _, World.drewN_drewN _ _ _⟩ | exact ⟨rfl, _, Eq.trans (World.drewN_drewN _ _ _) (congrArg (World.drewN _) (Nat.add_assoc _ _ _))⟩)) | ((with_reducible refine gate_builtin (b := .append) (xs := #[.tmp 21, .tmp 23]) rfl ?_); at_builtin; refine Kd.R_append (Kd.int .i64) (w0 := w) w.heap.size rfl (.tmp 21) (.tmp 23) 31 3 (.int .i64 0) 8 rfl Tryd.underlying31 info3 rfl (by decide) (by omega) u3 x3_1 x4_1 [.int .i64 x4_1] (fun _ => True) (fun _ => False) rfl rfl ?aP (fun _ hk => hk.elim) ?aF ?aO ?aB ?aS ?aL ?_; (case aP => exact rfl); (case aB => exact (by repeat (first | (with_reducible first | exact HB.out | apply below_alloc | apply pw_below_drewN | apply below_drew1) | exact HB.out))); (case aF => exact (fun _ _ => trivial)); (case aO => exact (by (with_reducible repeat (first | apply Kd.R_alloc | apply Kd.R_drewN | apply Kd.R_drew)); exact HO_3.out)); (case aS => exact (below_size (by repeat (first | (with_reducible first | exact HB.out | apply below_alloc | apply pw_below_drewN | apply below_drew1) | exact HB.out)))); (case aL => have := LMc12.out; omega); intro v112 w13 ho hb hg hat; rw [← Ny111.out] at ho; have n0_ := Aside0.mk (hb); have n1_ := Aside0.mk (ho); clear HB; clear HO_3; have HB := n0_; have HO113 := n1_; clear n0_ n1_; clear ho hb hg hat)); try go_wp2_with (first | (go_at_call 28; (with_reducible refine (spec_isDigit.calls (bt a0 x4_1) t109 _ A5.out).mono ?_); rintro e w' ⟨rfl, ⟨nd, rfl⟩⟩; (try first | exact ⟨rfl, _, World.drewN_drewN _ _ _⟩ | exact ⟨rfl, _, Eq.trans (World.drewN_drewN _ _ _) (congrArg (World.drewN _) (Nat.add_assoc _ _ _))⟩); have p9 : 0 ≤ ((ji6) : Int) := of_decide_eq_true (by first | (with_reducible assumption) | assumption); have q9 : (ji6) < (a0.size : Int) := of_decide_eq_true (by first | (with_reducible assumption) | assumption); have hx9 := bt_at a0 (ji6); replace p9 := eq_true p9; replace q9 := eq_true q9) | (go_at_call 28; (with_reducible refine (spec_isDigit.calls (bt a0 (ji6)) t110 _ A10.out).mono ?_); rintro e w' ⟨rfl, ⟨nd, rfl⟩⟩; (try first | exact ⟨rfl, _, World.drewN_drewN _ _ _⟩ | exact ⟨rfl, _, Eq.trans (World.drewN_drewN _ _ _) (congrArg (World.drewN _) (Nat.add_assoc _ _ _))⟩)) | ((with_reducible refine gate_builtin (b := .append) (xs := #[.tmp 21, .tmp 23]) rfl ?_); at_builtin; refine Kd.R_append (Kd.int .i64) (w0 := w) w.heap.size rfl (.tmp 21) (.tmp 23) 31 3 (.int .i64 0) 8 rfl Tryd.underlying31 info3 rfl (by decide) (by omega) u3 x3_1 x4_1 [.int .i64 x4_1] (fun _ => True) (fun _ => False) rfl rfl ?aP (fun _ hk => hk.elim) ?aF ?aO ?aB ?aS ?aL ?_; (case aP => exact rfl); (case aB => exact (by repeat (first | (with_reducible first | exact HB.out | apply below_alloc | apply pw_below_drewN | apply below_drew1) | exact HB.out))); (case aF => exact (fun _ _ => trivial)); (case aO => exact (by (with_reducible repeat (first | apply Kd.R_alloc | apply Kd.R_drewN | apply Kd.R_drew)); exact HO_3.out)); (case aS => exact (below_size (by repeat (first | (with_reducible first | exact HB.out | apply below_alloc | apply pw_below_drewN | apply below_drew1) | exact HB.out)))); (case aL => have := LMc12.out; omega); intro v112 w13 ho hb hg hat; rw [← Ny111.out] at ho; have n0_ := Aside0.mk (hb); have n1_ := Aside0.mk (ho); clear HB; clear HO_3; have HB := n0_; have HO113 := n1_; clear n0_ n1_; clear ho hb hg hat)))
                  go_roundg k1
                  case measure => have := HK1.out; omega
                  case rel => exact ⟨(y111), (wrap64 (x4_1 + 1)), (by first | rfl | (simp; done) | (simp [*]; done) | (simp [bne_nil_hyb]; done) | (simp [bne_nil_hyb, *]; done)), H', ⟨by have := HK1.out; omega⟩, ⟨by (with_reducible repeat (first | apply Kd.R_alloc | apply Kd.R_drewN | apply Kd.R_drew)); exact HO113.out⟩, ⟨by repeat (first | (with_reducible first | exact HB.out | apply below_alloc | apply pw_below_drewN | apply below_drew1) | exact HB.out)⟩⟩
                · rw [if_neg c12] at H
                  exact absurd H (by simp)
              · rw [if_neg c11] at H
                have c11b0 : (t109 != t110) = false := by simpa using c11
                (try (have c11b1 : decide (t109 = t110) = true := by simpa using c11))
                (try (have c11b2 : (t109 == t110) = true := by simpa using c11))
                clear c11
                have H' := Aside0.mk H
                clear H
                have p4 : 0 ≤ (x4_1 : Int) := of_decide_eq_true (by first | (with_reducible assumption) | assumption)
                have q4 : x4_1 < (a0.size : Int) := of_decide_eq_true (by first | (with_reducible assumption) | assumption)
                have hx4 := bt_at a0 x4_1
                replace p4 := eq_true p4
                replace q4 := eq_true q4
                go_wp2_with (first | (go_at_call 28; (with_reducible refine (spec_isDigit.calls (bt a0 x4_1) t109 _ A5.out).mono ?_); rintro e w' ⟨rfl, ⟨nd, rfl⟩⟩; (try first | exact ⟨rfl, _, World.drewN_drewN _ _ _⟩ | exact ⟨rfl, _, Eq.trans (World.drewN_drewN _ _ _) (congrArg (World.drewN _) (Nat.add_assoc _ _ _))⟩); have p9 : 0 ≤ ((ji6) : Int) := of_decide_eq_true (by first | (with_reducible assumption) | assumption); have q9 : (ji6) < (a0.size : Int) := of_decide_eq_true (by first | (with_reducible assumption) | assumption); have hx9 := bt_at a0 (ji6); replace p9 := eq_true p9; replace q9 := eq_true q9) | (go_at_call 28; (with_reducible refine (spec_isDigit.calls (bt a0 (ji6)) t110 _ A10.out).mono ?_); rintro e w' ⟨rfl, ⟨nd, rfl⟩⟩; (try first | exact ⟨rfl, _, World.drewN_drewN _ _ _⟩ | exact ⟨rfl, _, Eq.trans (World.drewN_drewN _ _ _) (congrArg (World.drewN _) (Nat.add_assoc _ _ _))⟩)))
                repeat (go_quiet (first | (go_at_call 28; (with_reducible refine (spec_isDigit.calls (bt a0 x4_1) t109 _ A5.out).mono ?_); rintro e w' ⟨rfl, ⟨nd, rfl⟩⟩; (try first | exact ⟨rfl, _, World.drewN_drewN _ _ _⟩ | exact ⟨rfl, _, Eq.trans (World.drewN_drewN _ _ _) (congrArg (World.drewN _) (Nat.add_assoc _ _ _))⟩); have p9 : 0 ≤ ((ji6) : Int) := of_decide_eq_true (by first | (with_reducible assumption) | assumption); have q9 : (ji6) < (a0.size : Int) := of_decide_eq_true (by first | (with_reducible assumption) | assumption); have hx9 := bt_at a0 (ji6); replace p9 := eq_true p9; replace q9 := eq_true q9) | (go_at_call 28; (with_reducible refine (spec_isDigit.calls (bt a0 (ji6)) t110 _ A10.out).mono ?_); rintro e w' ⟨rfl, ⟨nd, rfl⟩⟩; (try first | exact ⟨rfl, _, World.drewN_drewN _ _ _⟩ | exact ⟨rfl, _, Eq.trans (World.drewN_drewN _ _ _) (congrArg (World.drewN _) (Nat.add_assoc _ _ _))⟩))); try go_wp2_with (first | (go_at_call 28; (with_reducible refine (spec_isDigit.calls (bt a0 x4_1) t109 _ A5.out).mono ?_); rintro e w' ⟨rfl, ⟨nd, rfl⟩⟩; (try first | exact ⟨rfl, _, World.drewN_drewN _ _ _⟩ | exact ⟨rfl, _, Eq.trans (World.drewN_drewN _ _ _) (congrArg (World.drewN _) (Nat.add_assoc _ _ _))⟩); have p9 : 0 ≤ ((ji6) : Int) := of_decide_eq_true (by first | (with_reducible assumption) | assumption); have q9 : (ji6) < (a0.size : Int) := of_decide_eq_true (by first | (with_reducible assumption) | assumption); have hx9 := bt_at a0 (ji6); replace p9 := eq_true p9; replace q9 := eq_true q9) | (go_at_call 28; (with_reducible refine (spec_isDigit.calls (bt a0 (ji6)) t110 _ A10.out).mono ?_); rintro e w' ⟨rfl, ⟨nd, rfl⟩⟩; (try first | exact ⟨rfl, _, World.drewN_drewN _ _ _⟩ | exact ⟨rfl, _, Eq.trans (World.drewN_drewN _ _ _) (congrArg (World.drewN _) (Nat.add_assoc _ _ _))⟩))))
                go_roundg k1
                case measure => have := HK1.out; omega
                case rel => exact ⟨(x3_1), (wrap64 (x4_1 + 1)), (by first | rfl | (simp; done) | (simp [*]; done) | (simp [bne_nil_hyb]; done) | (simp [bne_nil_hyb, *]; done)), H', ⟨by have := HK1.out; omega⟩, ⟨by (with_reducible repeat (first | apply Kd.R_alloc | apply Kd.R_drewN | apply Kd.R_drew)); exact HO_3.out⟩, ⟨by repeat (first | (with_reducible first | exact HB.out | apply below_alloc | apply pw_below_drewN | apply below_drew1) | exact HB.out)⟩⟩
            · rw [if_neg c8] at H
              exact absurd H (by simp)
          · rw [if_neg c7] at H
            exact absurd H (by simp)
        · rw [if_neg c3] at H
          exact absurd H (by simp)
      · rw [if_neg c2] at H
        have c2b0 : decide (x4_1 < (a0.size : Int)) = false := decide_eq_false c2
        clear c2
        obtain rfl := Option.some.inj H
        go_wp2
        repeat (go_quiet (fail); try go_wp2)
        go_ret
        exact ⟨_, by first | rfl | (simp [errW_none, errW_some] <;> rfl) | (simp [*, errW_none, errW_some] <;> rfl) | (simp [bne_nil_hyb]; done), by (with_reducible repeat (first | apply Kd.R_alloc | apply Kd.R_drewN | apply Kd.R_drew)); exact HO_3.out, by repeat (first | (with_reducible first | exact HB.out | apply below_alloc | apply pw_below_drewN | apply below_drew1) | exact HB.out)⟩

end Go.Proofs.YteffbgjfhbgooaaDoor.M
