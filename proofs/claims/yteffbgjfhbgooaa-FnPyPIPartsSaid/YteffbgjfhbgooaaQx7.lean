/- Proved here: each Go function that is named in this text, called as its theorem 'calls' says, returns what its Lean function 'f' tells, and of the memory that was there nothing is changed (a row of a law: the law returns true). Conditions: those that stand in each theorem; where 'f' tells none, nothing is said. Laid by a program of this seat's prover out of the translation; Lean checks it. -/
import Derived.Test.YteffbgjfhbgooaaQx0
import Derived.Test.YteffbgjfhbgooaaQx6
namespace Go.Proofs.Yteffbgjfhbgooaa.Q
open Go.RowKit Go.Proofs.YteffbgjfhbgooaaH Go.Proofs.YteffbgjfhbgooaaW.PrintWords Go.Proofs.YteffbgjfhbgooaaW.PrintLast Go.Proofs.YteffbgjfhbgooaaW.PrintMore
attribute [local go_sem] max2_int min2_int max_two min_two max_three min_three max_four min_four   -- for this text's walks alone
set_option linter.unusedVariables false
set_option linter.unusedSimpArgs false

/-! ### spec_allDigits: function 18 -/
def spec_allDigits.l0 : Nat → ByteArray → Int → Option (Bool)
  | 0, _, _ => none
  | k + 1, x0, x3 => if x3 < (x0.size : Int) then (if 0 ≤ x3 then ((spec_isDigit.f (bt x0 x3)).bind fun t194 => (if t194 = true then (spec_allDigits.l0 k x0 (wrap64 (x3 + 1))) else (some false))) else (none)) else (some (decide ((x0.size : Int) > 0)))
def spec_allDigits.f (k : Nat) (a0 : ByteArray) : Option (Bool) := spec_allDigits.l0 k a0 0
theorem spec_allDigits.mono_l : ∀ k, (∀ y0 y1, LeO (spec_allDigits.l0 k y0 y1) (spec_allDigits.l0 (k + 1) y0 y1))
  | 0 => fun _ _ r h => by simp [spec_allDigits.l0] at h
  | k + 1 => by
    have ih0 := spec_allDigits.mono_l k
    · intro y0 y1
      unfold spec_allDigits.l0
      repeat' first
      | (with_reducible exact ih0 _ _)
      | (with_reducible exact LeO.refl _)
      | (with_reducible exact LeO.none _)
      | (with_reducible refine LeO.ite ?_ ?_)
      | (with_reducible refine LeO.bind ?_ (fun _ => ?_))
      | exact ih0 _ _
      | exact LeO.none _
      | refine LeO.ite ?_ ?_
      | refine LeO.bind ?_ (fun _ => ?_)
theorem spec_allDigits.mono : ∀ a0 k, LeO (spec_allDigits.f k a0) (spec_allDigits.f (k + 1) a0) := by
  intro a0 k
  have ih0 := spec_allDigits.mono_l k
  unfold spec_allDigits.f
  repeat' first
      | (with_reducible exact ih0 _ _)
      | (with_reducible exact LeO.refl _)
      | (with_reducible exact LeO.none _)
      | (with_reducible refine LeO.ite ?_ ?_)
      | (with_reducible refine LeO.bind ?_ (fun _ => ?_))
      | exact ih0 _ _
      | exact LeO.none _
      | refine LeO.ite ?_ ?_
      | refine LeO.bind ?_ (fun _ => ?_)
set_option maxHeartbeats 8000000 in
set_option maxRecDepth 100000 in
theorem spec_allDigits.calls (k : Nat) (a0 : ByteArray) (r : Bool) (w : World) (h : spec_allDigits.f k a0 = some r) :
    Calls Try.prog 18 #[.string a0] w fun e w' => e = .returned (.bool r) ∧ Drawn0 w w' := by
  have H : (spec_allDigits.l0 k a0 0) = some r := h
  clear h
  have H' := Aside0.mk H
  clear H
  go_enter Try.func18, Try.ntmps18
  go_wp2
  (try simp only [Act.put, List.setIfInBounds_toArray, List.set_cons_zero, List.set_cons_succ])
  go_loopg [3] k (fun kq v3 w' => ∃ (x3_1 : Int), v3 = .int .i64 x3_1 ∧ Aside0 (spec_allDigits.l0 kq a0 x3_1 = some r) ∧ Aside0 (kq ≤ k) ∧ Drawn0 w w')
  case atStart => exact ⟨(0), (by first | rfl | (simp; done) | (simp [*]; done) | (simp [bne_nil_hyb]; done) | (simp [bne_nil_hyb, *]; done)), H', ⟨Nat.le_refl _⟩, by repeat (first | exact Drawn0.refl _ | apply Drawn0.step)⟩
  case round =>
    clear H'
    try clear c1
    obtain ⟨x3_1, rfl, HA, HK1, ⟨m1, rfl⟩⟩ := hrel
    cases gk with
    | zero => exact absurd HA.out (by simp [spec_allDigits.l0])
    | succ k1 =>
      have H := HA.out
      clear HA
      simp only [spec_allDigits.l0] at H
      by_cases c2 : x3_1 < (a0.size : Int)
      · rw [if_pos c2] at H
        have c2b0 : decide (x3_1 < (a0.size : Int)) = true := decide_eq_true c2
        clear c2
        by_cases c3 : 0 ≤ x3_1
        · rw [if_pos c3] at H
          have c3b0 : decide (0 ≤ x3_1) = true := decide_eq_true c3
          clear c3
          replace H := Option.bind_eq_some_iff.mp H
          obtain ⟨t194, A50, H⟩ := H
          replace H : (if t194 = true then (spec_allDigits.l0 k1 a0 (wrap64 (x3_1 + 1))) else (some false)) = some r := H
          have A5 := Aside0.mk A50
          clear A50
          by_cases c6 : t194 = true
          · subst c6
            have H1 : (spec_allDigits.l0 k1 a0 (wrap64 (x3_1 + 1))) = some r := by rw [if_pos rfl] at H; exact H
            clear H
            have H := H1
            clear H1
            have H' := Aside0.mk H
            clear H
            have p4 : 0 ≤ (x3_1 : Int) := of_decide_eq_true (by first | (with_reducible assumption) | assumption)
            have q4 : x3_1 < (a0.size : Int) := of_decide_eq_true (by first | (with_reducible assumption) | assumption)
            have hx4 := bt_at a0 x3_1
            replace p4 := eq_true p4
            replace q4 := eq_true q4
            go_wp2_with (first | ((with_reducible refine gate_callee (f := 17) rfl ?_); refine goesL_ (some 13) rfl rfl Try.func17 (by kernel_rfl) rfl #[.int .u8 (bt a0 x3_1)] rfl (by (try simp only [List.map_toArray, List.map_cons, List.map_nil]); first | done | rfl | (simp only [List.length_drop, List.length_take]; rfl)) ?_; (with_reducible refine (spec_isDigit.calls (bt a0 x3_1) true _ A5.out).mono ?_); rintro e w' ⟨rfl, ⟨nd, rfl⟩⟩; refine ⟨_, rfl, ?_⟩))
            go_roundg k1
            case measure => have := HK1.out; omega
            case rel => exact ⟨(wrap64 (x3_1 + 1)), (by first | rfl | (simp; done) | (simp [*]; done) | (simp [bne_nil_hyb]; done) | (simp [bne_nil_hyb, *]; done)), H', ⟨by have := HK1.out; omega⟩, by repeat (first | exact Drawn0.refl _ | apply Drawn0.step)⟩
          · replace c6 := Bool.eq_false_iff.mpr c6
            subst c6
            have H1 : (some false) = some r := by rw [if_neg (show ¬ (false = true) by decide)] at H; exact H
            clear H
            have H := H1
            clear H1
            obtain rfl := Option.some.inj H
            have p4 : 0 ≤ (x3_1 : Int) := of_decide_eq_true (by first | (with_reducible assumption) | assumption)
            have q4 : x3_1 < (a0.size : Int) := of_decide_eq_true (by first | (with_reducible assumption) | assumption)
            have hx4 := bt_at a0 x3_1
            replace p4 := eq_true p4
            replace q4 := eq_true q4
            go_wp2_with (first | ((with_reducible refine gate_callee (f := 17) rfl ?_); refine goesL_ (some 13) rfl rfl Try.func17 (by kernel_rfl) rfl #[.int .u8 (bt a0 x3_1)] rfl (by (try simp only [List.map_toArray, List.map_cons, List.map_nil]); first | done | rfl | (simp only [List.length_drop, List.length_take]; rfl)) ?_; (with_reducible refine (spec_isDigit.calls (bt a0 x3_1) false _ A5.out).mono ?_); rintro e w' ⟨rfl, ⟨nd, rfl⟩⟩; refine ⟨_, rfl, ?_⟩))
            go_ret
            exact ⟨by first | rfl | (simp; done) | (simp [*]; done) | (simp [bne_nil_hyb]; done) | (simp [bne_nil_hyb, *]; done), by repeat (first | exact Drawn0.refl _ | apply Drawn0.step)⟩
        · rw [if_neg c3] at H
          exact absurd H (by simp)
      · rw [if_neg c2] at H
        have c2b0 : decide (x3_1 < (a0.size : Int)) = false := decide_eq_false c2
        clear c2
        obtain rfl := Option.some.inj H
        go_wp2
        go_ret
        exact ⟨by first | rfl | (simp; done) | (simp [*]; done) | (simp [bne_nil_hyb]; done) | (simp [bne_nil_hyb, *]; done), by repeat (first | exact Drawn0.refl _ | apply Drawn0.step)⟩

/-! ### spec_pypiPart: function 15 -/
mutual
def spec_pypiPart.l0 : Nat → ByteArray → Option (ByteArray)
  | 0, _ => none
  | k + 1, x0 => if (x0.size : Int) < 8 then (if 1 + x0.size ≤ 9223372036854775807 then (spec_pypiPart.l0 k ((⟨#[48]⟩ : ByteArray) ++ x0)) else (none)) else (some x0)
def spec_pypiPart.j1 : Nat → ByteArray → ByteArray → Bool → Option (ByteArray)
  | 0, _, _, _ => none
  | k + 1, x0, x11, x12 => if x12 = true then (some (⟨#[42, 99]⟩ : ByteArray)) else (if x11.toList = ([45] : List UInt8) then (some (⟨#[42, 102, 105, 110, 97, 108, 45]⟩ : ByteArray)) else (if x11.toList = ([100, 101, 118] : List UInt8) then (some (⟨#[42, 64]⟩ : ByteArray)) else (if 1 + x0.size ≤ 9223372036854775807 then (some ((⟨#[42]⟩ : ByteArray) ++ x0)) else (none))))
end
def spec_pypiPart.f (k : Nat) (a0 : ByteArray) : Option (ByteArray) := (spec_allDigits.f k a0).bind fun t195 => (if t195 = true then (spec_pypiPart.l0 k a0) else (if a0.toList = ([112, 114, 101] : List UInt8) then (spec_pypiPart.j1 k a0 a0 (a0.toList == ([112, 114, 101] : List UInt8))) else (if a0.toList = ([112, 114, 101, 118, 105, 101, 119] : List UInt8) then (spec_pypiPart.j1 k a0 a0 (a0.toList == ([112, 114, 101, 118, 105, 101, 119] : List UInt8))) else (spec_pypiPart.j1 k a0 a0 (a0.toList == ([114, 99] : List UInt8))))))
theorem spec_pypiPart.mono_l : ∀ k, (∀ y0, LeO (spec_pypiPart.l0 k y0) (spec_pypiPart.l0 (k + 1) y0)) ∧ (∀ y0 y1 y2, LeO (spec_pypiPart.j1 k y0 y1 y2) (spec_pypiPart.j1 (k + 1) y0 y1 y2))
  | 0 => ⟨fun _ r h => by simp [spec_pypiPart.l0] at h, fun _ _ _ r h => by simp [spec_pypiPart.j1] at h⟩
  | k + 1 => by
    obtain ⟨ih0, ih1⟩ := spec_pypiPart.mono_l k
    refine ⟨?_, ?_⟩
    · intro y0
      unfold spec_pypiPart.l0
      repeat' first
      | (with_reducible exact ih0 _)
      | (with_reducible exact ih1 _ _ _)
      | (with_reducible exact spec_allDigits.mono _ _)
      | (with_reducible exact LeO.refl _)
      | (with_reducible exact LeO.none _)
      | (with_reducible refine LeO.ite ?_ ?_)
      | (with_reducible refine LeO.bind ?_ (fun _ => ?_))
      | exact ih0 _
      | exact ih1 _ _ _
      | exact spec_allDigits.mono _ _
      | exact LeO.none _
      | refine LeO.ite ?_ ?_
      | refine LeO.bind ?_ (fun _ => ?_)
    · intro y0 y1 y2
      unfold spec_pypiPart.j1
      repeat' first
      | (with_reducible exact ih0 _)
      | (with_reducible exact ih1 _ _ _)
      | (with_reducible exact spec_allDigits.mono _ _)
      | (with_reducible exact LeO.refl _)
      | (with_reducible exact LeO.none _)
      | (with_reducible refine LeO.ite ?_ ?_)
      | (with_reducible refine LeO.bind ?_ (fun _ => ?_))
      | exact ih0 _
      | exact ih1 _ _ _
      | exact spec_allDigits.mono _ _
      | exact LeO.none _
      | refine LeO.ite ?_ ?_
      | refine LeO.bind ?_ (fun _ => ?_)
theorem spec_pypiPart.mono : ∀ a0 k, LeO (spec_pypiPart.f k a0) (spec_pypiPart.f (k + 1) a0) := by
  intro a0 k
  obtain ⟨ih0, ih1⟩ := spec_pypiPart.mono_l k
  unfold spec_pypiPart.f
  repeat' first
      | (with_reducible exact ih0 _)
      | (with_reducible exact ih1 _ _ _)
      | (with_reducible exact spec_allDigits.mono _ _)
      | (with_reducible exact LeO.refl _)
      | (with_reducible exact LeO.none _)
      | (with_reducible refine LeO.ite ?_ ?_)
      | (with_reducible refine LeO.bind ?_ (fun _ => ?_))
      | exact ih0 _
      | exact ih1 _ _ _
      | exact spec_allDigits.mono _ _
      | exact LeO.none _
      | refine LeO.ite ?_ ?_
      | refine LeO.bind ?_ (fun _ => ?_)
set_option maxHeartbeats 8000000 in
set_option maxRecDepth 100000 in
theorem spec_pypiPart.calls (k : Nat) (a0 : ByteArray) (r : ByteArray) (w : World) (h : spec_pypiPart.f k a0 = some r) :
    Calls Try.prog 15 #[.string a0] w fun e w' => e = .returned (.string r) ∧ Drawn0 w w' := by
  have H : ((spec_allDigits.f k a0).bind fun t195 => (if t195 = true then (spec_pypiPart.l0 k a0) else (if a0.toList = ([112, 114, 101] : List UInt8) then (spec_pypiPart.j1 k a0 a0 (a0.toList == ([112, 114, 101] : List UInt8))) else (if a0.toList = ([112, 114, 101, 118, 105, 101, 119] : List UInt8) then (spec_pypiPart.j1 k a0 a0 (a0.toList == ([112, 114, 101, 118, 105, 101, 119] : List UInt8))) else (spec_pypiPart.j1 k a0 a0 (a0.toList == ([114, 99] : List UInt8))))))) = some r := h
  clear h
  replace H := Option.bind_eq_some_iff.mp H
  obtain ⟨t195, A20, H⟩ := H
  replace H : (if t195 = true then (spec_pypiPart.l0 k a0) else (if a0.toList = ([112, 114, 101] : List UInt8) then (spec_pypiPart.j1 k a0 a0 (a0.toList == ([112, 114, 101] : List UInt8))) else (if a0.toList = ([112, 114, 101, 118, 105, 101, 119] : List UInt8) then (spec_pypiPart.j1 k a0 a0 (a0.toList == ([112, 114, 101, 118, 105, 101, 119] : List UInt8))) else (spec_pypiPart.j1 k a0 a0 (a0.toList == ([114, 99] : List UInt8)))))) = some r := H
  have A2 := Aside0.mk A20
  clear A20
  by_cases c3 : t195 = true
  · subst c3
    have H1 : (spec_pypiPart.l0 k a0) = some r := by rw [if_pos rfl] at H; exact H
    clear H
    have H := H1
    clear H1
    have H' := Aside0.mk H
    clear H
    go_enter Try.func15, Try.ntmps15
    go_wp2_with (first | ((with_reducible refine gate_callee (f := 18) rfl ?_); refine goesL_ (some 4) rfl rfl Try.func18 (by kernel_rfl) rfl #[.string a0] rfl (by (try simp only [List.map_toArray, List.map_cons, List.map_nil]); first | done | rfl | (simp only [List.length_drop, List.length_take]; rfl)) ?_; (with_reducible refine (spec_allDigits.calls k a0 true _ A2.out).mono ?_); rintro e w' ⟨rfl, ⟨nd, rfl⟩⟩; refine ⟨_, rfl, ?_⟩))
    (try simp only [Act.put, List.setIfInBounds_toArray, List.set_cons_zero, List.set_cons_succ])
    go_loopg [0] k (fun kq v0 w' => ∃ (x0_1 : ByteArray), v0 = .string x0_1 ∧ Aside0 (spec_pypiPart.l0 kq x0_1 = some r) ∧ Aside0 (kq ≤ k) ∧ Drawn0 w w')
    case atStart => exact ⟨(a0), (by first | rfl | (simp; done) | (simp [*]; done) | (simp [bne_nil_hyb]; done) | (simp [bne_nil_hyb, *]; done)), H', ⟨Nat.le_refl _⟩, by repeat (first | exact Drawn0.refl _ | apply Drawn0.step)⟩
    case round =>
      clear H'
      try clear c1
      try clear p2
      try clear c3
      obtain ⟨x0_1, rfl, HA, HK1, ⟨m1, rfl⟩⟩ := hrel
      cases gk with
      | zero => exact absurd HA.out (by simp [spec_pypiPart.l0])
      | succ k1 =>
        have H := HA.out
        clear HA
        simp only [spec_pypiPart.l0] at H
        by_cases c4 : (x0_1.size : Int) < 8
        · rw [if_pos c4] at H
          have c4b0 : decide ((x0_1.size : Int) < 8) = true := decide_eq_true c4
          have c4b1 : decide (x0_1.size < 8) = true := decide_eq_true (by omega)
          clear c4
          by_cases c5 : 1 + x0_1.size ≤ 9223372036854775807
          · rw [if_pos c5] at H
            have c5b0 := eq_true c5
            have c5b1 : decide (1 + x0_1.size ≤ 9223372036854775807) = true := decide_eq_true c5
            try have c5b2 : (9223372036854775807 < 1 + x0_1.size) = False := eq_false (Nat.not_lt.2 c5)
            have H' := Aside0.mk H
            clear H
            go_wp2
            go_roundg k1
            case measure => have := HK1.out; omega
            case rel => exact ⟨((⟨#[48]⟩ : ByteArray) ++ x0_1), (by first | rfl | (simp; done) | (simp [*]; done) | (simp [bne_nil_hyb]; done) | (simp [bne_nil_hyb, *]; done)), H', ⟨by have := HK1.out; omega⟩, by repeat (first | exact Drawn0.refl _ | apply Drawn0.step)⟩
          · rw [if_neg c5] at H
            exact absurd H (by simp)
        · rw [if_neg c4] at H
          have c4b0 : decide ((x0_1.size : Int) < 8) = false := decide_eq_false c4
          have c4b1 : decide (x0_1.size < 8) = false := decide_eq_false (by omega)
          clear c4
          obtain rfl := Option.some.inj H
          go_wp2
          go_ret
          exact ⟨by first | rfl | (simp; done) | (simp [*]; done) | (simp [bne_nil_hyb]; done) | (simp [bne_nil_hyb, *]; done), by repeat (first | exact Drawn0.refl _ | apply Drawn0.step)⟩
  · replace c3 := Bool.eq_false_iff.mpr c3
    subst c3
    have H1 : (if a0.toList = ([112, 114, 101] : List UInt8) then (spec_pypiPart.j1 k a0 a0 (a0.toList == ([112, 114, 101] : List UInt8))) else (if a0.toList = ([112, 114, 101, 118, 105, 101, 119] : List UInt8) then (spec_pypiPart.j1 k a0 a0 (a0.toList == ([112, 114, 101, 118, 105, 101, 119] : List UInt8))) else (spec_pypiPart.j1 k a0 a0 (a0.toList == ([114, 99] : List UInt8))))) = some r := by rw [if_neg (show ¬ (false = true) by decide)] at H; exact H
    clear H
    have H := H1
    clear H1
    have HC6 := Aside0.mk H
    clear H
    go_enter Try.func15, Try.ntmps15
    go_upto_if 12 with (first | ((with_reducible refine gate_callee (f := 18) rfl ?_); refine goesL_ (some 4) rfl rfl Try.func18 (by kernel_rfl) rfl #[.string a0] rfl (by (try simp only [List.map_toArray, List.map_cons, List.map_nil]); first | done | rfl | (simp only [List.length_drop, List.length_take]; rfl)) ?_; (with_reducible refine (spec_allDigits.calls k a0 false _ A2.out).mono ?_); rintro e w' ⟨rfl, ⟨nd, rfl⟩⟩; refine ⟨_, rfl, ?_⟩))
    (try simp only [Act.put, List.setIfInBounds_toArray, List.set_cons_zero, List.set_cons_succ])
    go_cut [12] (fun v12 wc => ∃ (kq : Nat) (x12_5 : Bool), v12 = .bool x12_5 ∧ Aside0 (spec_pypiPart.j1 kq a0 a0 x12_5 = some r) ∧ Aside0 (kq ≤ k) ∧ Drawn0 w wc)
    case first =>
      have H := HC6.out
      clear HC6
      by_cases c7 : a0.toList = ([112, 114, 101] : List UInt8)
      · rw [if_pos c7] at H
        have c7b0 : (a0.toList == ([112, 114, 101] : List UInt8)) = true := beq_iff_eq.mpr c7
        have c7b1 : (a0.toList != ([112, 114, 101] : List UInt8)) = false := bne_eq_false_iff_eq.mpr c7
        clear c7
        (first | rw [c7b0] | (simp only [i64_w, i32_w]; rw [c7b0]) | skip)
        have H' := Aside0.mk H
        clear H
        go_wp2
        go_meet
        case rel => exact ⟨_, ((a0.toList == ([112, 114, 101] : List UInt8))), (by first | rfl | (simp; done) | (simp [*]; done) | (simp [bne_nil_hyb]; done) | (simp [bne_nil_hyb, *]; done)), H', ⟨by first | omega | exact Nat.le_refl _⟩, by repeat (first | exact Drawn0.refl _ | apply Drawn0.step)⟩
      · rw [if_neg c7] at H
        have c7b0 : (a0.toList == ([112, 114, 101] : List UInt8)) = false := beq_eq_false_iff_ne.mpr c7
        have c7b1 : (a0.toList != ([112, 114, 101] : List UInt8)) = true := bne_iff_ne.mpr c7
        (first | rw [c7b0] | (simp only [i64_w, i32_w]; rw [c7b0]) | skip)
        by_cases c8 : a0.toList = ([112, 114, 101, 118, 105, 101, 119] : List UInt8)
        · rw [if_pos c8] at H
          have c8b0 : (a0.toList == ([112, 114, 101, 118, 105, 101, 119] : List UInt8)) = true := beq_iff_eq.mpr c8
          have c8b1 : (a0.toList != ([112, 114, 101, 118, 105, 101, 119] : List UInt8)) = false := bne_eq_false_iff_eq.mpr c8
          clear c8
          have H' := Aside0.mk H
          clear H
          go_wp2
          go_meet
          case rel => exact ⟨_, ((a0.toList == ([112, 114, 101, 118, 105, 101, 119] : List UInt8))), (by first | rfl | (simp; done) | (simp [*]; done) | (simp [bne_nil_hyb]; done) | (simp [bne_nil_hyb, *]; done)), H', ⟨by first | omega | exact Nat.le_refl _⟩, by repeat (first | exact Drawn0.refl _ | apply Drawn0.step)⟩
        · rw [if_neg c8] at H
          have c8b0 : (a0.toList == ([112, 114, 101, 118, 105, 101, 119] : List UInt8)) = false := beq_eq_false_iff_ne.mpr c8
          have c8b1 : (a0.toList != ([112, 114, 101, 118, 105, 101, 119] : List UInt8)) = true := bne_iff_ne.mpr c8
          have H' := Aside0.mk H
          clear H
          go_wp2
          go_meet
          case rel => exact ⟨_, ((a0.toList == ([114, 99] : List UInt8))), (by first | rfl | (simp; done) | (simp [*]; done) | (simp [bne_nil_hyb]; done) | (simp [bne_nil_hyb, *]; done)), H', ⟨by first | omega | exact Nat.le_refl _⟩, by repeat (first | exact Drawn0.refl _ | apply Drawn0.step)⟩
    case rest =>
      clear HC6
      try clear c1
      try clear p2
      try clear c3
      try clear c4
      try clear c4b0
      try clear c4b1
      try clear c5
      try clear c5b0
      try clear c5b1
      try clear c5b2
      try clear c7
      try clear c7b0
      try clear c7b1
      try clear c8
      try clear c8b0
      try clear c8b1
      try clear p2
      obtain ⟨kq, x12_5, rfl, HA, HJ5, ⟨mc5, rfl⟩⟩ := hcut
      cases kq with
      | zero => exact absurd HA.out (by simp [spec_pypiPart.j1])
      | succ kj5 =>
        have H := HA.out
        clear HA
        simp only [spec_pypiPart.j1] at H
        by_cases c9 : x12_5 = true
        · subst c9
          have H1 : (some (⟨#[42, 99]⟩ : ByteArray)) = some r := by rw [if_pos rfl] at H; exact H
          clear H
          have H := H1
          clear H1
          obtain rfl := Option.some.inj H
          go_wp2
          go_ret
          exact ⟨by first | rfl | (simp; done) | (simp [*]; done) | (simp [bne_nil_hyb]; done) | (simp [bne_nil_hyb, *]; done), by repeat (first | exact Drawn0.refl _ | apply Drawn0.step)⟩
        · replace c9 := Bool.eq_false_iff.mpr c9
          subst c9
          have H1 : (if a0.toList = ([45] : List UInt8) then (some (⟨#[42, 102, 105, 110, 97, 108, 45]⟩ : ByteArray)) else (if a0.toList = ([100, 101, 118] : List UInt8) then (some (⟨#[42, 64]⟩ : ByteArray)) else (if 1 + a0.size ≤ 9223372036854775807 then (some ((⟨#[42]⟩ : ByteArray) ++ a0)) else (none)))) = some r := by rw [if_neg (show ¬ (false = true) by decide)] at H; exact H
          clear H
          have H := H1
          clear H1
          by_cases c10 : a0.toList = ([45] : List UInt8)
          · rw [if_pos c10] at H
            have c10b0 : (a0.toList == ([45] : List UInt8)) = true := beq_iff_eq.mpr c10
            have c10b1 : (a0.toList != ([45] : List UInt8)) = false := bne_eq_false_iff_eq.mpr c10
            clear c10
            obtain rfl := Option.some.inj H
            go_wp2
            go_ret
            exact ⟨by first | rfl | (simp; done) | (simp [*]; done) | (simp [bne_nil_hyb]; done) | (simp [bne_nil_hyb, *]; done), by repeat (first | exact Drawn0.refl _ | apply Drawn0.step)⟩
          · rw [if_neg c10] at H
            have c10b0 : (a0.toList == ([45] : List UInt8)) = false := beq_eq_false_iff_ne.mpr c10
            have c10b1 : (a0.toList != ([45] : List UInt8)) = true := bne_iff_ne.mpr c10
            by_cases c11 : a0.toList = ([100, 101, 118] : List UInt8)
            · rw [if_pos c11] at H
              have c11b0 : (a0.toList == ([100, 101, 118] : List UInt8)) = true := beq_iff_eq.mpr c11
              have c11b1 : (a0.toList != ([100, 101, 118] : List UInt8)) = false := bne_eq_false_iff_eq.mpr c11
              clear c11
              obtain rfl := Option.some.inj H
              go_wp2
              go_ret
              exact ⟨by first | rfl | (simp; done) | (simp [*]; done) | (simp [bne_nil_hyb]; done) | (simp [bne_nil_hyb, *]; done), by repeat (first | exact Drawn0.refl _ | apply Drawn0.step)⟩
            · rw [if_neg c11] at H
              have c11b0 : (a0.toList == ([100, 101, 118] : List UInt8)) = false := beq_eq_false_iff_ne.mpr c11
              have c11b1 : (a0.toList != ([100, 101, 118] : List UInt8)) = true := bne_iff_ne.mpr c11
              by_cases c12 : 1 + a0.size ≤ 9223372036854775807
              · rw [if_pos c12] at H
                have c12b0 := eq_true c12
                have c12b1 : decide (1 + a0.size ≤ 9223372036854775807) = true := decide_eq_true c12
                try have c12b2 : (9223372036854775807 < 1 + a0.size) = False := eq_false (Nat.not_lt.2 c12)
                obtain rfl := Option.some.inj H
                go_wp2
                go_ret
                exact ⟨by first | rfl | (simp; done) | (simp [*]; done) | (simp [bne_nil_hyb]; done) | (simp [bne_nil_hyb, *]; done), by repeat (first | exact Drawn0.refl _ | apply Drawn0.step)⟩
              · rw [if_neg c12] at H
                exact absurd H (by simp)

end Go.Proofs.Yteffbgjfhbgooaa.Q
