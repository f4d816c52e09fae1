/- Proved here: each Go function that is named in this text, called as its theorem 'calls' says, returns what its Lean function 'f' tells, and of the memory that was there nothing is changed (a row of a law: the law returns true). Conditions: those that stand in each theorem; where 'f' tells none, nothing is said. Laid by a program of this seat's prover out of the translation; Lean checks it. -/
import Derived.Test.YteffbgjfhbgooaaQx0
namespace Go.Proofs.Yteffbgjfhbgooaa.Q
open Go.RowKit Go.Proofs.YteffbgjfhbgooaaH Go.Proofs.YteffbgjfhbgooaaW.PrintWords Go.Proofs.YteffbgjfhbgooaaW.PrintLast Go.Proofs.YteffbgjfhbgooaaW.PrintMore
attribute [local go_sem] max2_int min2_int max_two min_two max_three min_three max_four min_four   -- for this text's walks alone
set_option linter.unusedVariables false
set_option linter.unusedSimpArgs false

/-! ### spec_isDigit: function 17 -/
def spec_isDigit.f (a0 : Int) : Option (Bool) := if a0 ≥ 48 then (some (decide (a0 ≤ 57))) else (some false)
set_option maxHeartbeats 8000000 in
set_option maxRecDepth 100000 in
theorem spec_isDigit.calls (a0 : Int) (r : Bool) (w : World) (h : spec_isDigit.f a0 = some r) :
    Calls Try.prog 17 #[.int .u8 a0] w fun e w' => e = .returned (.bool r) ∧ Drawn0 w w' := by
  have H : (if a0 ≥ 48 then (some (decide (a0 ≤ 57))) else (some false)) = some r := h
  clear h
  by_cases c2 : a0 ≥ 48
  · rw [if_pos c2] at H
    have c2b0 : decide (48 ≤ a0) = true := decide_eq_true c2
    clear c2
    obtain rfl := Option.some.inj H
    go_enter Try.func17, Try.ntmps17
    go_wp2
    go_ret
    exact ⟨by first | rfl | (simp; done) | (simp [*]; done) | (simp [bne_nil_hyb]; done) | (simp [bne_nil_hyb, *]; done), by repeat (first | exact Drawn0.refl _ | apply Drawn0.step)⟩
  · rw [if_neg c2] at H
    have c2b0 : decide (48 ≤ a0) = false := decide_eq_false c2
    clear c2
    obtain rfl := Option.some.inj H
    go_enter Try.func17, Try.ntmps17
    go_wp2
    go_ret
    exact ⟨by first | rfl | (simp; done) | (simp [*]; done) | (simp [bne_nil_hyb]; done) | (simp [bne_nil_hyb, *]; done), by repeat (first | exact Drawn0.refl _ | apply Drawn0.step)⟩

/-! ### spec_pypiRuns: function 14 -/
mutual
def spec_pypiRuns.l0 : Nat → ByteArray → List ByteArray → Int → Option (List ByteArray)
  | 0, _, _, _ => none
  | k + 1, x0, x3, x4 => if x4 < (x0.size : Int) then (if 0 ≤ x4 then ((spec_isDigit.f (bt x0 x4)).bind fun t165 => (if (bt x0 x4) ≥ 97 then (spec_pypiRuns.j1 k x0 x3 x4 (wrap64 (x4 + 1)) t165 (decide ((bt x0 x4) ≤ 122))) else (spec_pypiRuns.j1 k x0 x3 x4 (wrap64 (x4 + 1)) t165 false))) else (none)) else (some x3)
def spec_pypiRuns.j1 : Nat → ByteArray → List ByteArray → Int → Int → Bool → Bool → Option (List ByteArray)
  | 0, _, _, _, _, _, _ => none
  | k + 1, x0, x3, x4, x5, x6, x7 => spec_pypiRuns.l1 k x0 x3 x4 x5 x6 x7
def spec_pypiRuns.l1 : Nat → ByteArray → List ByteArray → Int → Int → Bool → Bool → Option (List ByteArray)
  | 0, _, _, _, _, _, _ => none
  | k + 1, x0, x3, x4, x5, x6, x7 => if x5 < (x0.size : Int) then (if x6 = true then (if 0 ≤ x5 then ((spec_isDigit.f (bt x0 x5)).bind fun t166 => (if t166 = true then (spec_pypiRuns.l1 k x0 x3 x4 (wrap64 (x5 + 1)) x6 x7) else (if x7 = true then (if (bt x0 x5) ≥ 97 then (if (bt x0 x5) ≤ 122 then (spec_pypiRuns.l1 k x0 x3 x4 (wrap64 (x5 + 1)) x6 x7) else (if 0 ≤ x4 then (if x4 ≤ x5 then (if x5 ≤ (x0.size : Int) then (if x3.length < 8796093022208 then (spec_pypiRuns.l0 k x0 (x3 ++ [x0.extract (x4 : Int).toNat (x5 : Int).toNat]) x5) else (none)) else (none)) else (none)) else (none))) else (if 0 ≤ x4 then (if x4 ≤ x5 then (if x5 ≤ (x0.size : Int) then (if x3.length < 8796093022208 then (spec_pypiRuns.l0 k x0 (x3 ++ [x0.extract (x4 : Int).toNat (x5 : Int).toNat]) x5) else (none)) else (none)) else (none)) else (none))) else (if 0 ≤ x4 then (if x4 ≤ x5 then (if x5 ≤ (x0.size : Int) then (if x3.length < 8796093022208 then (spec_pypiRuns.l0 k x0 (x3 ++ [x0.extract (x4 : Int).toNat (x5 : Int).toNat]) x5) else (none)) else (none)) else (none)) else (none))))) else (none)) else (if x7 = true then (if 0 ≤ x5 then (if (bt x0 x5) ≥ 97 then (if (bt x0 x5) ≤ 122 then (spec_pypiRuns.l1 k x0 x3 x4 (wrap64 (x5 + 1)) x6 x7) else (if 0 ≤ x4 then (if x4 ≤ x5 then (if x5 ≤ (x0.size : Int) then (if x3.length < 8796093022208 then (spec_pypiRuns.l0 k x0 (x3 ++ [x0.extract (x4 : Int).toNat (x5 : Int).toNat]) x5) else (none)) else (none)) else (none)) else (none))) else (if 0 ≤ x4 then (if x4 ≤ x5 then (if x5 ≤ (x0.size : Int) then (if x3.length < 8796093022208 then (spec_pypiRuns.l0 k x0 (x3 ++ [x0.extract (x4 : Int).toNat (x5 : Int).toNat]) x5) else (none)) else (none)) else (none)) else (none))) else (none)) else (if 0 ≤ x4 then (if x4 < (x0.size : Int) then (if (bt x0 x4) = 45 then (if x4 ≤ x5 then (if x5 ≤ (x0.size : Int) then (if x3.length < 8796093022208 then (spec_pypiRuns.l0 k x0 (x3 ++ [x0.extract (x4 : Int).toNat (x5 : Int).toNat]) x5) else (none)) else (none)) else (none)) else (spec_pypiRuns.l0 k x0 x3 x5)) else (none)) else (none)))) else (if x6 = true then (if 0 ≤ x4 then (if x4 ≤ x5 then (if x5 ≤ (x0.size : Int) then (if x3.length < 8796093022208 then (spec_pypiRuns.l0 k x0 (x3 ++ [x0.extract (x4 : Int).toNat (x5 : Int).toNat]) x5) else (none)) else (none)) else (none)) else (none)) else (if x7 = true then (if 0 ≤ x4 then (if x4 ≤ x5 then (if x5 ≤ (x0.size : Int) then (if x3.length < 8796093022208 then (spec_pypiRuns.l0 k x0 (x3 ++ [x0.extract (x4 : Int).toNat (x5 : Int).toNat]) x5) else (none)) else (none)) else (none)) else (none)) else (if 0 ≤ x4 then (if x4 < (x0.size : Int) then (if (bt x0 x4) = 45 then (if x4 ≤ x5 then (if x5 ≤ (x0.size : Int) then (if x3.length < 8796093022208 then (spec_pypiRuns.l0 k x0 (x3 ++ [x0.extract (x4 : Int).toNat (x5 : Int).toNat]) x5) else (none)) else (none)) else (none)) else (spec_pypiRuns.l0 k x0 x3 x5)) else (none)) else (none))))
end
def spec_pypiRuns.f (k : Nat) (a0 : ByteArray) : Option (List ByteArray) := spec_pypiRuns.l0 k a0 ([] : List ByteArray) 0
theorem spec_pypiRuns.mono_l : ∀ k, (∀ y0 y1 y2, LeO (spec_pypiRuns.l0 k y0 y1 y2) (spec_pypiRuns.l0 (k + 1) y0 y1 y2)) ∧ (∀ y0 y1 y2 y3 y4 y5, LeO (spec_pypiRuns.j1 k y0 y1 y2 y3 y4 y5) (spec_pypiRuns.j1 (k + 1) y0 y1 y2 y3 y4 y5)) ∧ (∀ y0 y1 y2 y3 y4 y5, LeO (spec_pypiRuns.l1 k y0 y1 y2 y3 y4 y5) (spec_pypiRuns.l1 (k + 1) y0 y1 y2 y3 y4 y5))
  | 0 => ⟨fun _ _ _ r h => by simp [spec_pypiRuns.l0] at h, fun _ _ _ _ _ _ r h => by simp [spec_pypiRuns.j1] at h, fun _ _ _ _ _ _ r h => by simp [spec_pypiRuns.l1] at h⟩
  | k + 1 => by
    obtain ⟨ih0, ih1, ih2⟩ := spec_pypiRuns.mono_l k
    refine ⟨?_, ?_, ?_⟩
    · intro y0 y1 y2
      unfold spec_pypiRuns.l0
      repeat' first
      | (with_reducible exact ih0 _ _ _)
      | (with_reducible exact ih1 _ _ _ _ _ _)
      | (with_reducible exact ih2 _ _ _ _ _ _)
      | (with_reducible exact LeO.refl _)
      | (with_reducible exact LeO.none _)
      | (with_reducible refine LeO.ite ?_ ?_)
      | (with_reducible refine LeO.bind ?_ (fun _ => ?_))
      | exact ih0 _ _ _
      | exact ih1 _ _ _ _ _ _
      | exact ih2 _ _ _ _ _ _
      | exact LeO.none _
      | refine LeO.ite ?_ ?_
      | refine LeO.bind ?_ (fun _ => ?_)
    · intro y0 y1 y2 y3 y4 y5
      unfold spec_pypiRuns.j1
      repeat' first
      | (with_reducible exact ih0 _ _ _)
      | (with_reducible exact ih1 _ _ _ _ _ _)
      | (with_reducible exact ih2 _ _ _ _ _ _)
      | (with_reducible exact LeO.refl _)
      | (with_reducible exact LeO.none _)
      | (with_reducible refine LeO.ite ?_ ?_)
      | (with_reducible refine LeO.bind ?_ (fun _ => ?_))
      | exact ih0 _ _ _
      | exact ih1 _ _ _ _ _ _
      | exact ih2 _ _ _ _ _ _
      | exact LeO.none _
      | refine LeO.ite ?_ ?_
      | refine LeO.bind ?_ (fun _ => ?_)
    · intro y0 y1 y2 y3 y4 y5
      unfold spec_pypiRuns.l1
      repeat' first
      | (with_reducible exact ih0 _ _ _)
      | (with_reducible exact ih1 _ _ _ _ _ _)
      | (with_reducible exact ih2 _ _ _ _ _ _)
      | (with_reducible exact LeO.refl _)
      | (with_reducible exact LeO.none _)
      | (with_reducible refine LeO.ite ?_ ?_)
      | (with_reducible refine LeO.bind ?_ (fun _ => ?_))
      | exact ih0 _ _ _
      | exact ih1 _ _ _ _ _ _
      | exact ih2 _ _ _ _ _ _
      | exact LeO.none _
      | refine LeO.ite ?_ ?_
      | refine LeO.bind ?_ (fun _ => ?_)
theorem spec_pypiRuns.mono : ∀ a0 k, LeO (spec_pypiRuns.f k a0) (spec_pypiRuns.f (k + 1) a0) := by
  intro a0 k
  obtain ⟨ih0, ih1, ih2⟩ := spec_pypiRuns.mono_l k
  unfold spec_pypiRuns.f
  repeat' first
      | (with_reducible exact ih0 _ _ _)
      | (with_reducible exact ih1 _ _ _ _ _ _)
      | (with_reducible exact ih2 _ _ _ _ _ _)
      | (with_reducible exact LeO.refl _)
      | (with_reducible exact LeO.none _)
      | (with_reducible refine LeO.ite ?_ ?_)
      | (with_reducible refine LeO.bind ?_ (fun _ => ?_))
      | exact ih0 _ _ _
      | exact ih1 _ _ _ _ _ _
      | exact ih2 _ _ _ _ _ _
      | exact LeO.none _
      | refine LeO.ite ?_ ?_
      | refine LeO.bind ?_ (fun _ => ?_)
set_option maxHeartbeats 8000000 in
set_option maxRecDepth 100000 in
theorem spec_pypiRuns.calls (k : Nat) (a0 : ByteArray) (r : List ByteArray) (w : World) (h : spec_pypiRuns.f k a0 = some r) :
    Calls Try.prog 14 #[.string a0] w fun e w' => ∃ v0_ : Value, e = .returned (v0_) ∧ Kd.R Kd.string 9 w' w.heap.size (fun _ => True) v0_ r ∧ Below w.heap.size w w' := by
  have HB := Aside0.mk (Below.refl w.heap.size w)
  have H : (spec_pypiRuns.l0 k a0 ([] : List ByteArray) 0) = some r := h
  clear h
  have H' := Aside0.mk H
  clear H
  go_enter Try.func14, Try.ntmps14
  go_wp2
  repeat (go_quiet (fail); try go_wp2)
  (try simp only [Act.put, List.setIfInBounds_toArray, List.set_cons_zero, List.set_cons_succ])
  go_loopg [3, 4] k (fun kq v3 v4 w' => ∃ (x3_1 : List ByteArray) (x4_1 : Int), v4 = .int .i64 x4_1 ∧ Aside0 (spec_pypiRuns.l0 kq a0 x3_1 x4_1 = some r) ∧ Aside0 (kq ≤ k) ∧ Aside0 (Kd.R Kd.string 9 w' w.heap.size (fun _ => True) v3 x3_1) ∧ Aside0 (Below w.heap.size w w'))
  case atStart => exact ⟨(([] : List ByteArray)), (0), (by first | rfl | (simp; done) | (simp [*]; done) | (simp [bne_nil_hyb]; done) | (simp [bne_nil_hyb, *]; done)), H', ⟨Nat.le_refl _⟩, ⟨by first | exact Kd.R_nil _ _ _ _ _ | exact Kd.N_nil _ _ _ _ _ | exact Kd.V_nil _ _ _ _ _ | exact Kd.Q_nil _ _ _ _ _ | exact Kd.S_nil _ _ _ _ _⟩, ⟨by repeat (first | (with_reducible first | exact HB.out | apply below_alloc | apply pw_below_drewN | apply below_drew1) | exact HB.out)⟩⟩
  case round =>
    clear H'
    try clear c1
    obtain ⟨x3_1, x4_1, rfl, HA, HK1, HO_3, HB⟩ := hrel
    cases gk with
    | zero => exact absurd HA.out (by simp [spec_pypiRuns.l0])
    | succ k1 =>
      have H := HA.out
      clear HA
      simp only [spec_pypiRuns.l0] at H
      by_cases c2 : x4_1 < (a0.size : Int)
      · rw [if_pos c2] at H
        have c2b0 : decide (x4_1 < (a0.size : Int)) = true := decide_eq_true c2
        clear c2
        have HC3 := Aside0.mk H
        clear H
        go_upto_region 5 with (fail)
        repeat (go_quiet (fail); go_upto_region 5 with (fail))
        go_cut [6, 7] (fun v6 v7 wc => ∃ (kq : Nat) (x6_2 : Bool) (x7_2 : Bool), v6 = .bool x6_2 ∧ v7 = .bool x7_2 ∧ Aside0 (spec_pypiRuns.j1 kq a0 x3_1 x4_1 (wrap64 (x4_1 + 1)) x6_2 x7_2 = some r) ∧ Aside0 (kq ≤ k1) ∧ Aside0 (Kd.R Kd.string 9 wc w.heap.size (fun _ => True) u3 x3_1) ∧ Aside0 (Below w.heap.size w wc))
        case first =>
          have H := HC3.out
          clear HC3
          by_cases c4 : 0 ≤ x4_1
          · rw [if_pos c4] at H
            have c4b0 : decide (0 ≤ x4_1) = true := decide_eq_true c4
            clear c4
            (first | rw [c4b0] | (simp only [i64_w, i32_w]; rw [c4b0]) | skip)
            replace H := Option.bind_eq_some_iff.mp H
            obtain ⟨t165, A60, H⟩ := H
            replace H : (if (bt a0 x4_1) ≥ 97 then (spec_pypiRuns.j1 k1 a0 x3_1 x4_1 (wrap64 (x4_1 + 1)) t165 (decide ((bt a0 x4_1) ≤ 122))) else (spec_pypiRuns.j1 k1 a0 x3_1 x4_1 (wrap64 (x4_1 + 1)) t165 false)) = some r := H
            have A6 := Aside0.mk A60
            clear A60
            by_cases c8 : (bt a0 x4_1) ≥ 97
            · rw [if_pos c8] at H
              have c8b0 : decide (97 ≤ (bt a0 x4_1)) = true := decide_eq_true c8
              clear c8
              have H' := Aside0.mk H
              clear H
              have p5 : 0 ≤ (x4_1 : Int) := of_decide_eq_true (by first | (with_reducible assumption) | assumption)
              have q5 : x4_1 < (a0.size : Int) := of_decide_eq_true (by first | (with_reducible assumption) | assumption)
              have hx5 := bt_at a0 x4_1
              replace p5 := eq_true p5
              replace q5 := eq_true q5
              go_wp2_with (first | (go_at_call 17; (with_reducible refine (spec_isDigit.calls (bt a0 x4_1) t165 _ A6.out).mono ?_); rintro e w' ⟨rfl, ⟨nd, rfl⟩⟩; (try first | exact ⟨rfl, _, World.drewN_drewN _ _ _⟩ | exact ⟨rfl, _, Eq.trans (World.drewN_drewN _ _ _) (congrArg (World.drewN _) (Nat.add_assoc _ _ _))⟩); have p7 : 0 ≤ (x4_1 : Int) := of_decide_eq_true (by first | (with_reducible assumption) | assumption); have q7 : x4_1 < (a0.size : Int) := of_decide_eq_true (by first | (with_reducible assumption) | assumption); have hx7 := bt_at a0 x4_1; replace p7 := eq_true p7; replace q7 := eq_true q7; have p9 : 0 ≤ (x4_1 : Int) := of_decide_eq_true (by first | (with_reducible assumption) | assumption); have q9 : x4_1 < (a0.size : Int) := of_decide_eq_true (by first | (with_reducible assumption) | assumption); have hx9 := bt_at a0 x4_1; replace p9 := eq_true p9; replace q9 := eq_true q9))
              repeat (go_quiet (first | (go_at_call 17; (with_reducible refine (spec_isDigit.calls (bt a0 x4_1) t165 _ A6.out).mono ?_); rintro e w' ⟨rfl, ⟨nd, rfl⟩⟩; (try first | exact ⟨rfl, _, World.drewN_drewN _ _ _⟩ | exact ⟨rfl, _, Eq.trans (World.drewN_drewN _ _ _) (congrArg (World.drewN _) (Nat.add_assoc _ _ _))⟩); have p7 : 0 ≤ (x4_1 : Int) := of_decide_eq_true (by first | (with_reducible assumption) | assumption); have q7 : x4_1 < (a0.size : Int) := of_decide_eq_true (by first | (with_reducible assumption) | assumption); have hx7 := bt_at a0 x4_1; replace p7 := eq_true p7; replace q7 := eq_true q7; have p9 : 0 ≤ (x4_1 : Int) := of_decide_eq_true (by first | (with_reducible assumption) | assumption); have q9 : x4_1 < (a0.size : Int) := of_decide_eq_true (by first | (with_reducible assumption) | assumption); have hx9 := bt_at a0 x4_1; replace p9 := eq_true p9; replace q9 := eq_true q9)); try go_wp2_with (first | (go_at_call 17; (with_reducible refine (spec_isDigit.calls (bt a0 x4_1) t165 _ A6.out).mono ?_); rintro e w' ⟨rfl, ⟨nd, rfl⟩⟩; (try first | exact ⟨rfl, _, World.drewN_drewN _ _ _⟩ | exact ⟨rfl, _, Eq.trans (World.drewN_drewN _ _ _) (congrArg (World.drewN _) (Nat.add_assoc _ _ _))⟩); have p7 : 0 ≤ (x4_1 : Int) := of_decide_eq_true (by first | (with_reducible assumption) | assumption); have q7 : x4_1 < (a0.size : Int) := of_decide_eq_true (by first | (with_reducible assumption) | assumption); have hx7 := bt_at a0 x4_1; replace p7 := eq_true p7; replace q7 := eq_true q7; have p9 : 0 ≤ (x4_1 : Int) := of_decide_eq_true (by first | (with_reducible assumption) | assumption); have q9 : x4_1 < (a0.size : Int) := of_decide_eq_true (by first | (with_reducible assumption) | assumption); have hx9 := bt_at a0 x4_1; replace p9 := eq_true p9; replace q9 := eq_true q9)))
              go_meet
              case rel => exact ⟨_, (t165), (decide ((bt a0 x4_1) ≤ 122)), (by first | rfl | (simp; done) | (simp [*]; done) | (simp [bne_nil_hyb]; done) | (simp [bne_nil_hyb, *]; done)), (by first | rfl | (simp; done) | (simp [*]; done) | (simp [bne_nil_hyb]; done) | (simp [bne_nil_hyb, *]; done)), H', ⟨by have := HK1.out; first | omega | exact Nat.le_refl _⟩, ⟨by (with_reducible repeat (first | apply Kd.R_alloc | apply Kd.R_drewN | apply Kd.R_drew)); exact HO_3.out⟩, ⟨by repeat (first | (with_reducible first | exact HB.out | apply below_alloc | apply pw_below_drewN | apply below_drew1) | exact HB.out)⟩⟩
            · rw [if_neg c8] at H
              have c8b0 : decide (97 ≤ (bt a0 x4_1)) = false := decide_eq_false c8
              clear c8
              have H' := Aside0.mk H
              clear H
              have p5 : 0 ≤ (x4_1 : Int) := of_decide_eq_true (by first | (with_reducible assumption) | assumption)
              have q5 : x4_1 < (a0.size : Int) := of_decide_eq_true (by first | (with_reducible assumption) | assumption)
              have hx5 := bt_at a0 x4_1
              replace p5 := eq_true p5
              replace q5 := eq_true q5
              go_wp2_with (first | (go_at_call 17; (with_reducible refine (spec_isDigit.calls (bt a0 x4_1) t165 _ A6.out).mono ?_); rintro e w' ⟨rfl, ⟨nd, rfl⟩⟩; (try first | exact ⟨rfl, _, World.drewN_drewN _ _ _⟩ | exact ⟨rfl, _, Eq.trans (World.drewN_drewN _ _ _) (congrArg (World.drewN _) (Nat.add_assoc _ _ _))⟩); have p7 : 0 ≤ (x4_1 : Int) := of_decide_eq_true (by first | (with_reducible assumption) | assumption); have q7 : x4_1 < (a0.size : Int) := of_decide_eq_true (by first | (with_reducible assumption) | assumption); have hx7 := bt_at a0 x4_1; replace p7 := eq_true p7; replace q7 := eq_true q7))
              repeat (go_quiet (first | (go_at_call 17; (with_reducible refine (spec_isDigit.calls (bt a0 x4_1) t165 _ A6.out).mono ?_); rintro e w' ⟨rfl, ⟨nd, rfl⟩⟩; (try first | exact ⟨rfl, _, World.drewN_drewN _ _ _⟩ | exact ⟨rfl, _, Eq.trans (World.drewN_drewN _ _ _) (congrArg (World.drewN _) (Nat.add_assoc _ _ _))⟩); have p7 : 0 ≤ (x4_1 : Int) := of_decide_eq_true (by first | (with_reducible assumption) | assumption); have q7 : x4_1 < (a0.size : Int) := of_decide_eq_true (by first | (with_reducible assumption) | assumption); have hx7 := bt_at a0 x4_1; replace p7 := eq_true p7; replace q7 := eq_true q7)); try go_wp2_with (first | (go_at_call 17; (with_reducible refine (spec_isDigit.calls (bt a0 x4_1) t165 _ A6.out).mono ?_); rintro e w' ⟨rfl, ⟨nd, rfl⟩⟩; (try first | exact ⟨rfl, _, World.drewN_drewN _ _ _⟩ | exact ⟨rfl, _, Eq.trans (World.drewN_drewN _ _ _) (congrArg (World.drewN _) (Nat.add_assoc _ _ _))⟩); have p7 : 0 ≤ (x4_1 : Int) := of_decide_eq_true (by first | (with_reducible assumption) | assumption); have q7 : x4_1 < (a0.size : Int) := of_decide_eq_true (by first | (with_reducible assumption) | assumption); have hx7 := bt_at a0 x4_1; replace p7 := eq_true p7; replace q7 := eq_true q7)))
              go_meet
              case rel => exact ⟨_, (t165), (false), (by first | rfl | (simp; done) | (simp [*]; done) | (simp [bne_nil_hyb]; done) | (simp [bne_nil_hyb, *]; done)), (by first | rfl | (simp; done) | (simp [*]; done) | (simp [bne_nil_hyb]; done) | (simp [bne_nil_hyb, *]; done)), H', ⟨by have := HK1.out; first | omega | exact Nat.le_refl _⟩, ⟨by (with_reducible repeat (first | apply Kd.R_alloc | apply Kd.R_drewN | apply Kd.R_drew)); exact HO_3.out⟩, ⟨by repeat (first | (with_reducible first | exact HB.out | apply below_alloc | apply pw_below_drewN | apply below_drew1) | exact HB.out)⟩⟩
          · rw [if_neg c4] at H
            exact absurd H (by simp)
        case rest =>
          clear HC3
          try clear c1
          try clear c2
          try clear c2b0
          try clear p2
          try clear c4
          try clear c4b0
          try clear p5
          try clear q5
          try clear hx5
          try clear p6
          try clear p7
          try clear q7
          try clear hx7
          try clear c8
          try clear c8b0
          try clear p9
          try clear q9
          try clear hx9
          try clear p5
          try clear p7
          try clear p9
          try clear q5
          try clear q7
          try clear q9
          obtain ⟨kq, x6_2, x7_2, rfl, rfl, HA, HJ2, HO_3, HB⟩ := hcut
          cases kq with
          | zero => exact absurd HA.out (by simp [spec_pypiRuns.j1])
          | succ kj2 =>
            have H := HA.out
            clear HA
            simp only [spec_pypiRuns.j1] at H
            have H' := Aside0.mk H
            clear H
            go_wp2
            repeat (go_quiet (fail); try go_wp2)
            (try simp only [Act.put, List.setIfInBounds_toArray, List.set_cons_zero, List.set_cons_succ])
            go_loopg [5] kj2 (fun kq v5 w' => ∃ (x5_3 : Int), v5 = .int .i64 x5_3 ∧ Aside0 (spec_pypiRuns.l1 kq a0 x3_1 x4_1 x5_3 x6_2 x7_2 = some r) ∧ Aside0 (kq ≤ kj2) ∧ Aside0 (Kd.R Kd.string 9 w' w.heap.size (fun _ => True) u3 x3_1) ∧ Aside0 (Below w.heap.size w w'))
            case atStart => exact ⟨((wrap64 (x4_1 + 1))), (by first | rfl | (simp; done) | (simp [*]; done) | (simp [bne_nil_hyb]; done) | (simp [bne_nil_hyb, *]; done)), H', ⟨Nat.le_refl _⟩, ⟨by (with_reducible repeat (first | apply Kd.R_alloc | apply Kd.R_drewN | apply Kd.R_drew)); exact HO_3.out⟩, ⟨by repeat (first | (with_reducible first | exact HB.out | apply below_alloc | apply pw_below_drewN | apply below_drew1) | exact HB.out)⟩⟩
            case round =>
              clear H'
              try clear c1
              try clear c2
              try clear c2b0
              try clear p2
              try clear c4
              try clear c4b0
              try clear p5
              try clear q5
              try clear hx5
              try clear p6
              try clear p7
              try clear q7
              try clear hx7
              try clear c8
              try clear c8b0
              try clear p9
              try clear q9
              try clear hx9
              try clear p2
              try clear p5
              try clear p6
              try clear p7
              try clear p9
              try clear q5
              try clear q7
              try clear q9
              obtain ⟨x5_3, rfl, HA, HK3, HO_3, HB⟩ := hrel
              cases gk with
              | zero => exact absurd HA.out (by simp [spec_pypiRuns.l1])
              | succ k3 =>
                have H := HA.out
                clear HA
                simp only [spec_pypiRuns.l1] at H
                by_cases c10 : x5_3 < (a0.size : Int)
                · rw [if_pos c10] at H
                  have c10b0 : decide (x5_3 < (a0.size : Int)) = true := decide_eq_true c10
                  clear c10
                  by_cases c11 : x6_2 = true
                  · subst c11
                    have H1 : (if 0 ≤ x5_3 then ((spec_isDigit.f (bt a0 x5_3)).bind fun t166 => (if t166 = true then (spec_pypiRuns.l1 k3 a0 x3_1 x4_1 (wrap64 (x5_3 + 1)) true x7_2) else (if x7_2 = true then (if (bt a0 x5_3) ≥ 97 then (if (bt a0 x5_3) ≤ 122 then (spec_pypiRuns.l1 k3 a0 x3_1 x4_1 (wrap64 (x5_3 + 1)) true x7_2) else (if 0 ≤ x4_1 then (if x4_1 ≤ x5_3 then (if x5_3 ≤ (a0.size : Int) then (if x3_1.length < 8796093022208 then (spec_pypiRuns.l0 k3 a0 (x3_1 ++ [a0.extract (x4_1 : Int).toNat (x5_3 : Int).toNat]) x5_3) else (none)) else (none)) else (none)) else (none))) else (if 0 ≤ x4_1 then (if x4_1 ≤ x5_3 then (if x5_3 ≤ (a0.size : Int) then (if x3_1.length < 8796093022208 then (spec_pypiRuns.l0 k3 a0 (x3_1 ++ [a0.extract (x4_1 : Int).toNat (x5_3 : Int).toNat]) x5_3) else (none)) else (none)) else (none)) else (none))) else (if 0 ≤ x4_1 then (if x4_1 ≤ x5_3 then (if x5_3 ≤ (a0.size : Int) then (if x3_1.length < 8796093022208 then (spec_pypiRuns.l0 k3 a0 (x3_1 ++ [a0.extract (x4_1 : Int).toNat (x5_3 : Int).toNat]) x5_3) else (none)) else (none)) else (none)) else (none))))) else (none)) = some r := by rw [if_pos rfl] at H; exact H
                    clear H
                    have H := H1
                    clear H1
                    by_cases c12 : 0 ≤ x5_3
                    · rw [if_pos c12] at H
                      have c12b0 : decide (0 ≤ x5_3) = true := decide_eq_true c12
                      clear c12
                      replace H := Option.bind_eq_some_iff.mp H
                      obtain ⟨t166, A140, H⟩ := H
                      replace H : (if t166 = true then (spec_pypiRuns.l1 k3 a0 x3_1 x4_1 (wrap64 (x5_3 + 1)) true x7_2) else (if x7_2 = true then (if (bt a0 x5_3) ≥ 97 then (if (bt a0 x5_3) ≤ 122 then (spec_pypiRuns.l1 k3 a0 x3_1 x4_1 (wrap64 (x5_3 + 1)) true x7_2) else (if 0 ≤ x4_1 then (if x4_1 ≤ x5_3 then (if x5_3 ≤ (a0.size : Int) then (if x3_1.length < 8796093022208 then (spec_pypiRuns.l0 k3 a0 (x3_1 ++ [a0.extract (x4_1 : Int).toNat (x5_3 : Int).toNat]) x5_3) else (none)) else (none)) else (none)) else (none))) else (if 0 ≤ x4_1 then (if x4_1 ≤ x5_3 then (if x5_3 ≤ (a0.size : Int) then (if x3_1.length < 8796093022208 then (spec_pypiRuns.l0 k3 a0 (x3_1 ++ [a0.extract (x4_1 : Int).toNat (x5_3 : Int).toNat]) x5_3) else (none)) else (none)) else (none)) else (none))) else (if 0 ≤ x4_1 then (if x4_1 ≤ x5_3 then (if x5_3 ≤ (a0.size : Int) then (if x3_1.length < 8796093022208 then (spec_pypiRuns.l0 k3 a0 (x3_1 ++ [a0.extract (x4_1 : Int).toNat (x5_3 : Int).toNat]) x5_3) else (none)) else (none)) else (none)) else (none)))) = some r := H
                      have A14 := Aside0.mk A140
                      clear A140
                      by_cases c15 : t166 = true
                      · subst c15
                        have H1 : (spec_pypiRuns.l1 k3 a0 x3_1 x4_1 (wrap64 (x5_3 + 1)) true x7_2) = some r := by rw [if_pos rfl] at H; exact H
                        clear H
                        have H := H1
                        clear H1
                        have H' := Aside0.mk H
                        clear H
                        have p13 : 0 ≤ (x5_3 : Int) := of_decide_eq_true (by first | (with_reducible assumption) | assumption)
                        have q13 : x5_3 < (a0.size : Int) := of_decide_eq_true (by first | (with_reducible assumption) | assumption)
                        have hx13 := bt_at a0 x5_3
                        replace p13 := eq_true p13
                        replace q13 := eq_true q13
                        go_wp2_with (first | (go_at_call 17; (with_reducible refine (spec_isDigit.calls (bt a0 x5_3) true _ A14.out).mono ?_); rintro e w' ⟨rfl, ⟨nd, rfl⟩⟩; (try first | exact ⟨rfl, _, World.drewN_drewN _ _ _⟩ | exact ⟨rfl, _, Eq.trans (World.drewN_drewN _ _ _) (congrArg (World.drewN _) (Nat.add_assoc _ _ _))⟩)))
                        repeat (go_quiet (first | (go_at_call 17; (with_reducible refine (spec_isDigit.calls (bt a0 x5_3) true _ A14.out).mono ?_); rintro e w' ⟨rfl, ⟨nd, rfl⟩⟩; (try first | exact ⟨rfl, _, World.drewN_drewN _ _ _⟩ | exact ⟨rfl, _, Eq.trans (World.drewN_drewN _ _ _) (congrArg (World.drewN _) (Nat.add_assoc _ _ _))⟩))); try go_wp2_with (first | (go_at_call 17; (with_reducible refine (spec_isDigit.calls (bt a0 x5_3) true _ A14.out).mono ?_); rintro e w' ⟨rfl, ⟨nd, rfl⟩⟩; (try first | exact ⟨rfl, _, World.drewN_drewN _ _ _⟩ | exact ⟨rfl, _, Eq.trans (World.drewN_drewN _ _ _) (congrArg (World.drewN _) (Nat.add_assoc _ _ _))⟩))))
                        go_roundg k3
                        case measure => have := HK1.out; have := HJ2.out; have := HK3.out; omega
                        case rel => exact ⟨(wrap64 (x5_3 + 1)), (by first | rfl | (simp; done) | (simp [*]; done) | (simp [bne_nil_hyb]; done) | (simp [bne_nil_hyb, *]; done)), H', ⟨by have := HK1.out; have := HJ2.out; have := HK3.out; omega⟩, ⟨by (with_reducible repeat (first | apply Kd.R_alloc | apply Kd.R_drewN | apply Kd.R_drew)); exact HO_3.out⟩, ⟨by repeat (first | (with_reducible first | exact HB.out | apply below_alloc | apply pw_below_drewN | apply below_drew1) | exact HB.out)⟩⟩
                      · replace c15 := Bool.eq_false_iff.mpr c15
                        subst c15
                        have H1 : (if x7_2 = true then (if (bt a0 x5_3) ≥ 97 then (if (bt a0 x5_3) ≤ 122 then (spec_pypiRuns.l1 k3 a0 x3_1 x4_1 (wrap64 (x5_3 + 1)) true x7_2) else (if 0 ≤ x4_1 then (if x4_1 ≤ x5_3 then (if x5_3 ≤ (a0.size : Int) then (if x3_1.length < 8796093022208 then (spec_pypiRuns.l0 k3 a0 (x3_1 ++ [a0.extract (x4_1 : Int).toNat (x5_3 : Int).toNat]) x5_3) else (none)) else (none)) else (none)) else (none))) else (if 0 ≤ x4_1 then (if x4_1 ≤ x5_3 then (if x5_3 ≤ (a0.size : Int) then (if x3_1.length < 8796093022208 then (spec_pypiRuns.l0 k3 a0 (x3_1 ++ [a0.extract (x4_1 : Int).toNat (x5_3 : Int).toNat]) x5_3) else (none)) else (none)) else (none)) else (none))) else (if 0 ≤ x4_1 then (if x4_1 ≤ x5_3 then (if x5_3 ≤ (a0.size : Int) then (if x3_1.length < 8796093022208 then (spec_pypiRuns.l0 k3 a0 (x3_1 ++ [a0.extract (x4_1 : Int).toNat (x5_3 : Int).toNat]) x5_3) else (none)) else (none)) else (none)) else (none))) = some r := by rw [if_neg (show ¬ (false = true) by decide)] at H; exact H
                        clear H
                        have H := H1
                        clear H1
                        by_cases c16 : x7_2 = true
                        · subst c16
                          have H1 : (if (bt a0 x5_3) ≥ 97 then (if (bt a0 x5_3) ≤ 122 then (spec_pypiRuns.l1 k3 a0 x3_1 x4_1 (wrap64 (x5_3 + 1)) true true) else (if 0 ≤ x4_1 then (if x4_1 ≤ x5_3 then (if x5_3 ≤ (a0.size : Int) then (if x3_1.length < 8796093022208 then (spec_pypiRuns.l0 k3 a0 (x3_1 ++ [a0.extract (x4_1 : Int).toNat (x5_3 : Int).toNat]) x5_3) else (none)) else (none)) else (none)) else (none))) else (if 0 ≤ x4_1 then (if x4_1 ≤ x5_3 then (if x5_3 ≤ (a0.size : Int) then (if x3_1.length < 8796093022208 then (spec_pypiRuns.l0 k3 a0 (x3_1 ++ [a0.extract (x4_1 : Int).toNat (x5_3 : Int).toNat]) x5_3) else (none)) else (none)) else (none)) else (none))) = some r := by rw [if_pos rfl] at H; exact H
                          clear H
                          have H := H1
                          clear H1
                          by_cases c18 : (bt a0 x5_3) ≥ 97
                          · rw [if_pos c18] at H
                            have c18b0 : decide (97 ≤ (bt a0 x5_3)) = true := decide_eq_true c18
                            clear c18
                            by_cases c20 : (bt a0 x5_3) ≤ 122
                            · rw [if_pos c20] at H
                              have c20b0 : decide ((bt a0 x5_3) ≤ 122) = true := decide_eq_true c20
                              clear c20
                              have H' := Aside0.mk H
                              clear H
                              have p13 : 0 ≤ (x5_3 : Int) := of_decide_eq_true (by first | (with_reducible assumption) | assumption)
                              have q13 : x5_3 < (a0.size : Int) := of_decide_eq_true (by first | (with_reducible assumption) | assumption)
                              have hx13 := bt_at a0 x5_3
                              replace p13 := eq_true p13
                              replace q13 := eq_true q13
                              go_wp2_with (first | (go_at_call 17; (with_reducible refine (spec_isDigit.calls (bt a0 x5_3) false _ A14.out).mono ?_); rintro e w' ⟨rfl, ⟨nd, rfl⟩⟩; (try first | exact ⟨rfl, _, World.drewN_drewN _ _ _⟩ | exact ⟨rfl, _, Eq.trans (World.drewN_drewN _ _ _) (congrArg (World.drewN _) (Nat.add_assoc _ _ _))⟩); have p17 : 0 ≤ (x5_3 : Int) := of_decide_eq_true (by first | (with_reducible assumption) | assumption); have q17 : x5_3 < (a0.size : Int) := of_decide_eq_true (by first | (with_reducible assumption) | assumption); have hx17 := bt_at a0 x5_3; replace p17 := eq_true p17; replace q17 := eq_true q17; have p19 : 0 ≤ (x5_3 : Int) := of_decide_eq_true (by first | (with_reducible assumption) | assumption); have q19 : x5_3 < (a0.size : Int) := of_decide_eq_true (by first | (with_reducible assumption) | assumption); have hx19 := bt_at a0 x5_3; replace p19 := eq_true p19; replace q19 := eq_true q19))
                              repeat (go_quiet (first | (go_at_call 17; (with_reducible refine (spec_isDigit.calls (bt a0 x5_3) false _ A14.out).mono ?_); rintro e w' ⟨rfl, ⟨nd, rfl⟩⟩; (try first | exact ⟨rfl, _, World.drewN_drewN _ _ _⟩ | exact ⟨rfl, _, Eq.trans (World.drewN_drewN _ _ _) (congrArg (World.drewN _) (Nat.add_assoc _ _ _))⟩); have p17 : 0 ≤ (x5_3 : Int) := of_decide_eq_true (by first | (with_reducible assumption) | assumption); have q17 : x5_3 < (a0.size : Int) := of_decide_eq_true (by first | (with_reducible assumption) | assumption); have hx17 := bt_at a0 x5_3; replace p17 := eq_true p17; replace q17 := eq_true q17; have p19 : 0 ≤ (x5_3 : Int) := of_decide_eq_true (by first | (with_reducible assumption) | assumption); have q19 : x5_3 < (a0.size : Int) := of_decide_eq_true (by first | (with_reducible assumption) | assumption); have hx19 := bt_at a0 x5_3; replace p19 := eq_true p19; replace q19 := eq_true q19)); try go_wp2_with (first | (go_at_call 17; (with_reducible refine (spec_isDigit.calls (bt a0 x5_3) false _ A14.out).mono ?_); rintro e w' ⟨rfl, ⟨nd, rfl⟩⟩; (try first | exact ⟨rfl, _, World.drewN_drewN _ _ _⟩ | exact ⟨rfl, _, Eq.trans (World.drewN_drewN _ _ _) (congrArg (World.drewN _) (Nat.add_assoc _ _ _))⟩); have p17 : 0 ≤ (x5_3 : Int) := of_decide_eq_true (by first | (with_reducible assumption) | assumption); have q17 : x5_3 < (a0.size : Int) := of_decide_eq_true (by first | (with_reducible assumption) | assumption); have hx17 := bt_at a0 x5_3; replace p17 := eq_true p17; replace q17 := eq_true q17; have p19 : 0 ≤ (x5_3 : Int) := of_decide_eq_true (by first | (with_reducible assumption) | assumption); have q19 : x5_3 < (a0.size : Int) := of_decide_eq_true (by first | (with_reducible assumption) | assumption); have hx19 := bt_at a0 x5_3; replace p19 := eq_true p19; replace q19 := eq_true q19)))
                              go_roundg k3
                              case measure => have := HK1.out; have := HJ2.out; have := HK3.out; omega
                              case rel => exact ⟨(wrap64 (x5_3 + 1)), (by first | rfl | (simp; done) | (simp [*]; done) | (simp [bne_nil_hyb]; done) | (simp [bne_nil_hyb, *]; done)), H', ⟨by have := HK1.out; have := HJ2.out; have := HK3.out; omega⟩, ⟨by (with_reducible repeat (first | apply Kd.R_alloc | apply Kd.R_drewN | apply Kd.R_drew)); exact HO_3.out⟩, ⟨by repeat (first | (with_reducible first | exact HB.out | apply below_alloc | apply pw_below_drewN | apply below_drew1) | exact HB.out)⟩⟩
                            · rw [if_neg c20] at H
                              have c20b0 : decide ((bt a0 x5_3) ≤ 122) = false := decide_eq_false c20
                              clear c20
                              by_cases c21 : 0 ≤ x4_1
                              · rw [if_pos c21] at H
                                have c21b0 := eq_true c21
                                have c21b1 : decide (0 ≤ x4_1) = true := decide_eq_true c21
                                clear c21
                                by_cases c22 : x4_1 ≤ x5_3
                                · rw [if_pos c22] at H
                                  have c22b0 := eq_true c22
                                  have c22b1 : decide (x4_1 ≤ x5_3) = true := decide_eq_true c22
                                  clear c22
                                  by_cases c23 : x5_3 ≤ (a0.size : Int)
                                  · rw [if_pos c23] at H
                                    have c23b0 := eq_true c23
                                    have c23b1 : decide (x5_3 ≤ (a0.size : Int)) = true := decide_eq_true c23
                                    clear c23
                                    by_cases c24 : x3_1.length < 8796093022208
                                    · rw [if_pos c24] at H
                                      have LMc24 := Aside0.mk c24
                                      clear c24
                                      obtain ⟨y167, hy167⟩ : ∃ y_ : List ByteArray, y_ = (x3_1 ++ [a0.extract (x4_1 : Int).toNat (x5_3 : Int).toNat]) := ⟨_, rfl⟩
                                      replace H : (spec_pypiRuns.l0 k3 a0 y167 x5_3) = some r := by first | (rw [hy167]; with_reducible exact H) | (have H2_ := (Option.bind_some _ _).symm.trans H; rw [hy167]; with_reducible exact H2_) | (have H2_ := (Option.bind_some _ _).symm.trans H; with_reducible exact H2_) | with_reducible exact H | (rw [hy167]; exact H) | exact H
                                      have Ny167 := Aside0.mk hy167
                                      clear hy167
                                      have H' := Aside0.mk H
                                      clear H
                                      have p13 : 0 ≤ (x5_3 : Int) := of_decide_eq_true (by first | (with_reducible assumption) | assumption)
                                      have q13 : x5_3 < (a0.size : Int) := of_decide_eq_true (by first | (with_reducible assumption) | assumption)
                                      have hx13 := bt_at a0 x5_3
                                      replace p13 := eq_true p13
                                      replace q13 := eq_true q13
                                      go_wp2_with (first | (go_at_call 17; (with_reducible refine (spec_isDigit.calls (bt a0 x5_3) false _ A14.out).mono ?_); rintro e w' ⟨rfl, ⟨nd, rfl⟩⟩; (try first | exact ⟨rfl, _, World.drewN_drewN _ _ _⟩ | exact ⟨rfl, _, Eq.trans (World.drewN_drewN _ _ _) (congrArg (World.drewN _) (Nat.add_assoc _ _ _))⟩); have p17 : 0 ≤ (x5_3 : Int) := of_decide_eq_true (by first | (with_reducible assumption) | assumption); have q17 : x5_3 < (a0.size : Int) := of_decide_eq_true (by first | (with_reducible assumption) | assumption); have hx17 := bt_at a0 x5_3; replace p17 := eq_true p17; replace q17 := eq_true q17; have p19 : 0 ≤ (x5_3 : Int) := of_decide_eq_true (by first | (with_reducible assumption) | assumption); have q19 : x5_3 < (a0.size : Int) := of_decide_eq_true (by first | (with_reducible assumption) | assumption); have hx19 := bt_at a0 x5_3; replace p19 := eq_true p19; replace q19 := eq_true q19) | ((with_reducible refine gate_builtin (b := .append) (xs := #[.tmp 68, .tmp 73]) rfl ?_); at_builtin; refine Kd.R_append Kd.string (w0 := w) w.heap.size rfl (.tmp 68) (.tmp 73) 24 9 (.string ⟨#[]⟩) 16 rfl Try.underlying24 info9 rfl (by decide) (by omega) u3 x3_1 (a0.extract (x4_1 : Int).toNat (x5_3 : Int).toNat) [.string (a0.extract (x4_1 : Int).toNat (x5_3 : Int).toNat)] (fun _ => True) (fun _ => False) rfl rfl ?aP (fun _ hk => hk.elim) ?aF ?aO ?aB ?aS ?aL ?_; (case aP => exact rfl); (case aB => exact (by repeat (first | (with_reducible first | exact HB.out | apply below_alloc | apply pw_below_drewN | apply below_drew1) | exact HB.out))); (case aF => exact (fun _ _ => trivial)); (case aO => exact (by (with_reducible repeat (first | apply Kd.R_alloc | apply Kd.R_drewN | apply Kd.R_drew)); exact HO_3.out)); (case aS => exact (below_size (by repeat (first | (with_reducible first | exact HB.out | apply below_alloc | apply pw_below_drewN | apply below_drew1) | exact HB.out)))); (case aL => have := LMc24.out; omega); intro v168 w25 ho hb hg hat; rw [← Ny167.out] at ho; have n0_ := Aside0.mk (hb); have n1_ := Aside0.mk (ho); clear HB; clear HO_3; have HB := n0_; have HO169 := n1_; clear n0_ n1_; clear ho hb hg hat))
                                      repeat (go_quiet (first | (go_at_call 17; (with_reducible refine (spec_isDigit.calls (bt a0 x5_3) false _ A14.out).mono ?_); rintro e w' ⟨rfl, ⟨nd, rfl⟩⟩; (try first | exact ⟨rfl, _, World.drewN_drewN _ _ _⟩ | exact ⟨rfl, _, Eq.trans (World.drewN_drewN _ _ _) (congrArg (World.drewN _) (Nat.add_assoc _ _ _))⟩); have p17 : 0 ≤ (x5_3 : Int) := of_decide_eq_true (by first | (with_reducible assumption) | assumption); have q17 : x5_3 < (a0.size : Int) := of_decide_eq_true (by first | (with_reducible assumption) | assumption); have hx17 := bt_at a0 x5_3; replace p17 := eq_true p17; replace q17 := eq_true q17; have p19 : 0 ≤ (x5_3 : Int) := of_decide_eq_true (by first | (with_reducible assumption) | assumption); have q19 : x5_3 < (a0.size : Int) := of_decide_eq_true (by first | (with_reducible assumption) | assumption); have hx19 := bt_at a0 x5_3; replace p19 := eq_true p19; replace q19 := eq_true q19) | ((with_reducible refine gate_builtin (b := .append) (xs := #[.tmp 68, .tmp 73]) rfl ?_); at_builtin; refine Kd.R_append Kd.string (w0 := w) w.heap.size rfl (.tmp 68) (.tmp 73) 24 9 (.string ⟨#[]⟩) 16 rfl Try.underlying24 info9 rfl (by decide) (by omega) u3 x3_1 (a0.extract (x4_1 : Int).toNat (x5_3 : Int).toNat) [.string (a0.extract (x4_1 : Int).toNat (x5_3 : Int).toNat)] (fun _ => True) (fun _ => False) rfl rfl ?aP (fun _ hk => hk.elim) ?aF ?aO ?aB ?aS ?aL ?_; (case aP => exact rfl); (case aB => exact (by repeat (first | (with_reducible first | exact HB.out | apply below_alloc | apply pw_below_drewN | apply below_drew1) | exact HB.out))); (case aF => exact (fun _ _ => trivial)); (case aO => exact (by (with_reducible repeat (first | apply Kd.R_alloc | apply Kd.R_drewN | apply Kd.R_drew)); exact HO_3.out)); (case aS => exact (below_size (by repeat (first | (with_reducible first | exact HB.out | apply below_alloc | apply pw_below_drewN | apply below_drew1) | exact HB.out)))); (case aL => have := LMc24.out; omega); intro v168 w25 ho hb hg hat; rw [← Ny167.out] at ho; have n0_ := Aside0.mk (hb); have n1_ := Aside0.mk (ho); clear HB; clear HO_3; have HB := n0_; have HO169 := n1_; clear n0_ n1_; clear ho hb hg hat)); try go_wp2_with (first | (go_at_call 17; (with_reducible refine (spec_isDigit.calls (bt a0 x5_3) false _ A14.out).mono ?_); rintro e w' ⟨rfl, ⟨nd, rfl⟩⟩; (try first | exact ⟨rfl, _, World.drewN_drewN _ _ _⟩ | exact ⟨rfl, _, Eq.trans (World.drewN_drewN _ _ _) (congrArg (World.drewN _) (Nat.add_assoc _ _ _))⟩); have p17 : 0 ≤ (x5_3 : Int) := of_decide_eq_true (by first | (with_reducible assumption) | assumption); have q17 : x5_3 < (a0.size : Int) := of_decide_eq_true (by first | (with_reducible assumption) | assumption); have hx17 := bt_at a0 x5_3; replace p17 := eq_true p17; replace q17 := eq_true q17; have p19 : 0 ≤ (x5_3 : Int) := of_decide_eq_true (by first | (with_reducible assumption) | assumption); have q19 : x5_3 < (a0.size : Int) := of_decide_eq_true (by first | (with_reducible assumption) | assumption); have hx19 := bt_at a0 x5_3; replace p19 := eq_true p19; replace q19 := eq_true q19) | ((with_reducible refine gate_builtin (b := .append) (xs := #[.tmp 68, .tmp 73]) rfl ?_); at_builtin; refine Kd.R_append Kd.string (w0 := w) w.heap.size rfl (.tmp 68) (.tmp 73) 24 9 (.string ⟨#[]⟩) 16 rfl Try.underlying24 info9 rfl (by decide) (by omega) u3 x3_1 (a0.extract (x4_1 : Int).toNat (x5_3 : Int).toNat) [.string (a0.extract (x4_1 : Int).toNat (x5_3 : Int).toNat)] (fun _ => True) (fun _ => False) rfl rfl ?aP (fun _ hk => hk.elim) ?aF ?aO ?aB ?aS ?aL ?_; (case aP => exact rfl); (case aB => exact (by repeat (first | (with_reducible first | exact HB.out | apply below_alloc | apply pw_below_drewN | apply below_drew1) | exact HB.out))); (case aF => exact (fun _ _ => trivial)); (case aO => exact (by (with_reducible repeat (first | apply Kd.R_alloc | apply Kd.R_drewN | apply Kd.R_drew)); exact HO_3.out)); (case aS => exact (below_size (by repeat (first | (with_reducible first | exact HB.out | apply below_alloc | apply pw_below_drewN | apply below_drew1) | exact HB.out)))); (case aL => have := LMc24.out; omega); intro v168 w25 ho hb hg hat; rw [← Ny167.out] at ho; have n0_ := Aside0.mk (hb); have n1_ := Aside0.mk (ho); clear HB; clear HO_3; have HB := n0_; have HO169 := n1_; clear n0_ n1_; clear ho hb hg hat)))
                                      go_roundg k3
                                      case measure => have := HK1.out; have := HJ2.out; have := HK3.out; omega
                                      case rel => exact ⟨(y167), (x5_3), (by first | rfl | (simp; done) | (simp [*]; done) | (simp [bne_nil_hyb]; done) | (simp [bne_nil_hyb, *]; done)), H', ⟨by have := HK1.out; have := HJ2.out; have := HK3.out; omega⟩, ⟨by (with_reducible repeat (first | apply Kd.R_alloc | apply Kd.R_drewN | apply Kd.R_drew)); exact HO169.out⟩, ⟨by repeat (first | (with_reducible first | exact HB.out | apply below_alloc | apply pw_below_drewN | apply below_drew1) | exact HB.out)⟩⟩
                                    · rw [if_neg c24] at H
                                      exact absurd H (by simp)
                                  · rw [if_neg c23] at H
                                    exact absurd H (by simp)
                                · rw [if_neg c22] at H
                                  exact absurd H (by simp)
                              · rw [if_neg c21] at H
                                exact absurd H (by simp)
                          · rw [if_neg c18] at H
                            have c18b0 : decide (97 ≤ (bt a0 x5_3)) = false := decide_eq_false c18
                            clear c18
                            by_cases c26 : 0 ≤ x4_1
                            · rw [if_pos c26] at H
                              have c26b0 := eq_true c26
                              have c26b1 : decide (0 ≤ x4_1) = true := decide_eq_true c26
                              clear c26
                              by_cases c27 : x4_1 ≤ x5_3
                              · rw [if_pos c27] at H
                                have c27b0 := eq_true c27
                                have c27b1 : decide (x4_1 ≤ x5_3) = true := decide_eq_true c27
                                clear c27
                                by_cases c28 : x5_3 ≤ (a0.size : Int)
                                · rw [if_pos c28] at H
                                  have c28b0 := eq_true c28
                                  have c28b1 : decide (x5_3 ≤ (a0.size : Int)) = true := decide_eq_true c28
                                  clear c28
                                  by_cases c29 : x3_1.length < 8796093022208
                                  · rw [if_pos c29] at H
                                    have LMc29 := Aside0.mk c29
                                    clear c29
                                    obtain ⟨y170, hy170⟩ : ∃ y_ : List ByteArray, y_ = (x3_1 ++ [a0.extract (x4_1 : Int).toNat (x5_3 : Int).toNat]) := ⟨_, rfl⟩
                                    replace H : (spec_pypiRuns.l0 k3 a0 y170 x5_3) = some r := by first | (rw [hy170]; with_reducible exact H) | (have H2_ := (Option.bind_some _ _).symm.trans H; rw [hy170]; with_reducible exact H2_) | (have H2_ := (Option.bind_some _ _).symm.trans H; with_reducible exact H2_) | with_reducible exact H | (rw [hy170]; exact H) | exact H
                                    have Ny170 := Aside0.mk hy170
                                    clear hy170
                                    have H' := Aside0.mk H
                                    clear H
                                    have p13 : 0 ≤ (x5_3 : Int) := of_decide_eq_true (by first | (with_reducible assumption) | assumption)
                                    have q13 : x5_3 < (a0.size : Int) := of_decide_eq_true (by first | (with_reducible assumption) | assumption)
                                    have hx13 := bt_at a0 x5_3
                                    replace p13 := eq_true p13
                                    replace q13 := eq_true q13
                                    go_wp2_with (first | (go_at_call 17; (with_reducible refine (spec_isDigit.calls (bt a0 x5_3) false _ A14.out).mono ?_); rintro e w' ⟨rfl, ⟨nd, rfl⟩⟩; (try first | exact ⟨rfl, _, World.drewN_drewN _ _ _⟩ | exact ⟨rfl, _, Eq.trans (World.drewN_drewN _ _ _) (congrArg (World.drewN _) (Nat.add_assoc _ _ _))⟩); have p17 : 0 ≤ (x5_3 : Int) := of_decide_eq_true (by first | (with_reducible assumption) | assumption); have q17 : x5_3 < (a0.size : Int) := of_decide_eq_true (by first | (with_reducible assumption) | assumption); have hx17 := bt_at a0 x5_3; replace p17 := eq_true p17; replace q17 := eq_true q17) | ((with_reducible refine gate_builtin (b := .append) (xs := #[.tmp 68, .tmp 73]) rfl ?_); at_builtin; refine Kd.R_append Kd.string (w0 := w) w.heap.size rfl (.tmp 68) (.tmp 73) 24 9 (.string ⟨#[]⟩) 16 rfl Try.underlying24 info9 rfl (by decide) (by omega) u3 x3_1 (a0.extract (x4_1 : Int).toNat (x5_3 : Int).toNat) [.string (a0.extract (x4_1 : Int).toNat (x5_3 : Int).toNat)] (fun _ => True) (fun _ => False) rfl rfl ?aP (fun _ hk => hk.elim) ?aF ?aO ?aB ?aS ?aL ?_; (case aP => exact rfl); (case aB => exact (by repeat (first | (with_reducible first | exact HB.out | apply below_alloc | apply pw_below_drewN | apply below_drew1) | exact HB.out))); (case aF => exact (fun _ _ => trivial)); (case aO => exact (by (with_reducible repeat (first | apply Kd.R_alloc | apply Kd.R_drewN | apply Kd.R_drew)); exact HO_3.out)); (case aS => exact (below_size (by repeat (first | (with_reducible first | exact HB.out | apply below_alloc | apply pw_below_drewN | apply below_drew1) | exact HB.out)))); (case aL => have := LMc29.out; omega); intro v171 w30 ho hb hg hat; rw [← Ny170.out] at ho; have n0_ := Aside0.mk (hb); have n1_ := Aside0.mk (ho); clear HB; clear HO_3; have HB := n0_; have HO172 := n1_; clear n0_ n1_; clear ho hb hg hat))
                                    repeat (go_quiet (first | (go_at_call 17; (with_reducible refine (spec_isDigit.calls (bt a0 x5_3) false _ A14.out).mono ?_); rintro e w' ⟨rfl, ⟨nd, rfl⟩⟩; (try first | exact ⟨rfl, _, World.drewN_drewN _ _ _⟩ | exact ⟨rfl, _, Eq.trans (World.drewN_drewN _ _ _) (congrArg (World.drewN _) (Nat.add_assoc _ _ _))⟩); have p17 : 0 ≤ (x5_3 : Int) := of_decide_eq_true (by first | (with_reducible assumption) | assumption); have q17 : x5_3 < (a0.size : Int) := of_decide_eq_true (by first | (with_reducible assumption) | assumption); have hx17 := bt_at a0 x5_3; replace p17 := eq_true p17; replace q17 := eq_true q17) | ((with_reducible refine gate_builtin (b := .append) (xs := #[.tmp 68, .tmp 73]) rfl ?_); at_builtin; refine Kd.R_append Kd.string (w0 := w) w.heap.size rfl (.tmp 68) (.tmp 73) 24 9 (.string ⟨#[]⟩) 16 rfl Try.underlying24 info9 rfl (by decide) (by omega) u3 x3_1 (a0.extract (x4_1 : Int).toNat (x5_3 : Int).toNat) [.string (a0.extract (x4_1 : Int).toNat (x5_3 : Int).toNat)] (fun _ => True) (fun _ => False) rfl rfl ?aP (fun _ hk => hk.elim) ?aF ?aO ?aB ?aS ?aL ?_; (case aP => exact rfl); (case aB => exact (by repeat (first | (with_reducible first | exact HB.out | apply below_alloc | apply pw_below_drewN | apply below_drew1) | exact HB.out))); (case aF => exact (fun _ _ => trivial)); (case aO => exact (by (with_reducible repeat (first | apply Kd.R_alloc | apply Kd.R_drewN | apply Kd.R_drew)); exact HO_3.out)); (case aS => exact (below_size (by repeat (first | (with_reducible first | exact HB.out | apply below_alloc | apply pw_below_drewN | apply below_drew1) | exact HB.out)))); (case aL => have := LMc29.out; omega); intro v171 w30 ho hb hg hat; rw [← Ny170.out] at ho; have n0_ := Aside0.mk (hb); have n1_ := Aside0.mk (ho); clear HB; clear HO_3; have HB := n0_; have HO172 := n1_; clear n0_ n1_; clear ho hb hg hat)); try go_wp2_with (first | (go_at_call 17; (with_reducible refine (spec_isDigit.calls (bt a0 x5_3) false _ A14.out).mono ?_); rintro e w' ⟨rfl, ⟨nd, rfl⟩⟩; (try first | exact ⟨rfl, _, World.drewN_drewN _ _ _⟩ | exact ⟨rfl, _, Eq.trans (World.drewN_drewN _ _ _) (congrArg (World.drewN _) (Nat.add_assoc _ _ _))⟩); have p17 : 0 ≤ (x5_3 : Int) := of_decide_eq_true (by first | (with_reducible assumption) | assumption); have q17 : x5_3 < (a0.size : Int) := of_decide_eq_true (by first | (with_reducible assumption) | assumption); have hx17 := bt_at a0 x5_3; replace p17 := eq_true p17; replace q17 := eq_true q17) | ((with_reducible refine gate_builtin (b := .append) (xs := #[.tmp 68, .tmp 73]) rfl ?_); at_builtin; refine Kd.R_append Kd.string (w0 := w) w.heap.size rfl (.tmp 68) (.tmp 73) 24 9 (.string ⟨#[]⟩) 16 rfl Try.underlying24 info9 rfl (by decide) (by omega) u3 x3_1 (a0.extract (x4_1 : Int).toNat (x5_3 : Int).toNat) [.string (a0.extract (x4_1 : Int).toNat (x5_3 : Int).toNat)] (fun _ => True) (fun _ => False) rfl rfl ?aP (fun _ hk => hk.elim) ?aF ?aO ?aB ?aS ?aL ?_; (case aP => exact rfl); (case aB => exact (by repeat (first | (with_reducible first | exact HB.out | apply below_alloc | apply pw_below_drewN | apply below_drew1) | exact HB.out))); (case aF => exact (fun _ _ => trivial)); (case aO => exact (by (with_reducible repeat (first | apply Kd.R_alloc | apply Kd.R_drewN | apply Kd.R_drew)); exact HO_3.out)); (case aS => exact (below_size (by repeat (first | (with_reducible first | exact HB.out | apply below_alloc | apply pw_below_drewN | apply below_drew1) | exact HB.out)))); (case aL => have := LMc29.out; omega); intro v171 w30 ho hb hg hat; rw [← Ny170.out] at ho; have n0_ := Aside0.mk (hb); have n1_ := Aside0.mk (ho); clear HB; clear HO_3; have HB := n0_; have HO172 := n1_; clear n0_ n1_; clear ho hb hg hat)))
                                    go_roundg k3
                                    case measure => have := HK1.out; have := HJ2.out; have := HK3.out; omega
                                    case rel => exact ⟨(y170), (x5_3), (by first | rfl | (simp; done) | (simp [*]; done) | (simp [bne_nil_hyb]; done) | (simp [bne_nil_hyb, *]; done)), H', ⟨by have := HK1.out; have := HJ2.out; have := HK3.out; omega⟩, ⟨by (with_reducible repeat (first | apply Kd.R_alloc | apply Kd.R_drewN | apply Kd.R_drew)); exact HO172.out⟩, ⟨by repeat (first | (with_reducible first | exact HB.out | apply below_alloc | apply pw_below_drewN | apply below_drew1) | exact HB.out)⟩⟩
                                  · rw [if_neg c29] at H
                                    exact absurd H (by simp)
                                · rw [if_neg c28] at H
                                  exact absurd H (by simp)
                              · rw [if_neg c27] at H
                                exact absurd H (by simp)
                            · rw [if_neg c26] at H
                              exact absurd H (by simp)
                        · replace c16 := Bool.eq_false_iff.mpr c16
                          subst c16
                          have H1 : (if 0 ≤ x4_1 then (if x4_1 ≤ x5_3 then (if x5_3 ≤ (a0.size : Int) then (if x3_1.length < 8796093022208 then (spec_pypiRuns.l0 k3 a0 (x3_1 ++ [a0.extract (x4_1 : Int).toNat (x5_3 : Int).toNat]) x5_3) else (none)) else (none)) else (none)) else (none)) = some r := by rw [if_neg (show ¬ (false = true) by decide)] at H; exact H
                          clear H
                          have H := H1
                          clear H1
                          by_cases c31 : 0 ≤ x4_1
                          · rw [if_pos c31] at H
                            have c31b0 := eq_true c31
                            have c31b1 : decide (0 ≤ x4_1) = true := decide_eq_true c31
                            clear c31
                            by_cases c32 : x4_1 ≤ x5_3
                            · rw [if_pos c32] at H
                              have c32b0 := eq_true c32
                              have c32b1 : decide (x4_1 ≤ x5_3) = true := decide_eq_true c32
                              clear c32
                              by_cases c33 : x5_3 ≤ (a0.size : Int)
                              · rw [if_pos c33] at H
                                have c33b0 := eq_true c33
                                have c33b1 : decide (x5_3 ≤ (a0.size : Int)) = true := decide_eq_true c33
                                clear c33
                                by_cases c34 : x3_1.length < 8796093022208
                                · rw [if_pos c34] at H
                                  have LMc34 := Aside0.mk c34
                                  clear c34
                                  obtain ⟨y173, hy173⟩ : ∃ y_ : List ByteArray, y_ = (x3_1 ++ [a0.extract (x4_1 : Int).toNat (x5_3 : Int).toNat]) := ⟨_, rfl⟩
                                  replace H : (spec_pypiRuns.l0 k3 a0 y173 x5_3) = some r := by first | (rw [hy173]; with_reducible exact H) | (have H2_ := (Option.bind_some _ _).symm.trans H; rw [hy173]; with_reducible exact H2_) | (have H2_ := (Option.bind_some _ _).symm.trans H; with_reducible exact H2_) | with_reducible exact H | (rw [hy173]; exact H) | exact H
                                  have Ny173 := Aside0.mk hy173
                                  clear hy173
                                  have H' := Aside0.mk H
                                  clear H
                                  have p13 : 0 ≤ (x5_3 : Int) := of_decide_eq_true (by first | (with_reducible assumption) | assumption)
                                  have q13 : x5_3 < (a0.size : Int) := of_decide_eq_true (by first | (with_reducible assumption) | assumption)
                                  have hx13 := bt_at a0 x5_3
                                  replace p13 := eq_true p13
                                  replace q13 := eq_true q13
                                  go_wp2_with (first | (go_at_call 17; (with_reducible refine (spec_isDigit.calls (bt a0 x5_3) false _ A14.out).mono ?_); rintro e w' ⟨rfl, ⟨nd, rfl⟩⟩; (try first | exact ⟨rfl, _, World.drewN_drewN _ _ _⟩ | exact ⟨rfl, _, Eq.trans (World.drewN_drewN _ _ _) (congrArg (World.drewN _) (Nat.add_assoc _ _ _))⟩)) | ((with_reducible refine gate_builtin (b := .append) (xs := #[.tmp 68, .tmp 73]) rfl ?_); at_builtin; refine Kd.R_append Kd.string (w0 := w) w.heap.size rfl (.tmp 68) (.tmp 73) 24 9 (.string ⟨#[]⟩) 16 rfl Try.underlying24 info9 rfl (by decide) (by omega) u3 x3_1 (a0.extract (x4_1 : Int).toNat (x5_3 : Int).toNat) [.string (a0.extract (x4_1 : Int).toNat (x5_3 : Int).toNat)] (fun _ => True) (fun _ => False) rfl rfl ?aP (fun _ hk => hk.elim) ?aF ?aO ?aB ?aS ?aL ?_; (case aP => exact rfl); (case aB => exact (by repeat (first | (with_reducible first | exact HB.out | apply below_alloc | apply pw_below_drewN | apply below_drew1) | exact HB.out))); (case aF => exact (fun _ _ => trivial)); (case aO => exact (by (with_reducible repeat (first | apply Kd.R_alloc | apply Kd.R_drewN | apply Kd.R_drew)); exact HO_3.out)); (case aS => exact (below_size (by repeat (first | (with_reducible first | exact HB.out | apply below_alloc | apply pw_below_drewN | apply below_drew1) | exact HB.out)))); (case aL => have := LMc34.out; omega); intro v174 w35 ho hb hg hat; rw [← Ny173.out] at ho; have n0_ := Aside0.mk (hb); have n1_ := Aside0.mk (ho); clear HB; clear HO_3; have HB := n0_; have HO175 := n1_; clear n0_ n1_; clear ho hb hg hat))
                                  repeat (go_quiet (first | (go_at_call 17; (with_reducible refine (spec_isDigit.calls (bt a0 x5_3) false _ A14.out).mono ?_); rintro e w' ⟨rfl, ⟨nd, rfl⟩⟩; (try first | exact ⟨rfl, _, World.drewN_drewN _ _ _⟩ | exact ⟨rfl, _, Eq.trans (World.drewN_drewN _ _ _) (congrArg (World.drewN _) (Nat.add_assoc _ _ _))⟩)) | ((with_reducible refine gate_builtin (b := .append) (xs := #[.tmp 68, .tmp 73]) rfl ?_); at_builtin; refine Kd.R_append Kd.string (w0 := w) w.heap.size rfl (.tmp 68) (.tmp 73) 24 9 (.string ⟨#[]⟩) 16 rfl Try.underlying24 info9 rfl (by decide) (by omega) u3 x3_1 (a0.extract (x4_1 : Int).toNat (x5_3 : Int).toNat) [.string (a0.extract (x4_1 : Int).toNat (x5_3 : Int).toNat)] (fun _ => True) (fun _ => False) rfl rfl ?aP (fun _ hk => hk.elim) ?aF ?aO ?aB ?aS ?aL ?_; (case aP => exact rfl); (case aB => exact (by repeat (first | (with_reducible first | exact HB.out | apply below_alloc | apply pw_below_drewN | apply below_drew1) | exact HB.out))); (case aF => exact (fun _ _ => trivial)); (case aO => exact (by (with_reducible repeat (first | apply Kd.R_alloc | apply Kd.R_drewN | apply Kd.R_drew)); exact HO_3.out)); (case aS => exact (below_size (by repeat (first | (with_reducible first | exact HB.out | apply below_alloc | apply pw_below_drewN | apply below_drew1) | exact HB.out)))); (case aL => have := LMc34.out; omega); intro v174 w35 ho hb hg hat; rw [← Ny173.out] at ho; have n0_ := Aside0.mk (hb); have n1_ := Aside0.mk (ho); clear HB; clear HO_3; have HB := n0_; have HO175 := n1_; clear n0_ n1_; clear ho hb hg hat)); try go_wp2_with (first | (go_at_call 17; (with_reducible refine (spec_isDigit.calls (bt a0 x5_3) false _ A14.out).mono ?_); rintro e w' ⟨rfl, ⟨nd, rfl⟩⟩; (try first | exact ⟨rfl, _, World.drewN_drewN _ _ _⟩ | exact ⟨rfl, _, Eq.trans (World.drewN_drewN _ _ _) (congrArg (World.drewN _) (Nat.add_assoc _ _ _))⟩)) | ((with_reducible refine gate_builtin (b := .append) (xs := #[.tmp 68, .tmp 73]) rfl ?_); at_builtin; refine Kd.R_append Kd.string (w0 := w) w.heap.size rfl (.tmp 68) (.tmp 73) 24 9 (.string ⟨#[]⟩) 16 rfl Try.underlying24 info9 rfl (by decide) (by omega) u3 x3_1 (a0.extract (x4_1 : Int).toNat (x5_3 : Int).toNat) [.string (a0.extract (x4_1 : Int).toNat (x5_3 : Int).toNat)] (fun _ => True) (fun _ => False) rfl rfl ?aP (fun _ hk => hk.elim) ?aF ?aO ?aB ?aS ?aL ?_; (case aP => exact rfl); (case aB => exact (by repeat (first | (with_reducible first | exact HB.out | apply below_alloc | apply pw_below_drewN | apply below_drew1) | exact HB.out))); (case aF => exact (fun _ _ => trivial)); (case aO => exact (by (with_reducible repeat (first | apply Kd.R_alloc | apply Kd.R_drewN | apply Kd.R_drew)); exact HO_3.out)); (case aS => exact (below_size (by repeat (first | (with_reducible first | exact HB.out | apply below_alloc | apply pw_below_drewN | apply below_drew1) | exact HB.out)))); (case aL => have := LMc34.out; omega); intro v174 w35 ho hb hg hat; rw [← Ny173.out] at ho; have n0_ := Aside0.mk (hb); have n1_ := Aside0.mk (ho); clear HB; clear HO_3; have HB := n0_; have HO175 := n1_; clear n0_ n1_; clear ho hb hg hat)))
                                  go_roundg k3
                                  case measure => have := HK1.out; have := HJ2.out; have := HK3.out; omega
                                  case rel => exact ⟨(y173), (x5_3), (by first | rfl | (simp; done) | (simp [*]; done) | (simp [bne_nil_hyb]; done) | (simp [bne_nil_hyb, *]; done)), H', ⟨by have := HK1.out; have := HJ2.out; have := HK3.out; omega⟩, ⟨by (with_reducible repeat (first | apply Kd.R_alloc | apply Kd.R_drewN | apply Kd.R_drew)); exact HO175.out⟩, ⟨by repeat (first | (with_reducible first | exact HB.out | apply below_alloc | apply pw_below_drewN | apply below_drew1) | exact HB.out)⟩⟩
                                · rw [if_neg c34] at H
                                  exact absurd H (by simp)
                              · rw [if_neg c33] at H
                                exact absurd H (by simp)
                            · rw [if_neg c32] at H
                              exact absurd H (by simp)
                          · rw [if_neg c31] at H
                            exact absurd H (by simp)
                    · rw [if_neg c12] at H
                      exact absurd H (by simp)
                  · replace c11 := Bool.eq_false_iff.mpr c11
                    subst c11
                    have H1 : (if x7_2 = true then (if 0 ≤ x5_3 then (if (bt a0 x5_3) ≥ 97 then (if (bt a0 x5_3) ≤ 122 then (spec_pypiRuns.l1 k3 a0 x3_1 x4_1 (wrap64 (x5_3 + 1)) false x7_2) else (if 0 ≤ x4_1 then (if x4_1 ≤ x5_3 then (if x5_3 ≤ (a0.size : Int) then (if x3_1.length < 8796093022208 then (spec_pypiRuns.l0 k3 a0 (x3_1 ++ [a0.extract (x4_1 : Int).toNat (x5_3 : Int).toNat]) x5_3) else (none)) else (none)) else (none)) else (none))) else (if 0 ≤ x4_1 then (if x4_1 ≤ x5_3 then (if x5_3 ≤ (a0.size : Int) then (if x3_1.length < 8796093022208 then (spec_pypiRuns.l0 k3 a0 (x3_1 ++ [a0.extract (x4_1 : Int).toNat (x5_3 : Int).toNat]) x5_3) else (none)) else (none)) else (none)) else (none))) else (none)) else (if 0 ≤ x4_1 then (if x4_1 < (a0.size : Int) then (if (bt a0 x4_1) = 45 then (if x4_1 ≤ x5_3 then (if x5_3 ≤ (a0.size : Int) then (if x3_1.length < 8796093022208 then (spec_pypiRuns.l0 k3 a0 (x3_1 ++ [a0.extract (x4_1 : Int).toNat (x5_3 : Int).toNat]) x5_3) else (none)) else (none)) else (none)) else (spec_pypiRuns.l0 k3 a0 x3_1 x5_3)) else (none)) else (none))) = some r := by rw [if_neg (show ¬ (false = true) by decide)] at H; exact H
                    clear H
                    have H := H1
                    clear H1
                    by_cases c36 : x7_2 = true
                    · subst c36
                      have H1 : (if 0 ≤ x5_3 then (if (bt a0 x5_3) ≥ 97 then (if (bt a0 x5_3) ≤ 122 then (spec_pypiRuns.l1 k3 a0 x3_1 x4_1 (wrap64 (x5_3 + 1)) false true) else (if 0 ≤ x4_1 then (if x4_1 ≤ x5_3 then (if x5_3 ≤ (a0.size : Int) then (if x3_1.length < 8796093022208 then (spec_pypiRuns.l0 k3 a0 (x3_1 ++ [a0.extract (x4_1 : Int).toNat (x5_3 : Int).toNat]) x5_3) else (none)) else (none)) else (none)) else (none))) else (if 0 ≤ x4_1 then (if x4_1 ≤ x5_3 then (if x5_3 ≤ (a0.size : Int) then (if x3_1.length < 8796093022208 then (spec_pypiRuns.l0 k3 a0 (x3_1 ++ [a0.extract (x4_1 : Int).toNat (x5_3 : Int).toNat]) x5_3) else (none)) else (none)) else (none)) else (none))) else (none)) = some r := by rw [if_pos rfl] at H; exact H
                      clear H
                      have H := H1
                      clear H1
                      by_cases c37 : 0 ≤ x5_3
                      · rw [if_pos c37] at H
                        have c37b0 : decide (0 ≤ x5_3) = true := decide_eq_true c37
                        clear c37
                        by_cases c39 : (bt a0 x5_3) ≥ 97
                        · rw [if_pos c39] at H
                          have c39b0 : decide (97 ≤ (bt a0 x5_3)) = true := decide_eq_true c39
                          clear c39
                          by_cases c41 : (bt a0 x5_3) ≤ 122
                          · rw [if_pos c41] at H
                            have c41b0 : decide ((bt a0 x5_3) ≤ 122) = true := decide_eq_true c41
                            clear c41
                            have H' := Aside0.mk H
                            clear H
                            have p38 : 0 ≤ (x5_3 : Int) := of_decide_eq_true (by first | (with_reducible assumption) | assumption)
                            have q38 : x5_3 < (a0.size : Int) := of_decide_eq_true (by first | (with_reducible assumption) | assumption)
                            have hx38 := bt_at a0 x5_3
                            replace p38 := eq_true p38
                            replace q38 := eq_true q38
                            have p40 : 0 ≤ (x5_3 : Int) := of_decide_eq_true (by first | (with_reducible assumption) | assumption)
                            have q40 : x5_3 < (a0.size : Int) := of_decide_eq_true (by first | (with_reducible assumption) | assumption)
                            have hx40 := bt_at a0 x5_3
                            replace p40 := eq_true p40
                            replace q40 := eq_true q40
                            go_wp2
                            repeat (go_quiet (fail); try go_wp2)
                            go_roundg k3
                            case measure => have := HK1.out; have := HJ2.out; have := HK3.out; omega
                            case rel => exact ⟨(wrap64 (x5_3 + 1)), (by first | rfl | (simp; done) | (simp [*]; done) | (simp [bne_nil_hyb]; done) | (simp [bne_nil_hyb, *]; done)), H', ⟨by have := HK1.out; have := HJ2.out; have := HK3.out; omega⟩, ⟨by (with_reducible repeat (first | apply Kd.R_alloc | apply Kd.R_drewN | apply Kd.R_drew)); exact HO_3.out⟩, ⟨by repeat (first | (with_reducible first | exact HB.out | apply below_alloc | apply pw_below_drewN | apply below_drew1) | exact HB.out)⟩⟩
                          · rw [if_neg c41] at H
                            have c41b0 : decide ((bt a0 x5_3) ≤ 122) = false := decide_eq_false c41
                            clear c41
                            by_cases c42 : 0 ≤ x4_1
                            · rw [if_pos c42] at H
                              have c42b0 := eq_true c42
                              have c42b1 : decide (0 ≤ x4_1) = true := decide_eq_true c42
                              clear c42
                              by_cases c43 : x4_1 ≤ x5_3
                              · rw [if_pos c43] at H
                                have c43b0 := eq_true c43
                                have c43b1 : decide (x4_1 ≤ x5_3) = true := decide_eq_true c43
                                clear c43
                                by_cases c44 : x5_3 ≤ (a0.size : Int)
                                · rw [if_pos c44] at H
                                  have c44b0 := eq_true c44
                                  have c44b1 : decide (x5_3 ≤ (a0.size : Int)) = true := decide_eq_true c44
                                  clear c44
                                  by_cases c45 : x3_1.length < 8796093022208
                                  · rw [if_pos c45] at H
                                    have LMc45 := Aside0.mk c45
                                    clear c45
                                    obtain ⟨y176, hy176⟩ : ∃ y_ : List ByteArray, y_ = (x3_1 ++ [a0.extract (x4_1 : Int).toNat (x5_3 : Int).toNat]) := ⟨_, rfl⟩
                                    replace H : (spec_pypiRuns.l0 k3 a0 y176 x5_3) = some r := by first | (rw [hy176]; with_reducible exact H) | (have H2_ := (Option.bind_some _ _).symm.trans H; rw [hy176]; with_reducible exact H2_) | (have H2_ := (Option.bind_some _ _).symm.trans H; with_reducible exact H2_) | with_reducible exact H | (rw [hy176]; exact H) | exact H
                                    have Ny176 := Aside0.mk hy176
                                    clear hy176
                                    have H' := Aside0.mk H
                                    clear H
                                    have p38 : 0 ≤ (x5_3 : Int) := of_decide_eq_true (by first | (with_reducible assumption) | assumption)
                                    have q38 : x5_3 < (a0.size : Int) := of_decide_eq_true (by first | (with_reducible assumption) | assumption)
                                    have hx38 := bt_at a0 x5_3
                                    replace p38 := eq_true p38
                                    replace q38 := eq_true q38
                                    have p40 : 0 ≤ (x5_3 : Int) := of_decide_eq_true (by first | (with_reducible assumption) | assumption)
                                    have q40 : x5_3 < (a0.size : Int) := of_decide_eq_true (by first | (with_reducible assumption) | assumption)
                                    have hx40 := bt_at a0 x5_3
                                    replace p40 := eq_true p40
                                    replace q40 := eq_true q40
                                    go_wp2_with (first | ((with_reducible refine gate_builtin (b := .append) (xs := #[.tmp 68, .tmp 73]) rfl ?_); at_builtin; refine Kd.R_append Kd.string (w0 := w) w.heap.size rfl (.tmp 68) (.tmp 73) 24 9 (.string ⟨#[]⟩) 16 rfl Try.underlying24 info9 rfl (by decide) (by omega) u3 x3_1 (a0.extract (x4_1 : Int).toNat (x5_3 : Int).toNat) [.string (a0.extract (x4_1 : Int).toNat (x5_3 : Int).toNat)] (fun _ => True) (fun _ => False) rfl rfl ?aP (fun _ hk => hk.elim) ?aF ?aO ?aB ?aS ?aL ?_; (case aP => exact rfl); (case aB => exact (by repeat (first | (with_reducible first | exact HB.out | apply below_alloc | apply pw_below_drewN | apply below_drew1) | exact HB.out))); (case aF => exact (fun _ _ => trivial)); (case aO => exact (by (with_reducible repeat (first | apply Kd.R_alloc | apply Kd.R_drewN | apply Kd.R_drew)); exact HO_3.out)); (case aS => exact (below_size (by repeat (first | (with_reducible first | exact HB.out | apply below_alloc | apply pw_below_drewN | apply below_drew1) | exact HB.out)))); (case aL => have := LMc45.out; omega); intro v177 w46 ho hb hg hat; rw [← Ny176.out] at ho; have n0_ := Aside0.mk (hb); have n1_ := Aside0.mk (ho); clear HB; clear HO_3; have HB := n0_; have HO178 := n1_; clear n0_ n1_; clear ho hb hg hat))
                                    repeat (go_quiet (first | ((with_reducible refine gate_builtin (b := .append) (xs := #[.tmp 68, .tmp 73]) rfl ?_); at_builtin; refine Kd.R_append Kd.string (w0 := w) w.heap.size rfl (.tmp 68) (.tmp 73) 24 9 (.string ⟨#[]⟩) 16 rfl Try.underlying24 info9 rfl (by decide) (by omega) u3 x3_1 (a0.extract (x4_1 : Int).toNat (x5_3 : Int).toNat) [.string (a0.extract (x4_1 : Int).toNat (x5_3 : Int).toNat)] (fun _ => True) (fun _ => False) rfl rfl ?aP (fun _ hk => hk.elim) ?aF ?aO ?aB ?aS ?aL ?_; (case aP => exact rfl); (case aB => exact (by repeat (first | (with_reducible first | exact HB.out | apply below_alloc | apply pw_below_drewN | apply below_drew1) | exact HB.out))); (case aF => exact (fun _ _ => trivial)); (case aO => exact (by (with_reducible repeat (first | apply Kd.R_alloc | apply Kd.R_drewN | apply Kd.R_drew)); exact HO_3.out)); (case aS => exact (below_size (by repeat (first | (with_reducible first | exact HB.out | apply below_alloc | apply pw_below_drewN | apply below_drew1) | exact HB.out)))); (case aL => have := LMc45.out; omega); intro v177 w46 ho hb hg hat; rw [← Ny176.out] at ho; have n0_ := Aside0.mk (hb); have n1_ := Aside0.mk (ho); clear HB; clear HO_3; have HB := n0_; have HO178 := n1_; clear n0_ n1_; clear ho hb hg hat)); try go_wp2_with (first | ((with_reducible refine gate_builtin (b := .append) (xs := #[.tmp 68, .tmp 73]) rfl ?_); at_builtin; refine Kd.R_append Kd.string (w0 := w) w.heap.size rfl (.tmp 68) (.tmp 73) 24 9 (.string ⟨#[]⟩) 16 rfl Try.underlying24 info9 rfl (by decide) (by omega) u3 x3_1 (a0.extract (x4_1 : Int).toNat (x5_3 : Int).toNat) [.string (a0.extract (x4_1 : Int).toNat (x5_3 : Int).toNat)] (fun _ => True) (fun _ => False) rfl rfl ?aP (fun _ hk => hk.elim) ?aF ?aO ?aB ?aS ?aL ?_; (case aP => exact rfl); (case aB => exact (by repeat (first | (with_reducible first | exact HB.out | apply below_alloc | apply pw_below_drewN | apply below_drew1) | exact HB.out))); (case aF => exact (fun _ _ => trivial)); (case aO => exact (by (with_reducible repeat (first | apply Kd.R_alloc | apply Kd.R_drewN | apply Kd.R_drew)); exact HO_3.out)); (case aS => exact (below_size (by repeat (first | (with_reducible first | exact HB.out | apply below_alloc | apply pw_below_drewN | apply below_drew1) | exact HB.out)))); (case aL => have := LMc45.out; omega); intro v177 w46 ho hb hg hat; rw [← Ny176.out] at ho; have n0_ := Aside0.mk (hb); have n1_ := Aside0.mk (ho); clear HB; clear HO_3; have HB := n0_; have HO178 := n1_; clear n0_ n1_; clear ho hb hg hat)))
                                    go_roundg k3
                                    case measure => have := HK1.out; have := HJ2.out; have := HK3.out; omega
                                    case rel => exact ⟨(y176), (x5_3), (by first | rfl | (simp; done) | (simp [*]; done) | (simp [bne_nil_hyb]; done) | (simp [bne_nil_hyb, *]; done)), H', ⟨by have := HK1.out; have := HJ2.out; have := HK3.out; omega⟩, ⟨by (with_reducible repeat (first | apply Kd.R_alloc | apply Kd.R_drewN | apply Kd.R_drew)); exact HO178.out⟩, ⟨by repeat (first | (with_reducible first | exact HB.out | apply below_alloc | apply pw_below_drewN | apply below_drew1) | exact HB.out)⟩⟩
                                  · rw [if_neg c45] at H
                                    exact absurd H (by simp)
                                · rw [if_neg c44] at H
                                  exact absurd H (by simp)
                              · rw [if_neg c43] at H
                                exact absurd H (by simp)
                            · rw [if_neg c42] at H
                              exact absurd H (by simp)
                        · rw [if_neg c39] at H
                          have c39b0 : decide (97 ≤ (bt a0 x5_3)) = false := decide_eq_false c39
                          clear c39
                          by_cases c47 : 0 ≤ x4_1
                          · rw [if_pos c47] at H
                            have c47b0 := eq_true c47
                            have c47b1 : decide (0 ≤ x4_1) = true := decide_eq_true c47
                            clear c47
                            by_cases c48 : x4_1 ≤ x5_3
                            · rw [if_pos c48] at H
                              have c48b0 := eq_true c48
                              have c48b1 : decide (x4_1 ≤ x5_3) = true := decide_eq_true c48
                              clear c48
                              by_cases c49 : x5_3 ≤ (a0.size : Int)
                              · rw [if_pos c49] at H
                                have c49b0 := eq_true c49
                                have c49b1 : decide (x5_3 ≤ (a0.size : Int)) = true := decide_eq_true c49
                                clear c49
                                by_cases c50 : x3_1.length < 8796093022208
                                · rw [if_pos c50] at H
                                  have LMc50 := Aside0.mk c50
                                  clear c50
                                  obtain ⟨y179, hy179⟩ : ∃ y_ : List ByteArray, y_ = (x3_1 ++ [a0.extract (x4_1 : Int).toNat (x5_3 : Int).toNat]) := ⟨_, rfl⟩
                                  replace H : (spec_pypiRuns.l0 k3 a0 y179 x5_3) = some r := by first | (rw [hy179]; with_reducible exact H) | (have H2_ := (Option.bind_some _ _).symm.trans H; rw [hy179]; with_reducible exact H2_) | (have H2_ := (Option.bind_some _ _).symm.trans H; with_reducible exact H2_) | with_reducible exact H | (rw [hy179]; exact H) | exact H
                                  have Ny179 := Aside0.mk hy179
                                  clear hy179
                                  have H' := Aside0.mk H
                                  clear H
                                  have p38 : 0 ≤ (x5_3 : Int) := of_decide_eq_true (by first | (with_reducible assumption) | assumption)
                                  have q38 : x5_3 < (a0.size : Int) := of_decide_eq_true (by first | (with_reducible assumption) | assumption)
                                  have hx38 := bt_at a0 x5_3
                                  replace p38 := eq_true p38
                                  replace q38 := eq_true q38
                                  go_wp2_with (first | ((with_reducible refine gate_builtin (b := .append) (xs := #[.tmp 68, .tmp 73]) rfl ?_); at_builtin; refine Kd.R_append Kd.string (w0 := w) w.heap.size rfl (.tmp 68) (.tmp 73) 24 9 (.string ⟨#[]⟩) 16 rfl Try.underlying24 info9 rfl (by decide) (by omega) u3 x3_1 (a0.extract (x4_1 : Int).toNat (x5_3 : Int).toNat) [.string (a0.extract (x4_1 : Int).toNat (x5_3 : Int).toNat)] (fun _ => True) (fun _ => False) rfl rfl ?aP (fun _ hk => hk.elim) ?aF ?aO ?aB ?aS ?aL ?_; (case aP => exact rfl); (case aB => exact (by repeat (first | (with_reducible first | exact HB.out | apply below_alloc | apply pw_below_drewN | apply below_drew1) | exact HB.out))); (case aF => exact (fun _ _ => trivial)); (case aO => exact (by (with_reducible repeat (first | apply Kd.R_alloc | apply Kd.R_drewN | apply Kd.R_drew)); exact HO_3.out)); (case aS => exact (below_size (by repeat (first | (with_reducible first | exact HB.out | apply below_alloc | apply pw_below_drewN | apply below_drew1) | exact HB.out)))); (case aL => have := LMc50.out; omega); intro v180 w51 ho hb hg hat; rw [← Ny179.out] at ho; have n0_ := Aside0.mk (hb); have n1_ := Aside0.mk (ho); clear HB; clear HO_3; have HB := n0_; have HO181 := n1_; clear n0_ n1_; clear ho hb hg hat))
                                  repeat (go_quiet (first | ((with_reducible refine gate_builtin (b := .append) (xs := #[.tmp 68, .tmp 73]) rfl ?_); at_builtin; refine Kd.R_append Kd.string (w0 := w) w.heap.size rfl (.tmp 68) (.tmp 73) 24 9 (.string ⟨#[]⟩) 16 rfl Try.underlying24 info9 rfl (by decide) (by omega) u3 x3_1 (a0.extract (x4_1 : Int).toNat (x5_3 : Int).toNat) [.string (a0.extract (x4_1 : Int).toNat (x5_3 : Int).toNat)] (fun _ => True) (fun _ => False) rfl rfl ?aP (fun _ hk => hk.elim) ?aF ?aO ?aB ?aS ?aL ?_; (case aP => exact rfl); (case aB => exact (by repeat (first | (with_reducible first | exact HB.out | apply below_alloc | apply pw_below_drewN | apply below_drew1) | exact HB.out))); (case aF => exact (fun _ _ => trivial)); (case aO => exact (by (with_reducible repeat (first | apply Kd.R_alloc | apply Kd.R_drewN | apply Kd.R_drew)); exact HO_3.out)); (case aS => exact (below_size (by repeat (first | (with_reducible first | exact HB.out | apply below_alloc | apply pw_below_drewN | apply below_drew1) | exact HB.out)))); (case aL => have := LMc50.out; omega); intro v180 w51 ho hb hg hat; rw [← Ny179.out] at ho; have n0_ := Aside0.mk (hb); have n1_ := Aside0.mk (ho); clear HB; clear HO_3; have HB := n0_; have HO181 := n1_; clear n0_ n1_; clear ho hb hg hat)); try go_wp2_with (first | ((with_reducible refine gate_builtin (b := .append) (xs := #[.tmp 68, .tmp 73]) rfl ?_); at_builtin; refine Kd.R_append Kd.string (w0 := w) w.heap.size rfl (.tmp 68) (.tmp 73) 24 9 (.string ⟨#[]⟩) 16 rfl Try.underlying24 info9 rfl (by decide) (by omega) u3 x3_1 (a0.extract (x4_1 : Int).toNat (x5_3 : Int).toNat) [.string (a0.extract (x4_1 : Int).toNat (x5_3 : Int).toNat)] (fun _ => True) (fun _ => False) rfl rfl ?aP (fun _ hk => hk.elim) ?aF ?aO ?aB ?aS ?aL ?_; (case aP => exact rfl); (case aB => exact (by repeat (first | (with_reducible first | exact HB.out | apply below_alloc | apply pw_below_drewN | apply below_drew1) | exact HB.out))); (case aF => exact (fun _ _ => trivial)); (case aO => exact (by (with_reducible repeat (first | apply Kd.R_alloc | apply Kd.R_drewN | apply Kd.R_drew)); exact HO_3.out)); (case aS => exact (below_size (by repeat (first | (with_reducible first | exact HB.out | apply below_alloc | apply pw_below_drewN | apply below_drew1) | exact HB.out)))); (case aL => have := LMc50.out; omega); intro v180 w51 ho hb hg hat; rw [← Ny179.out] at ho; have n0_ := Aside0.mk (hb); have n1_ := Aside0.mk (ho); clear HB; clear HO_3; have HB := n0_; have HO181 := n1_; clear n0_ n1_; clear ho hb hg hat)))
                                  go_roundg k3
                                  case measure => have := HK1.out; have := HJ2.out; have := HK3.out; omega
                                  case rel => exact ⟨(y179), (x5_3), (by first | rfl | (simp; done) | (simp [*]; done) | (simp [bne_nil_hyb]; done) | (simp [bne_nil_hyb, *]; done)), H', ⟨by have := HK1.out; have := HJ2.out; have := HK3.out; omega⟩, ⟨by (with_reducible repeat (first | apply Kd.R_alloc | apply Kd.R_drewN | apply Kd.R_drew)); exact HO181.out⟩, ⟨by repeat (first | (with_reducible first | exact HB.out | apply below_alloc | apply pw_below_drewN | apply below_drew1) | exact HB.out)⟩⟩
                                · rw [if_neg c50] at H
                                  exact absurd H (by simp)
                              · rw [if_neg c49] at H
                                exact absurd H (by simp)
                            · rw [if_neg c48] at H
                              exact absurd H (by simp)
                          · rw [if_neg c47] at H
                            exact absurd H (by simp)
                      · rw [if_neg c37] at H
                        exact absurd H (by simp)
                    · replace c36 := Bool.eq_false_iff.mpr c36
                      subst c36
                      have H1 : (if 0 ≤ x4_1 then (if x4_1 < (a0.size : Int) then (if (bt a0 x4_1) = 45 then (if x4_1 ≤ x5_3 then (if x5_3 ≤ (a0.size : Int) then (if x3_1.length < 8796093022208 then (spec_pypiRuns.l0 k3 a0 (x3_1 ++ [a0.extract (x4_1 : Int).toNat (x5_3 : Int).toNat]) x5_3) else (none)) else (none)) else (none)) else (spec_pypiRuns.l0 k3 a0 x3_1 x5_3)) else (none)) else (none)) = some r := by rw [if_neg (show ¬ (false = true) by decide)] at H; exact H
                      clear H
                      have H := H1
                      clear H1
                      by_cases c52 : 0 ≤ x4_1
                      · rw [if_pos c52] at H
                        have c52b0 : decide (0 ≤ x4_1) = true := decide_eq_true c52
                        clear c52
                        by_cases c53 : x4_1 < (a0.size : Int)
                        · rw [if_pos c53] at H
                          have c53b0 : decide (x4_1 < (a0.size : Int)) = true := decide_eq_true c53
                          clear c53
                          by_cases c55 : (bt a0 x4_1) = 45
                          · rw [if_pos c55] at H
                            have c55b0 : ((bt a0 x4_1) == 45) = true := beq_iff_eq.mpr c55
                            have c55b1 : ((bt a0 x4_1) != 45) = false := bne_eq_false_iff_eq.mpr c55
                            clear c55
                            have c56b0 := eq_true (of_decide_eq_true (by first | (with_reducible assumption) | assumption) : 0 ≤ x4_1)
                            by_cases c57 : x4_1 ≤ x5_3
                            · rw [if_pos c57] at H
                              have c57b0 := eq_true c57
                              have c57b1 : decide (x4_1 ≤ x5_3) = true := decide_eq_true c57
                              clear c57
                              by_cases c58 : x5_3 ≤ (a0.size : Int)
                              · rw [if_pos c58] at H
                                have c58b0 := eq_true c58
                                have c58b1 : decide (x5_3 ≤ (a0.size : Int)) = true := decide_eq_true c58
                                clear c58
                                by_cases c59 : x3_1.length < 8796093022208
                                · rw [if_pos c59] at H
                                  have LMc59 := Aside0.mk c59
                                  clear c59
                                  obtain ⟨y182, hy182⟩ : ∃ y_ : List ByteArray, y_ = (x3_1 ++ [a0.extract (x4_1 : Int).toNat (x5_3 : Int).toNat]) := ⟨_, rfl⟩
                                  replace H : (spec_pypiRuns.l0 k3 a0 y182 x5_3) = some r := by first | (rw [hy182]; with_reducible exact H) | (have H2_ := (Option.bind_some _ _).symm.trans H; rw [hy182]; with_reducible exact H2_) | (have H2_ := (Option.bind_some _ _).symm.trans H; with_reducible exact H2_) | with_reducible exact H | (rw [hy182]; exact H) | exact H
                                  have Ny182 := Aside0.mk hy182
                                  clear hy182
                                  have H' := Aside0.mk H
                                  clear H
                                  have p54 : 0 ≤ (x4_1 : Int) := of_decide_eq_true (by first | (with_reducible assumption) | assumption)
                                  have q54 : x4_1 < (a0.size : Int) := of_decide_eq_true (by first | (with_reducible assumption) | assumption)
                                  have hx54 := bt_at a0 x4_1
                                  replace p54 := eq_true p54
                                  replace q54 := eq_true q54
                                  go_wp2_with (first | ((with_reducible refine gate_builtin (b := .append) (xs := #[.tmp 68, .tmp 73]) rfl ?_); at_builtin; refine Kd.R_append Kd.string (w0 := w) w.heap.size rfl (.tmp 68) (.tmp 73) 24 9 (.string ⟨#[]⟩) 16 rfl Try.underlying24 info9 rfl (by decide) (by omega) u3 x3_1 (a0.extract (x4_1 : Int).toNat (x5_3 : Int).toNat) [.string (a0.extract (x4_1 : Int).toNat (x5_3 : Int).toNat)] (fun _ => True) (fun _ => False) rfl rfl ?aP (fun _ hk => hk.elim) ?aF ?aO ?aB ?aS ?aL ?_; (case aP => exact rfl); (case aB => exact (by repeat (first | (with_reducible first | exact HB.out | apply below_alloc | apply pw_below_drewN | apply below_drew1) | exact HB.out))); (case aF => exact (fun _ _ => trivial)); (case aO => exact (by (with_reducible repeat (first | apply Kd.R_alloc | apply Kd.R_drewN | apply Kd.R_drew)); exact HO_3.out)); (case aS => exact (below_size (by repeat (first | (with_reducible first | exact HB.out | apply below_alloc | apply pw_below_drewN | apply below_drew1) | exact HB.out)))); (case aL => have := LMc59.out; omega); intro v183 w60 ho hb hg hat; rw [← Ny182.out] at ho; have n0_ := Aside0.mk (hb); have n1_ := Aside0.mk (ho); clear HB; clear HO_3; have HB := n0_; have HO184 := n1_; clear n0_ n1_; clear ho hb hg hat))
                                  repeat (go_quiet (first | ((with_reducible refine gate_builtin (b := .append) (xs := #[.tmp 68, .tmp 73]) rfl ?_); at_builtin; refine Kd.R_append Kd.string (w0 := w) w.heap.size rfl (.tmp 68) (.tmp 73) 24 9 (.string ⟨#[]⟩) 16 rfl Try.underlying24 info9 rfl (by decide) (by omega) u3 x3_1 (a0.extract (x4_1 : Int).toNat (x5_3 : Int).toNat) [.string (a0.extract (x4_1 : Int).toNat (x5_3 : Int).toNat)] (fun _ => True) (fun _ => False) rfl rfl ?aP (fun _ hk => hk.elim) ?aF ?aO ?aB ?aS ?aL ?_; (case aP => exact rfl); (case aB => exact (by repeat (first | (with_reducible first | exact HB.out | apply below_alloc | apply pw_below_drewN | apply below_drew1) | exact HB.out))); (case aF => exact (fun _ _ => trivial)); (case aO => exact (by (with_reducible repeat (first | apply Kd.R_alloc | apply Kd.R_drewN | apply Kd.R_drew)); exact HO_3.out)); (case aS => exact (below_size (by repeat (first | (with_reducible first | exact HB.out | apply below_alloc | apply pw_below_drewN | apply below_drew1) | exact HB.out)))); (case aL => have := LMc59.out; omega); intro v183 w60 ho hb hg hat; rw [← Ny182.out] at ho; have n0_ := Aside0.mk (hb); have n1_ := Aside0.mk (ho); clear HB; clear HO_3; have HB := n0_; have HO184 := n1_; clear n0_ n1_; clear ho hb hg hat)); try go_wp2_with (first | ((with_reducible refine gate_builtin (b := .append) (xs := #[.tmp 68, .tmp 73]) rfl ?_); at_builtin; refine Kd.R_append Kd.string (w0 := w) w.heap.size rfl (.tmp 68) (.tmp 73) 24 9 (.string ⟨#[]⟩) 16 rfl Try.underlying24 info9 rfl (by decide) (by omega) u3 x3_1 (a0.extract (x4_1 : Int).toNat (x5_3 : Int).toNat) [.string (a0.extract (x4_1 : Int).toNat (x5_3 : Int).toNat)] (fun _ => True) (fun _ => False) rfl rfl ?aP (fun _ hk => hk.elim) ?aF ?aO ?aB ?aS ?aL ?_; (case aP => exact rfl); (case aB => exact (by repeat (first | (with_reducible first | exact HB.out | apply below_alloc | apply pw_below_drewN | apply below_drew1) | exact HB.out))); (case aF => exact (fun _ _ => trivial)); (case aO => exact (by (with_reducible repeat (first | apply Kd.R_alloc | apply Kd.R_drewN | apply Kd.R_drew)); exact HO_3.out)); (case aS => exact (below_size (by repeat (first | (with_reducible first | exact HB.out | apply below_alloc | apply pw_below_drewN | apply below_drew1) | exact HB.out)))); (case aL => have := LMc59.out; omega); intro v183 w60 ho hb hg hat; rw [← Ny182.out] at ho; have n0_ := Aside0.mk (hb); have n1_ := Aside0.mk (ho); clear HB; clear HO_3; have HB := n0_; have HO184 := n1_; clear n0_ n1_; clear ho hb hg hat)))
                                  go_roundg k3
                                  case measure => have := HK1.out; have := HJ2.out; have := HK3.out; omega
                                  case rel => exact ⟨(y182), (x5_3), (by first | rfl | (simp; done) | (simp [*]; done) | (simp [bne_nil_hyb]; done) | (simp [bne_nil_hyb, *]; done)), H', ⟨by have := HK1.out; have := HJ2.out; have := HK3.out; omega⟩, ⟨by (with_reducible repeat (first | apply Kd.R_alloc | apply Kd.R_drewN | apply Kd.R_drew)); exact HO184.out⟩, ⟨by repeat (first | (with_reducible first | exact HB.out | apply below_alloc | apply pw_below_drewN | apply below_drew1) | exact HB.out)⟩⟩
                                · rw [if_neg c59] at H
                                  exact absurd H (by simp)
                              · rw [if_neg c58] at H
                                exact absurd H (by simp)
                            · rw [if_neg c57] at H
                              exact absurd H (by simp)
                          · rw [if_neg c55] at H
                            have c55b0 : ((bt a0 x4_1) == 45) = false := beq_eq_false_iff_ne.mpr c55
                            have c55b1 : ((bt a0 x4_1) != 45) = true := bne_iff_ne.mpr c55
                            have H' := Aside0.mk H
                            clear H
                            have p54 : 0 ≤ (x4_1 : Int) := of_decide_eq_true (by first | (with_reducible assumption) | assumption)
                            have q54 : x4_1 < (a0.size : Int) := of_decide_eq_true (by first | (with_reducible assumption) | assumption)
                            have hx54 := bt_at a0 x4_1
                            replace p54 := eq_true p54
                            replace q54 := eq_true q54
                            go_wp2
                            repeat (go_quiet (fail); try go_wp2)
                            go_roundg k3
                            case measure => have := HK1.out; have := HJ2.out; have := HK3.out; omega
                            case rel => exact ⟨(x3_1), (x5_3), (by first | rfl | (simp; done) | (simp [*]; done) | (simp [bne_nil_hyb]; done) | (simp [bne_nil_hyb, *]; done)), H', ⟨by have := HK1.out; have := HJ2.out; have := HK3.out; omega⟩, ⟨by (with_reducible repeat (first | apply Kd.R_alloc | apply Kd.R_drewN | apply Kd.R_drew)); exact HO_3.out⟩, ⟨by repeat (first | (with_reducible first | exact HB.out | apply below_alloc | apply pw_below_drewN | apply below_drew1) | exact HB.out)⟩⟩
                        · rw [if_neg c53] at H
                          exact absurd H (by simp)
                      · rw [if_neg c52] at H
                        exact absurd H (by simp)
                · rw [if_neg c10] at H
                  have c10b0 : decide (x5_3 < (a0.size : Int)) = false := decide_eq_false c10
                  clear c10
                  by_cases c61 : x6_2 = true
                  · subst c61
                    have H1 : (if 0 ≤ x4_1 then (if x4_1 ≤ x5_3 then (if x5_3 ≤ (a0.size : Int) then (if x3_1.length < 8796093022208 then (spec_pypiRuns.l0 k3 a0 (x3_1 ++ [a0.extract (x4_1 : Int).toNat (x5_3 : Int).toNat]) x5_3) else (none)) else (none)) else (none)) else (none)) = some r := by rw [if_pos rfl] at H; exact H
                    clear H
                    have H := H1
                    clear H1
                    by_cases c62 : 0 ≤ x4_1
                    · rw [if_pos c62] at H
                      have c62b0 := eq_true c62
                      have c62b1 : decide (0 ≤ x4_1) = true := decide_eq_true c62
                      clear c62
                      by_cases c63 : x4_1 ≤ x5_3
                      · rw [if_pos c63] at H
                        have c63b0 := eq_true c63
                        have c63b1 : decide (x4_1 ≤ x5_3) = true := decide_eq_true c63
                        clear c63
                        by_cases c64 : x5_3 ≤ (a0.size : Int)
                        · rw [if_pos c64] at H
                          have c64b0 := eq_true c64
                          have c64b1 : decide (x5_3 ≤ (a0.size : Int)) = true := decide_eq_true c64
                          clear c64
                          by_cases c65 : x3_1.length < 8796093022208
                          · rw [if_pos c65] at H
                            have LMc65 := Aside0.mk c65
                            clear c65
                            obtain ⟨y185, hy185⟩ : ∃ y_ : List ByteArray, y_ = (x3_1 ++ [a0.extract (x4_1 : Int).toNat (x5_3 : Int).toNat]) := ⟨_, rfl⟩
                            replace H : (spec_pypiRuns.l0 k3 a0 y185 x5_3) = some r := by first | (rw [hy185]; with_reducible exact H) | (have H2_ := (Option.bind_some _ _).symm.trans H; rw [hy185]; with_reducible exact H2_) | (have H2_ := (Option.bind_some _ _).symm.trans H; with_reducible exact H2_) | with_reducible exact H | (rw [hy185]; exact H) | exact H
                            have Ny185 := Aside0.mk hy185
                            clear hy185
                            have H' := Aside0.mk H
                            clear H
                            go_wp2_with (first | ((with_reducible refine gate_builtin (b := .append) (xs := #[.tmp 68, .tmp 73]) rfl ?_); at_builtin; refine Kd.R_append Kd.string (w0 := w) w.heap.size rfl (.tmp 68) (.tmp 73) 24 9 (.string ⟨#[]⟩) 16 rfl Try.underlying24 info9 rfl (by decide) (by omega) u3 x3_1 (a0.extract (x4_1 : Int).toNat (x5_3 : Int).toNat) [.string (a0.extract (x4_1 : Int).toNat (x5_3 : Int).toNat)] (fun _ => True) (fun _ => False) rfl rfl ?aP (fun _ hk => hk.elim) ?aF ?aO ?aB ?aS ?aL ?_; (case aP => exact rfl); (case aB => exact (by repeat (first | (with_reducible first | exact HB.out | apply below_alloc | apply pw_below_drewN | apply below_drew1) | exact HB.out))); (case aF => exact (fun _ _ => trivial)); (case aO => exact (by (with_reducible repeat (first | apply Kd.R_alloc | apply Kd.R_drewN | apply Kd.R_drew)); exact HO_3.out)); (case aS => exact (below_size (by repeat (first | (with_reducible first | exact HB.out | apply below_alloc | apply pw_below_drewN | apply below_drew1) | exact HB.out)))); (case aL => have := LMc65.out; omega); intro v186 w66 ho hb hg hat; rw [← Ny185.out] at ho; have n0_ := Aside0.mk (hb); have n1_ := Aside0.mk (ho); clear HB; clear HO_3; have HB := n0_; have HO187 := n1_; clear n0_ n1_; clear ho hb hg hat))
                            repeat (go_quiet (first | ((with_reducible refine gate_builtin (b := .append) (xs := #[.tmp 68, .tmp 73]) rfl ?_); at_builtin; refine Kd.R_append Kd.string (w0 := w) w.heap.size rfl (.tmp 68) (.tmp 73) 24 9 (.string ⟨#[]⟩) 16 rfl Try.underlying24 info9 rfl (by decide) (by omega) u3 x3_1 (a0.extract (x4_1 : Int).toNat (x5_3 : Int).toNat) [.string (a0.extract (x4_1 : Int).toNat (x5_3 : Int).toNat)] (fun _ => True) (fun _ => False) rfl rfl ?aP (fun _ hk => hk.elim) ?aF ?aO ?aB ?aS ?aL ?_; (case aP => exact rfl); (case aB => exact (by repeat (first | (with_reducible first | exact HB.out | apply below_alloc | apply pw_below_drewN | apply below_drew1) | exact HB.out))); (case aF => exact (fun _ _ => trivial)); (case aO => exact (by (with_reducible repeat (first | apply Kd.R_alloc | apply Kd.R_drewN | apply Kd.R_drew)); exact HO_3.out)); (case aS => exact (below_size (by repeat (first | (with_reducible first | exact HB.out | apply below_alloc | apply pw_below_drewN | apply below_drew1) | exact HB.out)))); (case aL => have := LMc65.out; omega); intro v186 w66 ho hb hg hat; rw [← Ny185.out] at ho; have n0_ := Aside0.mk (hb); have n1_ := Aside0.mk (ho); clear HB; clear HO_3; have HB := n0_; have HO187 := n1_; clear n0_ n1_; clear ho hb hg hat)); try go_wp2_with (first | ((with_reducible refine gate_builtin (b := .append) (xs := #[.tmp 68, .tmp 73]) rfl ?_); at_builtin; refine Kd.R_append Kd.string (w0 := w) w.heap.size rfl (.tmp 68) (.tmp 73) 24 9 (.string ⟨#[]⟩) 16 rfl Try.underlying24 info9 rfl (by decide) (by omega) u3 x3_1 (a0.extract (x4_1 : Int).toNat (x5_3 : Int).toNat) [.string (a0.extract (x4_1 : Int).toNat (x5_3 : Int).toNat)] (fun _ => True) (fun _ => False) rfl rfl ?aP (fun _ hk => hk.elim) ?aF ?aO ?aB ?aS ?aL ?_; (case aP => exact rfl); (case aB => exact (by repeat (first | (with_reducible first | exact HB.out | apply below_alloc | apply pw_below_drewN | apply below_drew1) | exact HB.out))); (case aF => exact (fun _ _ => trivial)); (case aO => exact (by (with_reducible repeat (first | apply Kd.R_alloc | apply Kd.R_drewN | apply Kd.R_drew)); exact HO_3.out)); (case aS => exact (below_size (by repeat (first | (with_reducible first | exact HB.out | apply below_alloc | apply pw_below_drewN | apply below_drew1) | exact HB.out)))); (case aL => have := LMc65.out; omega); intro v186 w66 ho hb hg hat; rw [← Ny185.out] at ho; have n0_ := Aside0.mk (hb); have n1_ := Aside0.mk (ho); clear HB; clear HO_3; have HB := n0_; have HO187 := n1_; clear n0_ n1_; clear ho hb hg hat)))
                            go_roundg k3
                            case measure => have := HK1.out; have := HJ2.out; have := HK3.out; omega
                            case rel => exact ⟨(y185), (x5_3), (by first | rfl | (simp; done) | (simp [*]; done) | (simp [bne_nil_hyb]; done) | (simp [bne_nil_hyb, *]; done)), H', ⟨by have := HK1.out; have := HJ2.out; have := HK3.out; omega⟩, ⟨by (with_reducible repeat (first | apply Kd.R_alloc | apply Kd.R_drewN | apply Kd.R_drew)); exact HO187.out⟩, ⟨by repeat (first | (with_reducible first | exact HB.out | apply below_alloc | apply pw_below_drewN | apply below_drew1) | exact HB.out)⟩⟩
                          · rw [if_neg c65] at H
                            exact absurd H (by simp)
                        · rw [if_neg c64] at H
                          exact absurd H (by simp)
                      · rw [if_neg c63] at H
                        exact absurd H (by simp)
                    · rw [if_neg c62] at H
                      exact absurd H (by simp)
                  · replace c61 := Bool.eq_false_iff.mpr c61
                    subst c61
                    have H1 : (if x7_2 = true then (if 0 ≤ x4_1 then (if x4_1 ≤ x5_3 then (if x5_3 ≤ (a0.size : Int) then (if x3_1.length < 8796093022208 then (spec_pypiRuns.l0 k3 a0 (x3_1 ++ [a0.extract (x4_1 : Int).toNat (x5_3 : Int).toNat]) x5_3) else (none)) else (none)) else (none)) else (none)) else (if 0 ≤ x4_1 then (if x4_1 < (a0.size : Int) then (if (bt a0 x4_1) = 45 then (if x4_1 ≤ x5_3 then (if x5_3 ≤ (a0.size : Int) then (if x3_1.length < 8796093022208 then (spec_pypiRuns.l0 k3 a0 (x3_1 ++ [a0.extract (x4_1 : Int).toNat (x5_3 : Int).toNat]) x5_3) else (none)) else (none)) else (none)) else (spec_pypiRuns.l0 k3 a0 x3_1 x5_3)) else (none)) else (none))) = some r := by rw [if_neg (show ¬ (false = true) by decide)] at H; exact H
                    clear H
                    have H := H1
                    clear H1
                    by_cases c67 : x7_2 = true
                    · subst c67
                      have H1 : (if 0 ≤ x4_1 then (if x4_1 ≤ x5_3 then (if x5_3 ≤ (a0.size : Int) then (if x3_1.length < 8796093022208 then (spec_pypiRuns.l0 k3 a0 (x3_1 ++ [a0.extract (x4_1 : Int).toNat (x5_3 : Int).toNat]) x5_3) else (none)) else (none)) else (none)) else (none)) = some r := by rw [if_pos rfl] at H; exact H
                      clear H
                      have H := H1
                      clear H1
                      by_cases c68 : 0 ≤ x4_1
                      · rw [if_pos c68] at H
                        have c68b0 := eq_true c68
                        have c68b1 : decide (0 ≤ x4_1) = true := decide_eq_true c68
                        clear c68
                        by_cases c69 : x4_1 ≤ x5_3
                        · rw [if_pos c69] at H
                          have c69b0 := eq_true c69
                          have c69b1 : decide (x4_1 ≤ x5_3) = true := decide_eq_true c69
                          clear c69
                          by_cases c70 : x5_3 ≤ (a0.size : Int)
                          · rw [if_pos c70] at H
                            have c70b0 := eq_true c70
                            have c70b1 : decide (x5_3 ≤ (a0.size : Int)) = true := decide_eq_true c70
                            clear c70
                            by_cases c71 : x3_1.length < 8796093022208
                            · rw [if_pos c71] at H
                              have LMc71 := Aside0.mk c71
                              clear c71
                              obtain ⟨y188, hy188⟩ : ∃ y_ : List ByteArray, y_ = (x3_1 ++ [a0.extract (x4_1 : Int).toNat (x5_3 : Int).toNat]) := ⟨_, rfl⟩
                              replace H : (spec_pypiRuns.l0 k3 a0 y188 x5_3) = some r := by first | (rw [hy188]; with_reducible exact H) | (have H2_ := (Option.bind_some _ _).symm.trans H; rw [hy188]; with_reducible exact H2_) | (have H2_ := (Option.bind_some _ _).symm.trans H; with_reducible exact H2_) | with_reducible exact H | (rw [hy188]; exact H) | exact H
                              have Ny188 := Aside0.mk hy188
                              clear hy188
                              have H' := Aside0.mk H
                              clear H
                              go_wp2_with (first | ((with_reducible refine gate_builtin (b := .append) (xs := #[.tmp 68, .tmp 73]) rfl ?_); at_builtin; refine Kd.R_append Kd.string (w0 := w) w.heap.size rfl (.tmp 68) (.tmp 73) 24 9 (.string ⟨#[]⟩) 16 rfl Try.underlying24 info9 rfl (by decide) (by omega) u3 x3_1 (a0.extract (x4_1 : Int).toNat (x5_3 : Int).toNat) [.string (a0.extract (x4_1 : Int).toNat (x5_3 : Int).toNat)] (fun _ => True) (fun _ => False) rfl rfl ?aP (fun _ hk => hk.elim) ?aF ?aO ?aB ?aS ?aL ?_; (case aP => exact rfl); (case aB => exact (by repeat (first | (with_reducible first | exact HB.out | apply below_alloc | apply pw_below_drewN | apply below_drew1) | exact HB.out))); (case aF => exact (fun _ _ => trivial)); (case aO => exact (by (with_reducible repeat (first | apply Kd.R_alloc | apply Kd.R_drewN | apply Kd.R_drew)); exact HO_3.out)); (case aS => exact (below_size (by repeat (first | (with_reducible first | exact HB.out | apply below_alloc | apply pw_below_drewN | apply below_drew1) | exact HB.out)))); (case aL => have := LMc71.out; omega); intro v189 w72 ho hb hg hat; rw [← Ny188.out] at ho; have n0_ := Aside0.mk (hb); have n1_ := Aside0.mk (ho); clear HB; clear HO_3; have HB := n0_; have HO190 := n1_; clear n0_ n1_; clear ho hb hg hat))
                              repeat (go_quiet (first | ((with_reducible refine gate_builtin (b := .append) (xs := #[.tmp 68, .tmp 73]) rfl ?_); at_builtin; refine Kd.R_append Kd.string (w0 := w) w.heap.size rfl (.tmp 68) (.tmp 73) 24 9 (.string ⟨#[]⟩) 16 rfl Try.underlying24 info9 rfl (by decide) (by omega) u3 x3_1 (a0.extract (x4_1 : Int).toNat (x5_3 : Int).toNat) [.string (a0.extract (x4_1 : Int).toNat (x5_3 : Int).toNat)] (fun _ => True) (fun _ => False) rfl rfl ?aP (fun _ hk => hk.elim) ?aF ?aO ?aB ?aS ?aL ?_; (case aP => exact rfl); (case aB => exact (by repeat (first | (with_reducible first | exact HB.out | apply below_alloc | apply pw_below_drewN | apply below_drew1) | exact HB.out))); (case aF => exact (fun _ _ => trivial)); (case aO => exact (by (with_reducible repeat (first | apply Kd.R_alloc | apply Kd.R_drewN | apply Kd.R_drew)); exact HO_3.out)); (case aS => exact (below_size (by repeat (first | (with_reducible first | exact HB.out | apply below_alloc | apply pw_below_drewN | apply below_drew1) | exact HB.out)))); (case aL => have := LMc71.out; omega); intro v189 w72 ho hb hg hat; rw [← Ny188.out] at ho; have n0_ := Aside0.mk (hb); have n1_ := Aside0.mk (ho); clear HB; clear HO_3; have HB := n0_; have HO190 := n1_; clear n0_ n1_; clear ho hb hg hat)); try go_wp2_with (first | ((with_reducible refine gate_builtin (b := .append) (xs := #[.tmp 68, .tmp 73]) rfl ?_); at_builtin; refine Kd.R_append Kd.string (w0 := w) w.heap.size rfl (.tmp 68) (.tmp 73) 24 9 (.string ⟨#[]⟩) 16 rfl Try.underlying24 info9 rfl (by decide) (by omega) u3 x3_1 (a0.extract (x4_1 : Int).toNat (x5_3 : Int).toNat) [.string (a0.extract (x4_1 : Int).toNat (x5_3 : Int).toNat)] (fun _ => True) (fun _ => False) rfl rfl ?aP (fun _ hk => hk.elim) ?aF ?aO ?aB ?aS ?aL ?_; (case aP => exact rfl); (case aB => exact (by repeat (first | (with_reducible first | exact HB.out | apply below_alloc | apply pw_below_drewN | apply below_drew1) | exact HB.out))); (case aF => exact (fun _ _ => trivial)); (case aO => exact (by (with_reducible repeat (first | apply Kd.R_alloc | apply Kd.R_drewN | apply Kd.R_drew)); exact HO_3.out)); (case aS => exact (below_size (by repeat (first | (with_reducible first | exact HB.out | apply below_alloc | apply pw_below_drewN | apply below_drew1) | exact HB.out)))); (case aL => have := LMc71.out; omega); intro v189 w72 ho hb hg hat; rw [← Ny188.out] at ho; have n0_ := Aside0.mk (hb); have n1_ := Aside0.mk (ho); clear HB; clear HO_3; have HB := n0_; have HO190 := n1_; clear n0_ n1_; clear ho hb hg hat)))
                              go_roundg k3
                              case measure => have := HK1.out; have := HJ2.out; have := HK3.out; omega
                              case rel => exact ⟨(y188), (x5_3), (by first | rfl | (simp; done) | (simp [*]; done) | (simp [bne_nil_hyb]; done) | (simp [bne_nil_hyb, *]; done)), H', ⟨by have := HK1.out; have := HJ2.out; have := HK3.out; omega⟩, ⟨by (with_reducible repeat (first | apply Kd.R_alloc | apply Kd.R_drewN | apply Kd.R_drew)); exact HO190.out⟩, ⟨by repeat (first | (with_reducible first | exact HB.out | apply below_alloc | apply pw_below_drewN | apply below_drew1) | exact HB.out)⟩⟩
                            · rw [if_neg c71] at H
                              exact absurd H (by simp)
                          · rw [if_neg c70] at H
                            exact absurd H (by simp)
                        · rw [if_neg c69] at H
                          exact absurd H (by simp)
                      · rw [if_neg c68] at H
                        exact absurd H (by simp)
                    · replace c67 := Bool.eq_false_iff.mpr c67
                      subst c67
                      have H1 : (if 0 ≤ x4_1 then (if x4_1 < (a0.size : Int) then (if (bt a0 x4_1) = 45 then (if x4_1 ≤ x5_3 then (if x5_3 ≤ (a0.size : Int) then (if x3_1.length < 8796093022208 then (spec_pypiRuns.l0 k3 a0 (x3_1 ++ [a0.extract (x4_1 : Int).toNat (x5_3 : Int).toNat]) x5_3) else (none)) else (none)) else (none)) else (spec_pypiRuns.l0 k3 a0 x3_1 x5_3)) else (none)) else (none)) = some r := by rw [if_neg (show ¬ (false = true) by decide)] at H; exact H
                      clear H
                      have H := H1
                      clear H1
                      by_cases c73 : 0 ≤ x4_1
                      · rw [if_pos c73] at H
                        have c73b0 : decide (0 ≤ x4_1) = true := decide_eq_true c73
                        clear c73
                        by_cases c74 : x4_1 < (a0.size : Int)
                        · rw [if_pos c74] at H
                          have c74b0 : decide (x4_1 < (a0.size : Int)) = true := decide_eq_true c74
                          clear c74
                          by_cases c76 : (bt a0 x4_1) = 45
                          · rw [if_pos c76] at H
                            have c76b0 : ((bt a0 x4_1) == 45) = true := beq_iff_eq.mpr c76
                            have c76b1 : ((bt a0 x4_1) != 45) = false := bne_eq_false_iff_eq.mpr c76
                            clear c76
                            have c77b0 := eq_true (of_decide_eq_true (by first | (with_reducible assumption) | assumption) : 0 ≤ x4_1)
                            by_cases c78 : x4_1 ≤ x5_3
                            · rw [if_pos c78] at H
                              have c78b0 := eq_true c78
                              have c78b1 : decide (x4_1 ≤ x5_3) = true := decide_eq_true c78
                              clear c78
                              by_cases c79 : x5_3 ≤ (a0.size : Int)
                              · rw [if_pos c79] at H
                                have c79b0 := eq_true c79
                                have c79b1 : decide (x5_3 ≤ (a0.size : Int)) = true := decide_eq_true c79
                                clear c79
                                by_cases c80 : x3_1.length < 8796093022208
                                · rw [if_pos c80] at H
                                  have LMc80 := Aside0.mk c80
                                  clear c80
                                  obtain ⟨y191, hy191⟩ : ∃ y_ : List ByteArray, y_ = (x3_1 ++ [a0.extract (x4_1 : Int).toNat (x5_3 : Int).toNat]) := ⟨_, rfl⟩
                                  replace H : (spec_pypiRuns.l0 k3 a0 y191 x5_3) = some r := by first | (rw [hy191]; with_reducible exact H) | (have H2_ := (Option.bind_some _ _).symm.trans H; rw [hy191]; with_reducible exact H2_) | (have H2_ := (Option.bind_some _ _).symm.trans H; with_reducible exact H2_) | with_reducible exact H | (rw [hy191]; exact H) | exact H
                                  have Ny191 := Aside0.mk hy191
                                  clear hy191
                                  have H' := Aside0.mk H
                                  clear H
                                  have p75 : 0 ≤ (x4_1 : Int) := of_decide_eq_true (by first | (with_reducible assumption) | assumption)
                                  have q75 : x4_1 < (a0.size : Int) := of_decide_eq_true (by first | (with_reducible assumption) | assumption)
                                  have hx75 := bt_at a0 x4_1
                                  replace p75 := eq_true p75
                                  replace q75 := eq_true q75
                                  go_wp2_with (first | ((with_reducible refine gate_builtin (b := .append) (xs := #[.tmp 68, .tmp 73]) rfl ?_); at_builtin; refine Kd.R_append Kd.string (w0 := w) w.heap.size rfl (.tmp 68) (.tmp 73) 24 9 (.string ⟨#[]⟩) 16 rfl Try.underlying24 info9 rfl (by decide) (by omega) u3 x3_1 (a0.extract (x4_1 : Int).toNat (x5_3 : Int).toNat) [.string (a0.extract (x4_1 : Int).toNat (x5_3 : Int).toNat)] (fun _ => True) (fun _ => False) rfl rfl ?aP (fun _ hk => hk.elim) ?aF ?aO ?aB ?aS ?aL ?_; (case aP => exact rfl); (case aB => exact (by repeat (first | (with_reducible first | exact HB.out | apply below_alloc | apply pw_below_drewN | apply below_drew1) | exact HB.out))); (case aF => exact (fun _ _ => trivial)); (case aO => exact (by (with_reducible repeat (first | apply Kd.R_alloc | apply Kd.R_drewN | apply Kd.R_drew)); exact HO_3.out)); (case aS => exact (below_size (by repeat (first | (with_reducible first | exact HB.out | apply below_alloc | apply pw_below_drewN | apply below_drew1) | exact HB.out)))); (case aL => have := LMc80.out; omega); intro v192 w81 ho hb hg hat; rw [← Ny191.out] at ho; have n0_ := Aside0.mk (hb); have n1_ := Aside0.mk (ho); clear HB; clear HO_3; have HB := n0_; have HO193 := n1_; clear n0_ n1_; clear ho hb hg hat))
                                  repeat (go_quiet (first | ((with_reducible refine gate_builtin (b := .append) (xs := #[.tmp 68, .tmp 73]) rfl ?_); at_builtin; refine Kd.R_append Kd.string (w0 := w) w.heap.size rfl (.tmp 68) (.tmp 73) 24 9 (.string ⟨#[]⟩) 16 rfl Try.underlying24 info9 rfl (by decide) (by omega) u3 x3_1 (a0.extract (x4_1 : Int).toNat (x5_3 : Int).toNat) [.string (a0.extract (x4_1 : Int).toNat (x5_3 : Int).toNat)] (fun _ => True) (fun _ => False) rfl rfl ?aP (fun _ hk => hk.elim) ?aF ?aO ?aB ?aS ?aL ?_; (case aP => exact rfl); (case aB => exact (by repeat (first | (with_reducible first | exact HB.out | apply below_alloc | apply pw_below_drewN | apply below_drew1) | exact HB.out))); (case aF => exact (fun _ _ => trivial)); (case aO => exact (by (with_reducible repeat (first | apply Kd.R_alloc | apply Kd.R_drewN | apply Kd.R_drew)); exact HO_3.out)); (case aS => exact (below_size (by repeat (first | (with_reducible first | exact HB.out | apply below_alloc | apply pw_below_drewN | apply below_drew1) | exact HB.out)))); (case aL => have := LMc80.out; omega); intro v192 w81 ho hb hg hat; rw [← Ny191.out] at ho; have n0_ := Aside0.mk (hb); have n1_ := Aside0.mk (ho); clear HB; clear HO_3; have HB := n0_; have HO193 := n1_; clear n0_ n1_; clear ho hb hg hat)); try go_wp2_with (first | ((with_reducible refine gate_builtin (b := .append) (xs := #[.tmp 68, .tmp 73]) rfl ?_); at_builtin; refine Kd.R_append Kd.string (w0 := w) w.heap.size rfl (.tmp 68) (.tmp 73) 24 9 (.string ⟨#[]⟩) 16 rfl Try.underlying24 info9 rfl (by decide) (by omega) u3 x3_1 (a0.extract (x4_1 : Int).toNat (x5_3 : Int).toNat) [.string (a0.extract (x4_1 : Int).toNat (x5_3 : Int).toNat)] (fun _ => True) (fun _ => False) rfl rfl ?aP (fun _ hk => hk.elim) ?aF ?aO ?aB ?aS ?aL ?_; (case aP => exact rfl); (case aB => exact (by repeat (first | (with_reducible first | exact HB.out | apply below_alloc | apply pw_below_drewN | apply below_drew1) | exact HB.out))); (case aF => exact (fun _ _ => trivial)); (case aO => exact (by (with_reducible repeat (first | apply Kd.R_alloc | apply Kd.R_drewN | apply Kd.R_drew)); exact HO_3.out)); (case aS => exact (below_size (by repeat (first | (with_reducible first | exact HB.out | apply below_alloc | apply pw_below_drewN | apply below_drew1) | exact HB.out)))); (case aL => have := LMc80.out; omega); intro v192 w81 ho hb hg hat; rw [← Ny191.out] at ho; have n0_ := Aside0.mk (hb); have n1_ := Aside0.mk (ho); clear HB; clear HO_3; have HB := n0_; have HO193 := n1_; clear n0_ n1_; clear ho hb hg hat)))
                                  go_roundg k3
                                  case measure => have := HK1.out; have := HJ2.out; have := HK3.out; omega
                                  case rel => exact ⟨(y191), (x5_3), (by first | rfl | (simp; done) | (simp [*]; done) | (simp [bne_nil_hyb]; done) | (simp [bne_nil_hyb, *]; done)), H', ⟨by have := HK1.out; have := HJ2.out; have := HK3.out; omega⟩, ⟨by (with_reducible repeat (first | apply Kd.R_alloc | apply Kd.R_drewN | apply Kd.R_drew)); exact HO193.out⟩, ⟨by repeat (first | (with_reducible first | exact HB.out | apply below_alloc | apply pw_below_drewN | apply below_drew1) | exact HB.out)⟩⟩
                                · rw [if_neg c80] at H
                                  exact absurd H (by simp)
                              · rw [if_neg c79] at H
                                exact absurd H (by simp)
                            · rw [if_neg c78] at H
                              exact absurd H (by simp)
                          · rw [if_neg c76] at H
                            have c76b0 : ((bt a0 x4_1) == 45) = false := beq_eq_false_iff_ne.mpr c76
                            have c76b1 : ((bt a0 x4_1) != 45) = true := bne_iff_ne.mpr c76
                            have H' := Aside0.mk H
                            clear H
                            have p75 : 0 ≤ (x4_1 : Int) := of_decide_eq_true (by first | (with_reducible assumption) | assumption)
                            have q75 : x4_1 < (a0.size : Int) := of_decide_eq_true (by first | (with_reducible assumption) | assumption)
                            have hx75 := bt_at a0 x4_1
                            replace p75 := eq_true p75
                            replace q75 := eq_true q75
                            go_wp2
                            repeat (go_quiet (fail); try go_wp2)
                            go_roundg k3
                            case measure => have := HK1.out; have := HJ2.out; have := HK3.out; omega
                            case rel => exact ⟨(x3_1), (x5_3), (by first | rfl | (simp; done) | (simp [*]; done) | (simp [bne_nil_hyb]; done) | (simp [bne_nil_hyb, *]; done)), H', ⟨by have := HK1.out; have := HJ2.out; have := HK3.out; omega⟩, ⟨by (with_reducible repeat (first | apply Kd.R_alloc | apply Kd.R_drewN | apply Kd.R_drew)); exact HO_3.out⟩, ⟨by repeat (first | (with_reducible first | exact HB.out | apply below_alloc | apply pw_below_drewN | apply below_drew1) | exact HB.out)⟩⟩
                        · rw [if_neg c74] at H
                          exact absurd H (by simp)
                      · rw [if_neg c73] at H
                        exact absurd H (by simp)
      · rw [if_neg c2] at H
        have c2b0 : decide (x4_1 < (a0.size : Int)) = false := decide_eq_false c2
        clear c2
        obtain rfl := Option.some.inj H
        go_wp2
        repeat (go_quiet (fail); try go_wp2)
        go_ret
        exact ⟨_, by first | rfl | (simp [errW_none, errW_some] <;> rfl) | (simp [*, errW_none, errW_some] <;> rfl) | (simp [bne_nil_hyb]; done), by (with_reducible repeat (first | apply Kd.R_alloc | apply Kd.R_drewN | apply Kd.R_drew)); exact HO_3.out, by repeat (first | (with_reducible first | exact HB.out | apply below_alloc | apply pw_below_drewN | apply below_drew1) | exact HB.out)⟩

end Go.Proofs.Yteffbgjfhbgooaa.Q
