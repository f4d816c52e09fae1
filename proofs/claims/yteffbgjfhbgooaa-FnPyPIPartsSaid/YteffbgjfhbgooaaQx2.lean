/- Proved here: each Go function that is named in this text, called as its theorem 'calls' says, returns what its Lean function 'f' tells, and of the memory that was there nothing is changed (a row of a law: the law returns true). Conditions: those that stand in each theorem; where 'f' tells none, nothing is said. Laid by a program of this seat's prover out of the translation; Lean checks it. -/
import Derived.Test.YteffbgjfhbgooaaQx0
import Derived.Test.YteffbgjfhbgooaaQx1
namespace Go.Proofs.Yteffbgjfhbgooaa.Q
open Go.RowKit Go.Proofs.YteffbgjfhbgooaaH Go.Proofs.YteffbgjfhbgooaaW.PrintWords Go.Proofs.YteffbgjfhbgooaaW.PrintLast Go.Proofs.YteffbgjfhbgooaaW.PrintMore
attribute [local go_sem] max2_int min2_int max_two min_two max_three min_three max_four min_four   -- for this text's walks alone
set_option linter.unusedVariables false
set_option linter.unusedSimpArgs false

/-! ### semantic_zzLegacyParts: function 19 -/
mutual
def semantic_zzLegacyParts.l0 : Nat → ByteArray → List ByteArray → Int → Option (List ByteArray)
  | 0, _, _, _ => none
  | k + 1, x0, x3, x4 => if x4 < (x0.size : Int) then ((semantic_zzDigits.f k x0 x4).bind fun t104 => (if t104 = x4 then (semantic_zzLegacyParts.l1 k x0 x3 x4 t104) else (semantic_zzLegacyParts.j2 k x0 x3 x4 t104))) else (some x3)
def semantic_zzLegacyParts.j2 : Nat → ByteArray → List ByteArray → Int → Int → Option (List ByteArray)
  | 0, _, _, _, _ => none
  | k + 1, x0, x3, x4, x5 => if x5 = x4 then (if 0 ≤ x4 then (if x4 < (x0.size : Int) then (if (bt x0 x4) = 46 then (semantic_zzLegacyParts.j3 k x0 x3 x4 x5 true) else (semantic_zzLegacyParts.j3 k x0 x3 x4 x5 ((bt x0 x4) == 45))) else (none)) else (none)) else (semantic_zzLegacyParts.j3 k x0 x3 x4 x5 false)
def semantic_zzLegacyParts.j3 : Nat → ByteArray → List ByteArray → Int → Int → Bool → Option (List ByteArray)
  | 0, _, _, _, _, _ => none
  | k + 1, x0, x3, x4, x5, x48 => if x48 = true then (if (wrap64 (x5 + 1)) = x4 then (semantic_zzLegacyParts.l0 k x0 x3 (wrap64 (x4 + 1))) else (if 0 ≤ x4 then (if x4 ≤ (wrap64 (x5 + 1)) then (if (wrap64 (x5 + 1)) ≤ (x0.size : Int) then (if x3.length < 8796093022208 then (semantic_zzLegacyParts.l0 k x0 (x3 ++ [x0.extract (x4 : Int).toNat ((wrap64 (x5 + 1)) : Int).toNat]) (wrap64 (x5 + 1))) else (none)) else (none)) else (none)) else (none))) else (if x5 = x4 then (semantic_zzLegacyParts.l0 k x0 x3 (wrap64 (x4 + 1))) else (if 0 ≤ x4 then (if x4 ≤ x5 then (if x5 ≤ (x0.size : Int) then (if x3.length < 8796093022208 then (semantic_zzLegacyParts.l0 k x0 (x3 ++ [x0.extract (x4 : Int).toNat (x5 : Int).toNat]) x5) else (none)) else (none)) else (none)) else (none)))
def semantic_zzLegacyParts.l1 : Nat → ByteArray → List ByteArray → Int → Int → Option (List ByteArray)
  | 0, _, _, _, _ => none
  | k + 1, x0, x3, x4, x5 => if x5 < (x0.size : Int) then (if 0 ≤ x5 then (if (bt x0 x5) ≥ 97 then (if (bt x0 x5) ≤ 122 then (semantic_zzLegacyParts.l1 k x0 x3 x4 (wrap64 (x5 + 1))) else (semantic_zzLegacyParts.j2 k x0 x3 x4 x5)) else (semantic_zzLegacyParts.j2 k x0 x3 x4 x5)) else (none)) else (semantic_zzLegacyParts.j2 k x0 x3 x4 x5)
end
def semantic_zzLegacyParts.f (k : Nat) (a0 : ByteArray) : Option (List ByteArray) := semantic_zzLegacyParts.l0 k a0 ([] : List ByteArray) 0
theorem semantic_zzLegacyParts.mono_l : ∀ k, (∀ y0 y1 y2, LeO (semantic_zzLegacyParts.l0 k y0 y1 y2) (semantic_zzLegacyParts.l0 (k + 1) y0 y1 y2)) ∧ (∀ y0 y1 y2 y3, LeO (semantic_zzLegacyParts.j2 k y0 y1 y2 y3) (semantic_zzLegacyParts.j2 (k + 1) y0 y1 y2 y3)) ∧ (∀ y0 y1 y2 y3 y4, LeO (semantic_zzLegacyParts.j3 k y0 y1 y2 y3 y4) (semantic_zzLegacyParts.j3 (k + 1) y0 y1 y2 y3 y4)) ∧ (∀ y0 y1 y2 y3, LeO (semantic_zzLegacyParts.l1 k y0 y1 y2 y3) (semantic_zzLegacyParts.l1 (k + 1) y0 y1 y2 y3))
  | 0 => ⟨fun _ _ _ r h => by simp [semantic_zzLegacyParts.l0] at h, fun _ _ _ _ r h => by simp [semantic_zzLegacyParts.j2] at h, fun _ _ _ _ _ r h => by simp [semantic_zzLegacyParts.j3] at h, fun _ _ _ _ r h => by simp [semantic_zzLegacyParts.l1] at h⟩
  | k + 1 => by
    obtain ⟨ih0, ih1, ih2, ih3⟩ := semantic_zzLegacyParts.mono_l k
    refine ⟨?_, ?_, ?_, ?_⟩
    · intro y0 y1 y2
      unfold semantic_zzLegacyParts.l0
      repeat' first
      | (with_reducible exact ih0 _ _ _)
      | (with_reducible exact ih1 _ _ _ _)
      | (with_reducible exact ih2 _ _ _ _ _)
      | (with_reducible exact ih3 _ _ _ _)
      | (with_reducible exact semantic_zzDigits.mono _ _ _)
      | (with_reducible exact LeO.refl _)
      | (with_reducible exact LeO.none _)
      | (with_reducible refine LeO.ite ?_ ?_)
      | (with_reducible refine LeO.bind ?_ (fun _ => ?_))
      | exact ih0 _ _ _
      | exact ih1 _ _ _ _
      | exact ih2 _ _ _ _ _
      | exact ih3 _ _ _ _
      | exact semantic_zzDigits.mono _ _ _
      | exact LeO.none _
      | refine LeO.ite ?_ ?_
      | refine LeO.bind ?_ (fun _ => ?_)
    · intro y0 y1 y2 y3
      unfold semantic_zzLegacyParts.j2
      repeat' first
      | (with_reducible exact ih0 _ _ _)
      | (with_reducible exact ih1 _ _ _ _)
      | (with_reducible exact ih2 _ _ _ _ _)
      | (with_reducible exact ih3 _ _ _ _)
      | (with_reducible exact semantic_zzDigits.mono _ _ _)
      | (with_reducible exact LeO.refl _)
      | (with_reducible exact LeO.none _)
      | (with_reducible refine LeO.ite ?_ ?_)
      | (with_reducible refine LeO.bind ?_ (fun _ => ?_))
      | exact ih0 _ _ _
      | exact ih1 _ _ _ _
      | exact ih2 _ _ _ _ _
      | exact ih3 _ _ _ _
      | exact semantic_zzDigits.mono _ _ _
      | exact LeO.none _
      | refine LeO.ite ?_ ?_
      | refine LeO.bind ?_ (fun _ => ?_)
    · intro y0 y1 y2 y3 y4
      unfold semantic_zzLegacyParts.j3
      repeat' first
      | (with_reducible exact ih0 _ _ _)
      | (with_reducible exact ih1 _ _ _ _)
      | (with_reducible exact ih2 _ _ _ _ _)
      | (with_reducible exact ih3 _ _ _ _)
      | (with_reducible exact semantic_zzDigits.mono _ _ _)
      | (with_reducible exact LeO.refl _)
      | (with_reducible exact LeO.none _)
      | (with_reducible refine LeO.ite ?_ ?_)
      | (with_reducible refine LeO.bind ?_ (fun _ => ?_))
      | exact ih0 _ _ _
      | exact ih1 _ _ _ _
      | exact ih2 _ _ _ _ _
      | exact ih3 _ _ _ _
      | exact semantic_zzDigits.mono _ _ _
      | exact LeO.none _
      | refine LeO.ite ?_ ?_
      | refine LeO.bind ?_ (fun _ => ?_)
    · intro y0 y1 y2 y3
      unfold semantic_zzLegacyParts.l1
      repeat' first
      | (with_reducible exact ih0 _ _ _)
      | (with_reducible exact ih1 _ _ _ _)
      | (with_reducible exact ih2 _ _ _ _ _)
      | (with_reducible exact ih3 _ _ _ _)
      | (with_reducible exact semantic_zzDigits.mono _ _ _)
      | (with_reducible exact LeO.refl _)
      | (with_reducible exact LeO.none _)
      | (with_reducible refine LeO.ite ?_ ?_)
      | (with_reducible refine LeO.bind ?_ (fun _ => ?_))
      | exact ih0 _ _ _
      | exact ih1 _ _ _ _
      | exact ih2 _ _ _ _ _
      | exact ih3 _ _ _ _
      | exact semantic_zzDigits.mono _ _ _
      | exact LeO.none _
      | refine LeO.ite ?_ ?_
      | refine LeO.bind ?_ (fun _ => ?_)
theorem semantic_zzLegacyParts.mono : ∀ a0 k, LeO (semantic_zzLegacyParts.f k a0) (semantic_zzLegacyParts.f (k + 1) a0) := by
  intro a0 k
  obtain ⟨ih0, ih1, ih2, ih3⟩ := semantic_zzLegacyParts.mono_l k
  unfold semantic_zzLegacyParts.f
  repeat' first
      | (with_reducible exact ih0 _ _ _)
      | (with_reducible exact ih1 _ _ _ _)
      | (with_reducible exact ih2 _ _ _ _ _)
      | (with_reducible exact ih3 _ _ _ _)
      | (with_reducible exact semantic_zzDigits.mono _ _ _)
      | (with_reducible exact LeO.refl _)
      | (with_reducible exact LeO.none _)
      | (with_reducible refine LeO.ite ?_ ?_)
      | (with_reducible refine LeO.bind ?_ (fun _ => ?_))
      | exact ih0 _ _ _
      | exact ih1 _ _ _ _
      | exact ih2 _ _ _ _ _
      | exact ih3 _ _ _ _
      | exact semantic_zzDigits.mono _ _ _
      | exact LeO.none _
      | refine LeO.ite ?_ ?_
      | refine LeO.bind ?_ (fun _ => ?_)
set_option maxHeartbeats 8000000 in
set_option maxRecDepth 100000 in
theorem semantic_zzLegacyParts.calls (k : Nat) (a0 : ByteArray) (r : List ByteArray) (w : World) (h : semantic_zzLegacyParts.f k a0 = some r) :
    Calls Try.prog 19 #[.string a0] w fun e w' => ∃ v0_ : Value, e = .returned (v0_) ∧ Kd.R Kd.string 9 w' w.heap.size (fun _ => True) v0_ r ∧ Below w.heap.size w w' := by
  have HB := Aside0.mk (Below.refl w.heap.size w)
  have H : (semantic_zzLegacyParts.l0 k a0 ([] : List ByteArray) 0) = some r := h
  clear h
  have H' := Aside0.mk H
  clear H
  go_enter Try.func19, Try.ntmps19
  go_wp2
  (try simp only [Act.put, List.setIfInBounds_toArray, List.set_cons_zero, List.set_cons_succ])
  go_loopg [3, 4] k (fun kq v3 v4 w' => ∃ (x3_1 : List ByteArray) (x4_1 : Int), v4 = .int .i64 x4_1 ∧ Aside0 (semantic_zzLegacyParts.l0 kq a0 x3_1 x4_1 = some r) ∧ Aside0 (kq ≤ k) ∧ Aside0 (Kd.R Kd.string 9 w' w.heap.size (fun _ => True) v3 x3_1) ∧ Aside0 (Below w.heap.size w w'))
  case atStart => exact ⟨(([] : List ByteArray)), (0), (by first | rfl | (simp; done) | (simp [*]; done) | (simp [bne_nil_hyb]; done) | (simp [bne_nil_hyb, *]; done)), H', ⟨Nat.le_refl _⟩, ⟨by first | exact Kd.R_nil _ _ _ _ _ | exact Kd.N_nil _ _ _ _ _ | exact Kd.V_nil _ _ _ _ _ | exact Kd.Q_nil _ _ _ _ _ | exact Kd.S_nil _ _ _ _ _⟩, ⟨by repeat (first | (with_reducible first | exact HB.out | apply below_alloc | apply pw_below_drewN | apply below_drew1) | exact HB.out)⟩⟩
  case round =>
    clear H'
    try clear c1
    obtain ⟨x3_1, x4_1, rfl, HA, HK1, HO_3, HB⟩ := hrel
    cases gk with
    | zero => exact absurd HA.out (by simp [semantic_zzLegacyParts.l0])
    | succ k1 =>
      have H := HA.out
      clear HA
      simp only [semantic_zzLegacyParts.l0] at H
      by_cases c2 : x4_1 < (a0.size : Int)
      · rw [if_pos c2] at H
        have c2b0 : decide (x4_1 < (a0.size : Int)) = true := decide_eq_true c2
        clear c2
        replace H := Option.bind_eq_some_iff.mp H
        obtain ⟨t104, A30, H⟩ := H
        replace H : (if t104 = x4_1 then (semantic_zzLegacyParts.l1 k1 a0 x3_1 x4_1 t104) else (semantic_zzLegacyParts.j2 k1 a0 x3_1 x4_1 t104)) = some r := H
        have A3 := Aside0.mk A30
        clear A30
        have HC4 := Aside0.mk H
        clear H
        go_upto_if 15 with (first | ((with_reducible refine gate_callee (f := 23) rfl ?_); refine goesL_ (some 12) rfl rfl Try.func23 (by kernel_rfl) rfl #[.string a0, .int .i64 x4_1] rfl (by (try simp only [List.map_toArray, List.map_cons, List.map_nil]); first | done | rfl | (simp only [List.length_drop, List.length_take]; rfl)) ?_; (with_reducible refine (semantic_zzDigits.calls k1 a0 x4_1 t104 _ A3.out).mono ?_); rintro e w' ⟨rfl, ⟨nd, rfl⟩⟩; refine ⟨_, rfl, ?_⟩))
        (try simp only [Act.put, List.setIfInBounds_toArray, List.set_cons_zero, List.set_cons_succ])
        go_cut [5, 15] (fun v5 v15 wc => ∃ (kq : Nat) (x5_3 : Int), v5 = .int .i64 x5_3 ∧ Aside0 (semantic_zzLegacyParts.j2 kq a0 x3_1 x4_1 x5_3 = some r) ∧ Aside0 (kq ≤ k1) ∧ Aside0 (Kd.R Kd.string 9 wc w.heap.size (fun _ => True) u3 x3_1) ∧ Aside0 (Below w.heap.size w wc))
        case first =>
          have H := HC4.out
          clear HC4
          by_cases c5 : t104 = x4_1
          · rw [if_pos c5] at H
            have c5b0 : (t104 == x4_1) = true := beq_iff_eq.mpr c5
            have c5b1 : (t104 != x4_1) = false := bne_eq_false_iff_eq.mpr c5
            clear c5
            (first | rw [c5b0] | (simp only [i64_w, i32_w]; rw [c5b0]) | skip)
            have H' := Aside0.mk H
            clear H
            go_wp2
            (try simp only [Act.put, List.setIfInBounds_toArray, List.set_cons_zero, List.set_cons_succ])
            go_loopg [5] k1 (fun kq v5 w' => ∃ (x5_2 : Int), v5 = .int .i64 x5_2 ∧ Aside0 (semantic_zzLegacyParts.l1 kq a0 x3_1 x4_1 x5_2 = some r) ∧ Aside0 (kq ≤ k1) ∧ Aside0 (Kd.R Kd.string 9 w' w.heap.size (fun _ => True) u3 x3_1) ∧ Aside0 (Below w.heap.size w w'))
            case atStart => exact ⟨(t104), (by first | rfl | (simp; done) | (simp [*]; done) | (simp [bne_nil_hyb]; done) | (simp [bne_nil_hyb, *]; done)), H', ⟨Nat.le_refl _⟩, ⟨by (with_reducible repeat (first | apply Kd.R_alloc | apply Kd.R_drewN | apply Kd.R_drew)); exact HO_3.out⟩, ⟨by repeat (first | (with_reducible first | exact HB.out | apply below_alloc | apply pw_below_drewN | apply below_drew1) | exact HB.out)⟩⟩
            case round =>
              clear H'
              try clear c1
              try clear c2
              try clear c2b0
              try clear p2
              try clear c5
              try clear c5b0
              try clear c5b1
              obtain ⟨x5_2, rfl, HA, HK2, HO_3, HB⟩ := hrel
              cases gk with
              | zero => exact absurd HA.out (by simp [semantic_zzLegacyParts.l1])
              | succ k2 =>
                have H := HA.out
                clear HA
                simp only [semantic_zzLegacyParts.l1] at H
                by_cases c6 : x5_2 < (a0.size : Int)
                · rw [if_pos c6] at H
                  have c6b0 : decide (x5_2 < (a0.size : Int)) = true := decide_eq_true c6
                  clear c6
                  by_cases c7 : 0 ≤ x5_2
                  · rw [if_pos c7] at H
                    have c7b0 : decide (0 ≤ x5_2) = true := decide_eq_true c7
                    clear c7
                    by_cases c9 : (bt a0 x5_2) ≥ 97
                    · rw [if_pos c9] at H
                      have c9b0 : decide (97 ≤ (bt a0 x5_2)) = true := decide_eq_true c9
                      clear c9
                      by_cases c11 : (bt a0 x5_2) ≤ 122
                      · rw [if_pos c11] at H
                        have c11b0 : decide ((bt a0 x5_2) ≤ 122) = true := decide_eq_true c11
                        clear c11
                        have H' := Aside0.mk H
                        clear H
                        have p8 : 0 ≤ (x5_2 : Int) := of_decide_eq_true (by first | (with_reducible assumption) | assumption)
                        have q8 : x5_2 < (a0.size : Int) := of_decide_eq_true (by first | (with_reducible assumption) | assumption)
                        have hx8 := bt_at a0 x5_2
                        replace p8 := eq_true p8
                        replace q8 := eq_true q8
                        have p10 : 0 ≤ (x5_2 : Int) := of_decide_eq_true (by first | (with_reducible assumption) | assumption)
                        have q10 : x5_2 < (a0.size : Int) := of_decide_eq_true (by first | (with_reducible assumption) | assumption)
                        have hx10 := bt_at a0 x5_2
                        replace p10 := eq_true p10
                        replace q10 := eq_true q10
                        go_wp2
                        go_roundg k2
                        case measure => have := HK1.out; have := HK2.out; omega
                        case rel => exact ⟨(wrap64 (x5_2 + 1)), (by first | rfl | (simp; done) | (simp [*]; done) | (simp [bne_nil_hyb]; done) | (simp [bne_nil_hyb, *]; done)), H', ⟨by have := HK1.out; have := HK2.out; omega⟩, ⟨by (with_reducible repeat (first | apply Kd.R_alloc | apply Kd.R_drewN | apply Kd.R_drew)); exact HO_3.out⟩, ⟨by repeat (first | (with_reducible first | exact HB.out | apply below_alloc | apply pw_below_drewN | apply below_drew1) | exact HB.out)⟩⟩
                      · rw [if_neg c11] at H
                        have c11b0 : decide ((bt a0 x5_2) ≤ 122) = false := decide_eq_false c11
                        clear c11
                        have H' := Aside0.mk H
                        clear H
                        have p8 : 0 ≤ (x5_2 : Int) := of_decide_eq_true (by first | (with_reducible assumption) | assumption)
                        have q8 : x5_2 < (a0.size : Int) := of_decide_eq_true (by first | (with_reducible assumption) | assumption)
                        have hx8 := bt_at a0 x5_2
                        replace p8 := eq_true p8
                        replace q8 := eq_true q8
                        have p10 : 0 ≤ (x5_2 : Int) := of_decide_eq_true (by first | (with_reducible assumption) | assumption)
                        have q10 : x5_2 < (a0.size : Int) := of_decide_eq_true (by first | (with_reducible assumption) | assumption)
                        have hx10 := bt_at a0 x5_2
                        replace p10 := eq_true p10
                        replace q10 := eq_true q10
                        go_wp2
                        go_meet
                        case rel => exact ⟨_, (x5_2), (by first | rfl | (simp; done) | (simp [*]; done) | (simp [bne_nil_hyb]; done) | (simp [bne_nil_hyb, *]; done)), H', ⟨by have := HK1.out; have := HK2.out; first | omega | exact Nat.le_refl _⟩, ⟨by (with_reducible repeat (first | apply Kd.R_alloc | apply Kd.R_drewN | apply Kd.R_drew)); exact HO_3.out⟩, ⟨by repeat (first | (with_reducible first | exact HB.out | apply below_alloc | apply pw_below_drewN | apply below_drew1) | exact HB.out)⟩⟩
                    · rw [if_neg c9] at H
                      have c9b0 : decide (97 ≤ (bt a0 x5_2)) = false := decide_eq_false c9
                      clear c9
                      have H' := Aside0.mk H
                      clear H
                      have p8 : 0 ≤ (x5_2 : Int) := of_decide_eq_true (by first | (with_reducible assumption) | assumption)
                      have q8 : x5_2 < (a0.size : Int) := of_decide_eq_true (by first | (with_reducible assumption) | assumption)
                      have hx8 := bt_at a0 x5_2
                      replace p8 := eq_true p8
                      replace q8 := eq_true q8
                      go_wp2
                      go_meet
                      case rel => exact ⟨_, (x5_2), (by first | rfl | (simp; done) | (simp [*]; done) | (simp [bne_nil_hyb]; done) | (simp [bne_nil_hyb, *]; done)), H', ⟨by have := HK1.out; have := HK2.out; first | omega | exact Nat.le_refl _⟩, ⟨by (with_reducible repeat (first | apply Kd.R_alloc | apply Kd.R_drewN | apply Kd.R_drew)); exact HO_3.out⟩, ⟨by repeat (first | (with_reducible first | exact HB.out | apply below_alloc | apply pw_below_drewN | apply below_drew1) | exact HB.out)⟩⟩
                  · rw [if_neg c7] at H
                    exact absurd H (by simp)
                · rw [if_neg c6] at H
                  have c6b0 : decide (x5_2 < (a0.size : Int)) = false := decide_eq_false c6
                  clear c6
                  have H' := Aside0.mk H
                  clear H
                  go_wp2
                  go_meet
                  case rel => exact ⟨_, (x5_2), (by first | rfl | (simp; done) | (simp [*]; done) | (simp [bne_nil_hyb]; done) | (simp [bne_nil_hyb, *]; done)), H', ⟨by have := HK1.out; have := HK2.out; first | omega | exact Nat.le_refl _⟩, ⟨by (with_reducible repeat (first | apply Kd.R_alloc | apply Kd.R_drewN | apply Kd.R_drew)); exact HO_3.out⟩, ⟨by repeat (first | (with_reducible first | exact HB.out | apply below_alloc | apply pw_below_drewN | apply below_drew1) | exact HB.out)⟩⟩
          · rw [if_neg c5] at H
            have c5b0 : (t104 == x4_1) = false := beq_eq_false_iff_ne.mpr c5
            have c5b1 : (t104 != x4_1) = true := bne_iff_ne.mpr c5
            (first | rw [c5b0] | (simp only [i64_w, i32_w]; rw [c5b0]) | skip)
            have H' := Aside0.mk H
            clear H
            go_wp2
            go_meet
            case rel => exact ⟨_, (t104), (by first | rfl | (simp; done) | (simp [*]; done) | (simp [bne_nil_hyb]; done) | (simp [bne_nil_hyb, *]; done)), H', ⟨by have := HK1.out; first | omega | exact Nat.le_refl _⟩, ⟨by (with_reducible repeat (first | apply Kd.R_alloc | apply Kd.R_drewN | apply Kd.R_drew)); exact HO_3.out⟩, ⟨by repeat (first | (with_reducible first | exact HB.out | apply below_alloc | apply pw_below_drewN | apply below_drew1) | exact HB.out)⟩⟩
        case rest =>
          clear HC4
          try clear c1
          try clear p1
          try clear q1
          try clear hx1
          try clear c2
          try clear c2b0
          try clear p2
          try clear c5
          try clear c5b0
          try clear c5b1
          try clear c6
          try clear c6b0
          try clear p6
          try clear c7
          try clear c7b0
          try clear p8
          try clear q8
          try clear hx8
          try clear c9
          try clear c9b0
          try clear p10
          try clear q10
          try clear hx10
          try clear c11
          try clear c11b0
          try clear p10
          try clear p2
          try clear p8
          try clear q10
          try clear q8
          obtain ⟨kq, x5_3, rfl, HA, HJ3, HO_3, HB⟩ := hcut
          cases kq with
          | zero => exact absurd HA.out (by simp [semantic_zzLegacyParts.j2])
          | succ kj3 =>
            have H := HA.out
            clear HA
            simp only [semantic_zzLegacyParts.j2] at H
            have HC12 := Aside0.mk H
            clear H
            go_upto_region 8 with (fail)
            go_cut [48] (fun v48 wc => ∃ (kq : Nat) (x48_11 : Bool), v48 = .bool x48_11 ∧ Aside0 (semantic_zzLegacyParts.j3 kq a0 x3_1 x4_1 x5_3 x48_11 = some r) ∧ Aside0 (kq ≤ kj3) ∧ Aside0 (Kd.R Kd.string 9 wc w.heap.size (fun _ => True) u3 x3_1) ∧ Aside0 (Below w.heap.size w wc))
            case first =>
              have H := HC12.out
              clear HC12
              by_cases c13 : x5_3 = x4_1
              · rw [if_pos c13] at H
                have c13b0 : (x5_3 == x4_1) = true := beq_iff_eq.mpr c13
                have c13b1 : (x5_3 != x4_1) = false := bne_eq_false_iff_eq.mpr c13
                clear c13
                (first | rw [c13b0] | (simp only [i64_w, i32_w]; rw [c13b0]) | skip)
                by_cases c14 : 0 ≤ x4_1
                · rw [if_pos c14] at H
                  have c14b0 : decide (0 ≤ x4_1) = true := decide_eq_true c14
                  clear c14
                  by_cases c15 : x4_1 < (a0.size : Int)
                  · rw [if_pos c15] at H
                    have c15b0 : decide (x4_1 < (a0.size : Int)) = true := decide_eq_true c15
                    clear c15
                    by_cases c17 : (bt a0 x4_1) = 46
                    · rw [if_pos c17] at H
                      have c17b0 : ((bt a0 x4_1) == 46) = true := beq_iff_eq.mpr c17
                      have c17b1 : ((bt a0 x4_1) != 46) = false := bne_eq_false_iff_eq.mpr c17
                      clear c17
                      have H' := Aside0.mk H
                      clear H
                      have p16 : 0 ≤ (x4_1 : Int) := of_decide_eq_true (by first | (with_reducible assumption) | assumption)
                      have q16 : x4_1 < (a0.size : Int) := of_decide_eq_true (by first | (with_reducible assumption) | assumption)
                      have hx16 := bt_at a0 x4_1
                      replace p16 := eq_true p16
                      replace q16 := eq_true q16
                      go_wp2
                      go_meet
                      case rel => exact ⟨_, (true), (by first | rfl | (simp; done) | (simp [*]; done) | (simp [bne_nil_hyb]; done) | (simp [bne_nil_hyb, *]; done)), H', ⟨by have := HK1.out; have := HJ3.out; first | omega | exact Nat.le_refl _⟩, ⟨by (with_reducible repeat (first | apply Kd.R_alloc | apply Kd.R_drewN | apply Kd.R_drew)); exact HO_3.out⟩, ⟨by repeat (first | (with_reducible first | exact HB.out | apply below_alloc | apply pw_below_drewN | apply below_drew1) | exact HB.out)⟩⟩
                    · rw [if_neg c17] at H
                      have c17b0 : ((bt a0 x4_1) == 46) = false := beq_eq_false_iff_ne.mpr c17
                      have c17b1 : ((bt a0 x4_1) != 46) = true := bne_iff_ne.mpr c17
                      have H' := Aside0.mk H
                      clear H
                      have p16 : 0 ≤ (x4_1 : Int) := of_decide_eq_true (by first | (with_reducible assumption) | assumption)
                      have q16 : x4_1 < (a0.size : Int) := of_decide_eq_true (by first | (with_reducible assumption) | assumption)
                      have hx16 := bt_at a0 x4_1
                      replace p16 := eq_true p16
                      replace q16 := eq_true q16
                      have p18 : 0 ≤ (x4_1 : Int) := of_decide_eq_true (by first | (with_reducible assumption) | assumption)
                      have q18 : x4_1 < (a0.size : Int) := of_decide_eq_true (by first | (with_reducible assumption) | assumption)
                      have hx18 := bt_at a0 x4_1
                      replace p18 := eq_true p18
                      replace q18 := eq_true q18
                      go_wp2
                      go_meet
                      case rel => exact ⟨_, (((bt a0 x4_1) == 45)), (by first | rfl | (simp; done) | (simp [*]; done) | (simp [bne_nil_hyb]; done) | (simp [bne_nil_hyb, *]; done)), H', ⟨by have := HK1.out; have := HJ3.out; first | omega | exact Nat.le_refl _⟩, ⟨by (with_reducible repeat (first | apply Kd.R_alloc | apply Kd.R_drewN | apply Kd.R_drew)); exact HO_3.out⟩, ⟨by repeat (first | (with_reducible first | exact HB.out | apply below_alloc | apply pw_below_drewN | apply below_drew1) | exact HB.out)⟩⟩
                  · rw [if_neg c15] at H
                    exact absurd H (by simp)
                · rw [if_neg c14] at H
                  exact absurd H (by simp)
              · rw [if_neg c13] at H
                have c13b0 : (x5_3 == x4_1) = false := beq_eq_false_iff_ne.mpr c13
                have c13b1 : (x5_3 != x4_1) = true := bne_iff_ne.mpr c13
                (first | rw [c13b0] | (simp only [i64_w, i32_w]; rw [c13b0]) | skip)
                have H' := Aside0.mk H
                clear H
                go_wp2
                go_meet
                case rel => exact ⟨_, (false), (by first | rfl | (simp; done) | (simp [*]; done) | (simp [bne_nil_hyb]; done) | (simp [bne_nil_hyb, *]; done)), H', ⟨by have := HK1.out; have := HJ3.out; first | omega | exact Nat.le_refl _⟩, ⟨by (with_reducible repeat (first | apply Kd.R_alloc | apply Kd.R_drewN | apply Kd.R_drew)); exact HO_3.out⟩, ⟨by repeat (first | (with_reducible first | exact HB.out | apply below_alloc | apply pw_below_drewN | apply below_drew1) | exact HB.out)⟩⟩
            case rest =>
              clear HC12
              try clear c1
              try clear p1
              try clear q1
              try clear hx1
              try clear c2
              try clear c2b0
              try clear p2
              try clear c5
              try clear c5b0
              try clear c5b1
              try clear c6
              try clear c6b0
              try clear p6
              try clear c7
              try clear c7b0
              try clear p8
              try clear q8
              try clear hx8
              try clear c9
              try clear c9b0
              try clear p10
              try clear q10
              try clear hx10
              try clear c11
              try clear c11b0
              try clear c13
              try clear c13b0
              try clear c13b1
              try clear c14
              try clear c14b0
              try clear c15
              try clear c15b0
              try clear p16
              try clear q16
              try clear hx16
              try clear c17
              try clear c17b0
              try clear c17b1
              try clear p18
              try clear q18
              try clear hx18
              try clear p1
              try clear p10
              try clear p16
              try clear p18
              try clear p2
              try clear p6
              try clear p8
              try clear q1
              try clear q10
              try clear q16
              try clear q18
              try clear q8
              obtain ⟨kq, x48_11, rfl, HA, HJ11, HO_3, HB⟩ := hcut
              cases kq with
              | zero => exact absurd HA.out (by simp [semantic_zzLegacyParts.j3])
              | succ kj11 =>
                have H := HA.out
                clear HA
                simp only [semantic_zzLegacyParts.j3] at H
                by_cases c19 : x48_11 = true
                · subst c19
                  have H1 : (if (wrap64 (x5_3 + 1)) = x4_1 then (semantic_zzLegacyParts.l0 kj11 a0 x3_1 (wrap64 (x4_1 + 1))) else (if 0 ≤ x4_1 then (if x4_1 ≤ (wrap64 (x5_3 + 1)) then (if (wrap64 (x5_3 + 1)) ≤ (a0.size : Int) then (if x3_1.length < 8796093022208 then (semantic_zzLegacyParts.l0 kj11 a0 (x3_1 ++ [a0.extract (x4_1 : Int).toNat ((wrap64 (x5_3 + 1)) : Int).toNat]) (wrap64 (x5_3 + 1))) else (none)) else (none)) else (none)) else (none))) = some r := by rw [if_pos rfl] at H; exact H
                  clear H
                  have H := H1
                  clear H1
                  by_cases c20 : (wrap64 (x5_3 + 1)) = x4_1
                  · rw [if_pos c20] at H
                    have c20b0 : ((wrap64 (x5_3 + 1)) == x4_1) = true := beq_iff_eq.mpr c20
                    have c20b1 : ((wrap64 (x5_3 + 1)) != x4_1) = false := bne_eq_false_iff_eq.mpr c20
                    clear c20
                    have H' := Aside0.mk H
                    clear H
                    go_wp2
                    go_roundg kj11
                    case measure => have := HK1.out; have := HJ3.out; have := HJ11.out; omega
                    case rel => exact ⟨(x3_1), (wrap64 (x4_1 + 1)), (by first | rfl | (simp; done) | (simp [*]; done) | (simp [bne_nil_hyb]; done) | (simp [bne_nil_hyb, *]; done)), H', ⟨by have := HK1.out; have := HJ3.out; have := HJ11.out; omega⟩, ⟨by (with_reducible repeat (first | apply Kd.R_alloc | apply Kd.R_drewN | apply Kd.R_drew)); exact HO_3.out⟩, ⟨by repeat (first | (with_reducible first | exact HB.out | apply below_alloc | apply pw_below_drewN | apply below_drew1) | exact HB.out)⟩⟩
                  · rw [if_neg c20] at H
                    have c20b0 : ((wrap64 (x5_3 + 1)) == x4_1) = false := beq_eq_false_iff_ne.mpr c20
                    have c20b1 : ((wrap64 (x5_3 + 1)) != x4_1) = true := bne_iff_ne.mpr c20
                    by_cases c21 : 0 ≤ x4_1
                    · rw [if_pos c21] at H
                      have c21b0 := eq_true c21
                      have c21b1 : decide (0 ≤ x4_1) = true := decide_eq_true c21
                      clear c21
                      by_cases c22 : x4_1 ≤ (wrap64 (x5_3 + 1))
                      · rw [if_pos c22] at H
                        have c22b0 := eq_true c22
                        have c22b1 : decide (x4_1 ≤ (wrap64 (x5_3 + 1))) = true := decide_eq_true c22
                        by_cases c23 : (wrap64 (x5_3 + 1)) ≤ (a0.size : Int)
                        · rw [if_pos c23] at H
                          have c23b0 := eq_true c23
                          have c23b1 : decide ((wrap64 (x5_3 + 1)) ≤ (a0.size : Int)) = true := decide_eq_true c23
                          by_cases c24 : x3_1.length < 8796093022208
                          · rw [if_pos c24] at H
                            have LMc24 := Aside0.mk c24
                            clear c24
                            obtain ⟨y105, hy105⟩ : ∃ y_ : List ByteArray, y_ = (x3_1 ++ [a0.extract (x4_1 : Int).toNat ((wrap64 (x5_3 + 1)) : Int).toNat]) := ⟨_, rfl⟩
                            replace H : (semantic_zzLegacyParts.l0 kj11 a0 y105 (wrap64 (x5_3 + 1))) = some r := by first | (rw [hy105]; with_reducible exact H) | (have H2_ := (Option.bind_some _ _).symm.trans H; rw [hy105]; with_reducible exact H2_) | (have H2_ := (Option.bind_some _ _).symm.trans H; with_reducible exact H2_) | with_reducible exact H | (rw [hy105]; exact H) | exact H
                            have Ny105 := Aside0.mk hy105
                            clear hy105
                            have H' := Aside0.mk H
                            clear H
                            go_wp2_with (first | ((with_reducible refine gate_builtin (b := .append) (xs := #[.tmp 56, .tmp 61]) rfl ?_); at_builtin; refine Kd.R_append Kd.string (w0 := w) w.heap.size rfl (.tmp 56) (.tmp 61) 24 9 (.string ⟨#[]⟩) 16 rfl Try.underlying24 info9 rfl (by decide) (by omega) u3 x3_1 (a0.extract (x4_1 : Int).toNat ((wrap64 (x5_3 + 1)) : Int).toNat) [.string (a0.extract (x4_1 : Int).toNat ((wrap64 (x5_3 + 1)) : Int).toNat)] (fun _ => True) (fun _ => False) rfl rfl ?aP (fun _ hk => hk.elim) ?aF ?aO ?aB ?aS ?aL ?_; (case aP => exact rfl); (case aB => exact (by repeat (first | (with_reducible first | exact HB.out | apply below_alloc | apply pw_below_drewN | apply below_drew1) | exact HB.out))); (case aF => exact (fun _ _ => trivial)); (case aO => exact (by (with_reducible repeat (first | apply Kd.R_alloc | apply Kd.R_drewN | apply Kd.R_drew)); exact HO_3.out)); (case aS => exact (below_size (by repeat (first | (with_reducible first | exact HB.out | apply below_alloc | apply pw_below_drewN | apply below_drew1) | exact HB.out)))); (case aL => have := LMc24.out; omega); intro v106 w25 ho hb hg hat; rw [← Ny105.out] at ho; have n0_ := Aside0.mk (hb); have n1_ := Aside0.mk (ho); clear HB; clear HO_3; have HB := n0_; have HO107 := n1_; clear n0_ n1_; clear ho hb hg hat))
                            go_roundg kj11
                            case measure => have := HK1.out; have := HJ3.out; have := HJ11.out; omega
                            case rel => exact ⟨(y105), (wrap64 (x5_3 + 1)), (by first | rfl | (simp; done) | (simp [*]; done) | (simp [bne_nil_hyb]; done) | (simp [bne_nil_hyb, *]; done)), H', ⟨by have := HK1.out; have := HJ3.out; have := HJ11.out; omega⟩, ⟨by (with_reducible repeat (first | apply Kd.R_alloc | apply Kd.R_drewN | apply Kd.R_drew)); exact HO107.out⟩, ⟨by repeat (first | (with_reducible first | exact HB.out | apply below_alloc | apply pw_below_drewN | apply below_drew1) | exact HB.out)⟩⟩
                          · rw [if_neg c24] at H
                            exact absurd H (by simp)
                        · rw [if_neg c23] at H
                          exact absurd H (by simp)
                      · rw [if_neg c22] at H
                        exact absurd H (by simp)
                    · rw [if_neg c21] at H
                      exact absurd H (by simp)
                · replace c19 := Bool.eq_false_iff.mpr c19
                  subst c19
                  have H1 : (if x5_3 = x4_1 then (semantic_zzLegacyParts.l0 kj11 a0 x3_1 (wrap64 (x4_1 + 1))) else (if 0 ≤ x4_1 then (if x4_1 ≤ x5_3 then (if x5_3 ≤ (a0.size : Int) then (if x3_1.length < 8796093022208 then (semantic_zzLegacyParts.l0 kj11 a0 (x3_1 ++ [a0.extract (x4_1 : Int).toNat (x5_3 : Int).toNat]) x5_3) else (none)) else (none)) else (none)) else (none))) = some r := by rw [if_neg (show ¬ (false = true) by decide)] at H; exact H
                  clear H
                  have H := H1
                  clear H1
                  by_cases c26 : x5_3 = x4_1
                  · rw [if_pos c26] at H
                    have c26b0 : (x5_3 == x4_1) = true := beq_iff_eq.mpr c26
                    have c26b1 : (x5_3 != x4_1) = false := bne_eq_false_iff_eq.mpr c26
                    clear c26
                    have H' := Aside0.mk H
                    clear H
                    go_wp2
                    go_roundg kj11
                    case measure => have := HK1.out; have := HJ3.out; have := HJ11.out; omega
                    case rel => exact ⟨(x3_1), (wrap64 (x4_1 + 1)), (by first | rfl | (simp; done) | (simp [*]; done) | (simp [bne_nil_hyb]; done) | (simp [bne_nil_hyb, *]; done)), H', ⟨by have := HK1.out; have := HJ3.out; have := HJ11.out; omega⟩, ⟨by (with_reducible repeat (first | apply Kd.R_alloc | apply Kd.R_drewN | apply Kd.R_drew)); exact HO_3.out⟩, ⟨by repeat (first | (with_reducible first | exact HB.out | apply below_alloc | apply pw_below_drewN | apply below_drew1) | exact HB.out)⟩⟩
                  · rw [if_neg c26] at H
                    have c26b0 : (x5_3 == x4_1) = false := beq_eq_false_iff_ne.mpr c26
                    have c26b1 : (x5_3 != x4_1) = true := bne_iff_ne.mpr c26
                    by_cases c27 : 0 ≤ x4_1
                    · rw [if_pos c27] at H
                      have c27b0 := eq_true c27
                      have c27b1 : decide (0 ≤ x4_1) = true := decide_eq_true c27
                      clear c27
                      by_cases c28 : x4_1 ≤ x5_3
                      · rw [if_pos c28] at H
                        have c28b0 := eq_true c28
                        have c28b1 : decide (x4_1 ≤ x5_3) = true := decide_eq_true c28
                        clear c28
                        by_cases c29 : x5_3 ≤ (a0.size : Int)
                        · rw [if_pos c29] at H
                          have c29b0 := eq_true c29
                          have c29b1 : decide (x5_3 ≤ (a0.size : Int)) = true := decide_eq_true c29
                          clear c29
                          by_cases c30 : x3_1.length < 8796093022208
                          · rw [if_pos c30] at H
                            have LMc30 := Aside0.mk c30
                            clear c30
                            obtain ⟨y108, hy108⟩ : ∃ y_ : List ByteArray, y_ = (x3_1 ++ [a0.extract (x4_1 : Int).toNat (x5_3 : Int).toNat]) := ⟨_, rfl⟩
                            replace H : (semantic_zzLegacyParts.l0 kj11 a0 y108 x5_3) = some r := by first | (rw [hy108]; with_reducible exact H) | (have H2_ := (Option.bind_some _ _).symm.trans H; rw [hy108]; with_reducible exact H2_) | (have H2_ := (Option.bind_some _ _).symm.trans H; with_reducible exact H2_) | with_reducible exact H | (rw [hy108]; exact H) | exact H
                            have Ny108 := Aside0.mk hy108
                            clear hy108
                            have H' := Aside0.mk H
                            clear H
                            go_wp2_with (first | ((with_reducible refine gate_builtin (b := .append) (xs := #[.tmp 56, .tmp 61]) rfl ?_); at_builtin; refine Kd.R_append Kd.string (w0 := w) w.heap.size rfl (.tmp 56) (.tmp 61) 24 9 (.string ⟨#[]⟩) 16 rfl Try.underlying24 info9 rfl (by decide) (by omega) u3 x3_1 (a0.extract (x4_1 : Int).toNat (x5_3 : Int).toNat) [.string (a0.extract (x4_1 : Int).toNat (x5_3 : Int).toNat)] (fun _ => True) (fun _ => False) rfl rfl ?aP (fun _ hk => hk.elim) ?aF ?aO ?aB ?aS ?aL ?_; (case aP => exact rfl); (case aB => exact (by repeat (first | (with_reducible first | exact HB.out | apply below_alloc | apply pw_below_drewN | apply below_drew1) | exact HB.out))); (case aF => exact (fun _ _ => trivial)); (case aO => exact (by (with_reducible repeat (first | apply Kd.R_alloc | apply Kd.R_drewN | apply Kd.R_drew)); exact HO_3.out)); (case aS => exact (below_size (by repeat (first | (with_reducible first | exact HB.out | apply below_alloc | apply pw_below_drewN | apply below_drew1) | exact HB.out)))); (case aL => have := LMc30.out; omega); intro v109 w31 ho hb hg hat; rw [← Ny108.out] at ho; have n0_ := Aside0.mk (hb); have n1_ := Aside0.mk (ho); clear HB; clear HO_3; have HB := n0_; have HO110 := n1_; clear n0_ n1_; clear ho hb hg hat))
                            go_roundg kj11
                            case measure => have := HK1.out; have := HJ3.out; have := HJ11.out; omega
                            case rel => exact ⟨(y108), (x5_3), (by first | rfl | (simp; done) | (simp [*]; done) | (simp [bne_nil_hyb]; done) | (simp [bne_nil_hyb, *]; done)), H', ⟨by have := HK1.out; have := HJ3.out; have := HJ11.out; omega⟩, ⟨by (with_reducible repeat (first | apply Kd.R_alloc | apply Kd.R_drewN | apply Kd.R_drew)); exact HO110.out⟩, ⟨by repeat (first | (with_reducible first | exact HB.out | apply below_alloc | apply pw_below_drewN | apply below_drew1) | exact HB.out)⟩⟩
                          · rw [if_neg c30] at H
                            exact absurd H (by simp)
                        · rw [if_neg c29] at H
                          exact absurd H (by simp)
                      · rw [if_neg c28] at H
                        exact absurd H (by simp)
                    · rw [if_neg c27] at H
                      exact absurd H (by simp)
      · rw [if_neg c2] at H
        have c2b0 : decide (x4_1 < (a0.size : Int)) = false := decide_eq_false c2
        clear c2
        obtain rfl := Option.some.inj H
        go_wp2
        go_ret
        exact ⟨_, by first | rfl | (simp [errW_none, errW_some] <;> rfl) | (simp [*, errW_none, errW_some] <;> rfl) | (simp [bne_nil_hyb]; done), by (with_reducible repeat (first | apply Kd.R_alloc | apply Kd.R_drewN | apply Kd.R_drew)); exact HO_3.out, by repeat (first | (with_reducible first | exact HB.out | apply below_alloc | apply pw_below_drewN | apply below_drew1) | exact HB.out)⟩

/-! ### semantic_isASCIIDigit: function 24 -/
def semantic_isASCIIDigit.f (a0 : Int) : Option (Bool) := if a0 ≥ 48 then (some (decide (a0 ≤ 57))) else (some false)
set_option maxHeartbeats 8000000 in
set_option maxRecDepth 100000 in
theorem semantic_isASCIIDigit.calls (a0 : Int) (r : Bool) (w : World) (h : semantic_isASCIIDigit.f a0 = some r) :
    Calls Try.prog 24 #[.int .i32 a0] w fun e w' => e = .returned (.bool r) ∧ Drawn0 w w' := by
  have H : (if a0 ≥ 48 then (some (decide (a0 ≤ 57))) else (some false)) = some r := h
  clear h
  by_cases c2 : a0 ≥ 48
  · rw [if_pos c2] at H
    have c2b0 : decide (48 ≤ a0) = true := decide_eq_true c2
    clear c2
    obtain rfl := Option.some.inj H
    go_enter Try.func24, Try.ntmps24
    go_wp2
    go_ret
    exact ⟨by first | rfl | (simp; done) | (simp [*]; done) | (simp [bne_nil_hyb]; done) | (simp [bne_nil_hyb, *]; done), by repeat (first | exact Drawn0.refl _ | apply Drawn0.step)⟩
  · rw [if_neg c2] at H
    have c2b0 : decide (48 ≤ a0) = false := decide_eq_false c2
    clear c2
    obtain rfl := Option.some.inj H
    go_enter Try.func24, Try.ntmps24
    go_wp2
    go_ret
    exact ⟨by first | rfl | (simp; done) | (simp [*]; done) | (simp [bne_nil_hyb]; done) | (simp [bne_nil_hyb, *]; done), by repeat (first | exact Drawn0.refl _ | apply Drawn0.step)⟩

/-! ### semantic_zzPadded: function 25 -/
def semantic_zzPadded.l0 : Nat → ByteArray → Int → Option (ByteArray)
  | 0, _, _ => none
  | k + 1, x0, x3 => if x3 < 8 then (if 1 + x0.size ≤ 9223372036854775807 then (semantic_zzPadded.l0 k ((⟨#[48]⟩ : ByteArray) ++ x0) (wrap64 (x3 + 1))) else (none)) else (some x0)
def semantic_zzPadded.f (k : Nat) (a0 : ByteArray) : Option (ByteArray) := semantic_zzPadded.l0 k a0 (a0.size : Int)
theorem semantic_zzPadded.mono_l : ∀ k, (∀ y0 y1, LeO (semantic_zzPadded.l0 k y0 y1) (semantic_zzPadded.l0 (k + 1) y0 y1))
  | 0 => fun _ _ r h => by simp [semantic_zzPadded.l0] at h
  | k + 1 => by
    have ih0 := semantic_zzPadded.mono_l k
    · intro y0 y1
      unfold semantic_zzPadded.l0
      repeat' first
      | (with_reducible exact ih0 _ _)
      | (with_reducible exact LeO.refl _)
      | (with_reducible exact LeO.none _)
      | (with_reducible refine LeO.ite ?_ ?_)
      | (with_reducible refine LeO.bind ?_ (fun _ => ?_))
      | exact ih0 _ _
      | exact LeO.none _
      | refine LeO.ite ?_ ?_
      | refine LeO.bind ?_ (fun _ => ?_)
theorem semantic_zzPadded.mono : ∀ a0 k, LeO (semantic_zzPadded.f k a0) (semantic_zzPadded.f (k + 1) a0) := by
  intro a0 k
  have ih0 := semantic_zzPadded.mono_l k
  unfold semantic_zzPadded.f
  repeat' first
      | (with_reducible exact ih0 _ _)
      | (with_reducible exact LeO.refl _)
      | (with_reducible exact LeO.none _)
      | (with_reducible refine LeO.ite ?_ ?_)
      | (with_reducible refine LeO.bind ?_ (fun _ => ?_))
      | exact ih0 _ _
      | exact LeO.none _
      | refine LeO.ite ?_ ?_
      | refine LeO.bind ?_ (fun _ => ?_)
set_option maxHeartbeats 8000000 in
set_option maxRecDepth 100000 in
theorem semantic_zzPadded.calls (k : Nat) (a0 : ByteArray) (r : ByteArray) (w : World) (h : semantic_zzPadded.f k a0 = some r) :
    Calls Try.prog 25 #[.string a0] w fun e w' => e = .returned (.string r) ∧ Drawn0 w w' := by
  have H : (semantic_zzPadded.l0 k a0 (a0.size : Int)) = some r := h
  clear h
  have H' := Aside0.mk H
  clear H
  go_enter Try.func25, Try.ntmps25
  go_wp2
  (try simp only [Act.put, List.setIfInBounds_toArray, List.set_cons_zero, List.set_cons_succ])
  go_loopg [0, 3] k (fun kq v0 v3 w' => ∃ (x0_1 : ByteArray) (x3_1 : Int), v0 = .string x0_1 ∧ v3 = .int .i64 x3_1 ∧ Aside0 (semantic_zzPadded.l0 kq x0_1 x3_1 = some r) ∧ Aside0 (kq ≤ k) ∧ Drawn0 w w')
  case atStart => exact ⟨(a0), ((a0.size : Int)), (by first | rfl | (simp; done) | (simp [*]; done) | (simp [bne_nil_hyb]; done) | (simp [bne_nil_hyb, *]; done)), (by first | rfl | (simp; done) | (simp [*]; done) | (simp [bne_nil_hyb]; done) | (simp [bne_nil_hyb, *]; done)), H', ⟨Nat.le_refl _⟩, by repeat (first | exact Drawn0.refl _ | apply Drawn0.step)⟩
  case round =>
    clear H'
    obtain ⟨x0_1, x3_1, rfl, rfl, HA, HK1, ⟨m1, rfl⟩⟩ := hrel
    cases gk with
    | zero => exact absurd HA.out (by simp [semantic_zzPadded.l0])
    | succ k1 =>
      have H := HA.out
      clear HA
      simp only [semantic_zzPadded.l0] at H
      by_cases c2 : x3_1 < 8
      · rw [if_pos c2] at H
        have c2b0 : decide (x3_1 < 8) = true := decide_eq_true c2
        clear c2
        by_cases c3 : 1 + x0_1.size ≤ 9223372036854775807
        · rw [if_pos c3] at H
          have c3b0 := eq_true c3
          have c3b1 : decide (1 + x0_1.size ≤ 9223372036854775807) = true := decide_eq_true c3
          try have c3b2 : (9223372036854775807 < 1 + x0_1.size) = False := eq_false (Nat.not_lt.2 c3)
          have H' := Aside0.mk H
          clear H
          go_wp2
          go_roundg k1
          case measure => have := HK1.out; omega
          case rel => exact ⟨((⟨#[48]⟩ : ByteArray) ++ x0_1), (wrap64 (x3_1 + 1)), (by first | rfl | (simp; done) | (simp [*]; done) | (simp [bne_nil_hyb]; done) | (simp [bne_nil_hyb, *]; done)), (by first | rfl | (simp; done) | (simp [*]; done) | (simp [bne_nil_hyb]; done) | (simp [bne_nil_hyb, *]; done)), H', ⟨by have := HK1.out; omega⟩, by repeat (first | exact Drawn0.refl _ | apply Drawn0.step)⟩
        · rw [if_neg c3] at H
          exact absurd H (by simp)
      · rw [if_neg c2] at H
        have c2b0 : decide (x3_1 < 8) = false := decide_eq_false c2
        clear c2
        obtain rfl := Option.some.inj H
        go_wp2
        go_ret
        exact ⟨by first | rfl | (simp; done) | (simp [*]; done) | (simp [bne_nil_hyb]; done) | (simp [bne_nil_hyb, *]; done), by repeat (first | exact Drawn0.refl _ | apply Drawn0.step)⟩

/-! ### semantic_normalizePyPILegacyPart: function 20 -/
def semantic_normalizePyPILegacyPart.j0 : Nat → ByteArray → Option (ByteArray)
  | 0, _ => none
  | k + 1, x0 => if 0 < (x0.size : Int) then ((semantic_isASCIIDigit.f (wrap32 (bt x0 0))).bind fun t111 => (if t111 = true then ((semantic_zzPadded.f k x0).bind fun t112 => (some t112)) else (if 1 + x0.size ≤ 9223372036854775807 then (some ((⟨#[42]⟩ : ByteArray) ++ x0)) else (none)))) else (none)
def semantic_normalizePyPILegacyPart.f (k : Nat) (a0 : ByteArray) : Option (ByteArray) := if a0.toList = ([112, 114, 101] : List UInt8) then (semantic_normalizePyPILegacyPart.j0 k (⟨#[99]⟩ : ByteArray)) else (if a0.toList = ([112, 114, 101, 118, 105, 101, 119] : List UInt8) then (semantic_normalizePyPILegacyPart.j0 k (⟨#[99]⟩ : ByteArray)) else (if a0.toList = ([45] : List UInt8) then (semantic_normalizePyPILegacyPart.j0 k (⟨#[102, 105, 110, 97, 108, 45]⟩ : ByteArray)) else (if a0.toList = ([114, 99] : List UInt8) then (semantic_normalizePyPILegacyPart.j0 k (⟨#[99]⟩ : ByteArray)) else (if a0.toList = ([100, 101, 118] : List UInt8) then (semantic_normalizePyPILegacyPart.j0 k (⟨#[64]⟩ : ByteArray)) else (semantic_normalizePyPILegacyPart.j0 k a0)))))
theorem semantic_normalizePyPILegacyPart.mono_l : ∀ k, (∀ y0, LeO (semantic_normalizePyPILegacyPart.j0 k y0) (semantic_normalizePyPILegacyPart.j0 (k + 1) y0))
  | 0 => fun _ r h => by simp [semantic_normalizePyPILegacyPart.j0] at h
  | k + 1 => by
    have ih0 := semantic_normalizePyPILegacyPart.mono_l k
    · intro y0
      unfold semantic_normalizePyPILegacyPart.j0
      repeat' first
      | (with_reducible exact ih0 _)
      | (with_reducible exact semantic_zzPadded.mono _ _)
      | (with_reducible exact LeO.refl _)
      | (with_reducible exact LeO.none _)
      | (with_reducible refine LeO.ite ?_ ?_)
      | (with_reducible refine LeO.bind ?_ (fun _ => ?_))
      | exact ih0 _
      | exact semantic_zzPadded.mono _ _
      | exact LeO.none _
      | refine LeO.ite ?_ ?_
      | refine LeO.bind ?_ (fun _ => ?_)
theorem semantic_normalizePyPILegacyPart.mono : ∀ a0 k, LeO (semantic_normalizePyPILegacyPart.f k a0) (semantic_normalizePyPILegacyPart.f (k + 1) a0) := by
  intro a0 k
  have ih0 := semantic_normalizePyPILegacyPart.mono_l k
  unfold semantic_normalizePyPILegacyPart.f
  repeat' first
      | (with_reducible exact ih0 _)
      | (with_reducible exact semantic_zzPadded.mono _ _)
      | (with_reducible exact LeO.refl _)
      | (with_reducible exact LeO.none _)
      | (with_reducible refine LeO.ite ?_ ?_)
      | (with_reducible refine LeO.bind ?_ (fun _ => ?_))
      | exact ih0 _
      | exact semantic_zzPadded.mono _ _
      | exact LeO.none _
      | refine LeO.ite ?_ ?_
      | refine LeO.bind ?_ (fun _ => ?_)
set_option maxHeartbeats 8000000 in
set_option maxRecDepth 100000 in
theorem semantic_normalizePyPILegacyPart.calls (k : Nat) (a0 : ByteArray) (r : ByteArray) (w : World) (h : semantic_normalizePyPILegacyPart.f k a0 = some r) :
    Calls Try.prog 20 #[.string a0] w fun e w' => e = .returned (.string r) ∧ Drawn0 w w' := by
  have H : (if a0.toList = ([112, 114, 101] : List UInt8) then (semantic_normalizePyPILegacyPart.j0 k (⟨#[99]⟩ : ByteArray)) else (if a0.toList = ([112, 114, 101, 118, 105, 101, 119] : List UInt8) then (semantic_normalizePyPILegacyPart.j0 k (⟨#[99]⟩ : ByteArray)) else (if a0.toList = ([45] : List UInt8) then (semantic_normalizePyPILegacyPart.j0 k (⟨#[102, 105, 110, 97, 108, 45]⟩ : ByteArray)) else (if a0.toList = ([114, 99] : List UInt8) then (semantic_normalizePyPILegacyPart.j0 k (⟨#[99]⟩ : ByteArray)) else (if a0.toList = ([100, 101, 118] : List UInt8) then (semantic_normalizePyPILegacyPart.j0 k (⟨#[64]⟩ : ByteArray)) else (semantic_normalizePyPILegacyPart.j0 k a0)))))) = some r := h
  clear h
  have HC2 := Aside0.mk H
  clear H
  go_enter Try.func20, Try.ntmps20
  go_upto_block 0 with (fail)
  go_cut [0] (fun v0 wc => ∃ (kq : Nat) (x0_1 : ByteArray), v0 = .string x0_1 ∧ Aside0 (semantic_normalizePyPILegacyPart.j0 kq x0_1 = some r) ∧ Aside0 (kq ≤ k) ∧ Drawn0 w wc)
  case first =>
    have H := HC2.out
    clear HC2
    by_cases c3 : a0.toList = ([112, 114, 101] : List UInt8)
    · rw [if_pos c3] at H
      have c3b0 : (a0.toList == ([112, 114, 101] : List UInt8)) = true := beq_iff_eq.mpr c3
      have c3b1 : (a0.toList != ([112, 114, 101] : List UInt8)) = false := bne_eq_false_iff_eq.mpr c3
      clear c3
      (first | rw [c3b0] | (simp only [i64_w, i32_w]; rw [c3b0]) | skip)
      have H' := Aside0.mk H
      clear H
      go_wp2
      go_meet
      case rel => exact ⟨_, ((⟨#[99]⟩ : ByteArray)), (by first | rfl | (simp; done) | (simp [*]; done) | (simp [bne_nil_hyb]; done) | (simp [bne_nil_hyb, *]; done)), H', ⟨by first | omega | exact Nat.le_refl _⟩, by repeat (first | exact Drawn0.refl _ | apply Drawn0.step)⟩
    · rw [if_neg c3] at H
      have c3b0 : (a0.toList == ([112, 114, 101] : List UInt8)) = false := beq_eq_false_iff_ne.mpr c3
      have c3b1 : (a0.toList != ([112, 114, 101] : List UInt8)) = true := bne_iff_ne.mpr c3
      (first | rw [c3b0] | (simp only [i64_w, i32_w]; rw [c3b0]) | skip)
      by_cases c4 : a0.toList = ([112, 114, 101, 118, 105, 101, 119] : List UInt8)
      · rw [if_pos c4] at H
        have c4b0 : (a0.toList == ([112, 114, 101, 118, 105, 101, 119] : List UInt8)) = true := beq_iff_eq.mpr c4
        have c4b1 : (a0.toList != ([112, 114, 101, 118, 105, 101, 119] : List UInt8)) = false := bne_eq_false_iff_eq.mpr c4
        clear c4
        have H' := Aside0.mk H
        clear H
        go_wp2
        go_meet
        case rel => exact ⟨_, ((⟨#[99]⟩ : ByteArray)), (by first | rfl | (simp; done) | (simp [*]; done) | (simp [bne_nil_hyb]; done) | (simp [bne_nil_hyb, *]; done)), H', ⟨by first | omega | exact Nat.le_refl _⟩, by repeat (first | exact Drawn0.refl _ | apply Drawn0.step)⟩
      · rw [if_neg c4] at H
        have c4b0 : (a0.toList == ([112, 114, 101, 118, 105, 101, 119] : List UInt8)) = false := beq_eq_false_iff_ne.mpr c4
        have c4b1 : (a0.toList != ([112, 114, 101, 118, 105, 101, 119] : List UInt8)) = true := bne_iff_ne.mpr c4
        by_cases c5 : a0.toList = ([45] : List UInt8)
        · rw [if_pos c5] at H
          have c5b0 : (a0.toList == ([45] : List UInt8)) = true := beq_iff_eq.mpr c5
          have c5b1 : (a0.toList != ([45] : List UInt8)) = false := bne_eq_false_iff_eq.mpr c5
          clear c5
          have H' := Aside0.mk H
          clear H
          go_wp2
          go_meet
          case rel => exact ⟨_, ((⟨#[102, 105, 110, 97, 108, 45]⟩ : ByteArray)), (by first | rfl | (simp; done) | (simp [*]; done) | (simp [bne_nil_hyb]; done) | (simp [bne_nil_hyb, *]; done)), H', ⟨by first | omega | exact Nat.le_refl _⟩, by repeat (first | exact Drawn0.refl _ | apply Drawn0.step)⟩
        · rw [if_neg c5] at H
          have c5b0 : (a0.toList == ([45] : List UInt8)) = false := beq_eq_false_iff_ne.mpr c5
          have c5b1 : (a0.toList != ([45] : List UInt8)) = true := bne_iff_ne.mpr c5
          by_cases c6 : a0.toList = ([114, 99] : List UInt8)
          · rw [if_pos c6] at H
            have c6b0 : (a0.toList == ([114, 99] : List UInt8)) = true := beq_iff_eq.mpr c6
            have c6b1 : (a0.toList != ([114, 99] : List UInt8)) = false := bne_eq_false_iff_eq.mpr c6
            clear c6
            have H' := Aside0.mk H
            clear H
            go_wp2
            go_meet
            case rel => exact ⟨_, ((⟨#[99]⟩ : ByteArray)), (by first | rfl | (simp; done) | (simp [*]; done) | (simp [bne_nil_hyb]; done) | (simp [bne_nil_hyb, *]; done)), H', ⟨by first | omega | exact Nat.le_refl _⟩, by repeat (first | exact Drawn0.refl _ | apply Drawn0.step)⟩
          · rw [if_neg c6] at H
            have c6b0 : (a0.toList == ([114, 99] : List UInt8)) = false := beq_eq_false_iff_ne.mpr c6
            have c6b1 : (a0.toList != ([114, 99] : List UInt8)) = true := bne_iff_ne.mpr c6
            by_cases c7 : a0.toList = ([100, 101, 118] : List UInt8)
            · rw [if_pos c7] at H
              have c7b0 : (a0.toList == ([100, 101, 118] : List UInt8)) = true := beq_iff_eq.mpr c7
              have c7b1 : (a0.toList != ([100, 101, 118] : List UInt8)) = false := bne_eq_false_iff_eq.mpr c7
              clear c7
              have H' := Aside0.mk H
              clear H
              go_wp2
              go_meet
              case rel => exact ⟨_, ((⟨#[64]⟩ : ByteArray)), (by first | rfl | (simp; done) | (simp [*]; done) | (simp [bne_nil_hyb]; done) | (simp [bne_nil_hyb, *]; done)), H', ⟨by first | omega | exact Nat.le_refl _⟩, by repeat (first | exact Drawn0.refl _ | apply Drawn0.step)⟩
            · rw [if_neg c7] at H
              have c7b0 : (a0.toList == ([100, 101, 118] : List UInt8)) = false := beq_eq_false_iff_ne.mpr c7
              have c7b1 : (a0.toList != ([100, 101, 118] : List UInt8)) = true := bne_iff_ne.mpr c7
              have H' := Aside0.mk H
              clear H
              go_wp2
              go_meet
              case rel => exact ⟨_, (a0), (by first | rfl | (simp; done) | (simp [*]; done) | (simp [bne_nil_hyb]; done) | (simp [bne_nil_hyb, *]; done)), H', ⟨by first | omega | exact Nat.le_refl _⟩, by repeat (first | exact Drawn0.refl _ | apply Drawn0.step)⟩
  case rest =>
    clear HC2
    try clear c2
    try clear p2
    try clear c3
    try clear c3b0
    try clear c3b1
    try clear c4
    try clear c4b0
    try clear c4b1
    try clear c5
    try clear c5b0
    try clear c5b1
    try clear c6
    try clear c6b0
    try clear c6b1
    try clear c7
    try clear c7b0
    try clear c7b1
    obtain ⟨kq, x0_1, rfl, HA, HJ1, ⟨mc1, rfl⟩⟩ := hcut
    cases kq with
    | zero => exact absurd HA.out (by simp [semantic_normalizePyPILegacyPart.j0])
    | succ kj1 =>
      have H := HA.out
      clear HA
      simp only [semantic_normalizePyPILegacyPart.j0] at H
      by_cases c8 : 0 < (x0_1.size : Int)
      · rw [if_pos c8] at H
        have c8b0 : decide (0 < (x0_1.size : Int)) = true := decide_eq_true c8
        have c8b1 : decide (0 < x0_1.size) = true := decide_eq_true (by omega)
        clear c8
        replace H := Option.bind_eq_some_iff.mp H
        obtain ⟨t111, A100, H⟩ := H
        replace H : (if t111 = true then ((semantic_zzPadded.f kj1 x0_1).bind fun t112 => (some t112)) else (if 1 + x0_1.size ≤ 9223372036854775807 then (some ((⟨#[42]⟩ : ByteArray) ++ x0_1)) else (none))) = some r := H
        have A10 := Aside0.mk A100
        clear A100
        by_cases c11 : t111 = true
        · subst c11
          have H1 : ((semantic_zzPadded.f kj1 x0_1).bind fun t112 => (some t112)) = some r := by rw [if_pos rfl] at H; exact H
          clear H
          have H := H1
          clear H1
          replace H := Option.bind_eq_some_iff.mp H
          obtain ⟨t112, A120, H⟩ := H
          replace H : (some t112) = some r := H
          have A12 := Aside0.mk A120
          clear A120
          obtain rfl := Option.some.inj H
          have p9 : 0 ≤ (0 : Int) := (by omega)
          have q9 : 0 < x0_1.size := (by have : (0 : Int) < (x0_1.size : Int) := of_decide_eq_true (by first | (with_reducible assumption) | assumption); omega)
          have hx9 : ∀ h : 0 < x0_1.size, ((x0_1[0]'h).toNat : Int) = bt x0_1 0 := bt_at x0_1 0
          clear p9
          have qi9 : (0 < (x0_1.size : Int)) = True := eq_true (of_decide_eq_true (by first | (with_reducible assumption) | assumption))
          replace q9 := eq_true q9
          go_wp2_with (first | ((with_reducible refine gate_callee (f := 24) rfl ?_); refine goesL_ (some 17) rfl rfl Try.func24 (by kernel_rfl) rfl #[.int .i32 (wrap32 (bt x0_1 0))] rfl (by (try simp only [List.map_toArray, List.map_cons, List.map_nil]); first | done | rfl | (simp only [List.length_drop, List.length_take]; rfl)) ?_; (with_reducible refine (semantic_isASCIIDigit.calls (wrap32 (bt x0_1 0)) true _ A10.out).mono ?_); rintro e w' ⟨rfl, ⟨nd, rfl⟩⟩; refine ⟨_, rfl, ?_⟩) | ((with_reducible refine gate_callee (f := 25) rfl ?_); refine goesL_ (some 19) rfl rfl Try.func25 (by kernel_rfl) rfl #[.string x0_1] rfl (by (try simp only [List.map_toArray, List.map_cons, List.map_nil]); first | done | rfl | (simp only [List.length_drop, List.length_take]; rfl)) ?_; (with_reducible refine (semantic_zzPadded.calls kj1 x0_1 t112 _ A12.out).mono ?_); rintro e w' ⟨rfl, ⟨nd, rfl⟩⟩; refine ⟨_, rfl, ?_⟩))
          go_ret
          exact ⟨by first | rfl | (simp; done) | (simp [*]; done) | (simp [bne_nil_hyb]; done) | (simp [bne_nil_hyb, *]; done), by repeat (first | exact Drawn0.refl _ | apply Drawn0.step)⟩
        · replace c11 := Bool.eq_false_iff.mpr c11
          subst c11
          have H1 : (if 1 + x0_1.size ≤ 9223372036854775807 then (some ((⟨#[42]⟩ : ByteArray) ++ x0_1)) else (none)) = some r := by rw [if_neg (show ¬ (false = true) by decide)] at H; exact H
          clear H
          have H := H1
          clear H1
          by_cases c13 : 1 + x0_1.size ≤ 9223372036854775807
          · rw [if_pos c13] at H
            have c13b0 := eq_true c13
            have c13b1 : decide (1 + x0_1.size ≤ 9223372036854775807) = true := decide_eq_true c13
            try have c13b2 : (9223372036854775807 < 1 + x0_1.size) = False := eq_false (Nat.not_lt.2 c13)
            obtain rfl := Option.some.inj H
            have p9 : 0 ≤ (0 : Int) := (by omega)
            have q9 : 0 < x0_1.size := (by have : (0 : Int) < (x0_1.size : Int) := of_decide_eq_true (by first | (with_reducible assumption) | assumption); omega)
            have hx9 : ∀ h : 0 < x0_1.size, ((x0_1[0]'h).toNat : Int) = bt x0_1 0 := bt_at x0_1 0
            clear p9
            have qi9 : (0 < (x0_1.size : Int)) = True := eq_true (of_decide_eq_true (by first | (with_reducible assumption) | assumption))
            replace q9 := eq_true q9
            go_wp2_with (first | ((with_reducible refine gate_callee (f := 24) rfl ?_); refine goesL_ (some 17) rfl rfl Try.func24 (by kernel_rfl) rfl #[.int .i32 (wrap32 (bt x0_1 0))] rfl (by (try simp only [List.map_toArray, List.map_cons, List.map_nil]); first | done | rfl | (simp only [List.length_drop, List.length_take]; rfl)) ?_; (with_reducible refine (semantic_isASCIIDigit.calls (wrap32 (bt x0_1 0)) false _ A10.out).mono ?_); rintro e w' ⟨rfl, ⟨nd, rfl⟩⟩; refine ⟨_, rfl, ?_⟩))
            go_ret
            exact ⟨by first | rfl | (simp; done) | (simp [*]; done) | (simp [bne_nil_hyb]; done) | (simp [bne_nil_hyb, *]; done), by repeat (first | exact Drawn0.refl _ | apply Drawn0.step)⟩
          · rw [if_neg c13] at H
            exact absurd H (by simp)
      · rw [if_neg c8] at H
        exact absurd H (by simp)

end Go.Proofs.Yteffbgjfhbgooaa.Q
