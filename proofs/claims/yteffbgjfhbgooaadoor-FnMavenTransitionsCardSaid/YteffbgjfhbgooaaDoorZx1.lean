/- Proved here: each Go function that is named in this text, called as its theorem 'calls' says, returns what its Lean function 'f' tells, and of the memory that was there nothing is changed (a row of a law: the law returns true). Conditions: those that stand in each theorem; where 'f' tells none, nothing is said. Laid by a program of this seat's prover out of the translation; Lean checks it. -/
import Derived.Test.YteffbgjfhbgooaaDoorZx0
namespace Go.Proofs.YteffbgjfhbgooaaDoor.Z
open Go.RowKit Go.Proofs.YteffbgjfhbgooaaDoorH Go.Proofs.YteffbgjfhbgooaaDoorW.PrintWords Go.Proofs.YteffbgjfhbgooaaDoorW.PrintLast Go.Proofs.YteffbgjfhbgooaaDoorW.PrintMore
attribute [local go_sem] max2_int min2_int max_two min_two max_three min_three max_four min_four   -- for this text's walks alone
set_option linter.unusedVariables false
set_option linter.unusedSimpArgs false

-- NOT PRINTED: function 60 (utf8_decodeRuneInStringSlow)

/-! ### utf8_DecodeRuneInString: function 50 -/
def utf8_DecodeRuneInString.f (a0 : ByteArray) : Option (Int × Int) := if a0.toList = ([] : List UInt8) then (none) else (if 0 < (a0.size : Int) then (if (bt a0 0) < 128 then (some (wrap32 (bt a0 0), 1)) else (none)) else (none))
set_option maxHeartbeats 8000000 in
set_option maxRecDepth 100000 in
theorem utf8_DecodeRuneInString.calls (a0 : ByteArray) (r1 : Int) (r2 : Int) (w : World) (h : utf8_DecodeRuneInString.f a0 = some (r1, r2)) :
    Calls Tryd.prog 50 #[.string a0] w fun e w' => e = .returned (.tuple #[.int .i32 r1, .int .i64 r2]) ∧ Drawn0 w w' := by
  have H : (if a0.toList = ([] : List UInt8) then (none) else (if 0 < (a0.size : Int) then (if (bt a0 0) < 128 then (some (wrap32 (bt a0 0), 1)) else (none)) else (none))) = some (r1, r2) := h
  clear h
  by_cases c2 : a0.toList = ([] : List UInt8)
  · rw [if_pos c2] at H
    exact absurd H (by simp)
  · rw [if_neg c2] at H
    have c2b0 : (a0.toList == ([] : List UInt8)) = false := beq_eq_false_iff_ne.mpr c2
    have c2b1 : (a0.toList != ([] : List UInt8)) = true := bne_iff_ne.mpr c2
    by_cases c3 : 0 < (a0.size : Int)
    · rw [if_pos c3] at H
      have c3b0 : decide (0 < (a0.size : Int)) = true := decide_eq_true c3
      have c3b1 : decide (0 < a0.size) = true := decide_eq_true (by omega)
      clear c3
      by_cases c5 : (bt a0 0) < 128
      · rw [if_pos c5] at H
        have c5b0 : decide ((bt a0 0) < 128) = true := decide_eq_true c5
        clear c5
        simp only [Option.some.injEq, Prod.mk.injEq] at H
        obtain ⟨rfl, rfl⟩ := H
        have p4 : 0 ≤ (0 : Int) := (by omega)
        have q4 : 0 < a0.size := (by have : (0 : Int) < (a0.size : Int) := of_decide_eq_true (by first | (with_reducible assumption) | assumption); omega)
        have hx4 : ∀ h : 0 < a0.size, ((a0[0]'h).toNat : Int) = bt a0 0 := bt_at a0 0
        clear p4
        have qi4 : (0 < (a0.size : Int)) = True := eq_true (of_decide_eq_true (by first | (with_reducible assumption) | assumption))
        replace q4 := eq_true q4
        have p6 : 0 ≤ (0 : Int) := (by omega)
        have q6 : 0 < a0.size := (by have : (0 : Int) < (a0.size : Int) := of_decide_eq_true (by first | (with_reducible assumption) | assumption); omega)
        have hx6 : ∀ h : 0 < a0.size, ((a0[0]'h).toNat : Int) = bt a0 0 := bt_at a0 0
        clear p6
        have qi6 : (0 < (a0.size : Int)) = True := eq_true (of_decide_eq_true (by first | (with_reducible assumption) | assumption))
        replace q6 := eq_true q6
        go_enter Tryd.func50, Tryd.ntmps50
        go_wp2
        go_ret2
        exact ⟨by first | rfl | (simp; done) | (simp [*]; done) | (simp [bne_nil_hyb]; done) | (simp [bne_nil_hyb, *]; done), by repeat (first | exact Drawn0.refl _ | apply Drawn0.step)⟩
      · rw [if_neg c5] at H
        exact absurd H (by simp)
    · rw [if_neg c3] at H
      exact absurd H (by simp)

/-! ### semantic_zzDigit: function 51 -/
def semantic_zzDigit.f (a0 : Int) : Option (Bool) := if a0 ≥ 48 then (some (decide (a0 ≤ 57))) else (some false)
set_option maxHeartbeats 8000000 in
set_option maxRecDepth 100000 in
theorem semantic_zzDigit.calls (a0 : Int) (r : Bool) (w : World) (h : semantic_zzDigit.f a0 = some r) :
    Calls Tryd.prog 51 #[.int .u8 a0] w fun e w' => e = .returned (.bool r) ∧ Drawn0 w w' := by
  have H : (if a0 ≥ 48 then (some (decide (a0 ≤ 57))) else (some false)) = some r := h
  clear h
  by_cases c2 : a0 ≥ 48
  · rw [if_pos c2] at H
    have c2b0 : decide (48 ≤ a0) = true := decide_eq_true c2
    clear c2
    obtain rfl := Option.some.inj H
    go_enter Tryd.func51, Tryd.ntmps51
    go_wp2
    go_ret
    exact ⟨by first | rfl | (simp; done) | (simp [*]; done) | (simp [bne_nil_hyb]; done) | (simp [bne_nil_hyb, *]; done), by repeat (first | exact Drawn0.refl _ | apply Drawn0.step)⟩
  · rw [if_neg c2] at H
    have c2b0 : decide (48 ≤ a0) = false := decide_eq_false c2
    clear c2
    obtain rfl := Option.some.inj H
    go_enter Tryd.func51, Tryd.ntmps51
    go_wp2
    go_ret
    exact ⟨by first | rfl | (simp; done) | (simp [*]; done) | (simp [bne_nil_hyb]; done) | (simp [bne_nil_hyb, *]; done), by repeat (first | exact Drawn0.refl _ | apply Drawn0.step)⟩

/-! ### semantic_zzPairs: function 47 -/
def semantic_zzPairs.l0 : Nat → ByteArray → Bool → List (List Int) → Int → Option ((List (List Int)))
  | 0, _, _, _, _ => none
  | k + 1, x0, x1, x5, x6 => if x6 < (x0.size : Int) then (if 0 ≤ x6 then (if x6 ≤ (x0.size : Int) then ((utf8_DecodeRuneInString.f (x0.extract (x6 : Int).toNat x0.size)).bind fun bt101 => ((semantic_zzDigit.f (bt x0 x6)).bind fun t103 => (if (t103 != x1) = true then (semantic_zzPairs.l0 k x0 x1 x5 (wrap64 (x6 + bt101.2))) else (if (wrap64 (x6 + bt101.2)) ≥ (x0.size : Int) then (semantic_zzPairs.l0 k x0 x1 x5 (wrap64 (x6 + bt101.2))) else (if 0 ≤ (wrap64 (x6 + bt101.2)) then (if (wrap64 (x6 + bt101.2)) < (x0.size : Int) then ((semantic_zzDigit.f (bt x0 (wrap64 (x6 + bt101.2)))).bind fun t104 => (if (t104 == x1) = true then (semantic_zzPairs.l0 k x0 x1 x5 (wrap64 (x6 + bt101.2))) else (if (wrap64 (x6 + bt101.2)) ≤ (x0.size : Int) then ((utf8_DecodeRuneInString.f (x0.extract ((wrap64 (x6 + bt101.2)) : Int).toNat x0.size)).bind fun bt105 => (if x5.length < 5864062014805 then (semantic_zzPairs.l0 k x0 x1 (x5 ++ [(([x6, wrap64 ((wrap64 (x6 + bt101.2)) + bt105.2)] : List Int))]) (wrap64 ((wrap64 (x6 + bt101.2)) + bt105.2))) else (none))) else (none)))) else (none)) else (none)))))) else (none)) else (none)) else (some x5)
def semantic_zzPairs.f (k : Nat) (a0 : ByteArray) (a1 : Bool) : Option ((List (List Int))) := semantic_zzPairs.l0 k a0 a1 ([] : List (List Int)) 0
theorem semantic_zzPairs.mono_l : ∀ k, (∀ y0 y1 y2 y3, LeO (semantic_zzPairs.l0 k y0 y1 y2 y3) (semantic_zzPairs.l0 (k + 1) y0 y1 y2 y3))
  | 0 => fun _ _ _ _ r h => by simp [semantic_zzPairs.l0] at h
  | k + 1 => by
    have ih0 := semantic_zzPairs.mono_l k
    · intro y0 y1 y2 y3
      unfold semantic_zzPairs.l0
      repeat' first
      | (with_reducible exact ih0 _ _ _ _)
      | (with_reducible exact LeO.refl _)
      | (with_reducible exact LeO.none _)
      | (with_reducible refine LeO.ite ?_ ?_)
      | (with_reducible refine LeO.bind ?_ (fun _ => ?_))
      | exact ih0 _ _ _ _
      | exact LeO.none _
      | refine LeO.ite ?_ ?_
      | refine LeO.bind ?_ (fun _ => ?_)
theorem semantic_zzPairs.mono : ∀ a0 a1 k, LeO (semantic_zzPairs.f k a0 a1) (semantic_zzPairs.f (k + 1) a0 a1) := by
  intro a0 a1 k
  have ih0 := semantic_zzPairs.mono_l k
  unfold semantic_zzPairs.f
  repeat' first
      | (with_reducible exact ih0 _ _ _ _)
      | (with_reducible exact LeO.refl _)
      | (with_reducible exact LeO.none _)
      | (with_reducible refine LeO.ite ?_ ?_)
      | (with_reducible refine LeO.bind ?_ (fun _ => ?_))
      | exact ih0 _ _ _ _
      | exact LeO.none _
      | refine LeO.ite ?_ ?_
      | refine LeO.bind ?_ (fun _ => ?_)
set_option maxHeartbeats 8000000 in
set_option maxRecDepth 100000 in
theorem semantic_zzPairs.calls (k : Nat) (a0 : ByteArray) (a1 : Bool) (r : List (List Int)) (w : World) (h : semantic_zzPairs.f k a0 a1 = some r) :
    Calls Tryd.prog 47 #[.string a0, .bool a1] w fun e w' => ∃ v0_ : Value, e = .returned (v0_) ∧ Kd.S (Kd.slice 3 (Kd.int .i64)) 31 w' w.heap.size (fun _ => True) v0_ r ∧ Below w.heap.size w w' := by
  have HB := Aside0.mk (Below.refl w.heap.size w)
  have H : (semantic_zzPairs.l0 k a0 a1 ([] : List (List Int)) 0) = some r := h
  clear h
  have H' := Aside0.mk H
  clear H
  go_enter Tryd.func47, Tryd.ntmps47
  go_wp2
  (try simp only [Act.put, List.setIfInBounds_toArray, List.set_cons_zero, List.set_cons_succ])
  go_loopg [5, 6] k (fun kq v5 v6 w' => ∃ (x5_1 : List (List Int)) (x6_1 : Int), v6 = .int .i64 x6_1 ∧ Aside0 (semantic_zzPairs.l0 kq a0 a1 x5_1 x6_1 = some r) ∧ Aside0 (kq ≤ k) ∧ Aside0 (Kd.S (Kd.slice 3 (Kd.int .i64)) 31 w' w.heap.size (fun _ => True) v5 x5_1) ∧ Aside0 (Below w.heap.size w w'))
  case atStart => exact ⟨(([] : List (List Int))), (0), (by first | rfl | (simp; done) | (simp [*]; done) | (simp [bne_nil_hyb]; done) | (simp [bne_nil_hyb, *]; done)), H', ⟨Nat.le_refl _⟩, ⟨by first | exact Kd.S_nil _ _ _ _ _ | exact Kd.N_nil _ _ _ _ _ | exact Kd.V_nil _ _ _ _ _ | exact Kd.Q_nil _ _ _ _ _ | exact Kd.R_nil _ _ _ _ _⟩, ⟨by repeat (first | (with_reducible first | exact HB.out | apply below_alloc | apply pw_below_drewN | apply below_drew1) | exact HB.out)⟩⟩
  case round =>
    clear H'
    try clear p2
    obtain ⟨x5_1, x6_1, rfl, HA, HK1, HO_5, HB⟩ := hrel
    cases gk with
    | zero => exact absurd HA.out (by simp [semantic_zzPairs.l0])
    | succ k1 =>
      have H := HA.out
      clear HA
      simp only [semantic_zzPairs.l0] at H
      by_cases c3 : x6_1 < (a0.size : Int)
      · rw [if_pos c3] at H
        have c3b0 : decide (x6_1 < (a0.size : Int)) = true := decide_eq_true c3
        clear c3
        by_cases c4 : 0 ≤ x6_1
        · rw [if_pos c4] at H
          have c4b0 := eq_true c4
          have c4b1 : decide (0 ≤ x6_1) = true := decide_eq_true c4
          clear c4
          by_cases c5 : x6_1 ≤ (a0.size : Int)
          · rw [if_pos c5] at H
            have c5b0 := eq_true c5
            have c5b1 : decide (x6_1 ≤ (a0.size : Int)) = true := decide_eq_true c5
            clear c5
            replace H := Option.bind_eq_some_iff.mp H
            obtain ⟨⟨t101, t102⟩, A60, H⟩ := H
            replace H : ((semantic_zzDigit.f (bt a0 x6_1)).bind fun t103 => (if (t103 != a1) = true then (semantic_zzPairs.l0 k1 a0 a1 x5_1 (wrap64 (x6_1 + t102))) else (if (wrap64 (x6_1 + t102)) ≥ (a0.size : Int) then (semantic_zzPairs.l0 k1 a0 a1 x5_1 (wrap64 (x6_1 + t102))) else (if 0 ≤ (wrap64 (x6_1 + t102)) then (if (wrap64 (x6_1 + t102)) < (a0.size : Int) then ((semantic_zzDigit.f (bt a0 (wrap64 (x6_1 + t102)))).bind fun t104 => (if (t104 == a1) = true then (semantic_zzPairs.l0 k1 a0 a1 x5_1 (wrap64 (x6_1 + t102))) else (if (wrap64 (x6_1 + t102)) ≤ (a0.size : Int) then ((utf8_DecodeRuneInString.f (a0.extract ((wrap64 (x6_1 + t102)) : Int).toNat a0.size)).bind fun bt105 => (if x5_1.length < 5864062014805 then (semantic_zzPairs.l0 k1 a0 a1 (x5_1 ++ [(([x6_1, wrap64 ((wrap64 (x6_1 + t102)) + bt105.2)] : List Int))]) (wrap64 ((wrap64 (x6_1 + t102)) + bt105.2))) else (none))) else (none)))) else (none)) else (none))))) = some r := H
            have A6 := Aside0.mk A60
            clear A60
            replace H := Option.bind_eq_some_iff.mp H
            obtain ⟨t103, A80, H⟩ := H
            replace H : (if (t103 != a1) = true then (semantic_zzPairs.l0 k1 a0 a1 x5_1 (wrap64 (x6_1 + t102))) else (if (wrap64 (x6_1 + t102)) ≥ (a0.size : Int) then (semantic_zzPairs.l0 k1 a0 a1 x5_1 (wrap64 (x6_1 + t102))) else (if 0 ≤ (wrap64 (x6_1 + t102)) then (if (wrap64 (x6_1 + t102)) < (a0.size : Int) then ((semantic_zzDigit.f (bt a0 (wrap64 (x6_1 + t102)))).bind fun t104 => (if (t104 == a1) = true then (semantic_zzPairs.l0 k1 a0 a1 x5_1 (wrap64 (x6_1 + t102))) else (if (wrap64 (x6_1 + t102)) ≤ (a0.size : Int) then ((utf8_DecodeRuneInString.f (a0.extract ((wrap64 (x6_1 + t102)) : Int).toNat a0.size)).bind fun bt105 => (if x5_1.length < 5864062014805 then (semantic_zzPairs.l0 k1 a0 a1 (x5_1 ++ [(([x6_1, wrap64 ((wrap64 (x6_1 + t102)) + bt105.2)] : List Int))]) (wrap64 ((wrap64 (x6_1 + t102)) + bt105.2))) else (none))) else (none)))) else (none)) else (none)))) = some r := H
            have A8 := Aside0.mk A80
            clear A80
            by_cases c9 : (t103 != a1) = true
            · rw [if_pos c9] at H
              have c9b0 : (t103 != a1) = true := c9
              (try (have c9b1 : decide (t103 = a1) = false := by simpa using c9))
              (try (have c9b2 : (t103 == a1) = false := by simpa using c9))
              (try (have c9b3 : ¬ (t103 = a1) := by simpa using c9))
              clear c9
              have H' := Aside0.mk H
              clear H
              go_wp2_with (first | ((with_reducible refine gate_callee (f := 50) rfl ?_); refine goesL_ (some 18) rfl rfl Tryd.func50 (by kernel_rfl) rfl #[.string (a0.extract (x6_1 : Int).toNat a0.size)] rfl (by (try simp only [List.map_toArray, List.map_cons, List.map_nil]); first | done | rfl | (simp only [List.length_drop, List.length_take]; rfl)) ?_; (with_reducible refine (utf8_DecodeRuneInString.calls (a0.extract (x6_1 : Int).toNat a0.size) t101 t102 _ A6.out).mono ?_); rintro e w' ⟨rfl, ⟨nd, rfl⟩⟩; refine ⟨_, rfl, ?_⟩; have p7 : 0 ≤ (x6_1 : Int) := of_decide_eq_true (by first | (with_reducible assumption) | assumption); have q7 : x6_1 < (a0.size : Int) := of_decide_eq_true (by first | (with_reducible assumption) | assumption); have hx7 := bt_at a0 x6_1; replace p7 := eq_true p7; replace q7 := eq_true q7) | ((with_reducible refine gate_callee (f := 51) rfl ?_); refine goesL_ (some 27) rfl rfl Tryd.func51 (by kernel_rfl) rfl #[.int .u8 (bt a0 x6_1)] rfl (by (try simp only [List.map_toArray, List.map_cons, List.map_nil]); first | done | rfl | (simp only [List.length_drop, List.length_take]; rfl)) ?_; (with_reducible refine (semantic_zzDigit.calls (bt a0 x6_1) t103 _ A8.out).mono ?_); rintro e w' ⟨rfl, ⟨nd, rfl⟩⟩; refine ⟨_, rfl, ?_⟩))
              go_roundg k1
              case measure => have := HK1.out; omega
              case rel => exact ⟨(x5_1), (wrap64 (x6_1 + t102)), (by first | rfl | (simp; done) | (simp [*]; done) | (simp [bne_nil_hyb]; done) | (simp [bne_nil_hyb, *]; done)), H', ⟨by have := HK1.out; omega⟩, ⟨by (with_reducible repeat (first | apply Kd.S_alloc | apply Kd.S_drewN | apply Kd.S_drew)); exact HO_5.out⟩, ⟨by repeat (first | (with_reducible first | exact HB.out | apply below_alloc | apply pw_below_drewN | apply below_drew1) | exact HB.out)⟩⟩
            · rw [if_neg c9] at H
              have c9b0 : (t103 != a1) = false := by simpa using c9
              (try (have c9b1 : decide (t103 = a1) = true := by simpa using c9))
              (try (have c9b2 : (t103 == a1) = true := by simpa using c9))
              clear c9
              by_cases c10 : (wrap64 (x6_1 + t102)) ≥ (a0.size : Int)
              · rw [if_pos c10] at H
                have c10b0 : decide ((a0.size : Int) ≤ (wrap64 (x6_1 + t102))) = true := decide_eq_true c10
                clear c10
                have H' := Aside0.mk H
                clear H
                go_wp2_with (first | ((with_reducible refine gate_callee (f := 50) rfl ?_); refine goesL_ (some 18) rfl rfl Tryd.func50 (by kernel_rfl) rfl #[.string (a0.extract (x6_1 : Int).toNat a0.size)] rfl (by (try simp only [List.map_toArray, List.map_cons, List.map_nil]); first | done | rfl | (simp only [List.length_drop, List.length_take]; rfl)) ?_; (with_reducible refine (utf8_DecodeRuneInString.calls (a0.extract (x6_1 : Int).toNat a0.size) t101 t102 _ A6.out).mono ?_); rintro e w' ⟨rfl, ⟨nd, rfl⟩⟩; refine ⟨_, rfl, ?_⟩; have p7 : 0 ≤ (x6_1 : Int) := of_decide_eq_true (by first | (with_reducible assumption) | assumption); have q7 : x6_1 < (a0.size : Int) := of_decide_eq_true (by first | (with_reducible assumption) | assumption); have hx7 := bt_at a0 x6_1; replace p7 := eq_true p7; replace q7 := eq_true q7) | ((with_reducible refine gate_callee (f := 51) rfl ?_); refine goesL_ (some 27) rfl rfl Tryd.func51 (by kernel_rfl) rfl #[.int .u8 (bt a0 x6_1)] rfl (by (try simp only [List.map_toArray, List.map_cons, List.map_nil]); first | done | rfl | (simp only [List.length_drop, List.length_take]; rfl)) ?_; (with_reducible refine (semantic_zzDigit.calls (bt a0 x6_1) t103 _ A8.out).mono ?_); rintro e w' ⟨rfl, ⟨nd, rfl⟩⟩; refine ⟨_, rfl, ?_⟩))
                go_roundg k1
                case measure => have := HK1.out; omega
                case rel => exact ⟨(x5_1), (wrap64 (x6_1 + t102)), (by first | rfl | (simp; done) | (simp [*]; done) | (simp [bne_nil_hyb]; done) | (simp [bne_nil_hyb, *]; done)), H', ⟨by have := HK1.out; omega⟩, ⟨by (with_reducible repeat (first | apply Kd.S_alloc | apply Kd.S_drewN | apply Kd.S_drew)); exact HO_5.out⟩, ⟨by repeat (first | (with_reducible first | exact HB.out | apply below_alloc | apply pw_below_drewN | apply below_drew1) | exact HB.out)⟩⟩
              · rw [if_neg c10] at H
                have c10b0 : decide ((a0.size : Int) ≤ (wrap64 (x6_1 + t102))) = false := decide_eq_false c10
                clear c10
                obtain ⟨ji11, hji11⟩ : ∃ j_ : Int, (wrap64 (x6_1 + t102)) = j_ := ⟨_, rfl⟩
                replace H : (if 0 ≤ (ji11) then (if (ji11) < (a0.size : Int) then ((semantic_zzDigit.f (bt a0 (ji11))).bind fun t104 => (if (t104 == a1) = true then (semantic_zzPairs.l0 k1 a0 a1 x5_1 ji11) else (if (ji11) ≤ (a0.size : Int) then ((utf8_DecodeRuneInString.f (a0.extract ((ji11) : Int).toNat a0.size)).bind fun bt105 => (if x5_1.length < 5864062014805 then (semantic_zzPairs.l0 k1 a0 a1 (x5_1 ++ [(([x6_1, wrap64 ((ji11) + bt105.2)] : List Int))]) (wrap64 ((ji11) + bt105.2))) else (none))) else (none)))) else (none)) else (none)) = some r := by first | (rw [hji11] at H; exact H) | (simp only [hji11] at H ⊢; exact H)
                (try rw [hji11] at c10b0)
                (try rw [hji11] at A6)
                (try rw [hji11] at A8)
                have hji11w : (IntKind.i64.wrap (x6_1 + t102)) = ji11 := (i64_w _).trans hji11
                by_cases c12 : 0 ≤ (ji11)
                · rw [if_pos c12] at H
                  have c12b0 : decide (0 ≤ (ji11)) = true := decide_eq_true c12
                  clear c12
                  by_cases c13 : (ji11) < (a0.size : Int)
                  · rw [if_pos c13] at H
                    have c13b0 : decide ((ji11) < (a0.size : Int)) = true := decide_eq_true c13
                    clear c13
                    replace H := Option.bind_eq_some_iff.mp H
                    obtain ⟨t104, A150, H⟩ := H
                    replace H : (if (t104 == a1) = true then (semantic_zzPairs.l0 k1 a0 a1 x5_1 ji11) else (if (ji11) ≤ (a0.size : Int) then ((utf8_DecodeRuneInString.f (a0.extract ((ji11) : Int).toNat a0.size)).bind fun bt105 => (if x5_1.length < 5864062014805 then (semantic_zzPairs.l0 k1 a0 a1 (x5_1 ++ [(([x6_1, wrap64 ((ji11) + bt105.2)] : List Int))]) (wrap64 ((ji11) + bt105.2))) else (none))) else (none))) = some r := H
                    have A15 := Aside0.mk A150
                    clear A150
                    by_cases c16 : (t104 == a1) = true
                    · rw [if_pos c16] at H
                      have c16b0 : (t104 == a1) = true := c16
                      (try (have c16b1 : decide (t104 = a1) = true := by simpa using c16))
                      (try (have c16b2 : (t104 == a1) = true := by simpa using c16))
                      clear c16
                      have H' := Aside0.mk H
                      clear H
                      go_wp2_with (first | ((with_reducible refine gate_callee (f := 50) rfl ?_); refine goesL_ (some 18) rfl rfl Tryd.func50 (by kernel_rfl) rfl #[.string (a0.extract (x6_1 : Int).toNat a0.size)] rfl (by (try simp only [List.map_toArray, List.map_cons, List.map_nil]); first | done | rfl | (simp only [List.length_drop, List.length_take]; rfl)) ?_; (with_reducible refine (utf8_DecodeRuneInString.calls (a0.extract (x6_1 : Int).toNat a0.size) t101 t102 _ A6.out).mono ?_); rintro e w' ⟨rfl, ⟨nd, rfl⟩⟩; refine ⟨_, rfl, ?_⟩; have p7 : 0 ≤ (x6_1 : Int) := of_decide_eq_true (by first | (with_reducible assumption) | assumption); have q7 : x6_1 < (a0.size : Int) := of_decide_eq_true (by first | (with_reducible assumption) | assumption); have hx7 := bt_at a0 x6_1; replace p7 := eq_true p7; replace q7 := eq_true q7) | ((with_reducible refine gate_callee (f := 51) rfl ?_); refine goesL_ (some 27) rfl rfl Tryd.func51 (by kernel_rfl) rfl #[.int .u8 (bt a0 x6_1)] rfl (by (try simp only [List.map_toArray, List.map_cons, List.map_nil]); first | done | rfl | (simp only [List.length_drop, List.length_take]; rfl)) ?_; (with_reducible refine (semantic_zzDigit.calls (bt a0 x6_1) t103 _ A8.out).mono ?_); rintro e w' ⟨rfl, ⟨nd, rfl⟩⟩; refine ⟨_, rfl, ?_⟩; have p14 : 0 ≤ ((ji11) : Int) := of_decide_eq_true (by first | (with_reducible assumption) | assumption); have q14 : (ji11) < (a0.size : Int) := of_decide_eq_true (by first | (with_reducible assumption) | assumption); have hx14 := bt_at a0 (ji11); replace p14 := eq_true p14; replace q14 := eq_true q14) | (go_at_call 51; (with_reducible refine (semantic_zzDigit.calls (bt a0 (ji11)) t104 _ A15.out).mono ?_); rintro e w' ⟨rfl, ⟨nd, rfl⟩⟩))
                      go_roundg k1
                      case measure => have := HK1.out; omega
                      case rel => exact ⟨(x5_1), (ji11), (by first | rfl | (simp; done) | (simp only [← hji11] <;> (first | rfl | simp)) | (simp [*]; done)), H', ⟨by have := HK1.out; omega⟩, ⟨by (with_reducible repeat (first | apply Kd.S_alloc | apply Kd.S_drewN | apply Kd.S_drew)); exact HO_5.out⟩, ⟨by repeat (first | (with_reducible first | exact HB.out | apply below_alloc | apply pw_below_drewN | apply below_drew1) | exact HB.out)⟩⟩
                    · rw [if_neg c16] at H
                      have c16b0 : (t104 == a1) = false := by simpa using c16
                      (try (have c16b1 : decide (t104 = a1) = false := by simpa using c16))
                      (try (have c16b2 : (t104 == a1) = false := by simpa using c16))
                      (try (have c16b3 : ¬ (t104 = a1) := by simpa using c16))
                      clear c16
                      have c17b0 := eq_true (of_decide_eq_true (by first | (with_reducible assumption) | assumption) : 0 ≤ (ji11))
                      by_cases c18 : (ji11) ≤ (a0.size : Int)
                      · rw [if_pos c18] at H
                        have c18b0 := eq_true c18
                        have c18b1 : decide ((ji11) ≤ (a0.size : Int)) = true := decide_eq_true c18
                        clear c18
                        replace H := Option.bind_eq_some_iff.mp H
                        obtain ⟨⟨t105, t106⟩, A190, H⟩ := H
                        replace H : (if x5_1.length < 5864062014805 then (semantic_zzPairs.l0 k1 a0 a1 (x5_1 ++ [(([x6_1, wrap64 ((ji11) + t106)] : List Int))]) (wrap64 ((ji11) + t106))) else (none)) = some r := H
                        have A19 := Aside0.mk A190
                        clear A190
                        obtain ⟨y107, hy107⟩ : ∃ y_ : List Int, y_ = (([x6_1, wrap64 ((ji11) + t106)] : List Int)) := ⟨_, rfl⟩
                        replace H : (if x5_1.length < 5864062014805 then (semantic_zzPairs.l0 k1 a0 a1 (x5_1 ++ [y107]) (wrap64 ((ji11) + t106))) else (none)) = some r := by first | (rw [hy107]; with_reducible exact H) | (have H2_ := (Option.bind_some _ _).symm.trans H; rw [hy107]; with_reducible exact H2_) | (have H2_ := (Option.bind_some _ _).symm.trans H; with_reducible exact H2_) | with_reducible exact H | (rw [hy107]; exact H) | exact H
                        have Ny107 := Aside0.mk hy107
                        clear hy107
                        by_cases c20 : x5_1.length < 5864062014805
                        · rw [if_pos c20] at H
                          have LMc20 := Aside0.mk c20
                          clear c20
                          obtain ⟨y110, hy110⟩ : ∃ y_ : List (List Int), y_ = (x5_1 ++ [y107]) := ⟨_, rfl⟩
                          replace H : (semantic_zzPairs.l0 k1 a0 a1 y110 (wrap64 ((ji11) + t106))) = some r := by first | (rw [hy110]; with_reducible exact H) | (have H2_ := (Option.bind_some _ _).symm.trans H; rw [hy110]; with_reducible exact H2_) | (have H2_ := (Option.bind_some _ _).symm.trans H; with_reducible exact H2_) | with_reducible exact H | (rw [hy110]; exact H) | exact H
                          have Ny110 := Aside0.mk hy110
                          clear hy110
                          have H' := Aside0.mk H
                          clear H
                          go_wp2_with (first | ((with_reducible refine gate_callee (f := 50) rfl ?_); refine goesL_ (some 18) rfl rfl Tryd.func50 (by kernel_rfl) rfl #[.string (a0.extract (x6_1 : Int).toNat a0.size)] rfl (by (try simp only [List.map_toArray, List.map_cons, List.map_nil]); first | done | rfl | (simp only [List.length_drop, List.length_take]; rfl)) ?_; (with_reducible refine (utf8_DecodeRuneInString.calls (a0.extract (x6_1 : Int).toNat a0.size) t101 t102 _ A6.out).mono ?_); rintro e w' ⟨rfl, ⟨nd, rfl⟩⟩; refine ⟨_, rfl, ?_⟩; have p7 : 0 ≤ (x6_1 : Int) := of_decide_eq_true (by first | (with_reducible assumption) | assumption); have q7 : x6_1 < (a0.size : Int) := of_decide_eq_true (by first | (with_reducible assumption) | assumption); have hx7 := bt_at a0 x6_1; replace p7 := eq_true p7; replace q7 := eq_true q7) | ((with_reducible refine gate_callee (f := 51) rfl ?_); refine goesL_ (some 27) rfl rfl Tryd.func51 (by kernel_rfl) rfl #[.int .u8 (bt a0 x6_1)] rfl (by (try simp only [List.map_toArray, List.map_cons, List.map_nil]); first | done | rfl | (simp only [List.length_drop, List.length_take]; rfl)) ?_; (with_reducible refine (semantic_zzDigit.calls (bt a0 x6_1) t103 _ A8.out).mono ?_); rintro e w' ⟨rfl, ⟨nd, rfl⟩⟩; refine ⟨_, rfl, ?_⟩; have p14 : 0 ≤ ((ji11) : Int) := of_decide_eq_true (by first | (with_reducible assumption) | assumption); have q14 : (ji11) < (a0.size : Int) := of_decide_eq_true (by first | (with_reducible assumption) | assumption); have hx14 := bt_at a0 (ji11); replace p14 := eq_true p14; replace q14 := eq_true q14) | (go_at_call 51; (with_reducible refine (semantic_zzDigit.calls (bt a0 (ji11)) t104 _ A15.out).mono ?_); rintro e w' ⟨rfl, ⟨nd, rfl⟩⟩) | ((with_reducible refine gate_callee (f := 50) rfl ?_); refine goesL_ (some 49) rfl rfl Tryd.func50 (by kernel_rfl) rfl #[.string (a0.extract ((ji11) : Int).toNat a0.size)] rfl (by (try simp only [List.map_toArray, List.map_cons, List.map_nil]); first | done | (simp only [hji11]; rfl) | rfl | (simp only [List.length_drop, List.length_take]; rfl)) ?_; (with_reducible refine (utf8_DecodeRuneInString.calls (a0.extract ((ji11) : Int).toNat a0.size) t105 t106 _ A19.out).mono ?_); rintro e w' ⟨rfl, ⟨nd, rfl⟩⟩; refine ⟨_, rfl, ?_⟩) | ((with_reducible refine gate_dst (N := 57) rfl ?_); (try (refine gate_guard (by rfl) ?_; dsimp only)); refine Kd.R_lit (Kd.int .i64) _ 3 ?hg (N := 57) ?hd (xs := ([x6_1, wrap64 ((ji11) + t106)] : List Int)) (inner := [.int .i64 x6_1, .int .i64 (wrap64 ((ji11) + t106))]) (ok := fun _ => True) (okp := fun _ => True) ?hr ?hp (fun _ hk => hk) trivial (Below.refl _ _) (Nat.le_refl _) (by simp) ?_; (case hd => rfl); (case hg => rfl); (case hr => first | (go_simp; done) | (go_simp; rfl)); (case hp => exact (Reps.one (show Kd.M (Kd.int .i64) _ _ _ x6_1 [.int .i64 x6_1] from rfl) (Reps.one (show Kd.M (Kd.int .i64) _ _ _ (wrap64 ((ji11) + t106)) [.int .i64 (wrap64 ((ji11) + t106))] from rfl) (Reps.none _ _)))); intro v108 w21 ho22 hb hg_ hnew_; clear hg_ hnew_; (first | rw [← Ny107.out] at ho22 | (simp only [Int.reduceToNat] at ho22; rw [← Ny107.out] at ho22)); have n0_ := Aside0.mk (Kd.S_elder' (by (with_reducible repeat (first | apply Kd.S_alloc | apply Kd.S_drewN | apply Kd.S_drew)); exact HO_5.out) (Kd.R_base ho22) hb); have n1_ := Aside0.mk (Kd.R_lower ho22 (below_size (by repeat (first | (with_reducible first | exact HB.out | apply below_alloc | apply pw_below_drewN | apply below_drew1) | exact HB.out)))); have n2_ := Aside0.mk (below_step (by repeat (first | (with_reducible first | exact HB.out | apply below_alloc | apply pw_below_drewN | apply below_drew1) | exact HB.out)) hb); clear HO_5; clear HB; have HO_5 := n0_; have HO109 := n1_; have HB := n2_; clear n0_ n1_ n2_; clear hb ho22; obtain ⟨Ao24, co24, eo24⟩ := Kd.R_slice HO109.out; subst eo24) | ((with_reducible refine gate_builtin (b := .append) (xs := #[.tmp 52, .tmp 58]) rfl ?_); (try (refine gate_guard (by rfl) ?_; dsimp only)); at_builtin; refine Kd.S_append (Kd.slice 3 (Kd.int .i64)) (w0 := w) w.heap.size rfl (.tmp 52) (.tmp 58) 43 31 (.slice none 0 0) 24 rfl Tryd.underlying43 info31 rfl (by decide) (by omega) u5 x5_1 y107 [.slice Ao24 y107.length co24] (fun _ => True) (fun k_ => some k_ = (.slice Ao24 y107.length co24 : Value).ownBlock) rfl rfl ?aP (fun k_ hk_ => ((Kd.R_mono (ok' := fun k_ => ((fun _ => True)) k_ ∧ some k_ ≠ (u5 : Value).ownBlock) (Kd.R_apart' (HO109.out) (Kd.S_typed HO_5.out) (by decide)) (fun k_ hk => ⟨trivial, hk.2⟩))).1 k_ hk_.symm) ?aF ?aO ?aB ?aS ?aL ?_; (case aP => exact Kd.M_row (Kd.R_mono (Kd.R_tight rfl (Kd.R_mono (ok' := fun k_ => ((fun _ => True)) k_ ∧ some k_ ≠ (u5 : Value).ownBlock) (Kd.R_apart' (HO109.out) (Kd.S_typed HO_5.out) (by decide)) (fun k_ hk => ⟨trivial, hk.2⟩))) (fun _ h_ => h_))); (case aB => exact (by repeat (first | (with_reducible first | exact HB.out | apply below_alloc | apply pw_below_drewN | apply below_drew1) | exact HB.out))); (case aF => exact (fun _ _ => trivial)); (case aO => exact (by (with_reducible repeat (first | apply Kd.S_alloc | apply Kd.S_drewN | apply Kd.S_drew)); exact Kd.S_mono HO_5.out (fun k_ hk => ⟨trivial, fun e_ => hk.2 e_⟩))); (case aS => exact (below_size (by repeat (first | (with_reducible first | exact HB.out | apply below_alloc | apply pw_below_drewN | apply below_drew1) | exact HB.out)))); (case aL => have := LMc20.out; omega); intro v111 w23 ho hb hg hat; rw [← Ny110.out] at ho; have n0_ := Aside0.mk (hb); have n1_ := Aside0.mk (ho); clear HB; clear HO_5; clear HO109; have HB := n0_; have HO112 := n1_; clear n0_ n1_; clear ho hb hg hat))
                          go_roundg k1
                          case measure => have := HK1.out; omega
                          case rel => exact ⟨(y110), (wrap64 ((ji11) + t106)), (by first | rfl | (simp; done) | (simp only [← hji11] <;> (first | rfl | simp)) | (simp [*]; done)), H', ⟨by have := HK1.out; omega⟩, ⟨by (with_reducible repeat (first | apply Kd.S_alloc | apply Kd.S_drewN | apply Kd.S_drew)); exact HO112.out⟩, ⟨by repeat (first | (with_reducible first | exact HB.out | apply below_alloc | apply pw_below_drewN | apply below_drew1) | exact HB.out)⟩⟩
                        · rw [if_neg c20] at H
                          exact absurd H (by simp)
                      · rw [if_neg c18] at H
                        exact absurd H (by simp)
                  · rw [if_neg c13] at H
                    exact absurd H (by simp)
                · rw [if_neg c12] at H
                  exact absurd H (by simp)
          · rw [if_neg c5] at H
            exact absurd H (by simp)
        · rw [if_neg c4] at H
          exact absurd H (by simp)
      · rw [if_neg c3] at H
        have c3b0 : decide (x6_1 < (a0.size : Int)) = false := decide_eq_false c3
        clear c3
        obtain rfl := Option.some.inj H
        go_wp2
        go_ret
        exact ⟨_, by first | rfl | (simp [errW_none, errW_some] <;> rfl) | (simp [*, errW_none, errW_some] <;> rfl) | (simp [bne_nil_hyb]; done), by (with_reducible repeat (first | apply Kd.S_alloc | apply Kd.S_drewN | apply Kd.S_drew)); exact HO_5.out, by repeat (first | (with_reducible first | exact HB.out | apply below_alloc | apply pw_below_drewN | apply below_drew1) | exact HB.out)⟩

-- LEFT OUT: function 92 (cmp_isNaN_int)

-- LEFT OUT: function 79 (cmp_Less_int)

-- LEFT OUT: function 73 (slices_insertionSortOrdered_int)

-- LEFT OUT: function 87 (slices_siftDownOrdered_int)

-- LEFT OUT: function 74 (slices_heapSortOrdered_int)

-- LEFT OUT: function 82 (bits_Len32)

-- LEFT OUT: function 83 (bits_Len64)

-- LEFT OUT: function 68 (bits_Len)

-- LEFT OUT: function 88 (slices_nextPowerOfTwo)

-- NOT PRINTED: function 89 (slices_xorshift_Next)

-- LEFT OUT: function 75 (slices_breakPatternsOrdered_int)

-- LEFT OUT: function 93 (slices_order2Ordered_int)

-- LEFT OUT: function 91 (slices_medianOrdered_int)

-- LEFT OUT: function 90 (slices_medianAdjacentOrdered_int)

-- LEFT OUT: function 76 (slices_choosePivotOrdered_int)

-- LEFT OUT: function 77 (slices_reverseRangeOrdered_int)

-- LEFT OUT: function 78 (slices_partialInsertionSortOrdered_int)

-- LEFT OUT: function 80 (slices_partitionEqualOrdered_int)

-- LEFT OUT: function 81 (slices_partitionOrdered_int)

-- LEFT OUT: function 67 (slices_pdqsortOrdered_int)

-- LEFT OUT: function 58 (slices_Sort_int_int)

-- LEFT OUT: function 48 (sort_Ints)

/-! ### semantic_mavenFindTransitions: function 40 -/
mutual
def semantic_mavenFindTransitions.l0 : Nat → ByteArray → List Int → List (List Int) → Int → Int → Option (List Int)
  | 0, _, _, _, _, _ => none
  | k + 1, x0, x2, x8, x9, x10 => if x10 < x9 then (if 0 ≤ x10 then (if x10 < (x8.length : Int) then (if 0 < ((rd_L1 x8 x10).length : Int) then (if x2.length < 17592186044416 then (semantic_mavenFindTransitions.l0 k x0 (x2 ++ [wrap64 ((rd (rd_L1 x8 x10) 0) + 1)]) x8 x9 (wrap64 (x10 + 1))) else (none)) else (none)) else (none)) else (none)) else ((semantic_zzPairs.f k x0 true).bind fun t121 => (semantic_mavenFindTransitions.l1 k x2 t121 (t121.length : Int) 0))
def semantic_mavenFindTransitions.l1 : Nat → List Int → List (List Int) → Int → Int → Option (List Int)
  | 0, _, _, _, _ => none
  | k + 1, x2, x23, x24, x25 => if x25 < x24 then (if 0 ≤ x25 then (if x25 < (x23.length : Int) then (if 0 < ((rd_L1 x23 x25).length : Int) then (if x2.length < 17592186044416 then (semantic_mavenFindTransitions.l1 k (x2 ++ [wrap64 ((rd (rd_L1 x23 x25) 0) + 1)]) x23 x24 (wrap64 (x25 + 1))) else (none)) else (none)) else (none)) else (none)) else (none)
end
def semantic_mavenFindTransitions.f (k : Nat) (a0 : ByteArray) : Option (List Int) := (semantic_zzPairs.f k a0 false).bind fun t113 => (semantic_mavenFindTransitions.l0 k a0 ([] : List Int) t113 (t113.length : Int) 0)
theorem semantic_mavenFindTransitions.mono_l : ∀ k, (∀ y0 y1 y2 y3 y4, LeO (semantic_mavenFindTransitions.l0 k y0 y1 y2 y3 y4) (semantic_mavenFindTransitions.l0 (k + 1) y0 y1 y2 y3 y4)) ∧ (∀ y0 y1 y2 y3, LeO (semantic_mavenFindTransitions.l1 k y0 y1 y2 y3) (semantic_mavenFindTransitions.l1 (k + 1) y0 y1 y2 y3))
  | 0 => ⟨fun _ _ _ _ _ r h => by simp [semantic_mavenFindTransitions.l0] at h, fun _ _ _ _ r h => by simp [semantic_mavenFindTransitions.l1] at h⟩
  | k + 1 => by
    obtain ⟨ih0, ih1⟩ := semantic_mavenFindTransitions.mono_l k
    refine ⟨?_, ?_⟩
    · intro y0 y1 y2 y3 y4
      unfold semantic_mavenFindTransitions.l0
      repeat' first
      | (with_reducible exact ih0 _ _ _ _ _)
      | (with_reducible exact ih1 _ _ _ _)
      | (with_reducible exact semantic_zzPairs.mono _ _ _)
      | (with_reducible exact LeO.refl _)
      | (with_reducible exact LeO.none _)
      | (with_reducible refine LeO.ite ?_ ?_)
      | (with_reducible refine LeO.bind ?_ (fun _ => ?_))
      | exact ih0 _ _ _ _ _
      | exact ih1 _ _ _ _
      | exact semantic_zzPairs.mono _ _ _
      | exact LeO.none _
      | refine LeO.ite ?_ ?_
      | refine LeO.bind ?_ (fun _ => ?_)
    · intro y0 y1 y2 y3
      unfold semantic_mavenFindTransitions.l1
      repeat' first
      | (with_reducible exact ih0 _ _ _ _ _)
      | (with_reducible exact ih1 _ _ _ _)
      | (with_reducible exact semantic_zzPairs.mono _ _ _)
      | (with_reducible exact LeO.refl _)
      | (with_reducible exact LeO.none _)
      | (with_reducible refine LeO.ite ?_ ?_)
      | (with_reducible refine LeO.bind ?_ (fun _ => ?_))
      | exact ih0 _ _ _ _ _
      | exact ih1 _ _ _ _
      | exact semantic_zzPairs.mono _ _ _
      | exact LeO.none _
      | refine LeO.ite ?_ ?_
      | refine LeO.bind ?_ (fun _ => ?_)
theorem semantic_mavenFindTransitions.mono : ∀ a0 k, LeO (semantic_mavenFindTransitions.f k a0) (semantic_mavenFindTransitions.f (k + 1) a0) := by
  intro a0 k
  obtain ⟨ih0, ih1⟩ := semantic_mavenFindTransitions.mono_l k
  unfold semantic_mavenFindTransitions.f
  repeat' first
      | (with_reducible exact ih0 _ _ _ _ _)
      | (with_reducible exact ih1 _ _ _ _)
      | (with_reducible exact semantic_zzPairs.mono _ _ _)
      | (with_reducible exact LeO.refl _)
      | (with_reducible exact LeO.none _)
      | (with_reducible refine LeO.ite ?_ ?_)
      | (with_reducible refine LeO.bind ?_ (fun _ => ?_))
      | exact ih0 _ _ _ _ _
      | exact ih1 _ _ _ _
      | exact semantic_zzPairs.mono _ _ _
      | exact LeO.none _
      | refine LeO.ite ?_ ?_
      | refine LeO.bind ?_ (fun _ => ?_)
set_option maxHeartbeats 8000000 in
set_option maxRecDepth 100000 in
theorem semantic_mavenFindTransitions.calls (k : Nat) (a0 : ByteArray) (r : List Int) (w : World) (h : semantic_mavenFindTransitions.f k a0 = some r) :
    Calls Tryd.prog 40 #[.string a0] w fun e w' => ∃ v0_ : Value, e = .returned (v0_) ∧ Kd.R (Kd.int .i64) 3 w' w.heap.size (fun _ => True) v0_ r ∧ Below w.heap.size w w' := by
  have HB := Aside0.mk (Below.refl w.heap.size w)
  have H : ((semantic_zzPairs.f k a0 false).bind fun t113 => (semantic_mavenFindTransitions.l0 k a0 ([] : List Int) t113 (t113.length : Int) 0)) = some r := h
  clear h
  replace H := Option.bind_eq_some_iff.mp H
  obtain ⟨t113, A20, H⟩ := H
  replace H : (semantic_mavenFindTransitions.l0 k a0 ([] : List Int) t113 (t113.length : Int) 0) = some r := H
  have A2 := Aside0.mk A20
  clear A20
  have H' := Aside0.mk H
  clear H
  go_enter Tryd.func40, Tryd.ntmps40
  go_wp2_with (first | ((with_reducible refine gate_callee (f := 47) rfl ?_); refine goesL_ (some 8) rfl rfl Tryd.func47 (by kernel_rfl) rfl #[.string a0, .bool false] rfl (by (try simp only [List.map_toArray, List.map_cons, List.map_nil]); first | done | rfl | (simp only [List.length_drop, List.length_take]; rfl)) ?_; (with_reducible refine (semantic_zzPairs.calls k a0 false t113 _ A2.out).mono ?_); rintro e w3 ⟨v114, rfl, ho0, hb⟩; refine ⟨_, rfl, ?_⟩; have n0_ := Aside0.mk (Kd.S_lower ho0 (below_size (by repeat (first | (with_reducible first | exact HB.out | apply below_alloc | apply pw_below_drewN | apply below_drew1) | exact HB.out)))); have n1_ := Aside0.mk (below_step (by repeat (first | (with_reducible first | exact HB.out | apply below_alloc | apply pw_below_drewN | apply below_drew1) | exact HB.out)) hb); clear HB; have HO115 := n0_; have HB := n1_; clear n0_ n1_; (try clear hb); (try clear hb2); (try clear hk); (try clear hi); (try clear ho0); obtain ⟨Ao4, co4, eo4⟩ := Kd.S_slice HO115.out; subst eo4))
  (try simp only [Act.put, List.setIfInBounds_toArray, List.set_cons_zero, List.set_cons_succ])
  go_loopg [2, 10] k (fun kq v2 v10 w' => ∃ (x2_1 : List Int) (x10_1 : Int), v10 = .int .i64 x10_1 ∧ Aside0 (semantic_mavenFindTransitions.l0 kq a0 x2_1 t113 (t113.length : Int) x10_1 = some r) ∧ Aside0 (kq ≤ k) ∧ Aside0 (Kd.R (Kd.int .i64) 3 w' w.heap.size (fun _ => True) v2 x2_1) ∧ Aside0 (Kd.S (Kd.slice 3 (Kd.int .i64)) 31 w' w.heap.size (fun k_ => some k_ ≠ (v2 : Value).ownBlock) (.slice Ao4 t113.length co4) t113) ∧ Aside0 (Below w.heap.size w w'))
  case atStart => exact ⟨(([] : List Int)), (0), (by first | rfl | (simp; done) | (simp [*]; done) | (simp [bne_nil_hyb]; done) | (simp [bne_nil_hyb, *]; done)), H', ⟨Nat.le_refl _⟩, ⟨by first | exact Kd.R_nil _ _ _ _ _ | exact Kd.N_nil _ _ _ _ _ | exact Kd.V_nil _ _ _ _ _ | exact Kd.Q_nil _ _ _ _ _ | exact Kd.S_nil _ _ _ _ _⟩, ⟨by (with_reducible repeat (first | apply Kd.S_alloc | apply Kd.S_drewN | apply Kd.S_drew)); exact Kd.S_mono HO115.out (fun _ hk => (by simp [Value.ownBlock]))⟩, ⟨by repeat (first | (with_reducible first | exact HB.out | apply below_alloc | apply pw_below_drewN | apply below_drew1) | exact HB.out)⟩⟩
  case round =>
    clear H'
    try clear p2
    try clear c4
    obtain ⟨x2_1, x10_1, rfl, HA, HK1, HO_2, HO_8, HB⟩ := hrel
    cases gk with
    | zero => exact absurd HA.out (by simp [semantic_mavenFindTransitions.l0])
    | succ k1 =>
      have H := HA.out
      clear HA
      simp only [semantic_mavenFindTransitions.l0] at H
      by_cases c5 : x10_1 < (t113.length : Int)
      · rw [if_pos c5] at H
        have c5b0 : decide (x10_1 < (t113.length : Int)) = true := decide_eq_true c5
        clear c5
        by_cases c6 : 0 ≤ x10_1
        · rw [if_pos c6] at H
          have c6b0 : decide (0 ≤ x10_1) = true := decide_eq_true c6
          clear c6
          by_cases c7 : x10_1 < (t113.length : Int)
          · rw [if_pos c7] at H
            have c7b0 : decide (x10_1 < (t113.length : Int)) = true := decide_eq_true c7
            clear c7
            by_cases c8 : 0 < ((rd_L1 t113 x10_1).length : Int)
            · rw [if_pos c8] at H
              have c8b0 : decide (0 < ((rd_L1 t113 x10_1).length : Int)) = true := decide_eq_true c8
              have c8b1 : decide (0 < (rd_L1 t113 x10_1).length) = true := decide_eq_true (by omega)
              clear c8
              by_cases c9 : x2_1.length < 17592186044416
              · rw [if_pos c9] at H
                have LMc9 := Aside0.mk c9
                clear c9
                obtain ⟨y118, hy118⟩ : ∃ y_ : List Int, y_ = (x2_1 ++ [wrap64 ((rd (rd_L1 t113 x10_1) 0) + 1)]) := ⟨_, rfl⟩
                replace H : (semantic_mavenFindTransitions.l0 k1 a0 y118 t113 (t113.length : Int) (wrap64 (x10_1 + 1))) = some r := by first | (rw [hy118]; with_reducible exact H) | (have H2_ := (Option.bind_some _ _).symm.trans H; rw [hy118]; with_reducible exact H2_) | (have H2_ := (Option.bind_some _ _).symm.trans H; with_reducible exact H2_) | with_reducible exact H | (rw [hy118]; exact H) | exact H
                have Ny118 := Aside0.mk hy118
                clear hy118
                have H' := Aside0.mk H
                clear H
                have p116 : 0 ≤ (x10_1 : Int) := of_decide_eq_true (by first | (with_reducible assumption) | assumption)
                have q116 : x10_1 < (t113.length : Int) := of_decide_eq_true (by first | (with_reducible assumption) | assumption)
                obtain ⟨ad116, A116_0, c116_0, e116, hx116_0, hl116_0, hi116_0⟩ := at_L1 (Kd.S_reads' HO_8.out).2.2 x10_1 p116 q116
                cases e116
                obtain ⟨ce116, hce116, hMe116, hcc116⟩ := Kd.S_get HO_8.out [] x10_1 p116 (by first | exact q116 | exact of_decide_eq_true (by first | (with_reducible assumption) | assumption) | (have e_ := (Kd.S_reads' HO_8.out).1; omega))
                obtain ⟨ve116_0, rfl, ge116_0⟩ := hMe116
                have hv116_0 := hcc116 0 _ rfl
                rw [Nat.add_zero, show ((Kd.slice 3 (Kd.int .i64))).sz = 1 from rfl, Nat.mul_one] at hv116_0
                replace hv116_0 := Option.some.inj (hv116_0.symm.trans hx116_0)
                rw [hv116_0] at ge116_0
                have HL116_0 := Aside0.mk (show Kd.R (Kd.int .i64) 3 _ _ _ _ (rd_L1 t113 x10_1) from ge116_0)
                clear hv116_0 ge116_0
                clear hcc116 hce116
                have HR116_0 := Aside0.mk hi116_0
                have HC116_0 := Aside0.mk hl116_0
                clear hi116_0 hl116_0
                replace p116 := eq_true p116
                replace q116 := eq_true q116
                have p117 : 0 ≤ (0 : Int) := (by omega)
                have q117 : 0 < ((rd_L1 t113 x10_1).length : Int) := of_decide_eq_true (by first | (with_reducible assumption) | assumption)
                obtain ⟨ad117, e117, hx117_0⟩ := Kd.at_int (by repeat (first | (with_reducible exact HR116_0.out) | (with_reducible refine Kd.C_alloc ?_ _) | (with_reducible refine Kd.C_drewN ?_ _) | (with_reducible refine Kd.C_drew ?_) | exact HR116_0.out)) 0 p117 q117
                cases e117
                have qi117 : (0 < (rd_L1 t113 x10_1).length) = True := eq_true (by omega)
                (try rw [show ((0 : Int)).toNat = 0 from rfl] at hx117_0)
                (try rw [Addr.add_zero'] at hx117_0)
                replace p117 := eq_true p117
                replace q117 := eq_true q117
                go_wp2_with (first | ((with_reducible refine gate_builtin (b := .append) (xs := #[.tmp 14, .tmp 19]) rfl ?_); at_builtin; refine Kd.R_append (Kd.int .i64) (w0 := w) w.heap.size rfl (.tmp 14) (.tmp 19) 31 3 (.int .i64 0) 8 rfl Tryd.underlying31 info3 rfl (by decide) (by omega) u2 x2_1 (wrap64 ((rd (rd_L1 t113 x10_1) 0) + 1)) [.int .i64 (wrap64 ((rd (rd_L1 t113 x10_1) 0) + 1))] (fun _ => True) (fun _ => False) rfl rfl ?aP (fun _ hk => hk.elim) ?aF ?aO ?aB ?aS ?aL ?_; (case aP => exact rfl); (case aB => exact (by repeat (first | (with_reducible first | exact HB.out | apply below_alloc | apply pw_below_drewN | apply below_drew1) | exact HB.out))); (case aF => exact (fun _ _ => trivial)); (case aO => exact (by (with_reducible repeat (first | apply Kd.R_alloc | apply Kd.R_drewN | apply Kd.R_drew)); exact HO_2.out)); (case aS => exact (below_size (by repeat (first | (with_reducible first | exact HB.out | apply below_alloc | apply pw_below_drewN | apply below_drew1) | exact HB.out)))); (case aL => have := LMc9.out; omega); intro v119 w10 ho hb hg hat; rw [← Ny118.out] at ho; have n0_ := Aside0.mk (Kd.S_after (ok := (fun _ => True)) (by (with_reducible repeat (first | apply Kd.S_alloc | apply Kd.S_drewN | apply Kd.S_drew)); exact Kd.S_mono HO_8.out (fun _ hk => ⟨trivial, hk⟩)) hg hat); have n1_ := Aside0.mk (Kd.R_after (ok := (fun k_ => some k_ ≠ (.slice (some ad116) t113.length co4 : Value).ownBlock)) (by (with_reducible repeat (first | apply Kd.R_alloc | apply Kd.R_drewN | apply Kd.R_drew)); exact Kd.R_mono HL116_0.out (fun _ hk => ⟨hk.2, hk.1⟩)) hg hat); have n2_ := Aside0.mk (hb); have n3_ := Aside0.mk (ho); clear HO_8; clear HL116_0; clear HB; clear HO_2; have HO_8 := n0_; have HL116_0 := n1_; have HB := n2_; have HO120 := n3_; clear n0_ n1_ n2_ n3_; clear ho hb hg hat))
                go_roundg k1
                case measure => have := HK1.out; omega
                case rel => exact ⟨(y118), (wrap64 (x10_1 + 1)), (by first | rfl | (simp; done) | (simp [*]; done) | (simp [bne_nil_hyb]; done) | (simp [bne_nil_hyb, *]; done)), H', ⟨by have := HK1.out; omega⟩, ⟨by (with_reducible repeat (first | apply Kd.R_alloc | apply Kd.R_drewN | apply Kd.R_drew)); exact HO120.out⟩, ⟨by (with_reducible repeat (first | apply Kd.S_alloc | apply Kd.S_drewN | apply Kd.S_drew)); exact Kd.S_mono HO_8.out (fun _ hk => hk.2)⟩, ⟨by repeat (first | (with_reducible first | exact HB.out | apply below_alloc | apply pw_below_drewN | apply below_drew1) | exact HB.out)⟩⟩
              · rw [if_neg c9] at H
                exact absurd H (by simp)
            · rw [if_neg c8] at H
              exact absurd H (by simp)
          · rw [if_neg c7] at H
            exact absurd H (by simp)
        · rw [if_neg c6] at H
          exact absurd H (by simp)
      · rw [if_neg c5] at H
        have c5b0 : decide (x10_1 < (t113.length : Int)) = false := decide_eq_false c5
        clear c5
        replace H := Option.bind_eq_some_iff.mp H
        obtain ⟨t121, A110, H⟩ := H
        replace H : (semantic_mavenFindTransitions.l1 k1 x2_1 t121 (t121.length : Int) 0) = some r := H
        have A11 := Aside0.mk A110
        clear A110
        have H' := Aside0.mk H
        clear H
        go_wp2_with (first | ((with_reducible refine gate_callee (f := 47) rfl ?_); refine goesL_ (some 23) rfl rfl Tryd.func47 (by kernel_rfl) rfl #[.string a0, .bool true] rfl (by (try simp only [List.map_toArray, List.map_cons, List.map_nil]); first | done | rfl | (simp only [List.length_drop, List.length_take]; rfl)) ?_; (with_reducible refine (semantic_zzPairs.calls k1 a0 true t121 _ A11.out).mono ?_); rintro e w12 ⟨v122, rfl, ho0, hb⟩; refine ⟨_, rfl, ?_⟩; have n0_ := Aside0.mk (Kd.R_below (by (with_reducible repeat (first | apply Kd.R_alloc | apply Kd.R_drewN | apply Kd.R_drew)); exact HO_2.out) hb); have n1_ := Aside0.mk (Kd.S_elder' (by (with_reducible repeat (first | apply Kd.S_alloc | apply Kd.S_drewN | apply Kd.S_drew)); exact HO_8.out) (Kd.S_base ho0) hb); have n2_ := Aside0.mk (Kd.S_lower (Kd.S_new' (Kd.S_new' ho0 (Kd.R_lt (by (with_reducible repeat (first | apply Kd.R_alloc | apply Kd.R_drewN | apply Kd.R_drew)); exact HO_2.out))) (Kd.S_lt (by (with_reducible repeat (first | apply Kd.S_alloc | apply Kd.S_drewN | apply Kd.S_drew)); exact HO_8.out))) (below_size (by repeat (first | (with_reducible first | exact HB.out | apply below_alloc | apply pw_below_drewN | apply below_drew1) | exact HB.out)))); have n3_ := Aside0.mk (below_step (by repeat (first | (with_reducible first | exact HB.out | apply below_alloc | apply pw_below_drewN | apply below_drew1) | exact HB.out)) hb); clear HO_2; clear HO_8; clear HB; have HO_2 := n0_; have HO_8 := n1_; have HO123 := n2_; have HB := n3_; clear n0_ n1_ n2_ n3_; (try clear hb); (try clear hb2); (try clear hk); (try clear hi); (try clear ho0); obtain ⟨Ao13, co13, eo13⟩ := Kd.S_slice HO123.out; subst eo13))
        (try simp only [Act.put, List.setIfInBounds_toArray, List.set_cons_zero, List.set_cons_succ])
        go_loopg [2, 25] k1 (fun kq v2 v25 w' => ∃ (x2_2 : List Int) (x25_2 : Int), v25 = .int .i64 x25_2 ∧ Aside0 (semantic_mavenFindTransitions.l1 kq x2_2 t121 (t121.length : Int) x25_2 = some r) ∧ Aside0 (kq ≤ k1) ∧ Aside0 (Kd.R (Kd.int .i64) 3 w' w.heap.size (fun _ => True) v2 x2_2) ∧ Aside0 (Kd.S (Kd.slice 3 (Kd.int .i64)) 31 w' w.heap.size (fun k_ => some k_ ≠ (v2 : Value).ownBlock) (.slice Ao13 t121.length co13) t121) ∧ Aside0 (Below w.heap.size w w'))
        case atStart => exact ⟨(x2_1), (0), (by first | rfl | (simp; done) | (simp [*]; done) | (simp [bne_nil_hyb]; done) | (simp [bne_nil_hyb, *]; done)), H', ⟨Nat.le_refl _⟩, ⟨by (with_reducible repeat (first | apply Kd.R_alloc | apply Kd.R_drewN | apply Kd.R_drew)); exact HO_2.out⟩, ⟨by (with_reducible repeat (first | apply Kd.S_alloc | apply Kd.S_drewN | apply Kd.S_drew)); exact Kd.S_mono HO123.out (fun _ hk => hk.1.2)⟩, ⟨by repeat (first | (with_reducible first | exact HB.out | apply below_alloc | apply pw_below_drewN | apply below_drew1) | exact HB.out)⟩⟩
        case round =>
          clear H'
          try clear c1
          try clear p1
          try clear q1
          try clear hx1
          try clear qi1
          try clear p2
          try clear c4
          try clear c5
          try clear c5b0
          try clear c6
          try clear c6b0
          try clear p6
          try clear c7
          try clear c7b0
          try clear c8
          try clear c8b0
          try clear c8b1
          try clear c9
          try clear c11
          try clear p11
          try clear q11
          try clear hx11
          try clear qi11
          try clear hx116_0
          try clear hx117_0
          try clear p116
          try clear p117
          try clear p2
          try clear q116
          try clear q117
          obtain ⟨x2_2, x25_2, rfl, HA, HK2, HO_2, HO_23, HB⟩ := hrel
          cases gk with
          | zero => exact absurd HA.out (by simp [semantic_mavenFindTransitions.l1])
          | succ k2 =>
            have H := HA.out
            clear HA
            simp only [semantic_mavenFindTransitions.l1] at H
            by_cases c14 : x25_2 < (t121.length : Int)
            · rw [if_pos c14] at H
              have c14b0 : decide (x25_2 < (t121.length : Int)) = true := decide_eq_true c14
              clear c14
              by_cases c15 : 0 ≤ x25_2
              · rw [if_pos c15] at H
                have c15b0 : decide (0 ≤ x25_2) = true := decide_eq_true c15
                clear c15
                by_cases c16 : x25_2 < (t121.length : Int)
                · rw [if_pos c16] at H
                  have c16b0 : decide (x25_2 < (t121.length : Int)) = true := decide_eq_true c16
                  clear c16
                  by_cases c17 : 0 < ((rd_L1 t121 x25_2).length : Int)
                  · rw [if_pos c17] at H
                    have c17b0 : decide (0 < ((rd_L1 t121 x25_2).length : Int)) = true := decide_eq_true c17
                    have c17b1 : decide (0 < (rd_L1 t121 x25_2).length) = true := decide_eq_true (by omega)
                    clear c17
                    by_cases c18 : x2_2.length < 17592186044416
                    · rw [if_pos c18] at H
                      have LMc18 := Aside0.mk c18
                      clear c18
                      obtain ⟨y126, hy126⟩ : ∃ y_ : List Int, y_ = (x2_2 ++ [wrap64 ((rd (rd_L1 t121 x25_2) 0) + 1)]) := ⟨_, rfl⟩
                      replace H : (semantic_mavenFindTransitions.l1 k2 y126 t121 (t121.length : Int) (wrap64 (x25_2 + 1))) = some r := by first | (rw [hy126]; with_reducible exact H) | (have H2_ := (Option.bind_some _ _).symm.trans H; rw [hy126]; with_reducible exact H2_) | (have H2_ := (Option.bind_some _ _).symm.trans H; with_reducible exact H2_) | with_reducible exact H | (rw [hy126]; exact H) | exact H
                      have Ny126 := Aside0.mk hy126
                      clear hy126
                      have H' := Aside0.mk H
                      clear H
                      have p124 : 0 ≤ (x25_2 : Int) := of_decide_eq_true (by first | (with_reducible assumption) | assumption)
                      have q124 : x25_2 < (t121.length : Int) := of_decide_eq_true (by first | (with_reducible assumption) | assumption)
                      obtain ⟨ad124, A124_0, c124_0, e124, hx124_0, hl124_0, hi124_0⟩ := at_L1 (Kd.S_reads' HO_23.out).2.2 x25_2 p124 q124
                      cases e124
                      obtain ⟨ce124, hce124, hMe124, hcc124⟩ := Kd.S_get HO_23.out [] x25_2 p124 (by first | exact q124 | exact of_decide_eq_true (by first | (with_reducible assumption) | assumption) | (have e_ := (Kd.S_reads' HO_23.out).1; omega))
                      obtain ⟨ve124_0, rfl, ge124_0⟩ := hMe124
                      have hv124_0 := hcc124 0 _ rfl
                      rw [Nat.add_zero, show ((Kd.slice 3 (Kd.int .i64))).sz = 1 from rfl, Nat.mul_one] at hv124_0
                      replace hv124_0 := Option.some.inj (hv124_0.symm.trans hx124_0)
                      rw [hv124_0] at ge124_0
                      have HL124_0 := Aside0.mk (show Kd.R (Kd.int .i64) 3 _ _ _ _ (rd_L1 t121 x25_2) from ge124_0)
                      clear hv124_0 ge124_0
                      clear hcc124 hce124
                      have HR124_0 := Aside0.mk hi124_0
                      have HC124_0 := Aside0.mk hl124_0
                      clear hi124_0 hl124_0
                      replace p124 := eq_true p124
                      replace q124 := eq_true q124
                      have p125 : 0 ≤ (0 : Int) := (by omega)
                      have q125 : 0 < ((rd_L1 t121 x25_2).length : Int) := of_decide_eq_true (by first | (with_reducible assumption) | assumption)
                      obtain ⟨ad125, e125, hx125_0⟩ := Kd.at_int (by repeat (first | (with_reducible exact HR124_0.out) | (with_reducible refine Kd.C_alloc ?_ _) | (with_reducible refine Kd.C_drewN ?_ _) | (with_reducible refine Kd.C_drew ?_) | exact HR124_0.out)) 0 p125 q125
                      cases e125
                      have qi125 : (0 < (rd_L1 t121 x25_2).length) = True := eq_true (by omega)
                      (try rw [show ((0 : Int)).toNat = 0 from rfl] at hx125_0)
                      (try rw [Addr.add_zero'] at hx125_0)
                      replace p125 := eq_true p125
                      replace q125 := eq_true q125
                      go_wp2_with (first | ((with_reducible refine gate_builtin (b := .append) (xs := #[.tmp 29, .tmp 34]) rfl ?_); at_builtin; refine Kd.R_append (Kd.int .i64) (w0 := w) w.heap.size rfl (.tmp 29) (.tmp 34) 31 3 (.int .i64 0) 8 rfl Tryd.underlying31 info3 rfl (by decide) (by omega) u2 x2_2 (wrap64 ((rd (rd_L1 t121 x25_2) 0) + 1)) [.int .i64 (wrap64 ((rd (rd_L1 t121 x25_2) 0) + 1))] (fun _ => True) (fun _ => False) rfl rfl ?aP (fun _ hk => hk.elim) ?aF ?aO ?aB ?aS ?aL ?_; (case aP => exact rfl); (case aB => exact (by repeat (first | (with_reducible first | exact HB.out | apply below_alloc | apply pw_below_drewN | apply below_drew1) | exact HB.out))); (case aF => exact (fun _ _ => trivial)); (case aO => exact (by (with_reducible repeat (first | apply Kd.R_alloc | apply Kd.R_drewN | apply Kd.R_drew)); exact HO_2.out)); (case aS => exact (below_size (by repeat (first | (with_reducible first | exact HB.out | apply below_alloc | apply pw_below_drewN | apply below_drew1) | exact HB.out)))); (case aL => have := LMc18.out; omega); intro v127 w19 ho hb hg hat; rw [← Ny126.out] at ho; have n0_ := Aside0.mk (Kd.S_after (ok := (fun _ => True)) (by (with_reducible repeat (first | apply Kd.S_alloc | apply Kd.S_drewN | apply Kd.S_drew)); exact Kd.S_mono HO_23.out (fun _ hk => ⟨trivial, hk⟩)) hg hat); have n1_ := Aside0.mk (Kd.R_after (ok := (fun k_ => some k_ ≠ (.slice (some ad124) t121.length co13 : Value).ownBlock)) (by (with_reducible repeat (first | apply Kd.R_alloc | apply Kd.R_drewN | apply Kd.R_drew)); exact Kd.R_mono HL124_0.out (fun _ hk => ⟨hk.2, hk.1⟩)) hg hat); have n2_ := Aside0.mk (hb); have n3_ := Aside0.mk (ho); clear HO_23; clear HL124_0; clear HB; clear HO_2; have HO_23 := n0_; have HL124_0 := n1_; have HB := n2_; have HO128 := n3_; clear n0_ n1_ n2_ n3_; clear ho hb hg hat))
                      go_roundg k2
                      case measure => have := HK1.out; have := HK2.out; omega
                      case rel => exact ⟨(y126), (wrap64 (x25_2 + 1)), (by first | rfl | (simp; done) | (simp [*]; done) | (simp [bne_nil_hyb]; done) | (simp [bne_nil_hyb, *]; done)), H', ⟨by have := HK1.out; have := HK2.out; omega⟩, ⟨by (with_reducible repeat (first | apply Kd.R_alloc | apply Kd.R_drewN | apply Kd.R_drew)); exact HO128.out⟩, ⟨by (with_reducible repeat (first | apply Kd.S_alloc | apply Kd.S_drewN | apply Kd.S_drew)); exact Kd.S_mono HO_23.out (fun _ hk => hk.2)⟩, ⟨by repeat (first | (with_reducible first | exact HB.out | apply below_alloc | apply pw_below_drewN | apply below_drew1) | exact HB.out)⟩⟩
                    · rw [if_neg c18] at H
                      exact absurd H (by simp)
                  · rw [if_neg c17] at H
                    exact absurd H (by simp)
                · rw [if_neg c16] at H
                  exact absurd H (by simp)
              · rw [if_neg c15] at H
                exact absurd H (by simp)
            · rw [if_neg c14] at H
              exact absurd H (by simp)

end Go.Proofs.YteffbgjfhbgooaaDoor.Z
