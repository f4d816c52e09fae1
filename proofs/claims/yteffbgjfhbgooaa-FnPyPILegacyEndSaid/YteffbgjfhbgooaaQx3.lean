/- Proved here: each Go function that is named in this text, called as its theorem 'calls' says, returns what its Lean function 'f' tells, and of the memory that was there nothing is changed (a row of a law: the law returns true). Conditions: those that stand in each theorem; where 'f' tells none, nothing is said. Laid by a program of this seat's prover out of the translation; Lean checks it. -/
import Derived.Test.YteffbgjfhbgooaaQx0
import Derived.Test.YteffbgjfhbgooaaQx2
namespace Go.Proofs.Yteffbgjfhbgooaa.Q
open Go.RowKit Go.Proofs.YteffbgjfhbgooaaH Go.Proofs.YteffbgjfhbgooaaW.PrintWords Go.Proofs.YteffbgjfhbgooaaW.PrintLast Go.Proofs.YteffbgjfhbgooaaW.PrintMore
attribute [local go_sem] max2_int min2_int max_two min_two max_three min_three max_four min_four   -- for this text's walks alone
set_option linter.unusedVariables false
set_option linter.unusedSimpArgs false

/-! ### stringslite_HasPrefix: function 26 -/
def stringslite_HasPrefix.f (a0 : ByteArray) (a1 : ByteArray) : Option (Bool) := if (a0.size : Int) ≥ (a1.size : Int) then (if 0 ≤ (a1.size : Int) then (if (a1.size : Int) ≤ (a0.size : Int) then (some ((a0.extract 0 ((a1.size : Int) : Int).toNat).toList == a1.toList)) else (none)) else (none)) else (some false)
set_option maxHeartbeats 8000000 in
set_option maxRecDepth 100000 in
theorem stringslite_HasPrefix.calls (a0 : ByteArray) (a1 : ByteArray) (r : Bool) (w : World) (h : stringslite_HasPrefix.f a0 a1 = some r) :
    Calls Try.prog 26 #[.string a0, .string a1] w fun e w' => e = .returned (.bool r) ∧ Drawn0 w w' := by
  have H : (if (a0.size : Int) ≥ (a1.size : Int) then (if 0 ≤ (a1.size : Int) then (if (a1.size : Int) ≤ (a0.size : Int) then (some ((a0.extract 0 ((a1.size : Int) : Int).toNat).toList == a1.toList)) else (none)) else (none)) else (some false)) = some r := h
  clear h
  by_cases c3 : (a0.size : Int) ≥ (a1.size : Int)
  · rw [if_pos c3] at H
    have c3b0 : decide ((a1.size : Int) ≤ (a0.size : Int)) = true := decide_eq_true c3
    have c3b1 : decide (a1.size ≤ a0.size) = true := decide_eq_true (Int.ofNat_le.mp c3)
    clear c3
    by_cases c4 : 0 ≤ (a1.size : Int)
    · rw [if_pos c4] at H
      have c4b0 := eq_true c4
      have c4b1 : decide (0 ≤ (a1.size : Int)) = true := decide_eq_true c4
      clear c4
      by_cases c5 : (a1.size : Int) ≤ (a0.size : Int)
      · rw [if_pos c5] at H
        have c5b0 := eq_true c5
        have c5b1 : decide ((a1.size : Int) ≤ (a0.size : Int)) = true := decide_eq_true c5
        clear c5
        obtain rfl := Option.some.inj H
        go_enter Try.func26, Try.ntmps26
        go_wp2
        go_ret
        exact ⟨by first | rfl | (simp; done) | (simp [*]; done) | (simp [bne_nil_hyb]; done) | (simp [bne_nil_hyb, *]; done), by repeat (first | exact Drawn0.refl _ | apply Drawn0.step)⟩
      · rw [if_neg c5] at H
        exact absurd H (by simp)
    · rw [if_neg c4] at H
      exact absurd H (by simp)
  · rw [if_neg c3] at H
    have c3b0 : decide ((a1.size : Int) ≤ (a0.size : Int)) = false := decide_eq_false c3
    have c3b1 : decide (a1.size ≤ a0.size) = false := decide_eq_false (fun h => c3 (Int.ofNat_le.mpr h))
    clear c3
    obtain rfl := Option.some.inj H
    go_enter Try.func26, Try.ntmps26
    go_wp2
    go_ret
    exact ⟨by first | rfl | (simp; done) | (simp [*]; done) | (simp [bne_nil_hyb]; done) | (simp [bne_nil_hyb, *]; done), by repeat (first | exact Drawn0.refl _ | apply Drawn0.step)⟩

/-! ### strings_HasPrefix: function 21 -/
def strings_HasPrefix.f (a0 : ByteArray) (a1 : ByteArray) : Option (Bool) := (stringslite_HasPrefix.f a0 a1).bind fun t113 => (some t113)
set_option maxHeartbeats 8000000 in
set_option maxRecDepth 100000 in
theorem strings_HasPrefix.calls (a0 : ByteArray) (a1 : ByteArray) (r : Bool) (w : World) (h : strings_HasPrefix.f a0 a1 = some r) :
    Calls Try.prog 21 #[.string a0, .string a1] w fun e w' => e = .returned (.bool r) ∧ Drawn0 w w' := by
  have H : ((stringslite_HasPrefix.f a0 a1).bind fun t113 => (some t113)) = some r := h
  clear h
  replace H := Option.bind_eq_some_iff.mp H
  obtain ⟨t113, A30, H⟩ := H
  replace H : (some t113) = some r := H
  have A3 := Aside0.mk A30
  clear A30
  obtain rfl := Option.some.inj H
  go_enter Try.func21, Try.ntmps21
  go_wp2_with (first | ((with_reducible refine gate_callee (f := 26) rfl ?_); refine goesL_ (some 7) rfl rfl Try.func26 (by kernel_rfl) rfl #[.string a0, .string a1] rfl (by (try simp only [List.map_toArray, List.map_cons, List.map_nil]); first | done | rfl | (simp only [List.length_drop, List.length_take]; rfl)) ?_; (with_reducible refine (stringslite_HasPrefix.calls a0 a1 t113 _ A3.out).mono ?_); rintro e w' ⟨rfl, ⟨nd, rfl⟩⟩; refine ⟨_, rfl, ?_⟩))
  go_ret
  exact ⟨by first | rfl | (simp; done) | (simp [*]; done) | (simp [bne_nil_hyb]; done) | (simp [bne_nil_hyb, *]; done), by repeat (first | exact Drawn0.refl _ | apply Drawn0.step)⟩

-- NOT PRINTED: function 29 (bytealg_abigen_runtime_cmpstring)

-- NOT PRINTED: function 27 (bytealg_CompareString)

-- BY HAND: function 22 (strings_Compare)

/-! ### semantic_parsePyPIVersionParts: function 16 -/
mutual
def semantic_parsePyPIVersionParts.l0 : Nat → List ByteArray → List ByteArray → Int → Int → Option (List ByteArray)
  | 0, _, _, _, _ => none
  | k + 1, x2, x11, x12, x13 => if x13 < x12 then (if 0 ≤ x13 then (if x13 < (x11.length : Int) then (if (rdOf ByteArray.empty x11 x13).toList = ([] : List UInt8) then (semantic_parsePyPIVersionParts.j1 k x2 (rdOf ByteArray.empty x11 x13) x11 x12 x13 true) else (semantic_parsePyPIVersionParts.j1 k x2 (rdOf ByteArray.empty x11 x13) x11 x12 x13 ((rdOf ByteArray.empty x11 x13).toList == ([46] : List UInt8)))) else (none)) else (none)) else (some x2)
def semantic_parsePyPIVersionParts.j1 : Nat → List ByteArray → ByteArray → List ByteArray → Int → Int → Bool → Option (List ByteArray)
  | 0, _, _, _, _, _, _ => none
  | k + 1, x2, x5, x11, x12, x13, x22 => if x22 = true then (semantic_parsePyPIVersionParts.l0 k x2 x11 x12 (wrap64 (x13 + 1))) else ((semantic_normalizePyPILegacyPart.f k x5).bind fun t121 => ((strings_HasPrefix.f t121 (⟨#[42]⟩ : ByteArray)).bind fun t122 => (if t122 = true then ((strings_Compare.f t121 (⟨#[42, 102, 105, 110, 97, 108]⟩ : ByteArray)).bind fun t123 => (if t123 < 0 then (semantic_parsePyPIVersionParts.l1 k x2 t121 x11 x12 x13) else (semantic_parsePyPIVersionParts.j3 k x2 t121 x11 x12 x13))) else (if x2.length < 8796093022208 then (semantic_parsePyPIVersionParts.l0 k (x2 ++ [t121]) x11 x12 (wrap64 (x13 + 1))) else (none)))))
def semantic_parsePyPIVersionParts.j3 : Nat → List ByteArray → ByteArray → List ByteArray → Int → Int → Option (List ByteArray)
  | 0, _, _, _, _, _ => none
  | k + 1, x2, x5, x11, x12, x13 => semantic_parsePyPIVersionParts.l2 k x2 x5 x11 x12 x13
def semantic_parsePyPIVersionParts.l2 : Nat → List ByteArray → ByteArray → List ByteArray → Int → Int → Option (List ByteArray)
  | 0, _, _, _, _, _ => none
  | k + 1, x2, x5, x11, x12, x13 => if (x2.length : Int) > 0 then (if 0 ≤ (wrap64 ((x2.length : Int) - 1)) then (if (wrap64 ((x2.length : Int) - 1)) < (x2.length : Int) then (if (rdOf ByteArray.empty x2 (wrap64 ((x2.length : Int) - 1))).toList = ([48, 48, 48, 48, 48, 48, 48, 48] : List UInt8) then (if (wrap64 ((x2.length : Int) - 1)) ≤ (x2.length : Int) then (semantic_parsePyPIVersionParts.l2 k (x2.take ((wrap64 ((x2.length : Int) - 1)) : Int).toNat) x5 x11 x12 x13) else (none)) else (if x2.length < 8796093022208 then (semantic_parsePyPIVersionParts.l0 k (x2 ++ [x5]) x11 x12 (wrap64 (x13 + 1))) else (none))) else (none)) else (none)) else (if x2.length < 8796093022208 then (semantic_parsePyPIVersionParts.l0 k (x2 ++ [x5]) x11 x12 (wrap64 (x13 + 1))) else (none))
def semantic_parsePyPIVersionParts.l1 : Nat → List ByteArray → ByteArray → List ByteArray → Int → Int → Option (List ByteArray)
  | 0, _, _, _, _, _ => none
  | k + 1, x2, x5, x11, x12, x13 => if (x2.length : Int) > 0 then (if 0 ≤ (wrap64 ((x2.length : Int) - 1)) then (if (wrap64 ((x2.length : Int) - 1)) < (x2.length : Int) then (if (rdOf ByteArray.empty x2 (wrap64 ((x2.length : Int) - 1))).toList = ([42, 102, 105, 110, 97, 108, 45] : List UInt8) then (if (wrap64 ((x2.length : Int) - 1)) ≤ (x2.length : Int) then (semantic_parsePyPIVersionParts.l1 k (x2.take ((wrap64 ((x2.length : Int) - 1)) : Int).toNat) x5 x11 x12 x13) else (none)) else (semantic_parsePyPIVersionParts.j3 k x2 x5 x11 x12 x13)) else (none)) else (none)) else (semantic_parsePyPIVersionParts.j3 k x2 x5 x11 x12 x13)
end
def semantic_parsePyPIVersionParts.f (k : Nat) (a0 : ByteArray) : Option (List ByteArray) := (semantic_zzLegacyParts.f k a0).bind fun t114 => (if t114.length < 8796093022208 then ((some (t114 ++ [(⟨#[102, 105, 110, 97, 108]⟩ : ByteArray)] : List ByteArray)).bind fun y117 => (semantic_parsePyPIVersionParts.l0 k ([] : List ByteArray) y117 (y117.length : Int) 0)) else (none))
theorem semantic_parsePyPIVersionParts.mono_l : ∀ k, (∀ y0 y1 y2 y3, LeO (semantic_parsePyPIVersionParts.l0 k y0 y1 y2 y3) (semantic_parsePyPIVersionParts.l0 (k + 1) y0 y1 y2 y3)) ∧ (∀ y0 y1 y2 y3 y4 y5, LeO (semantic_parsePyPIVersionParts.j1 k y0 y1 y2 y3 y4 y5) (semantic_parsePyPIVersionParts.j1 (k + 1) y0 y1 y2 y3 y4 y5)) ∧ (∀ y0 y1 y2 y3 y4, LeO (semantic_parsePyPIVersionParts.j3 k y0 y1 y2 y3 y4) (semantic_parsePyPIVersionParts.j3 (k + 1) y0 y1 y2 y3 y4)) ∧ (∀ y0 y1 y2 y3 y4, LeO (semantic_parsePyPIVersionParts.l2 k y0 y1 y2 y3 y4) (semantic_parsePyPIVersionParts.l2 (k + 1) y0 y1 y2 y3 y4)) ∧ (∀ y0 y1 y2 y3 y4, LeO (semantic_parsePyPIVersionParts.l1 k y0 y1 y2 y3 y4) (semantic_parsePyPIVersionParts.l1 (k + 1) y0 y1 y2 y3 y4))
  | 0 => ⟨fun _ _ _ _ r h => by simp [semantic_parsePyPIVersionParts.l0] at h, fun _ _ _ _ _ _ r h => by simp [semantic_parsePyPIVersionParts.j1] at h, fun _ _ _ _ _ r h => by simp [semantic_parsePyPIVersionParts.j3] at h, fun _ _ _ _ _ r h => by simp [semantic_parsePyPIVersionParts.l2] at h, fun _ _ _ _ _ r h => by simp [semantic_parsePyPIVersionParts.l1] at h⟩
  | k + 1 => by
    obtain ⟨ih0, ih1, ih2, ih3, ih4⟩ := semantic_parsePyPIVersionParts.mono_l k
    refine ⟨?_, ?_, ?_, ?_, ?_⟩
    · intro y0 y1 y2 y3
      unfold semantic_parsePyPIVersionParts.l0
      repeat' first
      | (with_reducible exact ih0 _ _ _ _)
      | (with_reducible exact ih1 _ _ _ _ _ _)
      | (with_reducible exact ih2 _ _ _ _ _)
      | (with_reducible exact ih3 _ _ _ _ _)
      | (with_reducible exact ih4 _ _ _ _ _)
      | (with_reducible exact semantic_normalizePyPILegacyPart.mono _ _)
      | (with_reducible exact semantic_zzLegacyParts.mono _ _)
      | (with_reducible exact LeO.refl _)
      | (with_reducible exact LeO.none _)
      | (with_reducible refine LeO.ite ?_ ?_)
      | (with_reducible refine LeO.bind ?_ (fun _ => ?_))
      | exact ih0 _ _ _ _
      | exact ih1 _ _ _ _ _ _
      | exact ih2 _ _ _ _ _
      | exact ih3 _ _ _ _ _
      | exact ih4 _ _ _ _ _
      | exact semantic_normalizePyPILegacyPart.mono _ _
      | exact semantic_zzLegacyParts.mono _ _
      | exact LeO.none _
      | refine LeO.ite ?_ ?_
      | refine LeO.bind ?_ (fun _ => ?_)
    · intro y0 y1 y2 y3 y4 y5
      unfold semantic_parsePyPIVersionParts.j1
      repeat' first
      | (with_reducible exact ih0 _ _ _ _)
      | (with_reducible exact ih1 _ _ _ _ _ _)
      | (with_reducible exact ih2 _ _ _ _ _)
      | (with_reducible exact ih3 _ _ _ _ _)
      | (with_reducible exact ih4 _ _ _ _ _)
      | (with_reducible exact semantic_normalizePyPILegacyPart.mono _ _)
      | (with_reducible exact semantic_zzLegacyParts.mono _ _)
      | (with_reducible exact LeO.refl _)
      | (with_reducible exact LeO.none _)
      | (with_reducible refine LeO.ite ?_ ?_)
      | (with_reducible refine LeO.bind ?_ (fun _ => ?_))
      | exact ih0 _ _ _ _
      | exact ih1 _ _ _ _ _ _
      | exact ih2 _ _ _ _ _
      | exact ih3 _ _ _ _ _
      | exact ih4 _ _ _ _ _
      | exact semantic_normalizePyPILegacyPart.mono _ _
      | exact semantic_zzLegacyParts.mono _ _
      | exact LeO.none _
      | refine LeO.ite ?_ ?_
      | refine LeO.bind ?_ (fun _ => ?_)
    · intro y0 y1 y2 y3 y4
      unfold semantic_parsePyPIVersionParts.j3
      repeat' first
      | (with_reducible exact ih0 _ _ _ _)
      | (with_reducible exact ih1 _ _ _ _ _ _)
      | (with_reducible exact ih2 _ _ _ _ _)
      | (with_reducible exact ih3 _ _ _ _ _)
      | (with_reducible exact ih4 _ _ _ _ _)
      | (with_reducible exact semantic_normalizePyPILegacyPart.mono _ _)
      | (with_reducible exact semantic_zzLegacyParts.mono _ _)
      | (with_reducible exact LeO.refl _)
      | (with_reducible exact LeO.none _)
      | (with_reducible refine LeO.ite ?_ ?_)
      | (with_reducible refine LeO.bind ?_ (fun _ => ?_))
      | exact ih0 _ _ _ _
      | exact ih1 _ _ _ _ _ _
      | exact ih2 _ _ _ _ _
      | exact ih3 _ _ _ _ _
      | exact ih4 _ _ _ _ _
      | exact semantic_normalizePyPILegacyPart.mono _ _
      | exact semantic_zzLegacyParts.mono _ _
      | exact LeO.none _
      | refine LeO.ite ?_ ?_
      | refine LeO.bind ?_ (fun _ => ?_)
    · intro y0 y1 y2 y3 y4
      unfold semantic_parsePyPIVersionParts.l2
      repeat' first
      | (with_reducible exact ih0 _ _ _ _)
      | (with_reducible exact ih1 _ _ _ _ _ _)
      | (with_reducible exact ih2 _ _ _ _ _)
      | (with_reducible exact ih3 _ _ _ _ _)
      | (with_reducible exact ih4 _ _ _ _ _)
      | (with_reducible exact semantic_normalizePyPILegacyPart.mono _ _)
      | (with_reducible exact semantic_zzLegacyParts.mono _ _)
      | (with_reducible exact LeO.refl _)
      | (with_reducible exact LeO.none _)
      | (with_reducible refine LeO.ite ?_ ?_)
      | (with_reducible refine LeO.bind ?_ (fun _ => ?_))
      | exact ih0 _ _ _ _
      | exact ih1 _ _ _ _ _ _
      | exact ih2 _ _ _ _ _
      | exact ih3 _ _ _ _ _
      | exact ih4 _ _ _ _ _
      | exact semantic_normalizePyPILegacyPart.mono _ _
      | exact semantic_zzLegacyParts.mono _ _
      | exact LeO.none _
      | refine LeO.ite ?_ ?_
      | refine LeO.bind ?_ (fun _ => ?_)
    · intro y0 y1 y2 y3 y4
      unfold semantic_parsePyPIVersionParts.l1
      repeat' first
      | (with_reducible exact ih0 _ _ _ _)
      | (with_reducible exact ih1 _ _ _ _ _ _)
      | (with_reducible exact ih2 _ _ _ _ _)
      | (with_reducible exact ih3 _ _ _ _ _)
      | (with_reducible exact ih4 _ _ _ _ _)
      | (with_reducible exact semantic_normalizePyPILegacyPart.mono _ _)
      | (with_reducible exact semantic_zzLegacyParts.mono _ _)
      | (with_reducible exact LeO.refl _)
      | (with_reducible exact LeO.none _)
      | (with_reducible refine LeO.ite ?_ ?_)
      | (with_reducible refine LeO.bind ?_ (fun _ => ?_))
      | exact ih0 _ _ _ _
      | exact ih1 _ _ _ _ _ _
      | exact ih2 _ _ _ _ _
      | exact ih3 _ _ _ _ _
      | exact ih4 _ _ _ _ _
      | exact semantic_normalizePyPILegacyPart.mono _ _
      | exact semantic_zzLegacyParts.mono _ _
      | exact LeO.none _
      | refine LeO.ite ?_ ?_
      | refine LeO.bind ?_ (fun _ => ?_)
theorem semantic_parsePyPIVersionParts.mono : ∀ a0 k, LeO (semantic_parsePyPIVersionParts.f k a0) (semantic_parsePyPIVersionParts.f (k + 1) a0) := by
  intro a0 k
  obtain ⟨ih0, ih1, ih2, ih3, ih4⟩ := semantic_parsePyPIVersionParts.mono_l k
  unfold semantic_parsePyPIVersionParts.f
  repeat' first
      | (with_reducible exact ih0 _ _ _ _)
      | (with_reducible exact ih1 _ _ _ _ _ _)
      | (with_reducible exact ih2 _ _ _ _ _)
      | (with_reducible exact ih3 _ _ _ _ _)
      | (with_reducible exact ih4 _ _ _ _ _)
      | (with_reducible exact semantic_normalizePyPILegacyPart.mono _ _)
      | (with_reducible exact semantic_zzLegacyParts.mono _ _)
      | (with_reducible exact LeO.refl _)
      | (with_reducible exact LeO.none _)
      | (with_reducible refine LeO.ite ?_ ?_)
      | (with_reducible refine LeO.bind ?_ (fun _ => ?_))
      | exact ih0 _ _ _ _
      | exact ih1 _ _ _ _ _ _
      | exact ih2 _ _ _ _ _
      | exact ih3 _ _ _ _ _
      | exact ih4 _ _ _ _ _
      | exact semantic_normalizePyPILegacyPart.mono _ _
      | exact semantic_zzLegacyParts.mono _ _
      | exact LeO.none _
      | refine LeO.ite ?_ ?_
      | refine LeO.bind ?_ (fun _ => ?_)
set_option maxHeartbeats 8000000 in
set_option maxRecDepth 100000 in
theorem semantic_parsePyPIVersionParts.calls (k : Nat) (a0 : ByteArray) (r : List ByteArray) (w : World) (h : semantic_parsePyPIVersionParts.f k a0 = some r) :
    Calls Try.prog 16 #[.string a0] w fun e w' => ∃ v0_ : Value, e = .returned (v0_) ∧ Kd.R Kd.string 9 w' w.heap.size (fun _ => True) v0_ r ∧ Below w.heap.size w w' := by
  have HB := Aside0.mk (Below.refl w.heap.size w)
  have H : ((semantic_zzLegacyParts.f k a0).bind fun t114 => (if t114.length < 8796093022208 then ((some (t114 ++ [(⟨#[102, 105, 110, 97, 108]⟩ : ByteArray)] : List ByteArray)).bind fun y117 => (semantic_parsePyPIVersionParts.l0 k ([] : List ByteArray) y117 (y117.length : Int) 0)) else (none))) = some r := h
  clear h
  replace H := Option.bind_eq_some_iff.mp H
  obtain ⟨t114, A20, H⟩ := H
  replace H : (if t114.length < 8796093022208 then ((some (t114 ++ [(⟨#[102, 105, 110, 97, 108]⟩ : ByteArray)] : List ByteArray)).bind fun y117 => (semantic_parsePyPIVersionParts.l0 k ([] : List ByteArray) y117 (y117.length : Int) 0)) else (none)) = some r := H
  have A2 := Aside0.mk A20
  clear A20
  by_cases c3 : t114.length < 8796093022208
  · rw [if_pos c3] at H
    have LMc3 := Aside0.mk c3
    clear c3
    obtain ⟨y117, hy117⟩ : ∃ y_ : List ByteArray, y_ = (t114 ++ [(⟨#[102, 105, 110, 97, 108]⟩ : ByteArray)]) := ⟨_, rfl⟩
    replace H : (semantic_parsePyPIVersionParts.l0 k ([] : List ByteArray) y117 (y117.length : Int) 0) = some r := by first | (rw [hy117]; with_reducible exact H) | (have H2_ := (Option.bind_some _ _).symm.trans H; rw [hy117]; with_reducible exact H2_) | (have H2_ := (Option.bind_some _ _).symm.trans H; with_reducible exact H2_) | with_reducible exact H | (rw [hy117]; exact H) | exact H
    have Ny117 := Aside0.mk hy117
    clear hy117
    have H' := Aside0.mk H
    clear H
    go_enter Try.func16, Try.ntmps16
    go_wp2_with (first | ((with_reducible refine gate_callee (f := 19) rfl ?_); refine goesL_ (some 7) rfl rfl Try.func19 (by kernel_rfl) rfl #[.string a0] rfl (by (try simp only [List.map_toArray, List.map_cons, List.map_nil]); first | done | rfl | (simp only [List.length_drop, List.length_take]; rfl)) ?_; (with_reducible refine (semantic_zzLegacyParts.calls k a0 t114 _ A2.out).mono ?_); rintro e w4 ⟨v115, rfl, ho0, hb⟩; refine ⟨_, rfl, ?_⟩; have n0_ := Aside0.mk (Kd.R_lower ho0 (below_size (by repeat (first | (with_reducible first | exact HB.out | apply below_alloc | apply pw_below_drewN | apply below_drew1) | exact HB.out)))); have n1_ := Aside0.mk (below_step (by repeat (first | (with_reducible first | exact HB.out | apply below_alloc | apply pw_below_drewN | apply below_drew1) | exact HB.out)) hb); clear HB; have HO116 := n0_; have HB := n1_; clear n0_ n1_; (try clear hb); (try clear hb2); (try clear hk); (try clear hi); (try clear ho0)) | ((with_reducible refine gate_builtin (b := .append) (xs := #[.tmp 8, .tmp 9]) rfl ?_); (try (refine gate_guard (by rfl) ?_; dsimp only)); at_builtin; refine Kd.R_append Kd.string (w0 := w) w.heap.size rfl (.tmp 8) (.tmp 9) 24 9 (.string ⟨#[]⟩) 16 rfl Try.underlying24 info9 rfl (by decide) (by omega) v115 t114 (⟨#[102, 105, 110, 97, 108]⟩ : ByteArray) [.string (⟨#[102, 105, 110, 97, 108]⟩ : ByteArray)] (fun _ => True) (fun _ => False) rfl rfl ?aP (fun _ hk => hk.elim) ?aF ?aO ?aB ?aS ?aL ?_; (case aP => exact rfl); (case aB => exact (by repeat (first | (with_reducible first | exact HB.out | apply below_alloc | apply pw_below_drewN | apply below_drew1) | exact HB.out))); (case aF => exact (fun _ _ => trivial)); (case aO => exact (by (with_reducible repeat (first | apply Kd.R_alloc | apply Kd.R_drewN | apply Kd.R_drew)); exact HO116.out)); (case aS => exact (below_size (by repeat (first | (with_reducible first | exact HB.out | apply below_alloc | apply pw_below_drewN | apply below_drew1) | exact HB.out)))); (case aL => have := LMc3.out; omega); intro v118 w5 ho hb hg hat; rw [← Ny117.out] at ho; have n0_ := Aside0.mk (hb); have n1_ := Aside0.mk (ho); clear HB; clear HO116; have HB := n0_; have HO119 := n1_; clear n0_ n1_; clear ho hb hg hat; obtain ⟨Ao6, co6, eo6⟩ := Kd.R_slice HO119.out; subst eo6))
    (try simp only [Act.put, List.setIfInBounds_toArray, List.set_cons_zero, List.set_cons_succ])
    go_loopg [2, 13] k (fun kq v2 v13 w' => ∃ (x2_1 : List ByteArray) (x13_1 : Int), v13 = .int .i64 x13_1 ∧ Aside0 (semantic_parsePyPIVersionParts.l0 kq x2_1 y117 (y117.length : Int) x13_1 = some r) ∧ Aside0 (kq ≤ k) ∧ Aside0 (Kd.R Kd.string 9 w' w.heap.size (fun k_ => some k_ ≠ ((.slice Ao6 y117.length co6) : Value).ownBlock) v2 x2_1) ∧ Aside0 (Kd.R Kd.string 9 w' w.heap.size (fun k_ => some k_ ≠ (v2 : Value).ownBlock) (.slice Ao6 y117.length co6) y117) ∧ Aside0 (Below w.heap.size w w'))
    case atStart => exact ⟨(([] : List ByteArray)), (0), (by first | rfl | (simp; done) | (simp [*]; done) | (simp [bne_nil_hyb]; done) | (simp [bne_nil_hyb, *]; done)), H', ⟨Nat.le_refl _⟩, ⟨by first | exact Kd.R_nil _ _ _ _ _ | exact Kd.N_nil _ _ _ _ _ | exact Kd.V_nil _ _ _ _ _ | exact Kd.Q_nil _ _ _ _ _ | exact Kd.S_nil _ _ _ _ _⟩, ⟨by (with_reducible repeat (first | apply Kd.R_alloc | apply Kd.R_drewN | apply Kd.R_drew)); exact Kd.R_mono HO119.out (fun _ hk => (by simp [Value.ownBlock]))⟩, ⟨by repeat (first | (with_reducible first | exact HB.out | apply below_alloc | apply pw_below_drewN | apply below_drew1) | exact HB.out)⟩⟩
    case round =>
      clear H'
      try clear c1
      try clear p2
      try clear c3
      obtain ⟨x2_1, x13_1, rfl, HA, HK1, HO_2, HO_11, HB⟩ := hrel
      cases gk with
      | zero => exact absurd HA.out (by simp [semantic_parsePyPIVersionParts.l0])
      | succ k1 =>
        have H := HA.out
        clear HA
        simp only [semantic_parsePyPIVersionParts.l0] at H
        by_cases c7 : x13_1 < (y117.length : Int)
        · rw [if_pos c7] at H
          have c7b0 : decide (x13_1 < (y117.length : Int)) = true := decide_eq_true c7
          clear c7
          by_cases c8 : 0 ≤ x13_1
          · rw [if_pos c8] at H
            have c8b0 : decide (0 ≤ x13_1) = true := decide_eq_true c8
            clear c8
            by_cases c9 : x13_1 < (y117.length : Int)
            · rw [if_pos c9] at H
              have c9b0 : decide (x13_1 < (y117.length : Int)) = true := decide_eq_true c9
              clear c9
              have HC10 := Aside0.mk H
              clear H
              have p120 : 0 ≤ (x13_1 : Int) := of_decide_eq_true (by first | (with_reducible assumption) | assumption)
              have q120 : x13_1 < (y117.length : Int) := of_decide_eq_true (by first | (with_reducible assumption) | assumption)
              obtain ⟨ad120, e120, hx120_0⟩ := Kd.at_string (Kd.R_reads' HO_11.out).2.2 x13_1 p120 q120
              cases e120
              replace p120 := eq_true p120
              replace q120 := eq_true q120
              go_upto_region 6 with (fail)
              go_cut [22] (fun v22 wc => ∃ (kq : Nat) (x22_9 : Bool), v22 = .bool x22_9 ∧ Aside0 (semantic_parsePyPIVersionParts.j1 kq x2_1 (rdOf ByteArray.empty y117 x13_1) y117 (y117.length : Int) x13_1 x22_9 = some r) ∧ Aside0 (kq ≤ k1) ∧ Aside0 (Kd.R Kd.string 9 wc w.heap.size (fun k_ => some k_ ≠ ((.slice (some ad120) y117.length co6) : Value).ownBlock) u2 x2_1) ∧ Aside0 (Kd.R Kd.string 9 wc w.heap.size (fun k_ => some k_ ≠ (u2 : Value).ownBlock) (.slice (some ad120) y117.length co6) y117) ∧ Aside0 (Below w.heap.size w wc))
              case first =>
                have H := HC10.out
                clear HC10
                by_cases c11 : (rdOf ByteArray.empty y117 x13_1).toList = ([] : List UInt8)
                · rw [if_pos c11] at H
                  have c11b0 : ((rdOf ByteArray.empty y117 x13_1).toList == ([] : List UInt8)) = true := beq_iff_eq.mpr c11
                  have c11b1 : ((rdOf ByteArray.empty y117 x13_1).toList != ([] : List UInt8)) = false := bne_eq_false_iff_eq.mpr c11
                  clear c11
                  (first | rw [c11b0] | (simp only [i64_w, i32_w]; rw [c11b0]) | skip)
                  have H' := Aside0.mk H
                  clear H
                  go_wp2
                  go_meet
                  case rel => exact ⟨_, (true), (by first | rfl | (simp; done) | (simp [*]; done) | (simp [bne_nil_hyb]; done) | (simp [bne_nil_hyb, *]; done)), H', ⟨by have := HK1.out; first | omega | exact Nat.le_refl _⟩, ⟨by (with_reducible repeat (first | apply Kd.R_alloc | apply Kd.R_drewN | apply Kd.R_drew)); exact HO_2.out⟩, ⟨by (with_reducible repeat (first | apply Kd.R_alloc | apply Kd.R_drewN | apply Kd.R_drew)); exact HO_11.out⟩, ⟨by repeat (first | (with_reducible first | exact HB.out | apply below_alloc | apply pw_below_drewN | apply below_drew1) | exact HB.out)⟩⟩
                · rw [if_neg c11] at H
                  have c11b0 : ((rdOf ByteArray.empty y117 x13_1).toList == ([] : List UInt8)) = false := beq_eq_false_iff_ne.mpr c11
                  have c11b1 : ((rdOf ByteArray.empty y117 x13_1).toList != ([] : List UInt8)) = true := bne_iff_ne.mpr c11
                  (first | rw [c11b0] | (simp only [i64_w, i32_w]; rw [c11b0]) | skip)
                  have H' := Aside0.mk H
                  clear H
                  go_wp2
                  go_meet
                  case rel => exact ⟨_, (((rdOf ByteArray.empty y117 x13_1).toList == ([46] : List UInt8))), (by first | rfl | (simp; done) | (simp [*]; done) | (simp [bne_nil_hyb]; done) | (simp [bne_nil_hyb, *]; done)), H', ⟨by have := HK1.out; first | omega | exact Nat.le_refl _⟩, ⟨by (with_reducible repeat (first | apply Kd.R_alloc | apply Kd.R_drewN | apply Kd.R_drew)); exact HO_2.out⟩, ⟨by (with_reducible repeat (first | apply Kd.R_alloc | apply Kd.R_drewN | apply Kd.R_drew)); exact HO_11.out⟩, ⟨by repeat (first | (with_reducible first | exact HB.out | apply below_alloc | apply pw_below_drewN | apply below_drew1) | exact HB.out)⟩⟩
              case rest =>
                clear HC10
                try clear c1
                try clear p1
                try clear q1
                try clear hx1
                try clear p2
                try clear c3
                try clear c7
                try clear c7b0
                try clear c8
                try clear c8b0
                try clear c9
                try clear c9b0
                try clear c11
                try clear c11b0
                try clear c11b1
                try clear hx120_0
                try clear p120
                try clear p2
                try clear q120
                obtain ⟨kq, x22_9, rfl, HA, HJ9, HO_2, HO_11, HB⟩ := hcut
                cases kq with
                | zero => exact absurd HA.out (by simp [semantic_parsePyPIVersionParts.j1])
                | succ kj9 =>
                  have H := HA.out
                  clear HA
                  simp only [semantic_parsePyPIVersionParts.j1] at H
                  by_cases c12 : x22_9 = true
                  · subst c12
                    have H1 : (semantic_parsePyPIVersionParts.l0 kj9 x2_1 y117 (y117.length : Int) (wrap64 (x13_1 + 1))) = some r := by rw [if_pos rfl] at H; exact H
                    clear H
                    have H := H1
                    clear H1
                    have H' := Aside0.mk H
                    clear H
                    go_wp2
                    go_roundg kj9
                    case measure => have := HK1.out; have := HJ9.out; omega
                    case rel => exact ⟨(x2_1), (wrap64 (x13_1 + 1)), (by first | rfl | (simp; done) | (simp [*]; done) | (simp [bne_nil_hyb]; done) | (simp [bne_nil_hyb, *]; done)), H', ⟨by have := HK1.out; have := HJ9.out; omega⟩, ⟨by (with_reducible repeat (first | apply Kd.R_alloc | apply Kd.R_drewN | apply Kd.R_drew)); exact HO_2.out⟩, ⟨by (with_reducible repeat (first | apply Kd.R_alloc | apply Kd.R_drewN | apply Kd.R_drew)); exact HO_11.out⟩, ⟨by repeat (first | (with_reducible first | exact HB.out | apply below_alloc | apply pw_below_drewN | apply below_drew1) | exact HB.out)⟩⟩
                  · replace c12 := Bool.eq_false_iff.mpr c12
                    subst c12
                    have H1 : ((semantic_normalizePyPILegacyPart.f kj9 (rdOf ByteArray.empty y117 x13_1)).bind fun t121 => ((strings_HasPrefix.f t121 (⟨#[42]⟩ : ByteArray)).bind fun t122 => (if t122 = true then ((strings_Compare.f t121 (⟨#[42, 102, 105, 110, 97, 108]⟩ : ByteArray)).bind fun t123 => (if t123 < 0 then (semantic_parsePyPIVersionParts.l1 kj9 x2_1 t121 y117 (y117.length : Int) x13_1) else (semantic_parsePyPIVersionParts.j3 kj9 x2_1 t121 y117 (y117.length : Int) x13_1))) else (if x2_1.length < 8796093022208 then (semantic_parsePyPIVersionParts.l0 kj9 (x2_1 ++ [t121]) y117 (y117.length : Int) (wrap64 (x13_1 + 1))) else (none))))) = some r := by rw [if_neg (show ¬ (false = true) by decide)] at H; exact H
                    clear H
                    have H := H1
                    clear H1
                    replace H := Option.bind_eq_some_iff.mp H
                    obtain ⟨t121, A130, H⟩ := H
                    replace H : ((strings_HasPrefix.f t121 (⟨#[42]⟩ : ByteArray)).bind fun t122 => (if t122 = true then ((strings_Compare.f t121 (⟨#[42, 102, 105, 110, 97, 108]⟩ : ByteArray)).bind fun t123 => (if t123 < 0 then (semantic_parsePyPIVersionParts.l1 kj9 x2_1 t121 y117 (y117.length : Int) x13_1) else (semantic_parsePyPIVersionParts.j3 kj9 x2_1 t121 y117 (y117.length : Int) x13_1))) else (if x2_1.length < 8796093022208 then (semantic_parsePyPIVersionParts.l0 kj9 (x2_1 ++ [t121]) y117 (y117.length : Int) (wrap64 (x13_1 + 1))) else (none)))) = some r := H
                    have A13 := Aside0.mk A130
                    clear A130
                    replace H := Option.bind_eq_some_iff.mp H
                    obtain ⟨t122, A140, H⟩ := H
                    replace H : (if t122 = true then ((strings_Compare.f t121 (⟨#[42, 102, 105, 110, 97, 108]⟩ : ByteArray)).bind fun t123 => (if t123 < 0 then (semantic_parsePyPIVersionParts.l1 kj9 x2_1 t121 y117 (y117.length : Int) x13_1) else (semantic_parsePyPIVersionParts.j3 kj9 x2_1 t121 y117 (y117.length : Int) x13_1))) else (if x2_1.length < 8796093022208 then (semantic_parsePyPIVersionParts.l0 kj9 (x2_1 ++ [t121]) y117 (y117.length : Int) (wrap64 (x13_1 + 1))) else (none))) = some r := H
                    have A14 := Aside0.mk A140
                    clear A140
                    by_cases c15 : t122 = true
                    · subst c15
                      have H1 : ((strings_Compare.f t121 (⟨#[42, 102, 105, 110, 97, 108]⟩ : ByteArray)).bind fun t123 => (if t123 < 0 then (semantic_parsePyPIVersionParts.l1 kj9 x2_1 t121 y117 (y117.length : Int) x13_1) else (semantic_parsePyPIVersionParts.j3 kj9 x2_1 t121 y117 (y117.length : Int) x13_1))) = some r := by rw [if_pos rfl] at H; exact H
                      clear H
                      have H := H1
                      clear H1
                      replace H := Option.bind_eq_some_iff.mp H
                      obtain ⟨t123, A160, H⟩ := H
                      replace H : (if t123 < 0 then (semantic_parsePyPIVersionParts.l1 kj9 x2_1 t121 y117 (y117.length : Int) x13_1) else (semantic_parsePyPIVersionParts.j3 kj9 x2_1 t121 y117 (y117.length : Int) x13_1)) = some r := H
                      have A16 := Aside0.mk A160
                      clear A160
                      have HC17 := Aside0.mk H
                      clear H
                      go_upto_if 29 with (first | ((with_reducible refine gate_callee (f := 20) rfl ?_); refine goesL_ (some 24) rfl rfl Try.func20 (by kernel_rfl) rfl #[.string (rdOf ByteArray.empty y117 x13_1)] rfl (by (try simp only [List.map_toArray, List.map_cons, List.map_nil]); first | done | rfl | (simp only [List.length_drop, List.length_take]; rfl)) ?_; (with_reducible refine (semantic_normalizePyPILegacyPart.calls kj9 (rdOf ByteArray.empty y117 x13_1) t121 _ A13.out).mono ?_); rintro e w' ⟨rfl, ⟨nd, rfl⟩⟩; refine ⟨_, rfl, ?_⟩) | ((with_reducible refine gate_callee (f := 21) rfl ?_); refine goesL_ (some 26) rfl rfl Try.func21 (by kernel_rfl) rfl #[.string t121, .string (⟨#[42]⟩ : ByteArray)] rfl (by (try simp only [List.map_toArray, List.map_cons, List.map_nil]); first | done | rfl | (simp only [List.length_drop, List.length_take]; rfl)) ?_; (with_reducible refine (strings_HasPrefix.calls t121 (⟨#[42]⟩ : ByteArray) true _ A14.out).mono ?_); rintro e w' ⟨rfl, ⟨nd, rfl⟩⟩; refine ⟨_, rfl, ?_⟩) | ((with_reducible refine gate_callee (f := 22) rfl ?_); refine goesL_ (some 28) rfl rfl Try.func22 (by kernel_rfl) rfl #[.string t121, .string (⟨#[42, 102, 105, 110, 97, 108]⟩ : ByteArray)] rfl (by (try simp only [List.map_toArray, List.map_cons, List.map_nil]); first | done | rfl | (simp only [List.length_drop, List.length_take]; rfl)) ?_; (with_reducible refine (strings_Compare.calls t121 (⟨#[42, 102, 105, 110, 97, 108]⟩ : ByteArray) t123 _ A16.out).mono ?_); rintro e w' ⟨rfl, ⟨nd, rfl⟩⟩; refine ⟨_, rfl, ?_⟩))
                      (try simp only [Act.put, List.setIfInBounds_toArray, List.set_cons_zero, List.set_cons_succ])
                      go_cut [2, 29] (fun v2 v29 wc => ∃ (kq : Nat) (x2_16 : List ByteArray), Aside0 (semantic_parsePyPIVersionParts.j3 kq x2_16 t121 y117 (y117.length : Int) x13_1 = some r) ∧ Aside0 (kq ≤ kj9) ∧ Aside0 (Kd.R Kd.string 9 wc w.heap.size (fun k_ => some k_ ≠ ((.slice (some ad120) y117.length co6) : Value).ownBlock) v2 x2_16) ∧ Aside0 (Kd.R Kd.string 9 wc w.heap.size (fun k_ => some k_ ≠ (v2 : Value).ownBlock) (.slice (some ad120) y117.length co6) y117) ∧ Aside0 (Below w.heap.size w wc))
                      case first =>
                        have H := HC17.out
                        clear HC17
                        by_cases c18 : t123 < 0
                        · rw [if_pos c18] at H
                          have c18b0 : decide (t123 < 0) = true := decide_eq_true c18
                          clear c18
                          (first | rw [c18b0] | (simp only [i64_w, i32_w]; rw [c18b0]) | skip)
                          have H' := Aside0.mk H
                          clear H
                          go_wp2
                          (try simp only [Act.put, List.setIfInBounds_toArray, List.set_cons_zero, List.set_cons_succ])
                          go_loopg [2] kj9 (fun kq v2 w' => ∃ (x2_3 : List ByteArray), Aside0 (semantic_parsePyPIVersionParts.l1 kq x2_3 t121 y117 (y117.length : Int) x13_1 = some r) ∧ Aside0 (kq ≤ kj9) ∧ Aside0 (Kd.R Kd.string 9 w' w.heap.size (fun k_ => some k_ ≠ ((.slice (some ad120) y117.length co6) : Value).ownBlock) v2 x2_3) ∧ Aside0 (Kd.R Kd.string 9 w' w.heap.size (fun k_ => some k_ ≠ (v2 : Value).ownBlock) (.slice (some ad120) y117.length co6) y117) ∧ Aside0 (Below w.heap.size w w'))
                          case atStart => exact ⟨(x2_1), H', ⟨Nat.le_refl _⟩, ⟨by (with_reducible repeat (first | apply Kd.R_alloc | apply Kd.R_drewN | apply Kd.R_drew)); exact HO_2.out⟩, ⟨by (with_reducible repeat (first | apply Kd.R_alloc | apply Kd.R_drewN | apply Kd.R_drew)); exact HO_11.out⟩, ⟨by repeat (first | (with_reducible first | exact HB.out | apply below_alloc | apply pw_below_drewN | apply below_drew1) | exact HB.out)⟩⟩
                          case round =>
                            clear H'
                            try clear c1
                            try clear p1
                            try clear q1
                            try clear hx1
                            try clear c2
                            try clear p2
                            try clear c3
                            try clear p6
                            try clear c7
                            try clear c7b0
                            try clear c8
                            try clear c8b0
                            try clear c9
                            try clear c9b0
                            try clear c11
                            try clear c11b0
                            try clear c11b1
                            try clear c12
                            try clear p12
                            try clear q12
                            try clear hx12
                            try clear c15
                            try clear c16
                            try clear c18
                            try clear c18b0
                            try clear hx120_0
                            try clear p1
                            try clear p120
                            try clear p2
                            try clear q1
                            try clear q120
                            obtain ⟨x2_3, HA, HK3, HO_2, HO_11, HB⟩ := hrel
                            cases gk with
                            | zero => exact absurd HA.out (by simp [semantic_parsePyPIVersionParts.l1])
                            | succ k3 =>
                              have H := HA.out
                              clear HA
                              simp only [semantic_parsePyPIVersionParts.l1] at H
                              by_cases c19 : (x2_3.length : Int) > 0
                              · rw [if_pos c19] at H
                                have c19b0 : decide (0 < (x2_3.length : Int)) = true := decide_eq_true c19
                                have c19b1 : decide (0 < x2_3.length) = true := decide_eq_true (by omega)
                                clear c19
                                obtain ⟨ji20, hji20⟩ : ∃ j_ : Int, (wrap64 ((x2_3.length : Int) - 1)) = j_ := ⟨_, rfl⟩
                                replace H : (if 0 ≤ (ji20) then (if (ji20) < (x2_3.length : Int) then (if (rdOf ByteArray.empty x2_3 (ji20)).toList = ([42, 102, 105, 110, 97, 108, 45] : List UInt8) then (if (ji20) ≤ (x2_3.length : Int) then (semantic_parsePyPIVersionParts.l1 k3 (x2_3.take ((ji20) : Int).toNat) t121 y117 (y117.length : Int) x13_1) else (none)) else (semantic_parsePyPIVersionParts.j3 k3 x2_3 t121 y117 (y117.length : Int) x13_1)) else (none)) else (none)) = some r := by first | (rw [hji20] at H; exact H) | (simp only [hji20] at H ⊢; exact H)
                                have hji20w : (IntKind.i64.wrap ((x2_3.length : Int) - 1)) = ji20 := (i64_w _).trans hji20
                                by_cases c21 : 0 ≤ (ji20)
                                · rw [if_pos c21] at H
                                  have c21b0 : decide (0 ≤ (ji20)) = true := decide_eq_true c21
                                  clear c21
                                  by_cases c22 : (ji20) < (x2_3.length : Int)
                                  · rw [if_pos c22] at H
                                    have c22b0 : decide ((ji20) < (x2_3.length : Int)) = true := decide_eq_true c22
                                    clear c22
                                    by_cases c23 : (rdOf ByteArray.empty x2_3 (ji20)).toList = ([42, 102, 105, 110, 97, 108, 45] : List UInt8)
                                    · rw [if_pos c23] at H
                                      have c23b0 : ((rdOf ByteArray.empty x2_3 (ji20)).toList == ([42, 102, 105, 110, 97, 108, 45] : List UInt8)) = true := beq_iff_eq.mpr c23
                                      have c23b1 : ((rdOf ByteArray.empty x2_3 (ji20)).toList != ([42, 102, 105, 110, 97, 108, 45] : List UInt8)) = false := bne_eq_false_iff_eq.mpr c23
                                      clear c23
                                      by_cases c24 : (ji20) ≤ (x2_3.length : Int)
                                      · rw [if_pos c24] at H
                                        have c24b0 := eq_true c24
                                        have c24b1 : decide ((ji20) ≤ (x2_3.length : Int)) = true := decide_eq_true c24
                                        clear c24
                                        obtain ⟨y125, hy125⟩ : ∃ y_ : List ByteArray, y_ = (x2_3.take ((ji20) : Int).toNat) := ⟨_, rfl⟩
                                        replace H : (semantic_parsePyPIVersionParts.l1 k3 y125 t121 y117 (y117.length : Int) x13_1) = some r := by first | (rw [hy125]; with_reducible exact H) | (have H2_ := (Option.bind_some _ _).symm.trans H; rw [hy125]; with_reducible exact H2_) | (have H2_ := (Option.bind_some _ _).symm.trans H; with_reducible exact H2_) | with_reducible exact H | (rw [hy125]; exact H) | exact H
                                        have Ny125 := Aside0.mk hy125
                                        clear hy125
                                        have H' := Aside0.mk H
                                        clear H
                                        obtain ⟨Ao25, co25, eo25⟩ := Kd.R_slice HO_2.out
                                        subst eo25
                                        have p124 : 0 ≤ ((ji20) : Int) := of_decide_eq_true (by first | (with_reducible assumption) | assumption)
                                        have q124 : (ji20) < (x2_3.length : Int) := of_decide_eq_true (by first | (with_reducible assumption) | assumption)
                                        obtain ⟨ad124, e124, hx124_0⟩ := Kd.at_string (Kd.R_reads' HO_2.out).2.2 (ji20) p124 q124
                                        cases e124
                                        replace p124 := eq_true p124
                                        replace q124 := eq_true q124
                                        have q26 : ((ji20) : Int) ≤ ((x2_3.length : Int) : Int) := of_decide_eq_true (by first | (with_reducible assumption) | assumption)
                                        obtain ⟨i026, hi026, _, hsz26, _⟩ := info_parts info9
                                        have hcut26 := cut_to (P := Try.prog) 24 9 .i64 Try.underlying24 hi026 (some ad124) x2_3.length co25 (ji20) (of_decide_eq_true (by first | (with_reducible assumption) | assumption)) q26 (Kd.R_reads' HO_2.out).2.1
                                        have hr26 := Kd.R_take (m := ((ji20) : Int).toNat) HO_2.out (by omega)
                                        have hy26 : y125.length = ((ji20) : Int).toNat := (by rw [Ny125.out, List.length_take]; omega)
                                        rw [← Ny125.out] at hr26
                                        rw [← hy26] at hr26 hcut26
                                        clear hy26 hi026 hsz26 HO_2
                                        have HO127 := Aside0.mk hr26
                                        clear hr26
                                        replace q26 := eq_true q26
                                        go_wp2
                                        go_roundg k3
                                        case measure => have := HK1.out; have := HJ9.out; have := HK3.out; omega
                                        case rel => exact ⟨(y125), H', ⟨by have := HK1.out; have := HJ9.out; have := HK3.out; omega⟩, ⟨by (with_reducible repeat (first | apply Kd.R_alloc | apply Kd.R_drewN | apply Kd.R_drew)); exact HO127.out⟩, ⟨by (with_reducible repeat (first | apply Kd.R_alloc | apply Kd.R_drewN | apply Kd.R_drew)); exact HO_11.out⟩, ⟨by repeat (first | (with_reducible first | exact HB.out | apply below_alloc | apply pw_below_drewN | apply below_drew1) | exact HB.out)⟩⟩
                                      · rw [if_neg c24] at H
                                        exact absurd H (by simp)
                                    · rw [if_neg c23] at H
                                      have c23b0 : ((rdOf ByteArray.empty x2_3 (ji20)).toList == ([42, 102, 105, 110, 97, 108, 45] : List UInt8)) = false := beq_eq_false_iff_ne.mpr c23
                                      have c23b1 : ((rdOf ByteArray.empty x2_3 (ji20)).toList != ([42, 102, 105, 110, 97, 108, 45] : List UInt8)) = true := bne_iff_ne.mpr c23
                                      have H' := Aside0.mk H
                                      clear H
                                      obtain ⟨Ao27, co27, eo27⟩ := Kd.R_slice HO_2.out
                                      subst eo27
                                      have p124 : 0 ≤ ((ji20) : Int) := of_decide_eq_true (by first | (with_reducible assumption) | assumption)
                                      have q124 : (ji20) < (x2_3.length : Int) := of_decide_eq_true (by first | (with_reducible assumption) | assumption)
                                      obtain ⟨ad124, e124, hx124_0⟩ := Kd.at_string (Kd.R_reads' HO_2.out).2.2 (ji20) p124 q124
                                      cases e124
                                      replace p124 := eq_true p124
                                      replace q124 := eq_true q124
                                      go_wp2
                                      go_meet
                                      case rel => exact ⟨_, (x2_3), H', ⟨by have := HK1.out; have := HJ9.out; have := HK3.out; first | omega | exact Nat.le_refl _⟩, ⟨by (with_reducible repeat (first | apply Kd.R_alloc | apply Kd.R_drewN | apply Kd.R_drew)); exact HO_2.out⟩, ⟨by (with_reducible repeat (first | apply Kd.R_alloc | apply Kd.R_drewN | apply Kd.R_drew)); exact HO_11.out⟩, ⟨by repeat (first | (with_reducible first | exact HB.out | apply below_alloc | apply pw_below_drewN | apply below_drew1) | exact HB.out)⟩⟩
                                  · rw [if_neg c22] at H
                                    exact absurd H (by simp)
                                · rw [if_neg c21] at H
                                  exact absurd H (by simp)
                              · rw [if_neg c19] at H
                                have c19b0 : decide (0 < (x2_3.length : Int)) = false := decide_eq_false c19
                                have c19b1 : decide (0 < x2_3.length) = false := decide_eq_false (by omega)
                                clear c19
                                have H' := Aside0.mk H
                                clear H
                                obtain ⟨Ao28, co28, eo28⟩ := Kd.R_slice HO_2.out
                                subst eo28
                                go_wp2
                                go_meet
                                case rel => exact ⟨_, (x2_3), H', ⟨by have := HK1.out; have := HJ9.out; have := HK3.out; first | omega | exact Nat.le_refl _⟩, ⟨by (with_reducible repeat (first | apply Kd.R_alloc | apply Kd.R_drewN | apply Kd.R_drew)); exact HO_2.out⟩, ⟨by (with_reducible repeat (first | apply Kd.R_alloc | apply Kd.R_drewN | apply Kd.R_drew)); exact HO_11.out⟩, ⟨by repeat (first | (with_reducible first | exact HB.out | apply below_alloc | apply pw_below_drewN | apply below_drew1) | exact HB.out)⟩⟩
                        · rw [if_neg c18] at H
                          have c18b0 : decide (t123 < 0) = false := decide_eq_false c18
                          clear c18
                          (first | rw [c18b0] | (simp only [i64_w, i32_w]; rw [c18b0]) | skip)
                          have H' := Aside0.mk H
                          clear H
                          go_wp2
                          go_meet
                          case rel => exact ⟨_, (x2_1), H', ⟨by have := HK1.out; have := HJ9.out; first | omega | exact Nat.le_refl _⟩, ⟨by (with_reducible repeat (first | apply Kd.R_alloc | apply Kd.R_drewN | apply Kd.R_drew)); exact HO_2.out⟩, ⟨by (with_reducible repeat (first | apply Kd.R_alloc | apply Kd.R_drewN | apply Kd.R_drew)); exact HO_11.out⟩, ⟨by repeat (first | (with_reducible first | exact HB.out | apply below_alloc | apply pw_below_drewN | apply below_drew1) | exact HB.out)⟩⟩
                      case rest =>
                        clear HC17
                        try clear c1
                        try clear p1
                        try clear q1
                        try clear hx1
                        try clear c2
                        try clear p2
                        try clear q2
                        try clear c3
                        try clear p6
                        try clear c7
                        try clear c7b0
                        try clear c8
                        try clear c8b0
                        try clear c9
                        try clear c9b0
                        try clear c11
                        try clear c11b0
                        try clear c11b1
                        try clear c12
                        try clear p12
                        try clear q12
                        try clear hx12
                        try clear c15
                        try clear c16
                        try clear c18
                        try clear c18b0
                        try clear c19
                        try clear c19b0
                        try clear c19b1
                        try clear c20
                        try clear c21
                        try clear c21b0
                        try clear c22
                        try clear c22b0
                        try clear c23
                        try clear c23b0
                        try clear c23b1
                        try clear c24
                        try clear c24b0
                        try clear c24b1
                        try clear q26
                        try clear hx120_0
                        try clear hx124_0
                        try clear p1
                        try clear p12
                        try clear p120
                        try clear p124
                        try clear p2
                        try clear p6
                        try clear q1
                        try clear q12
                        try clear q120
                        try clear q124
                        try clear q26
                        obtain ⟨kq, x2_16, HA, HJ16, HO_2, HO_11, HB⟩ := hcut
                        cases kq with
                        | zero => exact absurd HA.out (by simp [semantic_parsePyPIVersionParts.j3])
                        | succ kj16 =>
                          have H := HA.out
                          clear HA
                          simp only [semantic_parsePyPIVersionParts.j3] at H
                          have H' := Aside0.mk H
                          clear H
                          go_wp2
                          (try simp only [Act.put, List.setIfInBounds_toArray, List.set_cons_zero, List.set_cons_succ])
                          go_loopg [2] kj16 (fun kq v2 w' => ∃ (x2_4 : List ByteArray), Aside0 (semantic_parsePyPIVersionParts.l2 kq x2_4 t121 y117 (y117.length : Int) x13_1 = some r) ∧ Aside0 (kq ≤ kj16) ∧ Aside0 (Kd.R Kd.string 9 w' w.heap.size (fun k_ => some k_ ≠ ((.slice (some ad120) y117.length co6) : Value).ownBlock) v2 x2_4) ∧ Aside0 (Kd.R Kd.string 9 w' w.heap.size (fun k_ => some k_ ≠ (v2 : Value).ownBlock) (.slice (some ad120) y117.length co6) y117) ∧ Aside0 (Below w.heap.size w w'))
                          case atStart => exact ⟨(x2_16), H', ⟨Nat.le_refl _⟩, ⟨by (with_reducible repeat (first | apply Kd.R_alloc | apply Kd.R_drewN | apply Kd.R_drew)); exact HO_2.out⟩, ⟨by (with_reducible repeat (first | apply Kd.R_alloc | apply Kd.R_drewN | apply Kd.R_drew)); exact HO_11.out⟩, ⟨by repeat (first | (with_reducible first | exact HB.out | apply below_alloc | apply pw_below_drewN | apply below_drew1) | exact HB.out)⟩⟩
                          case round =>
                            clear H'
                            try clear c1
                            try clear p1
                            try clear q1
                            try clear hx1
                            try clear c2
                            try clear p2
                            try clear q2
                            try clear c3
                            try clear p6
                            try clear c7
                            try clear c7b0
                            try clear c8
                            try clear c8b0
                            try clear c9
                            try clear c9b0
                            try clear c11
                            try clear c11b0
                            try clear c11b1
                            try clear c12
                            try clear p12
                            try clear q12
                            try clear hx12
                            try clear c15
                            try clear c16
                            try clear c18
                            try clear c18b0
                            try clear c19
                            try clear c19b0
                            try clear c19b1
                            try clear c20
                            try clear c21
                            try clear c21b0
                            try clear c22
                            try clear c22b0
                            try clear c23
                            try clear c23b0
                            try clear c23b1
                            try clear c24
                            try clear c24b0
                            try clear c24b1
                            try clear q26
                            try clear hx120_0
                            try clear hx124_0
                            try clear p1
                            try clear p12
                            try clear p120
                            try clear p124
                            try clear p2
                            try clear p6
                            try clear q1
                            try clear q12
                            try clear q120
                            try clear q124
                            try clear q2
                            try clear q26
                            obtain ⟨x2_4, HA, HK4, HO_2, HO_11, HB⟩ := hrel
                            cases gk with
                            | zero => exact absurd HA.out (by simp [semantic_parsePyPIVersionParts.l2])
                            | succ k4 =>
                              have H := HA.out
                              clear HA
                              simp only [semantic_parsePyPIVersionParts.l2] at H
                              by_cases c29 : (x2_4.length : Int) > 0
                              · rw [if_pos c29] at H
                                have c29b0 : decide (0 < (x2_4.length : Int)) = true := decide_eq_true c29
                                have c29b1 : decide (0 < x2_4.length) = true := decide_eq_true (by omega)
                                clear c29
                                obtain ⟨ji30, hji30⟩ : ∃ j_ : Int, (wrap64 ((x2_4.length : Int) - 1)) = j_ := ⟨_, rfl⟩
                                replace H : (if 0 ≤ (ji30) then (if (ji30) < (x2_4.length : Int) then (if (rdOf ByteArray.empty x2_4 (ji30)).toList = ([48, 48, 48, 48, 48, 48, 48, 48] : List UInt8) then (if (ji30) ≤ (x2_4.length : Int) then (semantic_parsePyPIVersionParts.l2 k4 (x2_4.take ((ji30) : Int).toNat) t121 y117 (y117.length : Int) x13_1) else (none)) else (if x2_4.length < 8796093022208 then (semantic_parsePyPIVersionParts.l0 k4 (x2_4 ++ [t121]) y117 (y117.length : Int) (wrap64 (x13_1 + 1))) else (none))) else (none)) else (none)) = some r := by first | (rw [hji30] at H; exact H) | (simp only [hji30] at H ⊢; exact H)
                                have hji30w : (IntKind.i64.wrap ((x2_4.length : Int) - 1)) = ji30 := (i64_w _).trans hji30
                                by_cases c31 : 0 ≤ (ji30)
                                · rw [if_pos c31] at H
                                  have c31b0 : decide (0 ≤ (ji30)) = true := decide_eq_true c31
                                  clear c31
                                  by_cases c32 : (ji30) < (x2_4.length : Int)
                                  · rw [if_pos c32] at H
                                    have c32b0 : decide ((ji30) < (x2_4.length : Int)) = true := decide_eq_true c32
                                    clear c32
                                    by_cases c33 : (rdOf ByteArray.empty x2_4 (ji30)).toList = ([48, 48, 48, 48, 48, 48, 48, 48] : List UInt8)
                                    · rw [if_pos c33] at H
                                      have c33b0 : ((rdOf ByteArray.empty x2_4 (ji30)).toList == ([48, 48, 48, 48, 48, 48, 48, 48] : List UInt8)) = true := beq_iff_eq.mpr c33
                                      have c33b1 : ((rdOf ByteArray.empty x2_4 (ji30)).toList != ([48, 48, 48, 48, 48, 48, 48, 48] : List UInt8)) = false := bne_eq_false_iff_eq.mpr c33
                                      clear c33
                                      by_cases c34 : (ji30) ≤ (x2_4.length : Int)
                                      · rw [if_pos c34] at H
                                        have c34b0 := eq_true c34
                                        have c34b1 : decide ((ji30) ≤ (x2_4.length : Int)) = true := decide_eq_true c34
                                        clear c34
                                        obtain ⟨y129, hy129⟩ : ∃ y_ : List ByteArray, y_ = (x2_4.take ((ji30) : Int).toNat) := ⟨_, rfl⟩
                                        replace H : (semantic_parsePyPIVersionParts.l2 k4 y129 t121 y117 (y117.length : Int) x13_1) = some r := by first | (rw [hy129]; with_reducible exact H) | (have H2_ := (Option.bind_some _ _).symm.trans H; rw [hy129]; with_reducible exact H2_) | (have H2_ := (Option.bind_some _ _).symm.trans H; with_reducible exact H2_) | with_reducible exact H | (rw [hy129]; exact H) | exact H
                                        have Ny129 := Aside0.mk hy129
                                        clear hy129
                                        have H' := Aside0.mk H
                                        clear H
                                        obtain ⟨Ao35, co35, eo35⟩ := Kd.R_slice HO_2.out
                                        subst eo35
                                        have p128 : 0 ≤ ((ji30) : Int) := of_decide_eq_true (by first | (with_reducible assumption) | assumption)
                                        have q128 : (ji30) < (x2_4.length : Int) := of_decide_eq_true (by first | (with_reducible assumption) | assumption)
                                        obtain ⟨ad128, e128, hx128_0⟩ := Kd.at_string (Kd.R_reads' HO_2.out).2.2 (ji30) p128 q128
                                        cases e128
                                        replace p128 := eq_true p128
                                        replace q128 := eq_true q128
                                        have q36 : ((ji30) : Int) ≤ ((x2_4.length : Int) : Int) := of_decide_eq_true (by first | (with_reducible assumption) | assumption)
                                        obtain ⟨i036, hi036, _, hsz36, _⟩ := info_parts info9
                                        have hcut36 := cut_to (P := Try.prog) 24 9 .i64 Try.underlying24 hi036 (some ad128) x2_4.length co35 (ji30) (of_decide_eq_true (by first | (with_reducible assumption) | assumption)) q36 (Kd.R_reads' HO_2.out).2.1
                                        have hr36 := Kd.R_take (m := ((ji30) : Int).toNat) HO_2.out (by omega)
                                        have hy36 : y129.length = ((ji30) : Int).toNat := (by rw [Ny129.out, List.length_take]; omega)
                                        rw [← Ny129.out] at hr36
                                        rw [← hy36] at hr36 hcut36
                                        clear hy36 hi036 hsz36 HO_2
                                        have HO131 := Aside0.mk hr36
                                        clear hr36
                                        replace q36 := eq_true q36
                                        go_wp2
                                        go_roundg k4
                                        case measure => have := HK1.out; have := HJ9.out; have := HJ16.out; have := HK4.out; omega
                                        case rel => exact ⟨(y129), H', ⟨by have := HK1.out; have := HJ9.out; have := HJ16.out; have := HK4.out; omega⟩, ⟨by (with_reducible repeat (first | apply Kd.R_alloc | apply Kd.R_drewN | apply Kd.R_drew)); exact HO131.out⟩, ⟨by (with_reducible repeat (first | apply Kd.R_alloc | apply Kd.R_drewN | apply Kd.R_drew)); exact HO_11.out⟩, ⟨by repeat (first | (with_reducible first | exact HB.out | apply below_alloc | apply pw_below_drewN | apply below_drew1) | exact HB.out)⟩⟩
                                      · rw [if_neg c34] at H
                                        exact absurd H (by simp)
                                    · rw [if_neg c33] at H
                                      have c33b0 : ((rdOf ByteArray.empty x2_4 (ji30)).toList == ([48, 48, 48, 48, 48, 48, 48, 48] : List UInt8)) = false := beq_eq_false_iff_ne.mpr c33
                                      have c33b1 : ((rdOf ByteArray.empty x2_4 (ji30)).toList != ([48, 48, 48, 48, 48, 48, 48, 48] : List UInt8)) = true := bne_iff_ne.mpr c33
                                      by_cases c37 : x2_4.length < 8796093022208
                                      · rw [if_pos c37] at H
                                        have LMc37 := Aside0.mk c37
                                        clear c37
                                        obtain ⟨y132, hy132⟩ : ∃ y_ : List ByteArray, y_ = (x2_4 ++ [t121]) := ⟨_, rfl⟩
                                        replace H : (semantic_parsePyPIVersionParts.l0 k4 y132 y117 (y117.length : Int) (wrap64 (x13_1 + 1))) = some r := by first | (rw [hy132]; with_reducible exact H) | (have H2_ := (Option.bind_some _ _).symm.trans H; rw [hy132]; with_reducible exact H2_) | (have H2_ := (Option.bind_some _ _).symm.trans H; with_reducible exact H2_) | with_reducible exact H | (rw [hy132]; exact H) | exact H
                                        have Ny132 := Aside0.mk hy132
                                        clear hy132
                                        have H' := Aside0.mk H
                                        clear H
                                        obtain ⟨Ao38, co38, eo38⟩ := Kd.R_slice HO_2.out
                                        subst eo38
                                        have p128 : 0 ≤ ((ji30) : Int) := of_decide_eq_true (by first | (with_reducible assumption) | assumption)
                                        have q128 : (ji30) < (x2_4.length : Int) := of_decide_eq_true (by first | (with_reducible assumption) | assumption)
                                        obtain ⟨ad128, e128, hx128_0⟩ := Kd.at_string (Kd.R_reads' HO_2.out).2.2 (ji30) p128 q128
                                        cases e128
                                        replace p128 := eq_true p128
                                        replace q128 := eq_true q128
                                        go_wp2_with (first | ((with_reducible refine gate_builtin (b := .append) (xs := #[.tmp 64, .tmp 66]) rfl ?_); (try (refine gate_guard (by rfl) ?_; dsimp only)); at_builtin; refine Kd.R_append Kd.string (w0 := w) w.heap.size rfl (.tmp 64) (.tmp 66) 24 9 (.string ⟨#[]⟩) 16 rfl Try.underlying24 info9 rfl (by decide) (by omega) (.slice (some ad128) x2_4.length co38) x2_4 t121 [.string t121] (fun k_ => some k_ ≠ (.slice (some ad120) y117.length co6 : Value).ownBlock) (fun _ => False) rfl rfl ?aP (fun _ hk => hk.elim) ?aF ?aO ?aB ?aS ?aL ?_; (case aP => exact rfl); (case aB => exact (by repeat (first | (with_reducible first | exact HB.out | apply below_alloc | apply pw_below_drewN | apply below_drew1) | exact HB.out))); (case aF => exact (fun k_ hk => Kd.fresh' (Kd.R_lt (by (with_reducible repeat (first | apply Kd.R_alloc | apply Kd.R_drewN | apply Kd.R_drew)); exact HO_11.out)) k_ hk)); (case aO => exact (by (with_reducible repeat (first | apply Kd.R_alloc | apply Kd.R_drewN | apply Kd.R_drew)); exact HO_2.out)); (case aS => exact (below_size (by repeat (first | (with_reducible first | exact HB.out | apply below_alloc | apply pw_below_drewN | apply below_drew1) | exact HB.out)))); (case aL => have := LMc37.out; omega); intro v133 w39 ho hb hg hat; rw [← Ny132.out] at ho; have n0_ := Aside0.mk (Kd.R_after (ok := (fun _ => True)) (by (with_reducible repeat (first | apply Kd.R_alloc | apply Kd.R_drewN | apply Kd.R_drew)); exact Kd.R_mono HO_11.out (fun _ hk => ⟨trivial, hk⟩)) hg hat); have n1_ := Aside0.mk (hb); have n2_ := Aside0.mk (ho); clear HO_11; clear HB; clear HO_2; have HO_11 := n0_; have HB := n1_; have HO134 := n2_; clear n0_ n1_ n2_; clear ho hb hg hat))
                                        go_roundg k4
                                        case measure => have := HK1.out; have := HJ9.out; have := HJ16.out; have := HK4.out; omega
                                        case rel => exact ⟨(y132), (wrap64 (x13_1 + 1)), (by first | rfl | (simp; done) | (simp [*]; done) | (simp [bne_nil_hyb]; done) | (simp [bne_nil_hyb, *]; done)), H', ⟨by have := HK1.out; have := HJ9.out; have := HJ16.out; have := HK4.out; omega⟩, ⟨by (with_reducible repeat (first | apply Kd.R_alloc | apply Kd.R_drewN | apply Kd.R_drew)); exact HO134.out⟩, ⟨by (with_reducible repeat (first | apply Kd.R_alloc | apply Kd.R_drewN | apply Kd.R_drew)); exact Kd.R_mono HO_11.out (fun _ hk => hk.2)⟩, ⟨by repeat (first | (with_reducible first | exact HB.out | apply below_alloc | apply pw_below_drewN | apply below_drew1) | exact HB.out)⟩⟩
                                      · rw [if_neg c37] at H
                                        exact absurd H (by simp)
                                  · rw [if_neg c32] at H
                                    exact absurd H (by simp)
                                · rw [if_neg c31] at H
                                  exact absurd H (by simp)
                              · rw [if_neg c29] at H
                                have c29b0 : decide (0 < (x2_4.length : Int)) = false := decide_eq_false c29
                                have c29b1 : decide (0 < x2_4.length) = false := decide_eq_false (by omega)
                                clear c29
                                by_cases c40 : x2_4.length < 8796093022208
                                · rw [if_pos c40] at H
                                  have LMc40 := Aside0.mk c40
                                  clear c40
                                  obtain ⟨y135, hy135⟩ : ∃ y_ : List ByteArray, y_ = (x2_4 ++ [t121]) := ⟨_, rfl⟩
                                  replace H : (semantic_parsePyPIVersionParts.l0 k4 y135 y117 (y117.length : Int) (wrap64 (x13_1 + 1))) = some r := by first | (rw [hy135]; with_reducible exact H) | (have H2_ := (Option.bind_some _ _).symm.trans H; rw [hy135]; with_reducible exact H2_) | (have H2_ := (Option.bind_some _ _).symm.trans H; with_reducible exact H2_) | with_reducible exact H | (rw [hy135]; exact H) | exact H
                                  have Ny135 := Aside0.mk hy135
                                  clear hy135
                                  have H' := Aside0.mk H
                                  clear H
                                  obtain ⟨Ao41, co41, eo41⟩ := Kd.R_slice HO_2.out
                                  subst eo41
                                  go_wp2_with (first | ((with_reducible refine gate_builtin (b := .append) (xs := #[.tmp 64, .tmp 66]) rfl ?_); (try (refine gate_guard (by rfl) ?_; dsimp only)); at_builtin; refine Kd.R_append Kd.string (w0 := w) w.heap.size rfl (.tmp 64) (.tmp 66) 24 9 (.string ⟨#[]⟩) 16 rfl Try.underlying24 info9 rfl (by decide) (by omega) (.slice Ao41 x2_4.length co41) x2_4 t121 [.string t121] (fun k_ => some k_ ≠ (.slice (some ad120) y117.length co6 : Value).ownBlock) (fun _ => False) rfl rfl ?aP (fun _ hk => hk.elim) ?aF ?aO ?aB ?aS ?aL ?_; (case aP => exact rfl); (case aB => exact (by repeat (first | (with_reducible first | exact HB.out | apply below_alloc | apply pw_below_drewN | apply below_drew1) | exact HB.out))); (case aF => exact (fun k_ hk => Kd.fresh' (Kd.R_lt (by (with_reducible repeat (first | apply Kd.R_alloc | apply Kd.R_drewN | apply Kd.R_drew)); exact HO_11.out)) k_ hk)); (case aO => exact (by (with_reducible repeat (first | apply Kd.R_alloc | apply Kd.R_drewN | apply Kd.R_drew)); exact HO_2.out)); (case aS => exact (below_size (by repeat (first | (with_reducible first | exact HB.out | apply below_alloc | apply pw_below_drewN | apply below_drew1) | exact HB.out)))); (case aL => have := LMc40.out; omega); intro v136 w42 ho hb hg hat; rw [← Ny135.out] at ho; have n0_ := Aside0.mk (Kd.R_after (ok := (fun _ => True)) (by (with_reducible repeat (first | apply Kd.R_alloc | apply Kd.R_drewN | apply Kd.R_drew)); exact Kd.R_mono HO_11.out (fun _ hk => ⟨trivial, hk⟩)) hg hat); have n1_ := Aside0.mk (hb); have n2_ := Aside0.mk (ho); clear HO_11; clear HB; clear HO_2; have HO_11 := n0_; have HB := n1_; have HO137 := n2_; clear n0_ n1_ n2_; clear ho hb hg hat))
                                  go_roundg k4
                                  case measure => have := HK1.out; have := HJ9.out; have := HJ16.out; have := HK4.out; omega
                                  case rel => exact ⟨(y135), (wrap64 (x13_1 + 1)), (by first | rfl | (simp; done) | (simp [*]; done) | (simp [bne_nil_hyb]; done) | (simp [bne_nil_hyb, *]; done)), H', ⟨by have := HK1.out; have := HJ9.out; have := HJ16.out; have := HK4.out; omega⟩, ⟨by (with_reducible repeat (first | apply Kd.R_alloc | apply Kd.R_drewN | apply Kd.R_drew)); exact HO137.out⟩, ⟨by (with_reducible repeat (first | apply Kd.R_alloc | apply Kd.R_drewN | apply Kd.R_drew)); exact Kd.R_mono HO_11.out (fun _ hk => hk.2)⟩, ⟨by repeat (first | (with_reducible first | exact HB.out | apply below_alloc | apply pw_below_drewN | apply below_drew1) | exact HB.out)⟩⟩
                                · rw [if_neg c40] at H
                                  exact absurd H (by simp)
                    · replace c15 := Bool.eq_false_iff.mpr c15
                      subst c15
                      have H1 : (if x2_1.length < 8796093022208 then (semantic_parsePyPIVersionParts.l0 kj9 (x2_1 ++ [t121]) y117 (y117.length : Int) (wrap64 (x13_1 + 1))) else (none)) = some r := by rw [if_neg (show ¬ (false = true) by decide)] at H; exact H
                      clear H
                      have H := H1
                      clear H1
                      by_cases c43 : x2_1.length < 8796093022208
                      · rw [if_pos c43] at H
                        have LMc43 := Aside0.mk c43
                        clear c43
                        obtain ⟨y138, hy138⟩ : ∃ y_ : List ByteArray, y_ = (x2_1 ++ [t121]) := ⟨_, rfl⟩
                        replace H : (semantic_parsePyPIVersionParts.l0 kj9 y138 y117 (y117.length : Int) (wrap64 (x13_1 + 1))) = some r := by first | (rw [hy138]; with_reducible exact H) | (have H2_ := (Option.bind_some _ _).symm.trans H; rw [hy138]; with_reducible exact H2_) | (have H2_ := (Option.bind_some _ _).symm.trans H; with_reducible exact H2_) | with_reducible exact H | (rw [hy138]; exact H) | exact H
                        have Ny138 := Aside0.mk hy138
                        clear hy138
                        have H' := Aside0.mk H
                        clear H
                        go_wp2_with (first | ((with_reducible refine gate_callee (f := 20) rfl ?_); refine goesL_ (some 24) rfl rfl Try.func20 (by kernel_rfl) rfl #[.string (rdOf ByteArray.empty y117 x13_1)] rfl (by (try simp only [List.map_toArray, List.map_cons, List.map_nil]); first | done | rfl | (simp only [List.length_drop, List.length_take]; rfl)) ?_; (with_reducible refine (semantic_normalizePyPILegacyPart.calls kj9 (rdOf ByteArray.empty y117 x13_1) t121 _ A13.out).mono ?_); rintro e w' ⟨rfl, ⟨nd, rfl⟩⟩; refine ⟨_, rfl, ?_⟩) | ((with_reducible refine gate_callee (f := 21) rfl ?_); refine goesL_ (some 26) rfl rfl Try.func21 (by kernel_rfl) rfl #[.string t121, .string (⟨#[42]⟩ : ByteArray)] rfl (by (try simp only [List.map_toArray, List.map_cons, List.map_nil]); first | done | rfl | (simp only [List.length_drop, List.length_take]; rfl)) ?_; (with_reducible refine (strings_HasPrefix.calls t121 (⟨#[42]⟩ : ByteArray) false _ A14.out).mono ?_); rintro e w' ⟨rfl, ⟨nd, rfl⟩⟩; refine ⟨_, rfl, ?_⟩) | ((with_reducible refine gate_builtin (b := .append) (xs := #[.tmp 64, .tmp 66]) rfl ?_); (try (refine gate_guard (by rfl) ?_; dsimp only)); at_builtin; refine Kd.R_append Kd.string (w0 := w) w.heap.size rfl (.tmp 64) (.tmp 66) 24 9 (.string ⟨#[]⟩) 16 rfl Try.underlying24 info9 rfl (by decide) (by omega) u2 x2_1 t121 [.string t121] (fun k_ => some k_ ≠ (.slice (some ad120) y117.length co6 : Value).ownBlock) (fun _ => False) rfl rfl ?aP (fun _ hk => hk.elim) ?aF ?aO ?aB ?aS ?aL ?_; (case aP => exact rfl); (case aB => exact (by repeat (first | (with_reducible first | exact HB.out | apply below_alloc | apply pw_below_drewN | apply below_drew1) | exact HB.out))); (case aF => exact (fun k_ hk => Kd.fresh' (Kd.R_lt (by (with_reducible repeat (first | apply Kd.R_alloc | apply Kd.R_drewN | apply Kd.R_drew)); exact HO_11.out)) k_ hk)); (case aO => exact (by (with_reducible repeat (first | apply Kd.R_alloc | apply Kd.R_drewN | apply Kd.R_drew)); exact HO_2.out)); (case aS => exact (below_size (by repeat (first | (with_reducible first | exact HB.out | apply below_alloc | apply pw_below_drewN | apply below_drew1) | exact HB.out)))); (case aL => have := LMc43.out; omega); intro v139 w44 ho hb hg hat; rw [← Ny138.out] at ho; have n0_ := Aside0.mk (Kd.R_after (ok := (fun _ => True)) (by (with_reducible repeat (first | apply Kd.R_alloc | apply Kd.R_drewN | apply Kd.R_drew)); exact Kd.R_mono HO_11.out (fun _ hk => ⟨trivial, hk⟩)) hg hat); have n1_ := Aside0.mk (hb); have n2_ := Aside0.mk (ho); clear HO_11; clear HB; clear HO_2; have HO_11 := n0_; have HB := n1_; have HO140 := n2_; clear n0_ n1_ n2_; clear ho hb hg hat))
                        go_roundg kj9
                        case measure => have := HK1.out; have := HJ9.out; omega
                        case rel => exact ⟨(y138), (wrap64 (x13_1 + 1)), (by first | rfl | (simp; done) | (simp [*]; done) | (simp [bne_nil_hyb]; done) | (simp [bne_nil_hyb, *]; done)), H', ⟨by have := HK1.out; have := HJ9.out; omega⟩, ⟨by (with_reducible repeat (first | apply Kd.R_alloc | apply Kd.R_drewN | apply Kd.R_drew)); exact HO140.out⟩, ⟨by (with_reducible repeat (first | apply Kd.R_alloc | apply Kd.R_drewN | apply Kd.R_drew)); exact Kd.R_mono HO_11.out (fun _ hk => hk.2)⟩, ⟨by repeat (first | (with_reducible first | exact HB.out | apply below_alloc | apply pw_below_drewN | apply below_drew1) | exact HB.out)⟩⟩
                      · rw [if_neg c43] at H
                        exact absurd H (by simp)
            · rw [if_neg c9] at H
              exact absurd H (by simp)
          · rw [if_neg c8] at H
            exact absurd H (by simp)
        · rw [if_neg c7] at H
          have c7b0 : decide (x13_1 < (y117.length : Int)) = false := decide_eq_false c7
          clear c7
          obtain rfl := Option.some.inj H
          go_wp2
          go_ret
          exact ⟨_, by first | rfl | (simp [errW_none, errW_some] <;> rfl) | (simp [*, errW_none, errW_some] <;> rfl) | (simp [bne_nil_hyb]; done), by (with_reducible repeat (first | apply Kd.R_alloc | apply Kd.R_drewN | apply Kd.R_drew)); exact Kd.R_mono HO_2.out (fun _ hk => trivial), by repeat (first | (with_reducible first | exact HB.out | apply below_alloc | apply pw_below_drewN | apply below_drew1) | exact HB.out)⟩
  · rw [if_neg c3] at H
    exact absurd H (by simp)

/-! ### semantic_ZZPyPIParts: function 13 -/
def semantic_ZZPyPIParts.f (k : Nat) (a0 : ByteArray) : Option (List ByteArray) := (semantic_parsePyPIVersionParts.f k a0).bind fun t141 => (some t141)
theorem semantic_ZZPyPIParts.mono : ∀ a0 k, LeO (semantic_ZZPyPIParts.f k a0) (semantic_ZZPyPIParts.f (k + 1) a0) := by
  intro a0 k
  unfold semantic_ZZPyPIParts.f
  repeat' first
      | (with_reducible exact semantic_parsePyPIVersionParts.mono _ _)
      | (with_reducible exact LeO.refl _)
      | (with_reducible exact LeO.none _)
      | (with_reducible refine LeO.ite ?_ ?_)
      | (with_reducible refine LeO.bind ?_ (fun _ => ?_))
      | exact semantic_parsePyPIVersionParts.mono _ _
      | exact LeO.none _
      | refine LeO.ite ?_ ?_
      | refine LeO.bind ?_ (fun _ => ?_)
set_option maxHeartbeats 8000000 in
set_option maxRecDepth 100000 in
theorem semantic_ZZPyPIParts.calls (k : Nat) (a0 : ByteArray) (r : List ByteArray) (w : World) (h : semantic_ZZPyPIParts.f k a0 = some r) :
    Calls Try.prog 13 #[.string a0] w fun e w' => ∃ v0_ : Value, e = .returned (v0_) ∧ Kd.R Kd.string 9 w' w.heap.size (fun _ => True) v0_ r ∧ Below w.heap.size w w' := by
  have HB := Aside0.mk (Below.refl w.heap.size w)
  have H : ((semantic_parsePyPIVersionParts.f k a0).bind fun t141 => (some t141)) = some r := h
  clear h
  replace H := Option.bind_eq_some_iff.mp H
  obtain ⟨t141, A20, H⟩ := H
  replace H : (some t141) = some r := H
  have A2 := Aside0.mk A20
  clear A20
  obtain rfl := Option.some.inj H
  go_enter Try.func13, Try.ntmps13
  go_wp2_with (first | ((with_reducible refine gate_callee (f := 16) rfl ?_); refine goesL_ (some 4) rfl rfl Try.func16 (by kernel_rfl) rfl #[.string a0] rfl (by (try simp only [List.map_toArray, List.map_cons, List.map_nil]); first | done | rfl | (simp only [List.length_drop, List.length_take]; rfl)) ?_; (with_reducible refine (semantic_parsePyPIVersionParts.calls k a0 t141 _ A2.out).mono ?_); rintro e w3 ⟨v142, rfl, ho0, hb⟩; refine ⟨_, rfl, ?_⟩; have n0_ := Aside0.mk (Kd.R_lower ho0 (below_size (by repeat (first | (with_reducible first | exact HB.out | apply below_alloc | apply pw_below_drewN | apply below_drew1) | exact HB.out)))); have n1_ := Aside0.mk (below_step (by repeat (first | (with_reducible first | exact HB.out | apply below_alloc | apply pw_below_drewN | apply below_drew1) | exact HB.out)) hb); clear HB; have HO143 := n0_; have HB := n1_; clear n0_ n1_; (try clear hb); (try clear hb2); (try clear hk); (try clear hi); (try clear ho0)))
  go_ret
  exact ⟨_, by first | rfl | (simp [errW_none, errW_some] <;> rfl) | (simp [*, errW_none, errW_some] <;> rfl) | (simp [bne_nil_hyb]; done), by (with_reducible repeat (first | apply Kd.R_alloc | apply Kd.R_drewN | apply Kd.R_drew)); exact HO143.out, by repeat (first | (with_reducible first | exact HB.out | apply below_alloc | apply pw_below_drewN | apply below_drew1) | exact HB.out)⟩

/-! ### impl_PyPIParts: function 7 -/
def impl_PyPIParts.f (k : Nat) (a0 : ByteArray) : Option (List ByteArray) := (semantic_ZZPyPIParts.f k a0).bind fun t144 => (if ([] : List ByteArray).length + t144.length < 8796093022208 then (some (([] : List ByteArray) ++ t144)) else (none))
theorem impl_PyPIParts.mono : ∀ a0 k, LeO (impl_PyPIParts.f k a0) (impl_PyPIParts.f (k + 1) a0) := by
  intro a0 k
  unfold impl_PyPIParts.f
  repeat' first
      | (with_reducible exact semantic_ZZPyPIParts.mono _ _)
      | (with_reducible exact LeO.refl _)
      | (with_reducible exact LeO.none _)
      | (with_reducible refine LeO.ite ?_ ?_)
      | (with_reducible refine LeO.bind ?_ (fun _ => ?_))
      | exact semantic_ZZPyPIParts.mono _ _
      | exact LeO.none _
      | refine LeO.ite ?_ ?_
      | refine LeO.bind ?_ (fun _ => ?_)
set_option maxHeartbeats 8000000 in
set_option maxRecDepth 100000 in
theorem impl_PyPIParts.calls (k : Nat) (a0 : ByteArray) (r : List ByteArray) (w : World) (h : impl_PyPIParts.f k a0 = some r) :
    Calls Try.prog 7 #[.string a0] w fun e w' => ∃ v0_ : Value, e = .returned (v0_) ∧ Kd.R Kd.string 9 w' w.heap.size (fun _ => True) v0_ r ∧ Below w.heap.size w w' := by
  have HB := Aside0.mk (Below.refl w.heap.size w)
  have H : ((semantic_ZZPyPIParts.f k a0).bind fun t144 => (if ([] : List ByteArray).length + t144.length < 8796093022208 then (some (([] : List ByteArray) ++ t144)) else (none))) = some r := h
  clear h
  replace H := Option.bind_eq_some_iff.mp H
  obtain ⟨t144, A20, H⟩ := H
  replace H : (if ([] : List ByteArray).length + t144.length < 8796093022208 then (some (([] : List ByteArray) ++ t144)) else (none)) = some r := H
  have A2 := Aside0.mk A20
  clear A20
  by_cases c3 : ([] : List ByteArray).length + t144.length < 8796093022208
  · rw [if_pos c3] at H
    have LMc3 := Aside0.mk c3
    clear c3
    obtain ⟨y147, hy147⟩ : ∃ y_ : List ByteArray, y_ = (([] : List ByteArray) ++ t144) := ⟨_, rfl⟩
    replace H : (some y147) = some r := by first | (rw [hy147]; with_reducible exact H) | (have H2_ := (Option.bind_some _ _).symm.trans H; rw [hy147]; with_reducible exact H2_) | (have H2_ := (Option.bind_some _ _).symm.trans H; with_reducible exact H2_) | with_reducible exact H | (rw [hy147]; exact H) | exact H
    have Ny147 := Aside0.mk hy147
    clear hy147
    obtain rfl := Option.some.inj H
    go_enter Try.func7, Try.ntmps7
    go_wp2_with (first | ((with_reducible refine gate_callee (f := 13) rfl ?_); refine goesL_ (some 4) rfl rfl Try.func13 (by kernel_rfl) rfl #[.string a0] rfl (by (try simp only [List.map_toArray, List.map_cons, List.map_nil]); first | done | rfl | (simp only [List.length_drop, List.length_take]; rfl)) ?_; (with_reducible refine (semantic_ZZPyPIParts.calls k a0 t144 _ A2.out).mono ?_); rintro e w4 ⟨v145, rfl, ho0, hb⟩; refine ⟨_, rfl, ?_⟩; have n0_ := Aside0.mk (Kd.R_lower ho0 (below_size (by repeat (first | (with_reducible first | exact HB.out | apply below_alloc | apply pw_below_drewN | apply below_drew1) | exact HB.out)))); have n1_ := Aside0.mk (below_step (by repeat (first | (with_reducible first | exact HB.out | apply below_alloc | apply pw_below_drewN | apply below_drew1) | exact HB.out)) hb); clear HB; have HO146 := n0_; have HB := n1_; clear n0_ n1_; (try clear hb); (try clear hb2); (try clear hk); (try clear hi); (try clear ho0); obtain ⟨Ao6, co6, eo6⟩ := Kd.R_slice HO146.out; subst eo6) | ((with_reducible refine gate_builtin (b := .append) (xs := #[.const (.slice none 0 0), .tmp 4]) rfl ?_); at_builtin; refine Kd.R_append_rows Kd.string (w0 := w) w.heap.size rfl (.const (.slice none 0 0)) (.tmp 4) 24 9 (.string ⟨#[]⟩) 16 rfl Try.underlying24 info9 rfl (by decide) (by omega) (.slice none 0 0) ([] : List ByteArray) t144 _ _ _ (fun k_ => some k_ ≠ (.slice Ao6 t144.length co6 : Value).ownBlock) (fun _ => False) rfl rfl ?aO ?aR (fun _ _ h => h) (fun _ h => h.elim) ?aF ?aB ?aS ?aL ?_; (case aR => repeat (first | exact (Kd.R_reads' HO146.out).2.2 | (with_reducible refine Kd.C_alloc ?_ _) | (with_reducible refine Kd.C_drewN ?_ _) | (with_reducible refine Kd.C_drew ?_))); (case aB => exact (by repeat (first | (with_reducible first | exact HB.out | apply below_alloc | apply pw_below_drewN | apply below_drew1) | exact HB.out))); (case aF => exact (fun k_ hk => Kd.fresh' (Kd.R_lt (by (with_reducible repeat (first | apply Kd.R_alloc | apply Kd.R_drewN | apply Kd.R_drew)); exact HO146.out)) k_ hk)); (case aO => exact ((Kd.R_nil _ _ _ _ (fun k_ => some k_ ≠ (.slice Ao6 t144.length co6 : Value).ownBlock)))); (case aS => exact (below_size (by repeat (first | (with_reducible first | exact HB.out | apply below_alloc | apply pw_below_drewN | apply below_drew1) | exact HB.out)))); (case aL => have := LMc3.out; omega); intro v148 w5 ho hb hg hat; rw [← Ny147.out] at ho; have n0_ := Aside0.mk (Kd.R_after (Kd.R_apart_nil (by (with_reducible repeat (first | apply Kd.R_alloc | apply Kd.R_drewN | apply Kd.R_drew)); exact HO146.out)) hg hat); have n1_ := Aside0.mk (hb); have n2_ := Aside0.mk (ho); clear HO146; clear HB; have HO146 := n0_; have HB := n1_; have HO149 := n2_; clear n0_ n1_ n2_; clear ho hb hg hat))
    go_ret
    exact ⟨_, by first | rfl | (simp [errW_none, errW_some] <;> rfl) | (simp [*, errW_none, errW_some] <;> rfl) | (simp [bne_nil_hyb]; done), by (with_reducible repeat (first | apply Kd.R_alloc | apply Kd.R_drewN | apply Kd.R_drew)); exact Kd.R_mono HO149.out (fun _ hk => trivial), by repeat (first | (with_reducible first | exact HB.out | apply below_alloc | apply pw_below_drewN | apply below_drew1) | exact HB.out)⟩
  · rw [if_neg c3] at H
    exact absurd H (by simp)

end Go.Proofs.Yteffbgjfhbgooaa.Q
