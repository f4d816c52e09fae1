/- Proved here: each Go function that is named in this text, called as its theorem 'calls' says, returns what its Lean function 'f' tells, and of the memory that was there nothing is changed (a row of a law: the law returns true). Conditions: those that stand in each theorem; where 'f' tells none, nothing is said. Laid by a program of this seat's prover out of the translation; Lean checks it. -/
import Derived.Test.YtdjkekgfeadmoaaGreatDoorQx0
import Derived.Test.YtdjkekgfeadmoaaGreatDoorQx1
namespace Go.Proofs.YtdjkekgfeadmoaaGreatDoor.Q
open Go.RowKit Go.Proofs.YtdjkekgfeadmoaaGreatDoorH Go.Proofs.YtdjkekgfeadmoaaGreatDoorG Go.Proofs.YtdjkekgfeadmoaaGreatDoorW.PrintWords Go.Proofs.YtdjkekgfeadmoaaGreatDoorW.PrintLast Go.Proofs.YtdjkekgfeadmoaaGreatDoorW.PrintMore
attribute [local go_sem] max2_int min2_int max_two min_two max_three min_three max_four min_four   -- for this text's walks alone
set_option linter.unusedVariables false
set_option linter.unusedSimpArgs false

/-! ### spec_PackagistCanonical: function 15 -/
mutual
def spec_PackagistCanonical.j0 : Nat → ByteArray → Bool → Option (ByteArray)
 | 0, _, _ => none
 | k + 1, x0, x13 => if x13 = true then (if 1 ≤ (x0.size : Int) then (spec_PackagistCanonical.j1 k (x0.extract 1 x0.size)) else (none)) else (spec_PackagistCanonical.j1 k x0)
def spec_PackagistCanonical.j1 : Nat → ByteArray → Option (ByteArray)
 | 0, _ => none
 | k + 1, x0 => if x0.toList = ([] : List UInt8) then (spec_PackagistCanonical.j2 k x0 false) else (if 0 < (x0.size : Int) then (spec_PackagistCanonical.j2 k x0 ((bt x0 0) == 86)) else (none))
def spec_PackagistCanonical.j2 : Nat → ByteArray → Bool → Option (ByteArray)
 | 0, _, _ => none
 | k + 1, x0, x22 => if x22 = true then (if 1 ≤ (x0.size : Int) then (spec_PackagistCanonical.j3 k (x0.extract 1 x0.size)) else (none)) else (spec_PackagistCanonical.j3 k x0)
def spec_PackagistCanonical.j3 : Nat → ByteArray → Option (ByteArray)
 | 0, _ => none
 | k + 1, x0 => spec_PackagistCanonical.l0 k x0 ([] : List Int) 0
def spec_PackagistCanonical.l0 : Nat → ByteArray → List Int → Int → Option (ByteArray)
 | 0, _, _, _ => none
 | k + 1, x0, x3, x4 => if x4 < (x0.size : Int) then (if 0 ≤ x4 then (if (bt x0 x4) = 45 then (spec_PackagistCanonical.j5 k x0 x3 x4 (bt x0 x4) true) else (if (bt x0 x4) = 95 then (spec_PackagistCanonical.j5 k x0 x3 x4 (bt x0 x4) true) else (spec_PackagistCanonical.j5 k x0 x3 x4 (bt x0 x4) ((bt x0 x4) == 43)))) else (none)) else (some (strOfNums x3))
def spec_PackagistCanonical.j5 : Nat → ByteArray → List Int → Int → Int → Bool → Option (ByteArray)
 | 0, _, _, _, _, _ => none
 | k + 1, x0, x3, x4, x5, x43 => if x43 = true then (spec_PackagistCanonical.j6 k x0 x3 x4 46) else (spec_PackagistCanonical.j6 k x0 x3 x4 x5)
def spec_PackagistCanonical.j6 : Nat → ByteArray → List Int → Int → Int → Option (ByteArray)
 | 0, _, _, _, _ => none
 | k + 1, x0, x3, x4, x5 => if (x3.length : Int) > 0 then (if 0 ≤ (wrap64 ((x3.length : Int) - 1)) then (if (wrap64 ((x3.length : Int) - 1)) < (x3.length : Int) then (if x5 = 46 then (if x3.length < 140737488355328 then (spec_PackagistCanonical.l0 k x0 (x3 ++ [x5]) (wrap64 (x4 + 1))) else (none)) else (if (rd x3 (wrap64 ((x3.length : Int) - 1))) = 46 then (if x3.length < 140737488355328 then (spec_PackagistCanonical.l0 k x0 (x3 ++ [x5]) (wrap64 (x4 + 1))) else (none)) else ((spec_isDigit.f x5).bind fun t117 => ((spec_isDigit.f (rd x3 (wrap64 ((x3.length : Int) - 1)))).bind fun t118 => (if (t117 != t118) = true then (if x3.length < 140737488355328 then ((some (x3 ++ [46] : List Int)).bind fun y119 => (if y119.length < 140737488355328 then (spec_PackagistCanonical.l0 k x0 (y119 ++ [x5]) (wrap64 (x4 + 1))) else (none))) else (none)) else (if x3.length < 140737488355328 then (spec_PackagistCanonical.l0 k x0 (x3 ++ [x5]) (wrap64 (x4 + 1))) else (none))))))) else (none)) else (none)) else (if x3.length < 140737488355328 then (spec_PackagistCanonical.l0 k x0 (x3 ++ [x5]) (wrap64 (x4 + 1))) else (none))
end
def spec_PackagistCanonical.f (k : Nat) (a0 : ByteArray) : Option (ByteArray) := if a0.toList = ([] : List UInt8) then (spec_PackagistCanonical.j0 k a0 false) else (if 0 < (a0.size : Int) then (spec_PackagistCanonical.j0 k a0 ((bt a0 0) == 118)) else (none))
theorem spec_PackagistCanonical.mono_l : ∀ k, (∀ y0 y1, LeO (spec_PackagistCanonical.j0 k y0 y1) (spec_PackagistCanonical.j0 (k + 1) y0 y1)) ∧ (∀ y0, LeO (spec_PackagistCanonical.j1 k y0) (spec_PackagistCanonical.j1 (k + 1) y0)) ∧ (∀ y0 y1, LeO (spec_PackagistCanonical.j2 k y0 y1) (spec_PackagistCanonical.j2 (k + 1) y0 y1)) ∧ (∀ y0, LeO (spec_PackagistCanonical.j3 k y0) (spec_PackagistCanonical.j3 (k + 1) y0)) ∧ (∀ y0 y1 y2, LeO (spec_PackagistCanonical.l0 k y0 y1 y2) (spec_PackagistCanonical.l0 (k + 1) y0 y1 y2)) ∧ (∀ y0 y1 y2 y3 y4, LeO (spec_PackagistCanonical.j5 k y0 y1 y2 y3 y4) (spec_PackagistCanonical.j5 (k + 1) y0 y1 y2 y3 y4)) ∧ (∀ y0 y1 y2 y3, LeO (spec_PackagistCanonical.j6 k y0 y1 y2 y3) (spec_PackagistCanonical.j6 (k + 1) y0 y1 y2 y3))
 | 0 => ⟨fun _ _ r h => by simp [spec_PackagistCanonical.j0] at h, fun _ r h => by simp [spec_PackagistCanonical.j1] at h, fun _ _ r h => by simp [spec_PackagistCanonical.j2] at h, fun _ r h => by simp [spec_PackagistCanonical.j3] at h, fun _ _ _ r h => by simp [spec_PackagistCanonical.l0] at h, fun _ _ _ _ _ r h => by simp [spec_PackagistCanonical.j5] at h, fun _ _ _ _ r h => by simp [spec_PackagistCanonical.j6] at h⟩
 | k + 1 => by
  obtain ⟨ih0, ih1, ih2, ih3, ih4, ih5, ih6⟩ := spec_PackagistCanonical.mono_l k
  refine ⟨?_, ?_, ?_, ?_, ?_, ?_, ?_⟩
  ·intro y0 y1
   unfold spec_PackagistCanonical.j0
   repeat' first
   | (with_reducible exact ih0 _ _)
   | (with_reducible exact ih1 _)
   | (with_reducible exact ih2 _ _)
   | (with_reducible exact ih3 _)
   | (with_reducible exact ih4 _ _ _)
   | (with_reducible exact ih5 _ _ _ _ _)
   | (with_reducible exact ih6 _ _ _ _)
   | (with_reducible exact LeO.refl _)
   | (with_reducible exact LeO.none _)
   | (with_reducible refine LeO.ite ?_ ?_)
   | (with_reducible refine LeO.bind ?_ (fun _ => ?_))
   | exact ih0 _ _
   | exact ih1 _
   | exact ih2 _ _
   | exact ih3 _
   | exact ih4 _ _ _
   | exact ih5 _ _ _ _ _
   | exact ih6 _ _ _ _
   | exact LeO.none _
   | refine LeO.ite ?_ ?_
   | refine LeO.bind ?_ (fun _ => ?_)
  ·intro y0
   unfold spec_PackagistCanonical.j1
   repeat' first
   | (with_reducible exact ih0 _ _)
   | (with_reducible exact ih1 _)
   | (with_reducible exact ih2 _ _)
   | (with_reducible exact ih3 _)
   | (with_reducible exact ih4 _ _ _)
   | (with_reducible exact ih5 _ _ _ _ _)
   | (with_reducible exact ih6 _ _ _ _)
   | (with_reducible exact LeO.refl _)
   | (with_reducible exact LeO.none _)
   | (with_reducible refine LeO.ite ?_ ?_)
   | (with_reducible refine LeO.bind ?_ (fun _ => ?_))
   | exact ih0 _ _
   | exact ih1 _
   | exact ih2 _ _
   | exact ih3 _
   | exact ih4 _ _ _
   | exact ih5 _ _ _ _ _
   | exact ih6 _ _ _ _
   | exact LeO.none _
   | refine LeO.ite ?_ ?_
   | refine LeO.bind ?_ (fun _ => ?_)
  ·intro y0 y1
   unfold spec_PackagistCanonical.j2
   repeat' first
   | (with_reducible exact ih0 _ _)
   | (with_reducible exact ih1 _)
   | (with_reducible exact ih2 _ _)
   | (with_reducible exact ih3 _)
   | (with_reducible exact ih4 _ _ _)
   | (with_reducible exact ih5 _ _ _ _ _)
   | (with_reducible exact ih6 _ _ _ _)
   | (with_reducible exact LeO.refl _)
   | (with_reducible exact LeO.none _)
   | (with_reducible refine LeO.ite ?_ ?_)
   | (with_reducible refine LeO.bind ?_ (fun _ => ?_))
   | exact ih0 _ _
   | exact ih1 _
   | exact ih2 _ _
   | exact ih3 _
   | exact ih4 _ _ _
   | exact ih5 _ _ _ _ _
   | exact ih6 _ _ _ _
   | exact LeO.none _
   | refine LeO.ite ?_ ?_
   | refine LeO.bind ?_ (fun _ => ?_)
  ·intro y0
   unfold spec_PackagistCanonical.j3
   repeat' first
   | (with_reducible exact ih0 _ _)
   | (with_reducible exact ih1 _)
   | (with_reducible exact ih2 _ _)
   | (with_reducible exact ih3 _)
   | (with_reducible exact ih4 _ _ _)
   | (with_reducible exact ih5 _ _ _ _ _)
   | (with_reducible exact ih6 _ _ _ _)
   | (with_reducible exact LeO.refl _)
   | (with_reducible exact LeO.none _)
   | (with_reducible refine LeO.ite ?_ ?_)
   | (with_reducible refine LeO.bind ?_ (fun _ => ?_))
   | exact ih0 _ _
   | exact ih1 _
   | exact ih2 _ _
   | exact ih3 _
   | exact ih4 _ _ _
   | exact ih5 _ _ _ _ _
   | exact ih6 _ _ _ _
   | exact LeO.none _
   | refine LeO.ite ?_ ?_
   | refine LeO.bind ?_ (fun _ => ?_)
  ·intro y0 y1 y2
   unfold spec_PackagistCanonical.l0
   repeat' first
   | (with_reducible exact ih0 _ _)
   | (with_reducible exact ih1 _)
   | (with_reducible exact ih2 _ _)
   | (with_reducible exact ih3 _)
   | (with_reducible exact ih4 _ _ _)
   | (with_reducible exact ih5 _ _ _ _ _)
   | (with_reducible exact ih6 _ _ _ _)
   | (with_reducible exact LeO.refl _)
   | (with_reducible exact LeO.none _)
   | (with_reducible refine LeO.ite ?_ ?_)
   | (with_reducible refine LeO.bind ?_ (fun _ => ?_))
   | exact ih0 _ _
   | exact ih1 _
   | exact ih2 _ _
   | exact ih3 _
   | exact ih4 _ _ _
   | exact ih5 _ _ _ _ _
   | exact ih6 _ _ _ _
   | exact LeO.none _
   | refine LeO.ite ?_ ?_
   | refine LeO.bind ?_ (fun _ => ?_)
  ·intro y0 y1 y2 y3 y4
   unfold spec_PackagistCanonical.j5
   repeat' first
   | (with_reducible exact ih0 _ _)
   | (with_reducible exact ih1 _)
   | (with_reducible exact ih2 _ _)
   | (with_reducible exact ih3 _)
   | (with_reducible exact ih4 _ _ _)
   | (with_reducible exact ih5 _ _ _ _ _)
   | (with_reducible exact ih6 _ _ _ _)
   | (with_reducible exact LeO.refl _)
   | (with_reducible exact LeO.none _)
   | (with_reducible refine LeO.ite ?_ ?_)
   | (with_reducible refine LeO.bind ?_ (fun _ => ?_))
   | exact ih0 _ _
   | exact ih1 _
   | exact ih2 _ _
   | exact ih3 _
   | exact ih4 _ _ _
   | exact ih5 _ _ _ _ _
   | exact ih6 _ _ _ _
   | exact LeO.none _
   | refine LeO.ite ?_ ?_
   | refine LeO.bind ?_ (fun _ => ?_)
  ·intro y0 y1 y2 y3
   unfold spec_PackagistCanonical.j6
   repeat' first
   | (with_reducible exact ih0 _ _)
   | (with_reducible exact ih1 _)
   | (with_reducible exact ih2 _ _)
   | (with_reducible exact ih3 _)
   | (with_reducible exact ih4 _ _ _)
   | (with_reducible exact ih5 _ _ _ _ _)
   | (with_reducible exact ih6 _ _ _ _)
   | (with_reducible exact LeO.refl _)
   | (with_reducible exact LeO.none _)
   | (with_reducible refine LeO.ite ?_ ?_)
   | (with_reducible refine LeO.bind ?_ (fun _ => ?_))
   | exact ih0 _ _
   | exact ih1 _
   | exact ih2 _ _
   | exact ih3 _
   | exact ih4 _ _ _
   | exact ih5 _ _ _ _ _
   | exact ih6 _ _ _ _
   | exact LeO.none _
   | refine LeO.ite ?_ ?_
   | refine LeO.bind ?_ (fun _ => ?_)
theorem spec_PackagistCanonical.mono : ∀ a0 k, LeO (spec_PackagistCanonical.f k a0) (spec_PackagistCanonical.f (k + 1) a0) := by
 intro a0 k
 obtain ⟨ih0, ih1, ih2, ih3, ih4, ih5, ih6⟩ := spec_PackagistCanonical.mono_l k
 unfold spec_PackagistCanonical.f
 repeat' first
   | (with_reducible exact ih0 _ _)
   | (with_reducible exact ih1 _)
   | (with_reducible exact ih2 _ _)
   | (with_reducible exact ih3 _)
   | (with_reducible exact ih4 _ _ _)
   | (with_reducible exact ih5 _ _ _ _ _)
   | (with_reducible exact ih6 _ _ _ _)
   | (with_reducible exact LeO.refl _)
   | (with_reducible exact LeO.none _)
   | (with_reducible refine LeO.ite ?_ ?_)
   | (with_reducible refine LeO.bind ?_ (fun _ => ?_))
   | exact ih0 _ _
   | exact ih1 _
   | exact ih2 _ _
   | exact ih3 _
   | exact ih4 _ _ _
   | exact ih5 _ _ _ _ _
   | exact ih6 _ _ _ _
   | exact LeO.none _
   | refine LeO.ite ?_ ?_
   | refine LeO.bind ?_ (fun _ => ?_)
set_option maxHeartbeats 8000000 in
set_option maxRecDepth 100000 in
theorem spec_PackagistCanonical.calls (k : Nat) (a0 : ByteArray) (r : ByteArray) (w : World) (h : spec_PackagistCanonical.f k a0 = some r) :
  Calls Tryz.prog 15 #[.string a0] w fun e w' => e = .returned (.string r) ∧ Below w.heap.size w w' := by
 have HB := Aside0.mk (Below.refl w.heap.size w)
 have H : (if a0.toList = ([] : List UInt8) then (spec_PackagistCanonical.j0 k a0 false) else (if 0 < (a0.size : Int) then (spec_PackagistCanonical.j0 k a0 ((bt a0 0) == 118)) else (none))) = some r := h
 clear h
 have HC2 := Aside0.mk H
 clear H
 go_enter Tryz.func15, Tryz.ntmps15
 go_upto_region 1 with (fail)
 go_cut [13] (fun v13 wc => ∃ (kq : Nat) (x13_1 : Bool), v13 = .bool x13_1 ∧ Aside0 (spec_PackagistCanonical.j0 kq a0 x13_1 = some r) ∧ Aside0 (kq ≤ k) ∧ Aside0 (Below w.heap.size w wc))
 case first =>
  have H := HC2.out
  clear HC2
  by_cases c3 : a0.toList = ([] : List UInt8)
  ·rw [if_pos c3] at H
   have c3b0 : (a0.toList == ([] : List UInt8)) = true := beq_iff_eq.mpr c3
   have c3b1 : (a0.toList != ([] : List UInt8)) = false := bne_eq_false_iff_eq.mpr c3
   clear c3
   (first | rw [c3b0] | (simp only [i64_w, i32_w]; rw [c3b0]) | skip)
   have H' := Aside0.mk H
   clear H
   go_wp2
   go_meet
   case rel => exact ⟨_, (false), (by first | rfl | (simp; done) | (simp [*]; done) | (simp [bne_nil_hyb]; done) | (simp [bne_nil_hyb, *]; done)), H', ⟨by first | omega | exact Nat.le_refl _⟩, ⟨by repeat (first | (with_reducible first | exact HB.out | apply below_alloc | apply pw_below_drewN | apply below_drew1) | exact HB.out)⟩⟩
  ·rw [if_neg c3] at H
   have c3b0 : (a0.toList == ([] : List UInt8)) = false := beq_eq_false_iff_ne.mpr c3
   have c3b1 : (a0.toList != ([] : List UInt8)) = true := bne_iff_ne.mpr c3
   (first | rw [c3b0] | (simp only [i64_w, i32_w]; rw [c3b0]) | skip)
   by_cases c4 : 0 < (a0.size : Int)
   ·rw [if_pos c4] at H
    have c4b0 : decide (0 < (a0.size : Int)) = true := decide_eq_true c4
    have c4b1 : decide (0 < a0.size) = true := decide_eq_true (by omega)
    clear c4
    have H' := Aside0.mk H
    clear H
    have p5 : 0 ≤ (0 : Int) := (by omega)
    have q5 : 0 < a0.size := (by have : (0 : Int) < (a0.size : Int) := of_decide_eq_true (by first | (with_reducible assumption) | assumption); omega)
    have hx5 : ∀ h : 0 < a0.size, ((a0[0]'h).toNat : Int) = bt a0 0 := bt_at a0 0
    clear p5
    have qi5 : (0 < (a0.size : Int)) = True := eq_true (of_decide_eq_true (by first | (with_reducible assumption) | assumption))
    replace q5 := eq_true q5
    go_wp2
    go_meet
    case rel => exact ⟨_, (((bt a0 0) == 118)), (by first | rfl | (simp; done) | (simp [*]; done) | (simp [bne_nil_hyb]; done) | (simp [bne_nil_hyb, *]; done)), H', ⟨by first | omega | exact Nat.le_refl _⟩, ⟨by repeat (first | (with_reducible first | exact HB.out | apply below_alloc | apply pw_below_drewN | apply below_drew1) | exact HB.out)⟩⟩
   ·rw [if_neg c4] at H
    exact absurd H (by simp)
 case rest =>
  clear HC2
  try clear c1
  try clear p2
  try clear c3
  try clear c3b0
  try clear c3b1
  try clear c4
  try clear c4b0
  try clear c4b1
  try clear p5
  try clear q5
  try clear hx5
  try clear qi5
  try clear p5
  try clear q5
  obtain ⟨kq, x13_1, rfl, HA, HJ1, HB⟩ := hcut
  cases kq with
  | zero => exact absurd HA.out (by simp [spec_PackagistCanonical.j0])
  | succ kj1 =>
   have H := HA.out
   clear HA
   simp only [spec_PackagistCanonical.j0] at H
   have HC6 := Aside0.mk H
   clear H
   go_upto_if 13 with (fail)
   go_cut [0, 13] (fun v0 v13 wc => ∃ (kq : Nat) (x0_5 : ByteArray), v0 = .string x0_5 ∧ Aside0 (spec_PackagistCanonical.j1 kq x0_5 = some r) ∧ Aside0 (kq ≤ kj1) ∧ Aside0 (Below w.heap.size w wc))
   case first =>
    have H := HC6.out
    clear HC6
    by_cases c7 : x13_1 = true
    ·subst c7
     have H1 : (if 1 ≤ (a0.size : Int) then (spec_PackagistCanonical.j1 kj1 (a0.extract 1 a0.size)) else (none)) = some r := by rw [if_pos rfl] at H; exact H
     clear H
     have H := H1
     clear H1
     by_cases c8 : 1 ≤ (a0.size : Int)
     ·rw [if_pos c8] at H
      have c8b0 := eq_true c8
      have c8b1 : decide (1 ≤ (a0.size : Int)) = true := decide_eq_true c8
      clear c8
      have H' := Aside0.mk H
      clear H
      go_wp2
      go_meet
      case rel => exact ⟨_, (a0.extract 1 a0.size), (by first | rfl | (simp; done) | (simp [*]; done) | (simp [bne_nil_hyb]; done) | (simp [bne_nil_hyb, *]; done)), (by first | exact H' | (rw [hji25]; exact H')), ⟨by have := HJ1.out; first | omega | exact Nat.le_refl _⟩, ⟨by repeat (first | (with_reducible first | exact HB.out | apply below_alloc | apply pw_below_drewN | apply below_drew1) | exact HB.out)⟩⟩
     ·rw [if_neg c8] at H
      exact absurd H (by simp)
    ·replace c7 := Bool.eq_false_iff.mpr c7
     subst c7
     have H1 : (spec_PackagistCanonical.j1 kj1 a0) = some r := by rw [if_neg (show ¬ (false = true) by decide)] at H; exact H
     clear H
     have H := H1
     clear H1
     have H' := Aside0.mk H
     clear H
     go_wp2
     go_meet
     case rel => exact ⟨_, (a0), (by first | rfl | (simp; done) | (simp [*]; done) | (simp [bne_nil_hyb]; done) | (simp [bne_nil_hyb, *]; done)), (by first | exact H' | (rw [hji25]; exact H')), ⟨by have := HJ1.out; first | omega | exact Nat.le_refl _⟩, ⟨by repeat (first | (with_reducible first | exact HB.out | apply below_alloc | apply pw_below_drewN | apply below_drew1) | exact HB.out)⟩⟩
   case rest =>
    clear HC6
    try clear c1
    try clear p2
    try clear c3
    try clear c3b0
    try clear c3b1
    try clear c4
    try clear c4b0
    try clear c4b1
    try clear p5
    try clear q5
    try clear hx5
    try clear qi5
    try clear c7
    try clear c8
    try clear c8b0
    try clear c8b1
    try clear p2
    try clear p5
    try clear q5
    obtain ⟨kq, x0_5, rfl, HA, HJ5, HB⟩ := hcut
    cases kq with
    | zero => exact absurd HA.out (by simp [spec_PackagistCanonical.j1])
    | succ kj5 =>
     have H := HA.out
     clear HA
     simp only [spec_PackagistCanonical.j1] at H
     have HC9 := Aside0.mk H
     clear H
     go_upto_region 3 with (fail)
     go_cut [22] (fun v22 wc => ∃ (kq : Nat) (x22_8 : Bool), v22 = .bool x22_8 ∧ Aside0 (spec_PackagistCanonical.j2 kq x0_5 x22_8 = some r) ∧ Aside0 (kq ≤ kj5) ∧ Aside0 (Below w.heap.size w wc))
     case first =>
      have H := HC9.out
      clear HC9
      by_cases c10 : x0_5.toList = ([] : List UInt8)
      ·rw [if_pos c10] at H
       have c10b0 : (x0_5.toList == ([] : List UInt8)) = true := beq_iff_eq.mpr c10
       have c10b1 : (x0_5.toList != ([] : List UInt8)) = false := bne_eq_false_iff_eq.mpr c10
       clear c10
       (first | rw [c10b0] | (simp only [i64_w, i32_w]; rw [c10b0]) | skip)
       have H' := Aside0.mk H
       clear H
       go_wp2
       go_meet
       case rel => exact ⟨_, (false), (by first | rfl | (simp; done) | (simp [*]; done) | (simp [bne_nil_hyb]; done) | (simp [bne_nil_hyb, *]; done)), (by first | exact H' | (rw [hji25]; exact H')), ⟨by have := HJ1.out; have := HJ5.out; first | omega | exact Nat.le_refl _⟩, ⟨by repeat (first | (with_reducible first | exact HB.out | apply below_alloc | apply pw_below_drewN | apply below_drew1) | exact HB.out)⟩⟩
      ·rw [if_neg c10] at H
       have c10b0 : (x0_5.toList == ([] : List UInt8)) = false := beq_eq_false_iff_ne.mpr c10
       have c10b1 : (x0_5.toList != ([] : List UInt8)) = true := bne_iff_ne.mpr c10
       (first | rw [c10b0] | (simp only [i64_w, i32_w]; rw [c10b0]) | skip)
       by_cases c11 : 0 < (x0_5.size : Int)
       ·rw [if_pos c11] at H
        have c11b0 : decide (0 < (x0_5.size : Int)) = true := decide_eq_true c11
        have c11b1 : decide (0 < x0_5.size) = true := decide_eq_true (by omega)
        clear c11
        have H' := Aside0.mk H
        clear H
        have p12 : 0 ≤ (0 : Int) := (by omega)
        have q12 : 0 < x0_5.size := (by have : (0 : Int) < (x0_5.size : Int) := of_decide_eq_true (by first | (with_reducible assumption) | assumption); omega)
        have hx12 : ∀ h : 0 < x0_5.size, ((x0_5[0]'h).toNat : Int) = bt x0_5 0 := bt_at x0_5 0
        clear p12
        have qi12 : (0 < (x0_5.size : Int)) = True := eq_true (of_decide_eq_true (by first | (with_reducible assumption) | assumption))
        replace q12 := eq_true q12
        go_wp2
        go_meet
        case rel => exact ⟨_, (((bt x0_5 0) == 86)), (by first | rfl | (simp; done) | (simp [*]; done) | (simp [bne_nil_hyb]; done) | (simp [bne_nil_hyb, *]; done)), (by first | exact H' | (rw [hji25]; exact H')), ⟨by have := HJ1.out; have := HJ5.out; first | omega | exact Nat.le_refl _⟩, ⟨by repeat (first | (with_reducible first | exact HB.out | apply below_alloc | apply pw_below_drewN | apply below_drew1) | exact HB.out)⟩⟩
       ·rw [if_neg c11] at H
        exact absurd H (by simp)
     case rest =>
      clear HC9
      try clear c1
      try clear p1
      try clear q1
      try clear hx1
      try clear qi1
      try clear p2
      try clear c3
      try clear c3b0
      try clear c3b1
      try clear c4
      try clear c4b0
      try clear c4b1
      try clear p5
      try clear q5
      try clear hx5
      try clear qi5
      try clear c7
      try clear c8
      try clear c8b0
      try clear c8b1
      try clear c10
      try clear c10b0
      try clear c10b1
      try clear c11
      try clear c11b0
      try clear c11b1
      try clear p12
      try clear q12
      try clear hx12
      try clear qi12
      try clear p12
      try clear p2
      try clear p5
      try clear q12
      try clear q5
      obtain ⟨kq, x22_8, rfl, HA, HJ8, HB⟩ := hcut
      cases kq with
      | zero => exact absurd HA.out (by simp [spec_PackagistCanonical.j2])
      | succ kj8 =>
       have H := HA.out
       clear HA
       simp only [spec_PackagistCanonical.j2] at H
       have HC13 := Aside0.mk H
       clear H
       go_upto_if 22 with (fail)
       go_cut [0, 22] (fun v0 v22 wc => ∃ (kq : Nat) (x0_12 : ByteArray), v0 = .string x0_12 ∧ Aside0 (spec_PackagistCanonical.j3 kq x0_12 = some r) ∧ Aside0 (kq ≤ kj8) ∧ Aside0 (Below w.heap.size w wc))
       case first =>
        have H := HC13.out
        clear HC13
        by_cases c14 : x22_8 = true
        ·subst c14
         have H1 : (if 1 ≤ (x0_5.size : Int) then (spec_PackagistCanonical.j3 kj8 (x0_5.extract 1 x0_5.size)) else (none)) = some r := by rw [if_pos rfl] at H; exact H
         clear H
         have H := H1
         clear H1
         by_cases c15 : 1 ≤ (x0_5.size : Int)
         ·rw [if_pos c15] at H
          have c15b0 := eq_true c15
          have c15b1 : decide (1 ≤ (x0_5.size : Int)) = true := decide_eq_true c15
          clear c15
          have H' := Aside0.mk H
          clear H
          go_wp2
          go_meet
          case rel => exact ⟨_, (x0_5.extract 1 x0_5.size), (by first | rfl | (simp; done) | (simp [*]; done) | (simp [bne_nil_hyb]; done) | (simp [bne_nil_hyb, *]; done)), (by first | exact H' | (rw [hji25]; exact H')), ⟨by have := HJ1.out; have := HJ5.out; have := HJ8.out; first | omega | exact Nat.le_refl _⟩, ⟨by repeat (first | (with_reducible first | exact HB.out | apply below_alloc | apply pw_below_drewN | apply below_drew1) | exact HB.out)⟩⟩
         ·rw [if_neg c15] at H
          exact absurd H (by simp)
        ·replace c14 := Bool.eq_false_iff.mpr c14
         subst c14
         have H1 : (spec_PackagistCanonical.j3 kj8 x0_5) = some r := by rw [if_neg (show ¬ (false = true) by decide)] at H; exact H
         clear H
         have H := H1
         clear H1
         have H' := Aside0.mk H
         clear H
         go_wp2
         go_meet
         case rel => exact ⟨_, (x0_5), (by first | rfl | (simp; done) | (simp [*]; done) | (simp [bne_nil_hyb]; done) | (simp [bne_nil_hyb, *]; done)), (by first | exact H' | (rw [hji25]; exact H')), ⟨by have := HJ1.out; have := HJ5.out; have := HJ8.out; first | omega | exact Nat.le_refl _⟩, ⟨by repeat (first | (with_reducible first | exact HB.out | apply below_alloc | apply pw_below_drewN | apply below_drew1) | exact HB.out)⟩⟩
       case rest =>
        clear HC13
        try clear c1
        try clear p1
        try clear q1
        try clear hx1
        try clear qi1
        try clear p2
        try clear c3
        try clear c3b0
        try clear c3b1
        try clear c4
        try clear c4b0
        try clear c4b1
        try clear p5
        try clear q5
        try clear hx5
        try clear qi5
        try clear c7
        try clear c8
        try clear c8b0
        try clear c8b1
        try clear c10
        try clear c10b0
        try clear c10b1
        try clear c11
        try clear c11b0
        try clear c11b1
        try clear p12
        try clear q12
        try clear hx12
        try clear qi12
        try clear c14
        try clear c15
        try clear c15b0
        try clear c15b1
        try clear p1
        try clear p12
        try clear p2
        try clear p5
        try clear q1
        try clear q12
        try clear q5
        obtain ⟨kq, x0_12, rfl, HA, HJ12, HB⟩ := hcut
        cases kq with
        | zero => exact absurd HA.out (by simp [spec_PackagistCanonical.j3])
        | succ kj12 =>
         have H := HA.out
         clear HA
         simp only [spec_PackagistCanonical.j3] at H
         have H' := Aside0.mk H
         clear H
         go_wp2
         (try simp only [Act.put, List.setIfInBounds_toArray, List.set_cons_zero, List.set_cons_succ])
         go_loopg [3, 4] kj12 (fun kq v3 v4 w' => ∃ (x3_5 : List Int) (x4_5 : Int), v4 = .int .i64 x4_5 ∧ Aside0 (spec_PackagistCanonical.l0 kq x0_12 x3_5 x4_5 = some r) ∧ Aside0 (kq ≤ kj12) ∧ Aside0 (Kd.R (Kd.int .u8) 5 w' w.heap.size (fun _ => True) v3 x3_5) ∧ Aside0 (Below w.heap.size w w'))
         case atStart => exact ⟨(([] : List Int)), (0), (by first | rfl | (simp; done) | (simp [*]; done) | (simp [bne_nil_hyb]; done) | (simp [bne_nil_hyb, *]; done)), H', ⟨Nat.le_refl _⟩, ⟨by first | exact Kd.R_nil _ _ _ _ _ | exact Kd.N_nil _ _ _ _ _ | exact Kd.V_nil _ _ _ _ _ | exact Kd.Q_nil _ _ _ _ _ | exact Kd.S_nil _ _ _ _ _⟩, ⟨by repeat (first | (with_reducible first | exact HB.out | apply below_alloc | apply pw_below_drewN | apply below_drew1) | exact HB.out)⟩⟩
         case round =>
          clear H'
          try clear c1
          try clear p1
          try clear q1
          try clear hx1
          try clear qi1
          try clear p2
          try clear c3
          try clear c3b0
          try clear c3b1
          try clear c4
          try clear c4b0
          try clear c4b1
          try clear p5
          try clear q5
          try clear hx5
          try clear qi5
          try clear c7
          try clear c8
          try clear c8b0
          try clear c8b1
          try clear c10
          try clear c10b0
          try clear c10b1
          try clear c11
          try clear c11b0
          try clear c11b1
          try clear p12
          try clear q12
          try clear hx12
          try clear qi12
          try clear c14
          try clear c15
          try clear c15b0
          try clear c15b1
          try clear p1
          try clear p12
          try clear p2
          try clear p5
          try clear q1
          try clear q12
          try clear q5
          obtain ⟨x3_5, x4_5, rfl, HA, HK5, HO_3, HB⟩ := hrel
          cases gk with
          | zero => exact absurd HA.out (by simp [spec_PackagistCanonical.l0])
          | succ k5 =>
           have H := HA.out
           clear HA
           simp only [spec_PackagistCanonical.l0] at H
           by_cases c16 : x4_5 < (x0_12.size : Int)
           ·rw [if_pos c16] at H
            have c16b0 : decide (x4_5 < (x0_12.size : Int)) = true := decide_eq_true c16
            clear c16
            by_cases c17 : 0 ≤ x4_5
            ·rw [if_pos c17] at H
             have c17b0 : decide (0 ≤ x4_5) = true := decide_eq_true c17
             clear c17
             have HC19 := Aside0.mk H
             clear H
             have p18 : 0 ≤ (x4_5 : Int) := of_decide_eq_true (by first | (with_reducible assumption) | assumption)
             have q18 : x4_5 < (x0_12.size : Int) := of_decide_eq_true (by first | (with_reducible assumption) | assumption)
             have hx18 := bt_at x0_12 x4_5
             replace p18 := eq_true p18
             replace q18 := eq_true q18
             go_upto_region 10 with (fail)
             go_cut [43] (fun v43 wc => ∃ (kq : Nat) (x43_18 : Bool), v43 = .bool x43_18 ∧ Aside0 (spec_PackagistCanonical.j5 kq x0_12 x3_5 x4_5 (bt x0_12 x4_5) x43_18 = some r) ∧ Aside0 (kq ≤ k5) ∧ Aside0 (Kd.R (Kd.int .u8) 5 wc w.heap.size (fun _ => True) u3 x3_5) ∧ Aside0 (Below w.heap.size w wc))
             case first =>
              have H := HC19.out
              clear HC19
              by_cases c20 : (bt x0_12 x4_5) = 45
              ·rw [if_pos c20] at H
               have c20b0 : ((bt x0_12 x4_5) == 45) = true := beq_iff_eq.mpr c20
               have c20b1 : ((bt x0_12 x4_5) != 45) = false := bne_eq_false_iff_eq.mpr c20
               clear c20
               (first | rw [c20b0] | (simp only [i64_w, i32_w]; rw [c20b0]) | skip)
               have H' := Aside0.mk H
               clear H
               go_wp2
               go_meet
               case rel => exact ⟨_, (true), (by first | rfl | (simp; done) | (simp [*]; done) | (simp [bne_nil_hyb]; done) | (simp [bne_nil_hyb, *]; done)), (by first | exact H' | (rw [hji25]; exact H')), ⟨by have := HJ1.out; have := HJ5.out; have := HJ8.out; have := HJ12.out; have := HK5.out; first | omega | exact Nat.le_refl _⟩, ⟨by (with_reducible repeat (first | apply Kd.R_alloc | apply Kd.R_drewN | apply Kd.R_drew)); exact HO_3.out⟩, ⟨by repeat (first | (with_reducible first | exact HB.out | apply below_alloc | apply pw_below_drewN | apply below_drew1) | exact HB.out)⟩⟩
              ·rw [if_neg c20] at H
               have c20b0 : ((bt x0_12 x4_5) == 45) = false := beq_eq_false_iff_ne.mpr c20
               have c20b1 : ((bt x0_12 x4_5) != 45) = true := bne_iff_ne.mpr c20
               (first | rw [c20b0] | (simp only [i64_w, i32_w]; rw [c20b0]) | skip)
               by_cases c21 : (bt x0_12 x4_5) = 95
               ·rw [if_pos c21] at H
                have c21b0 : ((bt x0_12 x4_5) == 95) = true := beq_iff_eq.mpr c21
                have c21b1 : ((bt x0_12 x4_5) != 95) = false := bne_eq_false_iff_eq.mpr c21
                clear c21
                have H' := Aside0.mk H
                clear H
                go_wp2
                go_meet
                case rel => exact ⟨_, (true), (by first | rfl | (simp; done) | (simp [*]; done) | (simp [bne_nil_hyb]; done) | (simp [bne_nil_hyb, *]; done)), (by first | exact H' | (rw [hji25]; exact H')), ⟨by have := HJ1.out; have := HJ5.out; have := HJ8.out; have := HJ12.out; have := HK5.out; first | omega | exact Nat.le_refl _⟩, ⟨by (with_reducible repeat (first | apply Kd.R_alloc | apply Kd.R_drewN | apply Kd.R_drew)); exact HO_3.out⟩, ⟨by repeat (first | (with_reducible first | exact HB.out | apply below_alloc | apply pw_below_drewN | apply below_drew1) | exact HB.out)⟩⟩
               ·rw [if_neg c21] at H
                have c21b0 : ((bt x0_12 x4_5) == 95) = false := beq_eq_false_iff_ne.mpr c21
                have c21b1 : ((bt x0_12 x4_5) != 95) = true := bne_iff_ne.mpr c21
                have H' := Aside0.mk H
                clear H
                go_wp2
                go_meet
                case rel => exact ⟨_, (((bt x0_12 x4_5) == 43)), (by first | rfl | (simp; done) | (simp [*]; done) | (simp [bne_nil_hyb]; done) | (simp [bne_nil_hyb, *]; done)), (by first | exact H' | (rw [hji25]; exact H')), ⟨by have := HJ1.out; have := HJ5.out; have := HJ8.out; have := HJ12.out; have := HK5.out; first | omega | exact Nat.le_refl _⟩, ⟨by (with_reducible repeat (first | apply Kd.R_alloc | apply Kd.R_drewN | apply Kd.R_drew)); exact HO_3.out⟩, ⟨by repeat (first | (with_reducible first | exact HB.out | apply below_alloc | apply pw_below_drewN | apply below_drew1) | exact HB.out)⟩⟩
             case rest =>
              clear HC19
              try clear c1
              try clear p1
              try clear q1
              try clear hx1
              try clear qi1
              try clear c2
              try clear p2
              try clear c3
              try clear c3b0
              try clear c3b1
              try clear c4
              try clear c4b0
              try clear c4b1
              try clear p5
              try clear q5
              try clear hx5
              try clear qi5
              try clear c7
              try clear c8
              try clear c8b0
              try clear c8b1
              try clear c10
              try clear c10b0
              try clear c10b1
              try clear c11
              try clear c11b0
              try clear c11b1
              try clear p12
              try clear q12
              try clear hx12
              try clear qi12
              try clear c14
              try clear c15
              try clear c15b0
              try clear c15b1
              try clear c16
              try clear c16b0
              try clear c17
              try clear c17b0
              try clear p18
              try clear q18
              try clear hx18
              try clear c20
              try clear c20b0
              try clear c20b1
              try clear c21
              try clear c21b0
              try clear c21b1
              try clear p1
              try clear p12
              try clear p18
              try clear p2
              try clear p5
              try clear q1
              try clear q12
              try clear q18
              try clear q5
              obtain ⟨kq, x43_18, rfl, HA, HJ18, HO_3, HB⟩ := hcut
              cases kq with
              | zero => exact absurd HA.out (by simp [spec_PackagistCanonical.j5])
              | succ kj18 =>
               have H := HA.out
               clear HA
               simp only [spec_PackagistCanonical.j5] at H
               have HC22 := Aside0.mk H
               clear H
               go_upto_if 43 with (fail)
               go_cut [5, 43] (fun v5 v43 wc => ∃ (kq : Nat) (x5_21 : Int), v5 = .int .u8 x5_21 ∧ Aside0 (spec_PackagistCanonical.j6 kq x0_12 x3_5 x4_5 x5_21 = some r) ∧ Aside0 (kq ≤ kj18) ∧ Aside0 (Kd.R (Kd.int .u8) 5 wc w.heap.size (fun _ => True) u3 x3_5) ∧ Aside0 (Below w.heap.size w wc))
               case first =>
                have H := HC22.out
                clear HC22
                by_cases c23 : x43_18 = true
                ·subst c23
                 have H1 : (spec_PackagistCanonical.j6 kj18 x0_12 x3_5 x4_5 46) = some r := by rw [if_pos rfl] at H; exact H
                 clear H
                 have H := H1
                 clear H1
                 have H' := Aside0.mk H
                 clear H
                 go_wp2
                 go_meet
                 case rel => exact ⟨_, (46), (by first | rfl | (simp; done) | (simp [*]; done) | (simp [bne_nil_hyb]; done) | (simp [bne_nil_hyb, *]; done)), (by first | exact H' | (rw [hji25]; exact H')), ⟨by have := HJ1.out; have := HJ5.out; have := HJ8.out; have := HJ12.out; have := HK5.out; have := HJ18.out; first | omega | exact Nat.le_refl _⟩, ⟨by (with_reducible repeat (first | apply Kd.R_alloc | apply Kd.R_drewN | apply Kd.R_drew)); exact HO_3.out⟩, ⟨by repeat (first | (with_reducible first | exact HB.out | apply below_alloc | apply pw_below_drewN | apply below_drew1) | exact HB.out)⟩⟩
                ·replace c23 := Bool.eq_false_iff.mpr c23
                 subst c23
                 have H1 : (spec_PackagistCanonical.j6 kj18 x0_12 x3_5 x4_5 (bt x0_12 x4_5)) = some r := by rw [if_neg (show ¬ (false = true) by decide)] at H; exact H
                 clear H
                 have H := H1
                 clear H1
                 have H' := Aside0.mk H
                 clear H
                 go_wp2
                 go_meet
                 case rel => exact ⟨_, ((bt x0_12 x4_5)), (by first | rfl | (simp; done) | (simp [*]; done) | (simp [bne_nil_hyb]; done) | (simp [bne_nil_hyb, *]; done)), (by first | exact H' | (rw [hji25]; exact H')), ⟨by have := HJ1.out; have := HJ5.out; have := HJ8.out; have := HJ12.out; have := HK5.out; have := HJ18.out; first | omega | exact Nat.le_refl _⟩, ⟨by (with_reducible repeat (first | apply Kd.R_alloc | apply Kd.R_drewN | apply Kd.R_drew)); exact HO_3.out⟩, ⟨by repeat (first | (with_reducible first | exact HB.out | apply below_alloc | apply pw_below_drewN | apply below_drew1) | exact HB.out)⟩⟩
               case rest =>
                clear HC22
                try clear c1
                try clear p1
                try clear q1
                try clear hx1
                try clear qi1
                try clear c2
                try clear p2
                try clear c3
                try clear c3b0
                try clear c3b1
                try clear c4
                try clear c4b0
                try clear c4b1
                try clear p5
                try clear q5
                try clear hx5
                try clear qi5
                try clear c7
                try clear c8
                try clear c8b0
                try clear c8b1
                try clear c10
                try clear c10b0
                try clear c10b1
                try clear c11
                try clear c11b0
                try clear c11b1
                try clear p12
                try clear q12
                try clear hx12
                try clear qi12
                try clear c14
                try clear c15
                try clear c15b0
                try clear c15b1
                try clear c16
                try clear c16b0
                try clear c17
                try clear c17b0
                try clear p18
                try clear q18
                try clear hx18
                try clear c20
                try clear c20b0
                try clear c20b1
                try clear c21
                try clear c21b0
                try clear c21b1
                try clear c23
                try clear p1
                try clear p12
                try clear p18
                try clear p2
                try clear p5
                try clear q1
                try clear q12
                try clear q18
                try clear q5
                obtain ⟨kq, x5_21, rfl, HA, HJ21, HO_3, HB⟩ := hcut
                cases kq with
                | zero => exact absurd HA.out (by simp [spec_PackagistCanonical.j6])
                | succ kj21 =>
                 have H := HA.out
                 clear HA
                 simp only [spec_PackagistCanonical.j6] at H
                 by_cases c24 : (x3_5.length : Int) > 0
                 ·rw [if_pos c24] at H
                  have c24b0 : decide (0 < (x3_5.length : Int)) = true := decide_eq_true c24
                  have c24b1 : decide (0 < x3_5.length) = true := decide_eq_true (by omega)
                  clear c24
                  obtain ⟨ji25, hji25⟩ : ∃ j_ : Int, (wrap64 ((x3_5.length : Int) - 1)) = j_ := ⟨_, rfl⟩
                  replace H : (if 0 ≤ (ji25) then (if (ji25) < (x3_5.length : Int) then (if x5_21 = 46 then (if x3_5.length < 140737488355328 then (spec_PackagistCanonical.l0 kj21 x0_12 (x3_5 ++ [x5_21]) (wrap64 (x4_5 + 1))) else (none)) else (if (rd x3_5 (ji25)) = 46 then (if x3_5.length < 140737488355328 then (spec_PackagistCanonical.l0 kj21 x0_12 (x3_5 ++ [x5_21]) (wrap64 (x4_5 + 1))) else (none)) else ((spec_isDigit.f x5_21).bind fun t117 => ((spec_isDigit.f (rd x3_5 (ji25))).bind fun t118 => (if (t117 != t118) = true then (if x3_5.length < 140737488355328 then ((some (x3_5 ++ [46] : List Int)).bind fun y119 => (if y119.length < 140737488355328 then (spec_PackagistCanonical.l0 kj21 x0_12 (y119 ++ [x5_21]) (wrap64 (x4_5 + 1))) else (none))) else (none)) else (if x3_5.length < 140737488355328 then (spec_PackagistCanonical.l0 kj21 x0_12 (x3_5 ++ [x5_21]) (wrap64 (x4_5 + 1))) else (none))))))) else (none)) else (none)) = some r := by first | (rw [hji25] at H; exact H) | (simp only [hji25] at H ⊢; exact H)
                  have hji25w : (IntKind.i64.wrap ((x3_5.length : Int) - 1)) = ji25 := (i64_w _).trans hji25
                  by_cases c26 : 0 ≤ (ji25)
                  ·rw [if_pos c26] at H
                   have c26b0 : decide (0 ≤ (ji25)) = true := decide_eq_true c26
                   clear c26
                   by_cases c27 : (ji25) < (x3_5.length : Int)
                   ·rw [if_pos c27] at H
                    have c27b0 : decide ((ji25) < (x3_5.length : Int)) = true := decide_eq_true c27
                    clear c27
                    by_cases c28 : x5_21 = 46
                    ·rw [if_pos c28] at H
                     have c28b0 : (x5_21 == 46) = true := beq_iff_eq.mpr c28
                     have c28b1 : (x5_21 != 46) = false := bne_eq_false_iff_eq.mpr c28
                     clear c28
                     by_cases c29 : x3_5.length < 140737488355328
                     ·rw [if_pos c29] at H
                      have LMc29 := Aside0.mk c29
                      clear c29
                      obtain ⟨y111, hy111⟩ : ∃ y_ : List Int, y_ = (x3_5 ++ [x5_21]) := ⟨_, rfl⟩
                      replace H : (spec_PackagistCanonical.l0 kj21 x0_12 y111 (wrap64 (x4_5 + 1))) = some r := by first | (rw [hy111]; with_reducible exact H) | (have H2_ := (Option.bind_some _ _).symm.trans H; rw [hy111]; with_reducible exact H2_) | (have H2_ := (Option.bind_some _ _).symm.trans H; with_reducible exact H2_) | with_reducible exact H | (rw [hy111]; exact H) | exact H
                      have Ny111 := Aside0.mk hy111
                      clear hy111
                      have H' := Aside0.mk H
                      clear H
                      obtain ⟨Ao30, co30, eo30⟩ := Kd.R_slice HO_3.out
                      subst eo30
                      have p110 : 0 ≤ ((ji25) : Int) := of_decide_eq_true (by first | (with_reducible assumption) | assumption)
                      have q110 : (ji25) < (x3_5.length : Int) := of_decide_eq_true (by first | (with_reducible assumption) | assumption)
                      obtain ⟨ad110, e110, hx110_0⟩ := Kd.at_int (Kd.R_reads' HO_3.out).2.2 (ji25) p110 q110
                      cases e110
                      replace p110 := eq_true p110
                      replace q110 := eq_true q110
                      go_wp2_with (first | ((with_reducible refine gate_builtin (b := .append) (xs := #[.tmp 69, .tmp 71]) rfl ?_); at_builtin; refine Kd.R_append (Kd.int .u8) (w0 := w) w.heap.size rfl (.tmp 69) (.tmp 71) 45 5 (.int .u8 0) 1 rfl Tryz.underlying45 info5 rfl (by decide) (by omega) (.slice (some ad110) x3_5.length co30) x3_5 x5_21 [.int .u8 x5_21] (fun _ => True) (fun _ => False) rfl rfl ?aP (fun _ hk => hk.elim) ?aF ?aO ?aB ?aS ?aL ?_; (case aP => exact rfl); (case aB => exact (by repeat (first | (with_reducible first | exact HB.out | apply below_alloc | apply pw_below_drewN | apply below_drew1) | exact HB.out))); (case aF => exact (fun _ _ => trivial)); (case aO => exact (by (with_reducible repeat (first | apply Kd.R_alloc | apply Kd.R_drewN | apply Kd.R_drew)); exact HO_3.out)); (case aS => exact (below_size (by repeat (first | (with_reducible first | exact HB.out | apply below_alloc | apply pw_below_drewN | apply below_drew1) | exact HB.out)))); (case aL => have := LMc29.out; omega); intro v112 w31 ho hb hg hat; rw [← Ny111.out] at ho; have n0_ := Aside0.mk (hb); have n1_ := Aside0.mk (ho); clear HB; clear HO_3; have HB := n0_; have HO113 := n1_; clear n0_ n1_; clear ho hb hg hat))
                      go_roundg kj21
                      case measure => have := HJ1.out; have := HJ5.out; have := HJ8.out; have := HJ12.out; have := HK5.out; have := HJ18.out; have := HJ21.out; omega
                      case rel => exact ⟨(y111), (wrap64 (x4_5 + 1)), (by first | rfl | (simp; done) | (simp [*]; done) | (simp [bne_nil_hyb]; done) | (simp [bne_nil_hyb, *]; done)), (by first | exact H' | (rw [hji25]; exact H')), ⟨by have := HJ1.out; have := HJ5.out; have := HJ8.out; have := HJ12.out; have := HK5.out; have := HJ18.out; have := HJ21.out; omega⟩, ⟨by (with_reducible repeat (first | apply Kd.R_alloc | apply Kd.R_drewN | apply Kd.R_drew)); exact HO113.out⟩, ⟨by repeat (first | (with_reducible first | exact HB.out | apply below_alloc | apply pw_below_drewN | apply below_drew1) | exact HB.out)⟩⟩
                     ·rw [if_neg c29] at H
                      exact absurd H (by simp)
                    ·rw [if_neg c28] at H
                     have c28b0 : (x5_21 == 46) = false := beq_eq_false_iff_ne.mpr c28
                     have c28b1 : (x5_21 != 46) = true := bne_iff_ne.mpr c28
                     by_cases c32 : (rd x3_5 (ji25)) = 46
                     ·rw [if_pos c32] at H
                      have c32b0 : ((rd x3_5 (ji25)) == 46) = true := beq_iff_eq.mpr c32
                      have c32b1 : ((rd x3_5 (ji25)) != 46) = false := bne_eq_false_iff_eq.mpr c32
                      clear c32
                      by_cases c33 : x3_5.length < 140737488355328
                      ·rw [if_pos c33] at H
                       have LMc33 := Aside0.mk c33
                       clear c33
                       obtain ⟨y114, hy114⟩ : ∃ y_ : List Int, y_ = (x3_5 ++ [x5_21]) := ⟨_, rfl⟩
                       replace H : (spec_PackagistCanonical.l0 kj21 x0_12 y114 (wrap64 (x4_5 + 1))) = some r := by first | (rw [hy114]; with_reducible exact H) | (have H2_ := (Option.bind_some _ _).symm.trans H; rw [hy114]; with_reducible exact H2_) | (have H2_ := (Option.bind_some _ _).symm.trans H; with_reducible exact H2_) | with_reducible exact H | (rw [hy114]; exact H) | exact H
                       have Ny114 := Aside0.mk hy114
                       clear hy114
                       have H' := Aside0.mk H
                       clear H
                       obtain ⟨Ao34, co34, eo34⟩ := Kd.R_slice HO_3.out
                       subst eo34
                       have p110 : 0 ≤ ((ji25) : Int) := of_decide_eq_true (by first | (with_reducible assumption) | assumption)
                       have q110 : (ji25) < (x3_5.length : Int) := of_decide_eq_true (by first | (with_reducible assumption) | assumption)
                       obtain ⟨ad110, e110, hx110_0⟩ := Kd.at_int (Kd.R_reads' HO_3.out).2.2 (ji25) p110 q110
                       cases e110
                       replace p110 := eq_true p110
                       replace q110 := eq_true q110
                       go_wp2_with (first | ((with_reducible refine gate_builtin (b := .append) (xs := #[.tmp 69, .tmp 71]) rfl ?_); at_builtin; refine Kd.R_append (Kd.int .u8) (w0 := w) w.heap.size rfl (.tmp 69) (.tmp 71) 45 5 (.int .u8 0) 1 rfl Tryz.underlying45 info5 rfl (by decide) (by omega) (.slice (some ad110) x3_5.length co34) x3_5 x5_21 [.int .u8 x5_21] (fun _ => True) (fun _ => False) rfl rfl ?aP (fun _ hk => hk.elim) ?aF ?aO ?aB ?aS ?aL ?_; (case aP => exact rfl); (case aB => exact (by repeat (first | (with_reducible first | exact HB.out | apply below_alloc | apply pw_below_drewN | apply below_drew1) | exact HB.out))); (case aF => exact (fun _ _ => trivial)); (case aO => exact (by (with_reducible repeat (first | apply Kd.R_alloc | apply Kd.R_drewN | apply Kd.R_drew)); exact HO_3.out)); (case aS => exact (below_size (by repeat (first | (with_reducible first | exact HB.out | apply below_alloc | apply pw_below_drewN | apply below_drew1) | exact HB.out)))); (case aL => have := LMc33.out; omega); intro v115 w35 ho hb hg hat; rw [← Ny114.out] at ho; have n0_ := Aside0.mk (hb); have n1_ := Aside0.mk (ho); clear HB; clear HO_3; have HB := n0_; have HO116 := n1_; clear n0_ n1_; clear ho hb hg hat))
                       go_roundg kj21
                       case measure => have := HJ1.out; have := HJ5.out; have := HJ8.out; have := HJ12.out; have := HK5.out; have := HJ18.out; have := HJ21.out; omega
                       case rel => exact ⟨(y114), (wrap64 (x4_5 + 1)), (by first | rfl | (simp; done) | (simp [*]; done) | (simp [bne_nil_hyb]; done) | (simp [bne_nil_hyb, *]; done)), (by first | exact H' | (rw [hji25]; exact H')), ⟨by have := HJ1.out; have := HJ5.out; have := HJ8.out; have := HJ12.out; have := HK5.out; have := HJ18.out; have := HJ21.out; omega⟩, ⟨by (with_reducible repeat (first | apply Kd.R_alloc | apply Kd.R_drewN | apply Kd.R_drew)); exact HO116.out⟩, ⟨by repeat (first | (with_reducible first | exact HB.out | apply below_alloc | apply pw_below_drewN | apply below_drew1) | exact HB.out)⟩⟩
                      ·rw [if_neg c33] at H
                       exact absurd H (by simp)
                     ·rw [if_neg c32] at H
                      have c32b0 : ((rd x3_5 (ji25)) == 46) = false := beq_eq_false_iff_ne.mpr c32
                      have c32b1 : ((rd x3_5 (ji25)) != 46) = true := bne_iff_ne.mpr c32
                      replace H := Option.bind_eq_some_iff.mp H
                      obtain ⟨t117, A360, H⟩ := H
                      replace H : ((spec_isDigit.f (rd x3_5 (ji25))).bind fun t118 => (if (t117 != t118) = true then (if x3_5.length < 140737488355328 then ((some (x3_5 ++ [46] : List Int)).bind fun y119 => (if y119.length < 140737488355328 then (spec_PackagistCanonical.l0 kj21 x0_12 (y119 ++ [x5_21]) (wrap64 (x4_5 + 1))) else (none))) else (none)) else (if x3_5.length < 140737488355328 then (spec_PackagistCanonical.l0 kj21 x0_12 (x3_5 ++ [x5_21]) (wrap64 (x4_5 + 1))) else (none)))) = some r := H
                      have A36 := Aside0.mk A360
                      clear A360
                      replace H := Option.bind_eq_some_iff.mp H
                      obtain ⟨t118, A370, H⟩ := H
                      replace H : (if (t117 != t118) = true then (if x3_5.length < 140737488355328 then ((some (x3_5 ++ [46] : List Int)).bind fun y119 => (if y119.length < 140737488355328 then (spec_PackagistCanonical.l0 kj21 x0_12 (y119 ++ [x5_21]) (wrap64 (x4_5 + 1))) else (none))) else (none)) else (if x3_5.length < 140737488355328 then (spec_PackagistCanonical.l0 kj21 x0_12 (x3_5 ++ [x5_21]) (wrap64 (x4_5 + 1))) else (none))) = some r := H
                      have A37 := Aside0.mk A370
                      clear A370
                      by_cases c38 : (t117 != t118) = true
                      ·rw [if_pos c38] at H
                       have c38b0 : (t117 != t118) = true := c38
                       (try (have c38b1 : decide (t117 = t118) = false := by simpa using c38))
                       (try (have c38b2 : (t117 == t118) = false := by simpa using c38))
                       (try (have c38b3 : ¬ (t117 = t118) := by simpa using c38))
                       clear c38
                       by_cases c39 : x3_5.length < 140737488355328
                       ·rw [if_pos c39] at H
                        have LMc39 := Aside0.mk c39
                        clear c39
                        obtain ⟨y119, hy119⟩ : ∃ y_ : List Int, y_ = (x3_5 ++ [46]) := ⟨_, rfl⟩
                        replace H : (if y119.length < 140737488355328 then (spec_PackagistCanonical.l0 kj21 x0_12 (y119 ++ [x5_21]) (wrap64 (x4_5 + 1))) else (none)) = some r := by first | (rw [hy119]; with_reducible exact H) | (have H2_ := (Option.bind_some _ _).symm.trans H; rw [hy119]; with_reducible exact H2_) | (have H2_ := (Option.bind_some _ _).symm.trans H; with_reducible exact H2_) | with_reducible exact H | (rw [hy119]; exact H) | exact H
                        have Ny119 := Aside0.mk hy119
                        clear hy119
                        by_cases c40 : y119.length < 140737488355328
                        ·rw [if_pos c40] at H
                         have LMc40 := Aside0.mk c40
                         clear c40
                         obtain ⟨y122, hy122⟩ : ∃ y_ : List Int, y_ = (y119 ++ [x5_21]) := ⟨_, rfl⟩
                         replace H : (spec_PackagistCanonical.l0 kj21 x0_12 y122 (wrap64 (x4_5 + 1))) = some r := by first | (rw [hy122]; with_reducible exact H) | (have H2_ := (Option.bind_some _ _).symm.trans H; rw [hy122]; with_reducible exact H2_) | (have H2_ := (Option.bind_some _ _).symm.trans H; with_reducible exact H2_) | with_reducible exact H | (rw [hy122]; exact H) | exact H
                         have Ny122 := Aside0.mk hy122
                         clear hy122
                         have H' := Aside0.mk H
                         clear H
                         obtain ⟨Ao41, co41, eo41⟩ := Kd.R_slice HO_3.out
                         subst eo41
                         have p110 : 0 ≤ ((ji25) : Int) := of_decide_eq_true (by first | (with_reducible assumption) | assumption)
                         have q110 : (ji25) < (x3_5.length : Int) := of_decide_eq_true (by first | (with_reducible assumption) | assumption)
                         obtain ⟨ad110, e110, hx110_0⟩ := Kd.at_int (Kd.R_reads' HO_3.out).2.2 (ji25) p110 q110
                         cases e110
                         replace p110 := eq_true p110
                         replace q110 := eq_true q110
                         go_wp2_with (first | (go_at_call 24; (with_reducible refine (spec_isDigit.calls x5_21 t117 _ A36.out).mono ?_); rintro e w' ⟨rfl, ⟨nd, rfl⟩⟩) | (go_at_call 24; (with_reducible refine (spec_isDigit.calls (rd x3_5 (ji25)) t118 _ A37.out).mono ?_); rintro e w' ⟨rfl, ⟨nd, rfl⟩⟩) | ((with_reducible refine gate_builtin (b := .append) (xs := #[.tmp 66, .tmp 67]) rfl ?_); at_builtin; refine Kd.R_append (Kd.int .u8) (w0 := w) w.heap.size rfl (.tmp 66) (.tmp 67) 45 5 (.int .u8 0) 1 rfl Tryz.underlying45 info5 rfl (by decide) (by omega) (.slice (some ad110) x3_5.length co41) x3_5 46 [.int .u8 46] (fun _ => True) (fun _ => False) rfl rfl ?aP (fun _ hk => hk.elim) ?aF ?aO ?aB ?aS ?aL ?_; (case aP => exact rfl); (case aB => exact (by repeat (first | (with_reducible first | exact HB.out | apply below_alloc | apply pw_below_drewN | apply below_drew1) | exact HB.out))); (case aF => exact (fun _ _ => trivial)); (case aO => exact (by (with_reducible repeat (first | apply Kd.R_alloc | apply Kd.R_drewN | apply Kd.R_drew)); exact HO_3.out)); (case aS => exact (below_size (by repeat (first | (with_reducible first | exact HB.out | apply below_alloc | apply pw_below_drewN | apply below_drew1) | exact HB.out)))); (case aL => have := LMc39.out; omega); intro v120 w42 ho hb hg hat; rw [← Ny119.out] at ho; have n0_ := Aside0.mk (hb); have n1_ := Aside0.mk (ho); clear HB; clear HO_3; have HB := n0_; have HO121 := n1_; clear n0_ n1_; clear ho hb hg hat) | ((with_reducible refine gate_builtin (b := .append) (xs := #[.tmp 69, .tmp 71]) rfl ?_); at_builtin; refine Kd.R_append (Kd.int .u8) (w0 := w) w.heap.size rfl (.tmp 69) (.tmp 71) 45 5 (.int .u8 0) 1 rfl Tryz.underlying45 info5 rfl (by decide) (by omega) v120 y119 x5_21 [.int .u8 x5_21] (fun _ => True) (fun _ => False) rfl rfl ?aP (fun _ hk => hk.elim) ?aF ?aO ?aB ?aS ?aL ?_; (case aP => exact rfl); (case aB => exact (by repeat (first | (with_reducible first | exact HB.out | apply below_alloc | apply pw_below_drewN | apply below_drew1) | exact HB.out))); (case aF => exact (fun _ _ => trivial)); (case aO => exact (by (with_reducible repeat (first | apply Kd.R_alloc | apply Kd.R_drewN | apply Kd.R_drew)); exact HO121.out)); (case aS => exact (below_size (by repeat (first | (with_reducible first | exact HB.out | apply below_alloc | apply pw_below_drewN | apply below_drew1) | exact HB.out)))); (case aL => have := LMc40.out; omega); intro v123 w43 ho hb hg hat; rw [← Ny122.out] at ho; have n0_ := Aside0.mk (hb); have n1_ := Aside0.mk (ho); clear HB; clear HO121; have HB := n0_; have HO124 := n1_; clear n0_ n1_; clear ho hb hg hat))
                         go_roundg kj21
                         case measure => have := HJ1.out; have := HJ5.out; have := HJ8.out; have := HJ12.out; have := HK5.out; have := HJ18.out; have := HJ21.out; omega
                         case rel => exact ⟨(y122), (wrap64 (x4_5 + 1)), (by first | rfl | (simp; done) | (simp [*]; done) | (simp [bne_nil_hyb]; done) | (simp [bne_nil_hyb, *]; done)), (by first | exact H' | (rw [hji25]; exact H')), ⟨by have := HJ1.out; have := HJ5.out; have := HJ8.out; have := HJ12.out; have := HK5.out; have := HJ18.out; have := HJ21.out; omega⟩, ⟨by (with_reducible repeat (first | apply Kd.R_alloc | apply Kd.R_drewN | apply Kd.R_drew)); exact HO124.out⟩, ⟨by repeat (first | (with_reducible first | exact HB.out | apply below_alloc | apply pw_below_drewN | apply below_drew1) | exact HB.out)⟩⟩
                        ·rw [if_neg c40] at H
                         exact absurd H (by simp)
                       ·rw [if_neg c39] at H
                        exact absurd H (by simp)
                      ·rw [if_neg c38] at H
                       have c38b0 : (t117 != t118) = false := by simpa using c38
                       (try (have c38b1 : decide (t117 = t118) = true := by simpa using c38))
                       (try (have c38b2 : (t117 == t118) = true := by simpa using c38))
                       clear c38
                       by_cases c44 : x3_5.length < 140737488355328
                       ·rw [if_pos c44] at H
                        have LMc44 := Aside0.mk c44
                        clear c44
                        obtain ⟨y125, hy125⟩ : ∃ y_ : List Int, y_ = (x3_5 ++ [x5_21]) := ⟨_, rfl⟩
                        replace H : (spec_PackagistCanonical.l0 kj21 x0_12 y125 (wrap64 (x4_5 + 1))) = some r := by first | (rw [hy125]; with_reducible exact H) | (have H2_ := (Option.bind_some _ _).symm.trans H; rw [hy125]; with_reducible exact H2_) | (have H2_ := (Option.bind_some _ _).symm.trans H; with_reducible exact H2_) | with_reducible exact H | (rw [hy125]; exact H) | exact H
                        have Ny125 := Aside0.mk hy125
                        clear hy125
                        have H' := Aside0.mk H
                        clear H
                        obtain ⟨Ao45, co45, eo45⟩ := Kd.R_slice HO_3.out
                        subst eo45
                        have p110 : 0 ≤ ((ji25) : Int) := of_decide_eq_true (by first | (with_reducible assumption) | assumption)
                        have q110 : (ji25) < (x3_5.length : Int) := of_decide_eq_true (by first | (with_reducible assumption) | assumption)
                        obtain ⟨ad110, e110, hx110_0⟩ := Kd.at_int (Kd.R_reads' HO_3.out).2.2 (ji25) p110 q110
                        cases e110
                        replace p110 := eq_true p110
                        replace q110 := eq_true q110
                        go_wp2_with (first | (go_at_call 24; (with_reducible refine (spec_isDigit.calls x5_21 t117 _ A36.out).mono ?_); rintro e w' ⟨rfl, ⟨nd, rfl⟩⟩) | (go_at_call 24; (with_reducible refine (spec_isDigit.calls (rd x3_5 (ji25)) t118 _ A37.out).mono ?_); rintro e w' ⟨rfl, ⟨nd, rfl⟩⟩) | ((with_reducible refine gate_builtin (b := .append) (xs := #[.tmp 69, .tmp 71]) rfl ?_); at_builtin; refine Kd.R_append (Kd.int .u8) (w0 := w) w.heap.size rfl (.tmp 69) (.tmp 71) 45 5 (.int .u8 0) 1 rfl Tryz.underlying45 info5 rfl (by decide) (by omega) (.slice (some ad110) x3_5.length co45) x3_5 x5_21 [.int .u8 x5_21] (fun _ => True) (fun _ => False) rfl rfl ?aP (fun _ hk => hk.elim) ?aF ?aO ?aB ?aS ?aL ?_; (case aP => exact rfl); (case aB => exact (by repeat (first | (with_reducible first | exact HB.out | apply below_alloc | apply pw_below_drewN | apply below_drew1) | exact HB.out))); (case aF => exact (fun _ _ => trivial)); (case aO => exact (by (with_reducible repeat (first | apply Kd.R_alloc | apply Kd.R_drewN | apply Kd.R_drew)); exact HO_3.out)); (case aS => exact (below_size (by repeat (first | (with_reducible first | exact HB.out | apply below_alloc | apply pw_below_drewN | apply below_drew1) | exact HB.out)))); (case aL => have := LMc44.out; omega); intro v126 w46 ho hb hg hat; rw [← Ny125.out] at ho; have n0_ := Aside0.mk (hb); have n1_ := Aside0.mk (ho); clear HB; clear HO_3; have HB := n0_; have HO127 := n1_; clear n0_ n1_; clear ho hb hg hat))
                        go_roundg kj21
                        case measure => have := HJ1.out; have := HJ5.out; have := HJ8.out; have := HJ12.out; have := HK5.out; have := HJ18.out; have := HJ21.out; omega
                        case rel => exact ⟨(y125), (wrap64 (x4_5 + 1)), (by first | rfl | (simp; done) | (simp [*]; done) | (simp [bne_nil_hyb]; done) | (simp [bne_nil_hyb, *]; done)), (by first | exact H' | (rw [hji25]; exact H')), ⟨by have := HJ1.out; have := HJ5.out; have := HJ8.out; have := HJ12.out; have := HK5.out; have := HJ18.out; have := HJ21.out; omega⟩, ⟨by (with_reducible repeat (first | apply Kd.R_alloc | apply Kd.R_drewN | apply Kd.R_drew)); exact HO127.out⟩, ⟨by repeat (first | (with_reducible first | exact HB.out | apply below_alloc | apply pw_below_drewN | apply below_drew1) | exact HB.out)⟩⟩
                       ·rw [if_neg c44] at H
                        exact absurd H (by simp)
                   ·rw [if_neg c27] at H
                    exact absurd H (by simp)
                  ·rw [if_neg c26] at H
                   exact absurd H (by simp)
                 ·rw [if_neg c24] at H
                  have c24b0 : decide (0 < (x3_5.length : Int)) = false := decide_eq_false c24
                  have c24b1 : decide (0 < x3_5.length) = false := decide_eq_false (by omega)
                  clear c24
                  by_cases c47 : x3_5.length < 140737488355328
                  ·rw [if_pos c47] at H
                   have LMc47 := Aside0.mk c47
                   clear c47
                   obtain ⟨y128, hy128⟩ : ∃ y_ : List Int, y_ = (x3_5 ++ [x5_21]) := ⟨_, rfl⟩
                   replace H : (spec_PackagistCanonical.l0 kj21 x0_12 y128 (wrap64 (x4_5 + 1))) = some r := by first | (rw [hy128]; with_reducible exact H) | (have H2_ := (Option.bind_some _ _).symm.trans H; rw [hy128]; with_reducible exact H2_) | (have H2_ := (Option.bind_some _ _).symm.trans H; with_reducible exact H2_) | with_reducible exact H | (rw [hy128]; exact H) | exact H
                   have Ny128 := Aside0.mk hy128
                   clear hy128
                   have H' := Aside0.mk H
                   clear H
                   obtain ⟨Ao48, co48, eo48⟩ := Kd.R_slice HO_3.out
                   subst eo48
                   go_wp2_with (first | ((with_reducible refine gate_builtin (b := .append) (xs := #[.tmp 69, .tmp 71]) rfl ?_); at_builtin; refine Kd.R_append (Kd.int .u8) (w0 := w) w.heap.size rfl (.tmp 69) (.tmp 71) 45 5 (.int .u8 0) 1 rfl Tryz.underlying45 info5 rfl (by decide) (by omega) (.slice Ao48 x3_5.length co48) x3_5 x5_21 [.int .u8 x5_21] (fun _ => True) (fun _ => False) rfl rfl ?aP (fun _ hk => hk.elim) ?aF ?aO ?aB ?aS ?aL ?_; (case aP => exact rfl); (case aB => exact (by repeat (first | (with_reducible first | exact HB.out | apply below_alloc | apply pw_below_drewN | apply below_drew1) | exact HB.out))); (case aF => exact (fun _ _ => trivial)); (case aO => exact (by (with_reducible repeat (first | apply Kd.R_alloc | apply Kd.R_drewN | apply Kd.R_drew)); exact HO_3.out)); (case aS => exact (below_size (by repeat (first | (with_reducible first | exact HB.out | apply below_alloc | apply pw_below_drewN | apply below_drew1) | exact HB.out)))); (case aL => have := LMc47.out; omega); intro v129 w49 ho hb hg hat; rw [← Ny128.out] at ho; have n0_ := Aside0.mk (hb); have n1_ := Aside0.mk (ho); clear HB; clear HO_3; have HB := n0_; have HO130 := n1_; clear n0_ n1_; clear ho hb hg hat))
                   go_roundg kj21
                   case measure => have := HJ1.out; have := HJ5.out; have := HJ8.out; have := HJ12.out; have := HK5.out; have := HJ18.out; have := HJ21.out; omega
                   case rel => exact ⟨(y128), (wrap64 (x4_5 + 1)), (by first | rfl | (simp; done) | (simp [*]; done) | (simp [bne_nil_hyb]; done) | (simp [bne_nil_hyb, *]; done)), (by first | exact H' | (rw [hji25]; exact H')), ⟨by have := HJ1.out; have := HJ5.out; have := HJ8.out; have := HJ12.out; have := HK5.out; have := HJ18.out; have := HJ21.out; omega⟩, ⟨by (with_reducible repeat (first | apply Kd.R_alloc | apply Kd.R_drewN | apply Kd.R_drew)); exact HO130.out⟩, ⟨by repeat (first | (with_reducible first | exact HB.out | apply below_alloc | apply pw_below_drewN | apply below_drew1) | exact HB.out)⟩⟩
                  ·rw [if_neg c47] at H
                   exact absurd H (by simp)
            ·rw [if_neg c17] at H
             exact absurd H (by simp)
           ·rw [if_neg c16] at H
            have c16b0 : decide (x4_5 < (x0_12.size : Int)) = false := decide_eq_false c16
            clear c16
            obtain rfl := Option.some.inj H
            have hcv50 := own_string (P := Tryz.prog) Tryz.underlying45 Tryz.underlying5 Tryz.underlying9 (Kd.own_of_R HO_3.out)
            go_wp2
            go_ret
            exact ⟨by first | rfl | (simp [errW_none, errW_some] <;> rfl) | (simp [*, errW_none, errW_some] <;> rfl) | (simp [bne_nil_hyb]; done), by repeat (first | (with_reducible first | exact HB.out | apply below_alloc | apply pw_below_drewN | apply below_drew1) | exact HB.out)⟩

end Go.Proofs.YtdjkekgfeadmoaaGreatDoor.Q
