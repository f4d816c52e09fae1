/- Proved here: each Go function that is named in this text, called as its theorem 'calls' says, returns what its Lean function 'f' tells, and of the memory that was there nothing is changed (a row of a law: the law returns true). Conditions: those that stand in each theorem; where 'f' tells none, nothing is said. Laid by a program of this seat's prover out of the translation; Lean checks it. -/
import Derived.Test.YtdjkekgfeadmoaaDoorQx0
import Derived.Test.YtdjkekgfeadmoaaDoorQx1
import Derived.Test.YtdjkekgfeadmoaaDoorQx3
namespace Go.Proofs.YtdjkekgfeadmoaaDoor.Q
open Go.RowKit Go.Proofs.YtdjkekgfeadmoaaDoorH Go.Proofs.YtdjkekgfeadmoaaDoorG Go.Proofs.YtdjkekgfeadmoaaDoorW.PrintWords Go.Proofs.YtdjkekgfeadmoaaDoorW.PrintLast Go.Proofs.YtdjkekgfeadmoaaDoorW.PrintMore
attribute [local go_sem] max2_int min2_int max_two min_two max_three min_three max_four min_four   -- for this text's walks alone
set_option linter.unusedVariables false
set_option linter.unusedSimpArgs false

/-! ### laws_FnPackagistStages: function 4 -/
mutual
def laws_FnPackagistStages.j0 : Nat → ByteArray → Int → Bool → Option (Bool)
 | 0, _, _, _ => none
 | k + 1, x0, x1, x26 => if x26 = true then (some true) else ((laws_decimal.f k x1).bind fun t194 => (if x0.size + 4 ≤ 9223372036854775807 then (if (x0 ++ (⟨#[45, 100, 101, 118]⟩ : ByteArray)).size + t194.size ≤ 9223372036854775807 then (if x0.size + 6 ≤ 9223372036854775807 then (if (x0 ++ (⟨#[45, 97, 108, 112, 104, 97]⟩ : ByteArray)).size + t194.size ≤ 9223372036854775807 then (if x0.size + 5 ≤ 9223372036854775807 then (if (x0 ++ (⟨#[45, 98, 101, 116, 97]⟩ : ByteArray)).size + t194.size ≤ 9223372036854775807 then (if x0.size + 3 ≤ 9223372036854775807 then (if (x0 ++ (⟨#[45, 82, 67]⟩ : ByteArray)).size + t194.size ≤ 9223372036854775807 then (if (x0 ++ (⟨#[45, 112, 108]⟩ : ByteArray)).size + t194.size ≤ 9223372036854775807 then ((some (([(x0 ++ (⟨#[45, 100, 101, 118]⟩ : ByteArray)) ++ t194, (x0 ++ (⟨#[45, 97, 108, 112, 104, 97]⟩ : ByteArray)) ++ t194, (x0 ++ (⟨#[45, 98, 101, 116, 97]⟩ : ByteArray)) ++ t194, (x0 ++ (⟨#[45, 82, 67]⟩ : ByteArray)) ++ t194, x0, (x0 ++ (⟨#[45, 112, 108]⟩ : ByteArray)) ++ t194] : List ByteArray) : List ByteArray)).bind fun y195 => (laws_FnPackagistStages.l0 k x0 t194 y195 (y195.length : Int) 0)) else (none)) else (none)) else (none)) else (none)) else (none)) else (none)) else (none)) else (none)) else (none)))
def laws_FnPackagistStages.l0 : Nat → ByteArray → ByteArray → List ByteArray → Int → Int → Option (Bool)
 | 0, _, _, _, _, _ => none
 | k + 1, x0, x5, x6, x52, x53 => if x53 < x52 then (laws_FnPackagistStages.l1 k x0 x5 x6 x53 x52 x53 (x6.length : Int) 0) else (if x0.size + 1 ≤ 9223372036854775807 then (if (x0 ++ (⟨#[97]⟩ : ByteArray)).size + x5.size ≤ 9223372036854775807 then (if x0.size + 7 ≤ 9223372036854775807 then (if (x0 ++ (⟨#[45, 97, 108, 112, 104, 97, 46]⟩ : ByteArray)).size + x5.size ≤ 9223372036854775807 then ((impl_PackagistCompareText.f k ((x0 ++ (⟨#[97]⟩ : ByteArray)) ++ x5) ((x0 ++ (⟨#[45, 97, 108, 112, 104, 97, 46]⟩ : ByteArray)) ++ x5)).bind fun bt198 => (if x0.size + 2 ≤ 9223372036854775807 then ((impl_PackagistCompareText.f k (x0 ++ (⟨#[46, 48]⟩ : ByteArray)) x0).bind fun bt200 => (if bt198.2 = true then (if bt200.2 = true then (if bt198.1 = 0 then (some (bt200.1 == 1)) else (some false)) else (some false)) else (some false))) else (none))) else (none)) else (none)) else (none)) else (none))
def laws_FnPackagistStages.l1 : Nat → ByteArray → ByteArray → List ByteArray → Int → Int → Int → Int → Int → Option (Bool)
 | 0, _, _, _, _, _, _, _, _ => none
 | k + 1, x0, x5, x6, x7, x52, x53, x57, x58 => if x58 < x57 then (if 0 ≤ x7 then (if x7 < (x6.length : Int) then (if 0 ≤ x58 then (if x58 < (x6.length : Int) then ((impl_PackagistCompareText.f k (rdOf ByteArray.empty x6 x7) (rdOf ByteArray.empty x6 x58)).bind fun bt204 => (if bt204.2 = true then (if bt204.1 = (mx (-1) (mn 1 (wrap64 (x7 - x58)))) then (laws_FnPackagistStages.l1 k x0 x5 x6 x7 x52 x53 x57 (wrap64 (x58 + 1))) else (some false)) else (some false))) else (none)) else (none)) else (none)) else (none)) else (laws_FnPackagistStages.l0 k x0 x5 x6 x52 (wrap64 (x53 + 1)))
end
def laws_FnPackagistStages.f (k : Nat) (a0 : ByteArray) (a1 : Int) : Option (Bool) := if (a0.size : Int) > 2147483647 then (some true) else ((laws_short.f k (([a0] : List ByteArray))).bind fun t192 => (if t192 = true then ((laws_numbered.f k a0 8).bind fun t193 => (laws_FnPackagistStages.j0 k a0 a1 (!t193))) else (laws_FnPackagistStages.j0 k a0 a1 true)))
theorem laws_FnPackagistStages.mono_l : ∀ k, (∀ y0 y1 y2, LeO (laws_FnPackagistStages.j0 k y0 y1 y2) (laws_FnPackagistStages.j0 (k + 1) y0 y1 y2)) ∧ (∀ y0 y1 y2 y3 y4, LeO (laws_FnPackagistStages.l0 k y0 y1 y2 y3 y4) (laws_FnPackagistStages.l0 (k + 1) y0 y1 y2 y3 y4)) ∧ (∀ y0 y1 y2 y3 y4 y5 y6 y7, LeO (laws_FnPackagistStages.l1 k y0 y1 y2 y3 y4 y5 y6 y7) (laws_FnPackagistStages.l1 (k + 1) y0 y1 y2 y3 y4 y5 y6 y7))
 | 0 => ⟨fun _ _ _ r h => by simp [laws_FnPackagistStages.j0] at h, fun _ _ _ _ _ r h => by simp [laws_FnPackagistStages.l0] at h, fun _ _ _ _ _ _ _ _ r h => by simp [laws_FnPackagistStages.l1] at h⟩
 | k + 1 => by
  obtain ⟨ih0, ih1, ih2⟩ := laws_FnPackagistStages.mono_l k
  refine ⟨?_, ?_, ?_⟩
  ·intro y0 y1 y2
   unfold laws_FnPackagistStages.j0
   repeat' first
   | (with_reducible exact ih0 _ _ _)
   | (with_reducible exact ih1 _ _ _ _ _)
   | (with_reducible exact ih2 _ _ _ _ _ _ _ _)
   | (with_reducible exact impl_PackagistCompareText.mono _ _ _)
   | (with_reducible exact laws_decimal.mono _ _)
   | (with_reducible exact laws_numbered.mono _ _ _)
   | (with_reducible exact laws_short.mono _ _)
   | (with_reducible exact LeO.refl _)
   | (with_reducible exact LeO.none _)
   | (with_reducible refine LeO.ite ?_ ?_)
   | (with_reducible refine LeO.bind ?_ (fun _ => ?_))
   | exact ih0 _ _ _
   | exact ih1 _ _ _ _ _
   | exact ih2 _ _ _ _ _ _ _ _
   | exact impl_PackagistCompareText.mono _ _ _
   | exact laws_decimal.mono _ _
   | exact laws_numbered.mono _ _ _
   | exact laws_short.mono _ _
   | exact LeO.none _
   | refine LeO.ite ?_ ?_
   | refine LeO.bind ?_ (fun _ => ?_)
  ·intro y0 y1 y2 y3 y4
   unfold laws_FnPackagistStages.l0
   repeat' first
   | (with_reducible exact ih0 _ _ _)
   | (with_reducible exact ih1 _ _ _ _ _)
   | (with_reducible exact ih2 _ _ _ _ _ _ _ _)
   | (with_reducible exact impl_PackagistCompareText.mono _ _ _)
   | (with_reducible exact laws_decimal.mono _ _)
   | (with_reducible exact laws_numbered.mono _ _ _)
   | (with_reducible exact laws_short.mono _ _)
   | (with_reducible exact LeO.refl _)
   | (with_reducible exact LeO.none _)
   | (with_reducible refine LeO.ite ?_ ?_)
   | (with_reducible refine LeO.bind ?_ (fun _ => ?_))
   | exact ih0 _ _ _
   | exact ih1 _ _ _ _ _
   | exact ih2 _ _ _ _ _ _ _ _
   | exact impl_PackagistCompareText.mono _ _ _
   | exact laws_decimal.mono _ _
   | exact laws_numbered.mono _ _ _
   | exact laws_short.mono _ _
   | exact LeO.none _
   | refine LeO.ite ?_ ?_
   | refine LeO.bind ?_ (fun _ => ?_)
  ·intro y0 y1 y2 y3 y4 y5 y6 y7
   unfold laws_FnPackagistStages.l1
   repeat' first
   | (with_reducible exact ih0 _ _ _)
   | (with_reducible exact ih1 _ _ _ _ _)
   | (with_reducible exact ih2 _ _ _ _ _ _ _ _)
   | (with_reducible exact impl_PackagistCompareText.mono _ _ _)
   | (with_reducible exact laws_decimal.mono _ _)
   | (with_reducible exact laws_numbered.mono _ _ _)
   | (with_reducible exact laws_short.mono _ _)
   | (with_reducible exact LeO.refl _)
   | (with_reducible exact LeO.none _)
   | (with_reducible refine LeO.ite ?_ ?_)
   | (with_reducible refine LeO.bind ?_ (fun _ => ?_))
   | exact ih0 _ _ _
   | exact ih1 _ _ _ _ _
   | exact ih2 _ _ _ _ _ _ _ _
   | exact impl_PackagistCompareText.mono _ _ _
   | exact laws_decimal.mono _ _
   | exact laws_numbered.mono _ _ _
   | exact laws_short.mono _ _
   | exact LeO.none _
   | refine LeO.ite ?_ ?_
   | refine LeO.bind ?_ (fun _ => ?_)
theorem laws_FnPackagistStages.mono : ∀ a0 a1 k, LeO (laws_FnPackagistStages.f k a0 a1) (laws_FnPackagistStages.f (k + 1) a0 a1) := by
 intro a0 a1 k
 obtain ⟨ih0, ih1, ih2⟩ := laws_FnPackagistStages.mono_l k
 unfold laws_FnPackagistStages.f
 repeat' first
   | (with_reducible exact ih0 _ _ _)
   | (with_reducible exact ih1 _ _ _ _ _)
   | (with_reducible exact ih2 _ _ _ _ _ _ _ _)
   | (with_reducible exact impl_PackagistCompareText.mono _ _ _)
   | (with_reducible exact laws_decimal.mono _ _)
   | (with_reducible exact laws_numbered.mono _ _ _)
   | (with_reducible exact laws_short.mono _ _)
   | (with_reducible exact LeO.refl _)
   | (with_reducible exact LeO.none _)
   | (with_reducible refine LeO.ite ?_ ?_)
   | (with_reducible refine LeO.bind ?_ (fun _ => ?_))
   | exact ih0 _ _ _
   | exact ih1 _ _ _ _ _
   | exact ih2 _ _ _ _ _ _ _ _
   | exact impl_PackagistCompareText.mono _ _ _
   | exact laws_decimal.mono _ _
   | exact laws_numbered.mono _ _ _
   | exact laws_short.mono _ _
   | exact LeO.none _
   | refine LeO.ite ?_ ?_
   | refine LeO.bind ?_ (fun _ => ?_)
def laws_FnPackagistStages.T13 : Bool × List (List Nat × List Nat) := (true, [([], []), ([], []), ([0, 1], [0, 1]), ([2], [2]), ([], []), ([], []), ([4, 5], [4, 5]), ([6], [6]), ([3, 7], [3, 7]), ([8], [8]), ([9], [9]), ([9], [9]), ([10, 8, 0, 1, 2, 3, 4, 5, 6, 7, 8, 9, 10], [10]), ([11, 12, 0, 1, 2, 3, 4, 5, 6, 7, 8, 9, 10, 11, 12], [11])])
def laws_FnPackagistStages.B13 : List Nat := [0, 0, 3, 7, 0, 0, 48, 112, 255, 511, 1023, 1023, 2047, 8191]
theorem laws_FnPackagistStages.tab13 : rtab .any (opsOf Tryd.f4 13) = laws_FnPackagistStages.T13 := by kernel_rfl
theorem laws_FnPackagistStages.bits13 : waitsOk laws_FnPackagistStages.T13.2 laws_FnPackagistStages.B13 = true := by kernel_rfl
set_option maxHeartbeats 8000000 in
set_option maxRecDepth 100000 in
theorem laws_FnPackagistStages.calls (k : Nat) (a0 : ByteArray) (a1 : Int) (r : Bool) (w : World) (h : laws_FnPackagistStages.f k a0 a1 = some r) (hG : GL w) :
  Calls Tryd.prog 4 #[.string a0, .int .u16 a1] w fun e w' => e = .returned (.bool r) ∧ Below w.heap.size w w' := by
 have HG := Aside0.mk hG
 clear hG
 have HB := Aside0.mk (Below.refl w.heap.size w)
 have H : (if (a0.size : Int) > 2147483647 then (some true) else ((laws_short.f k (([a0] : List ByteArray))).bind fun t192 => (if t192 = true then ((laws_numbered.f k a0 8).bind fun t193 => (laws_FnPackagistStages.j0 k a0 a1 (!t193))) else (laws_FnPackagistStages.j0 k a0 a1 true)))) = some r := h
 clear h
 by_cases c3 : (a0.size : Int) > 2147483647
 ·rw [if_pos c3] at H
  have c3b0 : decide (2147483647 < (a0.size : Int)) = true := decide_eq_true c3
  have c3b1 : decide (2147483647 < a0.size) = true := decide_eq_true (by omega)
  clear c3
  obtain rfl := Option.some.inj H
  go_enter Tryd.func4, Tryd.ntmps4
  go_wp2
  go_ret
  exact ⟨by first | rfl | (simp [errW_none, errW_some] <;> rfl) | (simp [*, errW_none, errW_some] <;> rfl) | (simp [bne_nil_hyb]; done), by repeat (first | (with_reducible first | exact HB.out | apply below_alloc | apply pw_below_drewN | apply below_drew1) | exact HB.out)⟩
 ·rw [if_neg c3] at H
  have c3b0 : decide (2147483647 < (a0.size : Int)) = false := decide_eq_false c3
  have c3b1 : decide (2147483647 < a0.size) = false := decide_eq_false (by omega)
  clear c3
  have HC4 := Aside0.mk H
  clear H
  go_enter Tryd.func4, Tryd.ntmps4
  go_upto_region 3 with (fail)
  go_cut [26] (fun v26 wc => ∃ (kq : Nat) (x26_3 : Bool), v26 = .bool x26_3 ∧ Aside0 (laws_FnPackagistStages.j0 kq a0 a1 x26_3 = some r) ∧ Aside0 (kq ≤ k) ∧ Aside0 (Below w.heap.size w wc))
  case first =>
   have H := HC4.out
   clear HC4
   obtain ⟨y189, hy189⟩ : ∃ y_ : List ByteArray, y_ = (([a0] : List ByteArray)) := ⟨_, rfl⟩
   replace H : ((laws_short.f k y189).bind fun t192 => (if t192 = true then ((laws_numbered.f k a0 8).bind fun t193 => (laws_FnPackagistStages.j0 k a0 a1 (!t193))) else (laws_FnPackagistStages.j0 k a0 a1 true))) = some r := by first | (rw [hy189]; with_reducible exact H) | (have H2_ := (Option.bind_some _ _).symm.trans H; rw [hy189]; with_reducible exact H2_) | (have H2_ := (Option.bind_some _ _).symm.trans H; with_reducible exact H2_) | with_reducible exact H | (rw [hy189]; exact H) | exact H
   have Ny189 := Aside0.mk hy189
   clear hy189
   replace H := Option.bind_eq_some_iff.mp H
   obtain ⟨t192, A50, H⟩ := H
   replace H : (if t192 = true then ((laws_numbered.f k a0 8).bind fun t193 => (laws_FnPackagistStages.j0 k a0 a1 (!t193))) else (laws_FnPackagistStages.j0 k a0 a1 true)) = some r := H
   have A5 := Aside0.mk A50
   clear A50
   by_cases c6 : t192 = true
   ·subst c6
    have H1 : ((laws_numbered.f k a0 8).bind fun t193 => (laws_FnPackagistStages.j0 k a0 a1 (!t193))) = some r := by rw [if_pos rfl] at H; exact H
    clear H
    have H := H1
    clear H1
    replace H := Option.bind_eq_some_iff.mp H
    obtain ⟨t193, A70, H⟩ := H
    replace H : (laws_FnPackagistStages.j0 k a0 a1 (!t193)) = some r := H
    have A7 := Aside0.mk A70
    clear A70
    have H' := Aside0.mk H
    clear H
    go_wp2_with (first | ((with_reducible refine gate_dst (N := 19) rfl ?_); (try (refine gate_guard (by rfl) ?_; dsimp only)); refine Kd.R_lit Kd.string _ 9 ?hg (N := 19) ?hd (xs := ([a0] : List ByteArray)) (inner := [.string a0]) (ok := fun _ => True) (okp := fun _ => True) ?hr ?hp (fun _ hk => hk) trivial (Below.refl _ _) (Nat.le_refl _) (by simp) ?_; (case hd => rfl); (case hg => rfl); (case hr => first | (go_simp; done) | (go_simp; rfl)); (case hp => exact (Reps.one (show Kd.M Kd.string _ _ _ a0 [.string a0] from rfl) (Reps.none _ _))); intro v190 w8 ho9 hb hg_ hnew_; clear hg_ hnew_; (first | rw [← Ny189.out] at ho9 | (simp only [Int.reduceToNat] at ho9; rw [← Ny189.out] at ho9)); have n0_ := Aside0.mk (Kd.R_lower ho9 (below_size (by repeat (first | (with_reducible first | exact HB.out | apply below_alloc | apply pw_below_drewN | apply below_drew1) | exact HB.out)))); have n1_ := Aside0.mk (below_step (by repeat (first | (with_reducible first | exact HB.out | apply below_alloc | apply pw_below_drewN | apply below_drew1) | exact HB.out)) hb); clear HB; have HO191 := n0_; have HB := n1_; clear n0_ n1_; clear hb ho9; obtain ⟨Ao10, co10, eo10⟩ := Kd.R_slice HO191.out; subst eo10) | ((with_reducible refine gate_callee (f := 7) rfl ?_); refine goesL_ (some 20) rfl rfl Tryd.func7 (by kernel_rfl) rfl #[.slice Ao10 y189.length co10] rfl (by (try simp only [List.map_toArray, List.map_cons, List.map_nil]); first | done | rfl | (simp only [List.length_drop, List.length_take]; rfl)) ?_; (with_reducible refine (laws_short.calls k _ _ y189 true _ ?side1 ?side2 A5.out).mono ?_); (case side1 => repeat (first | exact (Kd.R_reads' HO191.out).2.2 | (with_reducible refine Kd.C_alloc ?_ _) | (with_reducible refine Kd.C_drewN ?_ _) | (with_reducible refine Kd.C_drew ?_))); (case side2 => exact (Kd.R_reads' HO191.out).2.1); rintro e w' ⟨rfl, ⟨nd, rfl⟩⟩; refine ⟨_, rfl, ?_⟩) | (go_at_call 8; (with_reducible refine (laws_numbered.calls k a0 8 t193 _ A7.out).mono ?_); rintro e w' ⟨rfl, ⟨nd, rfl⟩⟩))
    go_meet
    case rel => exact ⟨_, (!t193), (by first | rfl | (simp; done) | (simp [*]; done) | (simp [bne_nil_hyb]; done) | (simp [bne_nil_hyb, *]; done)), H', ⟨by first | omega | exact Nat.le_refl _⟩, ⟨by repeat (first | (with_reducible first | exact HB.out | apply below_alloc | apply pw_below_drewN | apply below_drew1) | exact HB.out)⟩⟩
   ·replace c6 := Bool.eq_false_iff.mpr c6
    subst c6
    have H1 : (laws_FnPackagistStages.j0 k a0 a1 true) = some r := by rw [if_neg (show ¬ (false = true) by decide)] at H; exact H
    clear H
    have H := H1
    clear H1
    have H' := Aside0.mk H
    clear H
    go_wp2_with (first | ((with_reducible refine gate_dst (N := 19) rfl ?_); (try (refine gate_guard (by rfl) ?_; dsimp only)); refine Kd.R_lit Kd.string _ 9 ?hg (N := 19) ?hd (xs := ([a0] : List ByteArray)) (inner := [.string a0]) (ok := fun _ => True) (okp := fun _ => True) ?hr ?hp (fun _ hk => hk) trivial (Below.refl _ _) (Nat.le_refl _) (by simp) ?_; (case hd => rfl); (case hg => rfl); (case hr => first | (go_simp; done) | (go_simp; rfl)); (case hp => exact (Reps.one (show Kd.M Kd.string _ _ _ a0 [.string a0] from rfl) (Reps.none _ _))); intro v190 w11 ho12 hb hg_ hnew_; clear hg_ hnew_; (first | rw [← Ny189.out] at ho12 | (simp only [Int.reduceToNat] at ho12; rw [← Ny189.out] at ho12)); have n0_ := Aside0.mk (Kd.R_lower ho12 (below_size (by repeat (first | (with_reducible first | exact HB.out | apply below_alloc | apply pw_below_drewN | apply below_drew1) | exact HB.out)))); have n1_ := Aside0.mk (below_step (by repeat (first | (with_reducible first | exact HB.out | apply below_alloc | apply pw_below_drewN | apply below_drew1) | exact HB.out)) hb); clear HB; have HO191 := n0_; have HB := n1_; clear n0_ n1_; clear hb ho12; obtain ⟨Ao13, co13, eo13⟩ := Kd.R_slice HO191.out; subst eo13) | ((with_reducible refine gate_callee (f := 7) rfl ?_); refine goesL_ (some 20) rfl rfl Tryd.func7 (by kernel_rfl) rfl #[.slice Ao13 y189.length co13] rfl (by (try simp only [List.map_toArray, List.map_cons, List.map_nil]); first | done | rfl | (simp only [List.length_drop, List.length_take]; rfl)) ?_; (with_reducible refine (laws_short.calls k _ _ y189 false _ ?side1 ?side2 A5.out).mono ?_); (case side1 => repeat (first | exact (Kd.R_reads' HO191.out).2.2 | (with_reducible refine Kd.C_alloc ?_ _) | (with_reducible refine Kd.C_drewN ?_ _) | (with_reducible refine Kd.C_drew ?_))); (case side2 => exact (Kd.R_reads' HO191.out).2.1); rintro e w' ⟨rfl, ⟨nd, rfl⟩⟩; refine ⟨_, rfl, ?_⟩))
    go_meet
    case rel => exact ⟨_, (true), (by first | rfl | (simp; done) | (simp [*]; done) | (simp [bne_nil_hyb]; done) | (simp [bne_nil_hyb, *]; done)), H', ⟨by first | omega | exact Nat.le_refl _⟩, ⟨by repeat (first | (with_reducible first | exact HB.out | apply below_alloc | apply pw_below_drewN | apply below_drew1) | exact HB.out)⟩⟩
  case rest =>
   clear HC4
   try clear p2
   try clear c3
   try clear c3b0
   try clear c3b1
   try clear c4
   try clear c6
   try clear c7
   obtain ⟨kq, x26_3, rfl, HA, HJ3, HB⟩ := hcut
   cases kq with
   | zero => exact absurd HA.out (by simp [laws_FnPackagistStages.j0])
   | succ kj3 =>
    have H := HA.out
    clear HA
    simp only [laws_FnPackagistStages.j0] at H
    by_cases c14 : x26_3 = true
    ·subst c14
     have H1 : (some true) = some r := by rw [if_pos rfl] at H; exact H
     clear H
     have H := H1
     clear H1
     obtain rfl := Option.some.inj H
     go_wp2
     go_ret
     exact ⟨by first | rfl | (simp [errW_none, errW_some] <;> rfl) | (simp [*, errW_none, errW_some] <;> rfl) | (simp [bne_nil_hyb]; done), by repeat (first | (with_reducible first | exact HB.out | apply below_alloc | apply pw_below_drewN | apply below_drew1) | exact HB.out)⟩
    ·replace c14 := Bool.eq_false_iff.mpr c14
     subst c14
     have H1 : ((laws_decimal.f kj3 a1).bind fun t194 => (if a0.size + 4 ≤ 9223372036854775807 then (if (a0 ++ (⟨#[45, 100, 101, 118]⟩ : ByteArray)).size + t194.size ≤ 9223372036854775807 then (if a0.size + 6 ≤ 9223372036854775807 then (if (a0 ++ (⟨#[45, 97, 108, 112, 104, 97]⟩ : ByteArray)).size + t194.size ≤ 9223372036854775807 then (if a0.size + 5 ≤ 9223372036854775807 then (if (a0 ++ (⟨#[45, 98, 101, 116, 97]⟩ : ByteArray)).size + t194.size ≤ 9223372036854775807 then (if a0.size + 3 ≤ 9223372036854775807 then (if (a0 ++ (⟨#[45, 82, 67]⟩ : ByteArray)).size + t194.size ≤ 9223372036854775807 then (if (a0 ++ (⟨#[45, 112, 108]⟩ : ByteArray)).size + t194.size ≤ 9223372036854775807 then ((some (([(a0 ++ (⟨#[45, 100, 101, 118]⟩ : ByteArray)) ++ t194, (a0 ++ (⟨#[45, 97, 108, 112, 104, 97]⟩ : ByteArray)) ++ t194, (a0 ++ (⟨#[45, 98, 101, 116, 97]⟩ : ByteArray)) ++ t194, (a0 ++ (⟨#[45, 82, 67]⟩ : ByteArray)) ++ t194, a0, (a0 ++ (⟨#[45, 112, 108]⟩ : ByteArray)) ++ t194] : List ByteArray) : List ByteArray)).bind fun y195 => (laws_FnPackagistStages.l0 kj3 a0 t194 y195 (y195.length : Int) 0)) else (none)) else (none)) else (none)) else (none)) else (none)) else (none)) else (none)) else (none)) else (none))) = some r := by rw [if_neg (show ¬ (false = true) by decide)] at H; exact H
     clear H
     have H := H1
     clear H1
     replace H := Option.bind_eq_some_iff.mp H
     obtain ⟨t194, A150, H⟩ := H
     replace H : (if a0.size + 4 ≤ 9223372036854775807 then (if (a0 ++ (⟨#[45, 100, 101, 118]⟩ : ByteArray)).size + t194.size ≤ 9223372036854775807 then (if a0.size + 6 ≤ 9223372036854775807 then (if (a0 ++ (⟨#[45, 97, 108, 112, 104, 97]⟩ : ByteArray)).size + t194.size ≤ 9223372036854775807 then (if a0.size + 5 ≤ 9223372036854775807 then (if (a0 ++ (⟨#[45, 98, 101, 116, 97]⟩ : ByteArray)).size + t194.size ≤ 9223372036854775807 then (if a0.size + 3 ≤ 9223372036854775807 then (if (a0 ++ (⟨#[45, 82, 67]⟩ : ByteArray)).size + t194.size ≤ 9223372036854775807 then (if (a0 ++ (⟨#[45, 112, 108]⟩ : ByteArray)).size + t194.size ≤ 9223372036854775807 then ((some (([(a0 ++ (⟨#[45, 100, 101, 118]⟩ : ByteArray)) ++ t194, (a0 ++ (⟨#[45, 97, 108, 112, 104, 97]⟩ : ByteArray)) ++ t194, (a0 ++ (⟨#[45, 98, 101, 116, 97]⟩ : ByteArray)) ++ t194, (a0 ++ (⟨#[45, 82, 67]⟩ : ByteArray)) ++ t194, a0, (a0 ++ (⟨#[45, 112, 108]⟩ : ByteArray)) ++ t194] : List ByteArray) : List ByteArray)).bind fun y195 => (laws_FnPackagistStages.l0 kj3 a0 t194 y195 (y195.length : Int) 0)) else (none)) else (none)) else (none)) else (none)) else (none)) else (none)) else (none)) else (none)) else (none)) = some r := H
     have A15 := Aside0.mk A150
     clear A150
     by_cases c16 : a0.size + 4 ≤ 9223372036854775807
     ·rw [if_pos c16] at H
      have c16b0 := eq_true c16
      have c16b1 : decide (a0.size + 4 ≤ 9223372036854775807) = true := decide_eq_true c16
      try have c16b2 : (9223372036854775807 < a0.size + 4) = False := eq_false (Nat.not_lt.2 c16)
      by_cases c17 : (a0 ++ (⟨#[45, 100, 101, 118]⟩ : ByteArray)).size + t194.size ≤ 9223372036854775807
      ·rw [if_pos c17] at H
       have c17b0 := eq_true c17
       have c17b1 : decide ((a0 ++ (⟨#[45, 100, 101, 118]⟩ : ByteArray)).size + t194.size ≤ 9223372036854775807) = true := decide_eq_true c17
       try have c17b2 : (9223372036854775807 < (a0 ++ (⟨#[45, 100, 101, 118]⟩ : ByteArray)).size + t194.size) = False := eq_false (Nat.not_lt.2 c17)
       try have c17b3 : (9223372036854775807 < a0.size + 4 + t194.size) = False := eq_false (by have h_ := c17; simp only [ByteArray.size_append] at h_; have e0_ : (⟨#[45, 100, 101, 118]⟩ : ByteArray).size = 4 := rfl; omega)
       try have c17b4 : (a0.size + 4 + t194.size ≤ 9223372036854775807) = True := eq_true (by have h_ := c17; simp only [ByteArray.size_append] at h_; have e0_ : (⟨#[45, 100, 101, 118]⟩ : ByteArray).size = 4 := rfl; omega)
       by_cases c18 : a0.size + 6 ≤ 9223372036854775807
       ·rw [if_pos c18] at H
        have c18b0 := eq_true c18
        have c18b1 : decide (a0.size + 6 ≤ 9223372036854775807) = true := decide_eq_true c18
        try have c18b2 : (9223372036854775807 < a0.size + 6) = False := eq_false (Nat.not_lt.2 c18)
        by_cases c19 : (a0 ++ (⟨#[45, 97, 108, 112, 104, 97]⟩ : ByteArray)).size + t194.size ≤ 9223372036854775807
        ·rw [if_pos c19] at H
         have c19b0 := eq_true c19
         have c19b1 : decide ((a0 ++ (⟨#[45, 97, 108, 112, 104, 97]⟩ : ByteArray)).size + t194.size ≤ 9223372036854775807) = true := decide_eq_true c19
         try have c19b2 : (9223372036854775807 < (a0 ++ (⟨#[45, 97, 108, 112, 104, 97]⟩ : ByteArray)).size + t194.size) = False := eq_false (Nat.not_lt.2 c19)
         try have c19b3 : (9223372036854775807 < a0.size + 6 + t194.size) = False := eq_false (by have h_ := c19; simp only [ByteArray.size_append] at h_; have e0_ : (⟨#[45, 97, 108, 112, 104, 97]⟩ : ByteArray).size = 6 := rfl; omega)
         try have c19b4 : (a0.size + 6 + t194.size ≤ 9223372036854775807) = True := eq_true (by have h_ := c19; simp only [ByteArray.size_append] at h_; have e0_ : (⟨#[45, 97, 108, 112, 104, 97]⟩ : ByteArray).size = 6 := rfl; omega)
         by_cases c20 : a0.size + 5 ≤ 9223372036854775807
         ·rw [if_pos c20] at H
          have c20b0 := eq_true c20
          have c20b1 : decide (a0.size + 5 ≤ 9223372036854775807) = true := decide_eq_true c20
          try have c20b2 : (9223372036854775807 < a0.size + 5) = False := eq_false (Nat.not_lt.2 c20)
          by_cases c21 : (a0 ++ (⟨#[45, 98, 101, 116, 97]⟩ : ByteArray)).size + t194.size ≤ 9223372036854775807
          ·rw [if_pos c21] at H
           have c21b0 := eq_true c21
           have c21b1 : decide ((a0 ++ (⟨#[45, 98, 101, 116, 97]⟩ : ByteArray)).size + t194.size ≤ 9223372036854775807) = true := decide_eq_true c21
           try have c21b2 : (9223372036854775807 < (a0 ++ (⟨#[45, 98, 101, 116, 97]⟩ : ByteArray)).size + t194.size) = False := eq_false (Nat.not_lt.2 c21)
           try have c21b3 : (9223372036854775807 < a0.size + 5 + t194.size) = False := eq_false (by have h_ := c21; simp only [ByteArray.size_append] at h_; have e0_ : (⟨#[45, 98, 101, 116, 97]⟩ : ByteArray).size = 5 := rfl; omega)
           try have c21b4 : (a0.size + 5 + t194.size ≤ 9223372036854775807) = True := eq_true (by have h_ := c21; simp only [ByteArray.size_append] at h_; have e0_ : (⟨#[45, 98, 101, 116, 97]⟩ : ByteArray).size = 5 := rfl; omega)
           by_cases c22 : a0.size + 3 ≤ 9223372036854775807
           ·rw [if_pos c22] at H
            have c22b0 := eq_true c22
            have c22b1 : decide (a0.size + 3 ≤ 9223372036854775807) = true := decide_eq_true c22
            try have c22b2 : (9223372036854775807 < a0.size + 3) = False := eq_false (Nat.not_lt.2 c22)
            by_cases c23 : (a0 ++ (⟨#[45, 82, 67]⟩ : ByteArray)).size + t194.size ≤ 9223372036854775807
            ·rw [if_pos c23] at H
             have c23b0 := eq_true c23
             have c23b1 : decide ((a0 ++ (⟨#[45, 82, 67]⟩ : ByteArray)).size + t194.size ≤ 9223372036854775807) = true := decide_eq_true c23
             try have c23b2 : (9223372036854775807 < (a0 ++ (⟨#[45, 82, 67]⟩ : ByteArray)).size + t194.size) = False := eq_false (Nat.not_lt.2 c23)
             try have c23b3 : (9223372036854775807 < a0.size + 3 + t194.size) = False := eq_false (by have h_ := c23; simp only [ByteArray.size_append] at h_; have e0_ : (⟨#[45, 82, 67]⟩ : ByteArray).size = 3 := rfl; omega)
             try have c23b4 : (a0.size + 3 + t194.size ≤ 9223372036854775807) = True := eq_true (by have h_ := c23; simp only [ByteArray.size_append] at h_; have e0_ : (⟨#[45, 82, 67]⟩ : ByteArray).size = 3 := rfl; omega)
             by_cases c24 : (a0 ++ (⟨#[45, 112, 108]⟩ : ByteArray)).size + t194.size ≤ 9223372036854775807
             ·rw [if_pos c24] at H
              have c24b0 := eq_true c24
              have c24b1 : decide ((a0 ++ (⟨#[45, 112, 108]⟩ : ByteArray)).size + t194.size ≤ 9223372036854775807) = true := decide_eq_true c24
              try have c24b2 : (9223372036854775807 < (a0 ++ (⟨#[45, 112, 108]⟩ : ByteArray)).size + t194.size) = False := eq_false (Nat.not_lt.2 c24)
              try have c24b3 : (9223372036854775807 < a0.size + 3 + t194.size) = False := eq_false (by have h_ := c24; simp only [ByteArray.size_append] at h_; have e0_ : (⟨#[45, 112, 108]⟩ : ByteArray).size = 3 := rfl; omega)
              try have c24b4 : (a0.size + 3 + t194.size ≤ 9223372036854775807) = True := eq_true (by have h_ := c24; simp only [ByteArray.size_append] at h_; have e0_ : (⟨#[45, 112, 108]⟩ : ByteArray).size = 3 := rfl; omega)
              obtain ⟨y195, hy195⟩ : ∃ y_ : List ByteArray, y_ = (([(a0 ++ (⟨#[45, 100, 101, 118]⟩ : ByteArray)) ++ t194, (a0 ++ (⟨#[45, 97, 108, 112, 104, 97]⟩ : ByteArray)) ++ t194, (a0 ++ (⟨#[45, 98, 101, 116, 97]⟩ : ByteArray)) ++ t194, (a0 ++ (⟨#[45, 82, 67]⟩ : ByteArray)) ++ t194, a0, (a0 ++ (⟨#[45, 112, 108]⟩ : ByteArray)) ++ t194] : List ByteArray)) := ⟨_, rfl⟩
              replace H : (laws_FnPackagistStages.l0 kj3 a0 t194 y195 (y195.length : Int) 0) = some r := by first | (rw [hy195]; with_reducible exact H) | (have H2_ := (Option.bind_some _ _).symm.trans H; rw [hy195]; with_reducible exact H2_) | (have H2_ := (Option.bind_some _ _).symm.trans H; with_reducible exact H2_) | with_reducible exact H | (rw [hy195]; exact H) | exact H
              have Ny195 := Aside0.mk hy195
              clear hy195
              have H' := Aside0.mk H
              clear H
              go_wp2_with (first | ((with_reducible refine gate_callee (f := 10) rfl ?_); refine goesL_ (some 28) rfl rfl Tryd.func10 (by kernel_rfl) rfl #[.int .u16 a1] rfl (by (try simp only [List.map_toArray, List.map_cons, List.map_nil]); first | done | rfl | (simp only [List.length_drop, List.length_take]; rfl)) ?_; (with_reducible refine (laws_decimal.calls kj3 a1 t194 _ A15.out).mono ?_); rintro e w' ⟨rfl, ⟨nd, rfl⟩⟩; refine ⟨_, rfl, ?_⟩) | ((with_reducible refine gate_dst (N := 50) rfl ?_); (try (refine gate_guard (by rfl) ?_; dsimp only)); refine Kd.R_lit Kd.string _ 9 ?hg (N := 50) ?hd (xs := ([(a0 ++ (⟨#[45, 100, 101, 118]⟩ : ByteArray)) ++ t194, (a0 ++ (⟨#[45, 97, 108, 112, 104, 97]⟩ : ByteArray)) ++ t194, (a0 ++ (⟨#[45, 98, 101, 116, 97]⟩ : ByteArray)) ++ t194, (a0 ++ (⟨#[45, 82, 67]⟩ : ByteArray)) ++ t194, a0, (a0 ++ (⟨#[45, 112, 108]⟩ : ByteArray)) ++ t194] : List ByteArray)) (inner := [.string ((a0 ++ (⟨#[45, 100, 101, 118]⟩ : ByteArray)) ++ t194), .string ((a0 ++ (⟨#[45, 97, 108, 112, 104, 97]⟩ : ByteArray)) ++ t194), .string ((a0 ++ (⟨#[45, 98, 101, 116, 97]⟩ : ByteArray)) ++ t194), .string ((a0 ++ (⟨#[45, 82, 67]⟩ : ByteArray)) ++ t194), .string a0, .string ((a0 ++ (⟨#[45, 112, 108]⟩ : ByteArray)) ++ t194)]) (ok := fun _ => True) (okp := fun _ => True) ?hr ?hp (fun _ hk => hk) trivial (Below.refl _ _) (Nat.le_refl _) (by simp) ?_; (case hd => rfl); (case hg => rfl); (case hr => first | (go_simp; done) | (go_simp; rfl)); (case hp => exact (Reps.one (show Kd.M Kd.string _ _ _ ((a0 ++ (⟨#[45, 100, 101, 118]⟩ : ByteArray)) ++ t194) [.string ((a0 ++ (⟨#[45, 100, 101, 118]⟩ : ByteArray)) ++ t194)] from rfl) (Reps.one (show Kd.M Kd.string _ _ _ ((a0 ++ (⟨#[45, 97, 108, 112, 104, 97]⟩ : ByteArray)) ++ t194) [.string ((a0 ++ (⟨#[45, 97, 108, 112, 104, 97]⟩ : ByteArray)) ++ t194)] from rfl) (Reps.one (show Kd.M Kd.string _ _ _ ((a0 ++ (⟨#[45, 98, 101, 116, 97]⟩ : ByteArray)) ++ t194) [.string ((a0 ++ (⟨#[45, 98, 101, 116, 97]⟩ : ByteArray)) ++ t194)] from rfl) (Reps.one (show Kd.M Kd.string _ _ _ ((a0 ++ (⟨#[45, 82, 67]⟩ : ByteArray)) ++ t194) [.string ((a0 ++ (⟨#[45, 82, 67]⟩ : ByteArray)) ++ t194)] from rfl) (Reps.one (show Kd.M Kd.string _ _ _ a0 [.string a0] from rfl) (Reps.one (show Kd.M Kd.string _ _ _ ((a0 ++ (⟨#[45, 112, 108]⟩ : ByteArray)) ++ t194) [.string ((a0 ++ (⟨#[45, 112, 108]⟩ : ByteArray)) ++ t194)] from rfl) (Reps.none _ _)))))))); intro v196 w25 ho26 hb hg_ hnew_; clear hg_ hnew_; (first | rw [← Ny195.out] at ho26 | (simp only [Int.reduceToNat] at ho26; rw [← Ny195.out] at ho26)); have n0_ := Aside0.mk (Kd.R_lower ho26 (below_size (by repeat (first | (with_reducible first | exact HB.out | apply below_alloc | apply pw_below_drewN | apply below_drew1) | exact HB.out)))); have n1_ := Aside0.mk (below_step (by repeat (first | (with_reducible first | exact HB.out | apply below_alloc | apply pw_below_drewN | apply below_drew1) | exact HB.out)) hb); clear HB; have HO197 := n0_; have HB := n1_; clear n0_ n1_; clear hb ho26; obtain ⟨Ao27, co27, eo27⟩ := Kd.R_slice HO197.out; subst eo27))
              (try simp only [Act.put, List.setIfInBounds_toArray, List.set_cons_zero, List.set_cons_succ])
              go_loopg [53] kj3 (fun kq v53 w' => ∃ (x53_2 : Int), v53 = .int .i64 x53_2 ∧ Aside0 (laws_FnPackagistStages.l0 kq a0 t194 y195 (y195.length : Int) x53_2 = some r) ∧ Aside0 (kq ≤ kj3) ∧ Aside0 (Kd.R Kd.string 9 w' w.heap.size (fun _ => True) (.slice Ao27 y195.length co27) y195) ∧ Aside0 (Below w.heap.size w w'))
              case atStart => exact ⟨(0), (by first | rfl | (simp; done) | (simp [*]; done) | (simp [bne_nil_hyb]; done) | (simp [bne_nil_hyb, *]; done)), H', ⟨Nat.le_refl _⟩, ⟨by (with_reducible repeat (first | apply Kd.R_alloc | apply Kd.R_drewN | apply Kd.R_drew)); exact HO197.out⟩, ⟨by repeat (first | (with_reducible first | exact HB.out | apply below_alloc | apply pw_below_drewN | apply below_drew1) | exact HB.out)⟩⟩
              case round =>
               clear H'
               try clear c1
               try clear c2
               try clear p2
               try clear c3
               try clear c3b0
               try clear c3b1
               try clear c4
               try clear c6
               try clear c7
               try clear c10
               try clear c14
               try clear c16
               try clear c16b0
               try clear c16b1
               try clear c16b2
               try clear c17
               try clear c17b0
               try clear c17b1
               try clear c17b2
               try clear c18
               try clear c18b0
               try clear c18b1
               try clear c18b2
               try clear c19
               try clear c19b0
               try clear c19b1
               try clear c19b2
               try clear c20
               try clear c20b0
               try clear c20b1
               try clear c20b2
               try clear c21
               try clear c21b0
               try clear c21b1
               try clear c21b2
               try clear c22
               try clear c22b0
               try clear c22b1
               try clear c22b2
               try clear c23
               try clear c23b0
               try clear c23b1
               try clear c23b2
               try clear c24
               try clear c24b0
               try clear c24b1
               try clear c24b2
               try clear p2
               obtain ⟨x53_2, rfl, HA, HK2, HO_6, HB⟩ := hrel
               cases gk with
               | zero => exact absurd HA.out (by simp [laws_FnPackagistStages.l0])
               | succ k2 =>
                have H := HA.out
                clear HA
                simp only [laws_FnPackagistStages.l0] at H
                by_cases c28 : x53_2 < (y195.length : Int)
                ·rw [if_pos c28] at H
                 have c28b0 : decide (x53_2 < (y195.length : Int)) = true := decide_eq_true c28
                 clear c28
                 have H' := Aside0.mk H
                 clear H
                 go_wp2
                 (try simp only [Act.put, List.setIfInBounds_toArray, List.set_cons_zero, List.set_cons_succ])
                 go_loopg [58] k2 (fun kq v58 w' => ∃ (x58_3 : Int), v58 = .int .i64 x58_3 ∧ Aside0 (laws_FnPackagistStages.l1 kq a0 t194 y195 x53_2 (y195.length : Int) x53_2 (y195.length : Int) x58_3 = some r) ∧ Aside0 (kq ≤ k2) ∧ Aside0 (Kd.R Kd.string 9 w' w.heap.size (fun _ => True) (.slice Ao27 y195.length co27) y195) ∧ Aside0 (Below w.heap.size w w'))
                 case atStart => exact ⟨(0), (by first | rfl | (simp; done) | (simp [*]; done) | (simp [bne_nil_hyb]; done) | (simp [bne_nil_hyb, *]; done)), H', ⟨Nat.le_refl _⟩, ⟨by (with_reducible repeat (first | apply Kd.R_alloc | apply Kd.R_drewN | apply Kd.R_drew)); exact HO_6.out⟩, ⟨by repeat (first | (with_reducible first | exact HB.out | apply below_alloc | apply pw_below_drewN | apply below_drew1) | exact HB.out)⟩⟩
                 case round =>
                  clear H'
                  try clear c1
                  try clear c2
                  try clear p2
                  try clear c3
                  try clear c3b0
                  try clear c3b1
                  try clear c4
                  try clear c6
                  try clear c7
                  try clear c10
                  try clear c14
                  try clear c16
                  try clear c16b0
                  try clear c16b1
                  try clear c16b2
                  try clear c17
                  try clear c17b0
                  try clear c17b1
                  try clear c17b2
                  try clear c18
                  try clear c18b0
                  try clear c18b1
                  try clear c18b2
                  try clear c19
                  try clear c19b0
                  try clear c19b1
                  try clear c19b2
                  try clear c20
                  try clear c20b0
                  try clear c20b1
                  try clear c20b2
                  try clear c21
                  try clear c21b0
                  try clear c21b1
                  try clear c21b2
                  try clear c22
                  try clear c22b0
                  try clear c22b1
                  try clear c22b2
                  try clear c23
                  try clear c23b0
                  try clear c23b1
                  try clear c23b2
                  try clear c24
                  try clear c24b0
                  try clear c24b1
                  try clear c24b2
                  try clear c28
                  try clear c28b0
                  try clear p2
                  obtain ⟨x58_3, rfl, HA, HK3, HO_6, HB⟩ := hrel
                  cases gk with
                  | zero => exact absurd HA.out (by simp [laws_FnPackagistStages.l1])
                  | succ k3 =>
                   have H := HA.out
                   clear HA
                   simp only [laws_FnPackagistStages.l1] at H
                   by_cases c29 : x58_3 < (y195.length : Int)
                   ·rw [if_pos c29] at H
                    have c29b0 : decide (x58_3 < (y195.length : Int)) = true := decide_eq_true c29
                    clear c29
                    by_cases c30 : 0 ≤ x53_2
                    ·rw [if_pos c30] at H
                     have c30b0 : decide (0 ≤ x53_2) = true := decide_eq_true c30
                     clear c30
                     by_cases c31 : x53_2 < (y195.length : Int)
                     ·rw [if_pos c31] at H
                      have c31b0 : decide (x53_2 < (y195.length : Int)) = true := decide_eq_true c31
                      clear c31
                      by_cases c32 : 0 ≤ x58_3
                      ·rw [if_pos c32] at H
                       have c32b0 : decide (0 ≤ x58_3) = true := decide_eq_true c32
                       clear c32
                       by_cases c33 : x58_3 < (y195.length : Int)
                       ·rw [if_pos c33] at H
                        have c33b0 : decide (x58_3 < (y195.length : Int)) = true := decide_eq_true c33
                        clear c33
                        replace H := Option.bind_eq_some_iff.mp H
                        obtain ⟨⟨t204, t205⟩, A340, H⟩ := H
                        replace H : (if t205 = true then (if t204 = (mx (-1) (mn 1 (wrap64 (x53_2 - x58_3)))) then (laws_FnPackagistStages.l1 k3 a0 t194 y195 x53_2 (y195.length : Int) x53_2 (y195.length : Int) (wrap64 (x58_3 + 1))) else (some false)) else (some false)) = some r := H
                        have A34 := Aside0.mk A340
                        clear A340
                        by_cases c35 : t205 = true
                        ·subst c35
                         have H1 : (if t204 = (mx (-1) (mn 1 (wrap64 (x53_2 - x58_3)))) then (laws_FnPackagistStages.l1 k3 a0 t194 y195 x53_2 (y195.length : Int) x53_2 (y195.length : Int) (wrap64 (x58_3 + 1))) else (some false)) = some r := by rw [if_pos rfl] at H; exact H
                         clear H
                         have H := H1
                         clear H1
                         obtain ⟨ji36, hji36⟩ : ∃ j_ : Int, (mn 1 (wrap64 (x53_2 - x58_3))) = j_ := ⟨_, rfl⟩
                         replace H : (if t204 = (mx (-1) (ji36)) then (laws_FnPackagistStages.l1 k3 a0 t194 y195 x53_2 (y195.length : Int) x53_2 (y195.length : Int) (wrap64 (x58_3 + 1))) else (some false)) = some r := by first | (rw [hji36] at H; exact H) | (simp only [hji36] at H ⊢; exact H)
                         (try rw [hji36] at A34)
                         have hji36_ : (if (wrap64 (x53_2 - x58_3)) < 1 then (wrap64 (x53_2 - x58_3)) else 1) = ji36 := hji36
                         obtain ⟨ji37, hji37⟩ : ∃ j_ : Int, (mx (-1) (ji36)) = j_ := ⟨_, rfl⟩
                         (try rw [hji37] at hji36)
                         (try rw [hji37] at hji36w)
                         replace H : (if t204 = (ji37) then (laws_FnPackagistStages.l1 k3 a0 t194 y195 x53_2 (y195.length : Int) x53_2 (y195.length : Int) (wrap64 (x58_3 + 1))) else (some false)) = some r := by first | (rw [hji37] at H; exact H) | (simp only [hji37] at H ⊢; exact H)
                         (try rw [hji37] at A34)
                         have hji37_ : (if (-1) < (ji36) then (ji36) else (-1)) = ji37 := hji37
                         by_cases c38 : t204 = (ji37)
                         ·rw [if_pos c38] at H
                          have c38b0 : (t204 == (ji37)) = true := beq_iff_eq.mpr c38
                          have c38b1 : (t204 != (ji37)) = false := bne_eq_false_iff_eq.mpr c38
                          clear c38
                          have H' := Aside0.mk H
                          clear H
                          try go_wp2
                          have n0_ := Aside0.mk (Kd.R_drew HO_6.out)
                          have n1_ := Aside0.mk (below_drew1 HB.out)
                          clear HO_6
                          clear HB
                          have HO_6 := n0_
                          have HB := n1_
                          clear n0_ n1_
                          have p202 : 0 ≤ (x53_2 : Int) := of_decide_eq_true (by first | (with_reducible assumption) | assumption)
                          have q202 : x53_2 < (y195.length : Int) := of_decide_eq_true (by first | (with_reducible assumption) | assumption)
                          obtain ⟨ad202, e202, hx202_0⟩ := Kd.at_string (Kd.R_reads' HO_6.out).2.2 x53_2 p202 q202
                          cases e202
                          replace p202 := eq_true p202
                          replace q202 := eq_true q202
                          have p203 : 0 ≤ (x58_3 : Int) := of_decide_eq_true (by first | (with_reducible assumption) | assumption)
                          have q203 : x58_3 < (y195.length : Int) := of_decide_eq_true (by first | (with_reducible assumption) | assumption)
                          obtain ⟨ad203, e203, hx203_0⟩ := Kd.at_string (Kd.R_reads' HO_6.out).2.2 x58_3 p203 q203
                          obtain rfl : ad202 = ad203 := (by injection e203)
                          replace p203 := eq_true p203
                          replace q203 := eq_true q203
                          refine start_ (n := 14) (S := fun w' => w'.cell? (ad202.add (x53_2).toNat) = some (.string (rdOf ByteArray.empty y195 x53_2)) ∧ w'.cell? (ad202.add (x58_3).toNat) = some (.string (rdOf ByteArray.empty y195 x58_3))) (ds := []) #[false, false, false, false, false, false, false, false, false, false, false, false, false, false] (by kernel_rfl) rfl rfl ⟨hx202_0, hx203_0⟩ (fun hHeld => ?_); refine with_tabW laws_FnPackagistStages.tab13 laws_FnPackagistStages.bits13 (fun HT_ HW_ => ?_)
                          generalize wr.drew = w39 at HO_6 HB hx202_0 hx203_0 hHeld ⊢
                          refine pure_ (i := 0) (N := some 62) (v := ?_) (a' := ?_) #[true, false, false, false, false, false, false, false, false, false, false, false, false, false] rfl rfl (any_of HT_.out (by kernel_rfl)) (fun _ _ _ h => h) (Or.inl ⟨by rfl, ?_⟩) ?_ ?_
                          rotate_left
                          ·intro w'
                           go_simp
                           with_reducible rfl
                          rotate_left
                          ·simp only [Act.put, List.setIfInBounds_toArray, List.set_cons_zero, List.set_cons_succ, i64_w, i32_w]
                           rfl
                          refine pure_ (i := 1) (N := some 63) (v := ?_) (a' := ?_) #[true, true, false, false, false, false, false, false, false, false, false, false, false, false] rfl rfl (any_of HT_.out (by kernel_rfl)) (fun _ _ _ h => h) (Or.inl ⟨by rfl, ?_⟩) ?_ ?_
                          rotate_left
                          ·intro w'
                           go_simp
                           with_reducible rfl
                          rotate_left
                          ·simp only [Act.put, List.setIfInBounds_toArray, List.set_cons_zero, List.set_cons_succ, i64_w, i32_w]
                           rfl
                          refine pure_ (i := 2) (N := some 64) (v := ?_) (a' := ?_) #[true, true, true, false, false, false, false, false, false, false, false, false, false, false] rfl rfl (any_of HT_.out (by kernel_rfl)) (fun _ _ _ h => h) (Or.inl ⟨by rfl, ?_⟩) ?_ ?_
                          rotate_left
                          ·intro w'
                           go_simp
                           with_reducible rfl
                          rotate_left
                          ·simp only [Act.put, List.setIfInBounds_toArray, List.set_cons_zero, List.set_cons_succ, i64_w, i32_w]
                           rfl
                          refine pure_ (i := 4) (N := some 66) (v := ?_) (a' := ?_) #[true, true, true, false, true, false, false, false, false, false, false, false, false, false] rfl rfl (any_of HT_.out (by kernel_rfl)) (fun _ _ _ h => h) (Or.inl ⟨by rfl, ?_⟩) ?_ ?_
                          rotate_left
                          ·intro w'
                           go_simp
                           with_reducible rfl
                          rotate_left
                          ·simp only [Act.put, List.setIfInBounds_toArray, List.set_cons_zero, List.set_cons_succ, i64_w, i32_w]
                           rfl
                          refine pure_ (i := 5) (N := some 67) (v := ?_) (a' := ?_) #[true, true, true, false, true, true, false, false, false, false, false, false, false, false] rfl rfl (any_of HT_.out (by kernel_rfl)) (fun _ _ _ h => h) (Or.inl ⟨by rfl, ?_⟩) ?_ ?_
                          rotate_left
                          ·intro w'
                           go_simp
                           with_reducible rfl
                          rotate_left
                          ·simp only [Act.put, List.setIfInBounds_toArray, List.set_cons_zero, List.set_cons_succ, i64_w, i32_w]
                           rfl
                          refine pure_ (i := 6) (N := some 68) (v := ?_) (a' := ?_) #[true, true, true, false, true, true, true, false, false, false, false, false, false, false] rfl rfl (any_of HT_.out (by kernel_rfl)) (fun _ _ _ h => h) (Or.inl ⟨by rfl, ?_⟩) ?_ ?_
                          rotate_left
                          ·intro w'
                           go_simp
                           with_reducible rfl
                          rotate_left
                          ·simp only [Act.put, List.setIfInBounds_toArray, List.set_cons_zero, List.set_cons_succ, i64_w, i32_w]
                           rfl
                          refine take_ (i := 3) (N := some 65) (v := ?_) (a' := ?_) #[true, true, true, true, true, true, true, false, false, false, false, false, false, false] rfl rfl (take_ofW HT_.out HW_.out (by kernel_rfl)) (fun _ _ _ h => h) (Or.inl ⟨by rfl, ?_⟩) hHeld ?_ ?_
                          rotate_left
                          ·rintro w' ⟨s0, s1⟩
                           go_simp
                           with_reducible rfl
                          rotate_left
                          ·simp only [Act.put, List.setIfInBounds_toArray, List.set_cons_zero, List.set_cons_succ, i64_w, i32_w]
                           rfl
                          refine take_ (i := 7) (N := some 69) (v := ?_) (a' := ?_) #[true, true, true, true, true, true, true, true, false, false, false, false, false, false] rfl rfl (take_ofW HT_.out HW_.out (by kernel_rfl)) (fun _ _ _ h => h) (Or.inl ⟨by rfl, ?_⟩) hHeld ?_ ?_
                          rotate_left
                          ·rintro w' ⟨s0, s1⟩
                           go_simp
                           with_reducible rfl
                          rotate_left
                          ·simp only [Act.put, List.setIfInBounds_toArray, List.set_cons_zero, List.set_cons_succ, i64_w, i32_w]
                           rfl
                          refine one_ (i := 8) (N := some 70) #[true, true, true, true, true, true, true, true, true, false, false, false, false, false] rfl rfl (one_of HT_.out (by kernel_rfl)) (by decide) (fun K hK => ?_)
                          refine goes_ Tryd.func9 (by kernel_rfl) rfl #[.string (rdOf ByteArray.empty y195 x53_2), .string (rdOf ByteArray.empty y195 x58_3)] (by rfl) rfl rfl (by (try simp only [List.map_toArray, List.map_cons, List.map_nil]); first | done | rfl | (simp only [List.length_drop, List.length_take]; rfl)) ?_
                          with_reducible refine (impl_PackagistCompareText.calls k3 (rdOf ByteArray.empty y195 x53_2) (rdOf ByteArray.empty y195 x58_3) t204 true _ A34.out (by first | exact GL.at HG.out (by repeat (first | (with_reducible first | exact HB.out | apply below_alloc | apply pw_below_drewN | apply below_drew1) | exact HB.out)) | exact HG.out)).mono ?_
                          rintro e w40 ⟨rfl, hb⟩
                          have HS0_ := (hb.cell (World.block_lt_of_cell? _ _ (hHeld.1))).trans (hHeld.1)
                          have HS1_ := (hb.cell (World.block_lt_of_cell? _ _ (hHeld.2))).trans (hHeld.2)
                          refine ⟨_, rfl, ?_⟩
                          have n0_ := Aside0.mk (Kd.R_below (by (with_reducible repeat (first | apply Kd.R_alloc | apply Kd.R_drewN | apply Kd.R_drew)); exact HO_6.out) hb)
                          have n1_ := Aside0.mk (below_step (by repeat (first | (with_reducible first | exact HB.out | apply below_alloc | apply pw_below_drewN | apply below_drew1) | exact HB.out)) hb)
                          clear HO_6
                          clear HB
                          have HO_6 := n0_
                          have HB := n1_
                          clear n0_ n1_
                          (try clear hb)
                          (try clear hb2)
                          (try clear hk)
                          (try clear hi)
                          refine hK.out _ _ ⟨HS0_, HS1_⟩ (fun hHeld => ?_)
                          clear hK K
                          refine norm_ (a' := ?_) ?_ ?_
                          rotate_left
                          ·show Act.put _ (some 70) _ = _
                           simp only [Act.put, List.setIfInBounds_toArray, List.set_cons_zero, List.set_cons_succ, i64_w, i32_w]
                           rfl
                          refine pure_ (i := 9) (N := some 61) (v := ?_) (a' := ?_) #[true, true, true, true, true, true, true, true, true, true, false, false, false, false] rfl rfl (any_of HT_.out (by kernel_rfl)) (fun _ _ _ h => h) (Or.inl ⟨by rfl, ?_⟩) ?_ ?_
                          rotate_left
                          ·intro w'
                           go_simp
                           with_reducible rfl
                          rotate_left
                          ·simp only [Act.put, List.setIfInBounds_toArray, List.set_cons_zero, List.set_cons_succ, i64_w, i32_w]
                           rfl
                          refine pure_ (i := 10) (N := some 71) (v := ?_) (a' := ?_) #[true, true, true, true, true, true, true, true, true, true, true, false, false, false] rfl rfl (any_of HT_.out (by kernel_rfl)) (fun _ _ _ h => h) (Or.inl ⟨by rfl, ?_⟩) ?_ ?_
                          rotate_left
                          ·intro w'
                           go_simp
                           with_reducible rfl
                          rotate_left
                          ·simp only [Act.put, List.setIfInBounds_toArray, List.set_cons_zero, List.set_cons_succ, i64_w, i32_w]
                           rfl
                          refine pure_ (i := 11) (N := some 72) (v := ?_) (a' := ?_) #[true, true, true, true, true, true, true, true, true, true, true, true, false, false] rfl rfl (any_of HT_.out (by kernel_rfl)) (fun _ _ _ h => h) (Or.inl ⟨by rfl, ?_⟩) ?_ ?_
                          rotate_left
                          ·intro w'
                           go_simp
                           with_reducible rfl
                          rotate_left
                          ·simp only [Act.put, List.setIfInBounds_toArray, List.set_cons_zero, List.set_cons_succ, i64_w, i32_w]
                           rfl
                          refine pure_ (i := 12) (N := some 9) (v := ?_) (a' := ?_) #[true, true, true, true, true, true, true, true, true, true, true, true, true, false] rfl rfl (any_of HT_.out (by kernel_rfl)) (fun _ _ _ h => h) (Or.inl ⟨by rfl, ?_⟩) ?_ ?_
                          rotate_left
                          ·intro w'
                           go_simp
                           with_reducible rfl
                          rotate_left
                          ·simp only [Act.put, List.setIfInBounds_toArray, List.set_cons_zero, List.set_cons_succ, i64_w, i32_w]
                           rfl
                          refine pure_ (i := 13) (N := some 10) (v := ?_) (a' := ?_) #[true, true, true, true, true, true, true, true, true, true, true, true, true, true] rfl rfl (any_of HT_.out (by kernel_rfl)) (fun _ _ _ h => h) (Or.inl ⟨by rfl, ?_⟩) ?_ ?_
                          rotate_left
                          ·intro w'
                           go_simp
                           with_reducible rfl
                          rotate_left
                          ·simp only [Act.put, List.setIfInBounds_toArray, List.set_cons_zero, List.set_cons_succ, i64_w, i32_w]
                           rfl
                          refine done_ (done_of HT_.out (by kernel_rfl)) ?_
                          try go_wp2
                          go_roundg k3
                          case measure => have := HJ3.out; have := HK2.out; have := HK3.out; omega
                          case rel => exact ⟨(wrap64 (x58_3 + 1)), (by first | rfl | (simp; done) | (simp [*]; done) | (simp [bne_nil_hyb]; done) | (simp [bne_nil_hyb, *]; done)), (by first | exact H' | (rw [hji36]; exact H') | (rw [hji37]; exact H')), ⟨by have := HJ3.out; have := HK2.out; have := HK3.out; omega⟩, ⟨by (with_reducible repeat (first | apply Kd.R_alloc | apply Kd.R_drewN | apply Kd.R_drew)); exact HO_6.out⟩, ⟨by repeat (first | (with_reducible first | exact HB.out | apply below_alloc | apply pw_below_drewN | apply below_drew1) | exact HB.out)⟩⟩
                         ·rw [if_neg c38] at H
                          have c38b0 : (t204 == (ji37)) = false := beq_eq_false_iff_ne.mpr c38
                          have c38b1 : (t204 != (ji37)) = true := bne_iff_ne.mpr c38
                          obtain rfl := Option.some.inj H
                          try go_wp2
                          have n0_ := Aside0.mk (Kd.R_drew HO_6.out)
                          have n1_ := Aside0.mk (below_drew1 HB.out)
                          clear HO_6
                          clear HB
                          have HO_6 := n0_
                          have HB := n1_
                          clear n0_ n1_
                          have p202 : 0 ≤ (x53_2 : Int) := of_decide_eq_true (by first | (with_reducible assumption) | assumption)
                          have q202 : x53_2 < (y195.length : Int) := of_decide_eq_true (by first | (with_reducible assumption) | assumption)
                          obtain ⟨ad202, e202, hx202_0⟩ := Kd.at_string (Kd.R_reads' HO_6.out).2.2 x53_2 p202 q202
                          cases e202
                          replace p202 := eq_true p202
                          replace q202 := eq_true q202
                          have p203 : 0 ≤ (x58_3 : Int) := of_decide_eq_true (by first | (with_reducible assumption) | assumption)
                          have q203 : x58_3 < (y195.length : Int) := of_decide_eq_true (by first | (with_reducible assumption) | assumption)
                          obtain ⟨ad203, e203, hx203_0⟩ := Kd.at_string (Kd.R_reads' HO_6.out).2.2 x58_3 p203 q203
                          obtain rfl : ad202 = ad203 := (by injection e203)
                          replace p203 := eq_true p203
                          replace q203 := eq_true q203
                          refine start_ (n := 14) (S := fun w' => w'.cell? (ad202.add (x53_2).toNat) = some (.string (rdOf ByteArray.empty y195 x53_2)) ∧ w'.cell? (ad202.add (x58_3).toNat) = some (.string (rdOf ByteArray.empty y195 x58_3))) (ds := []) #[false, false, false, false, false, false, false, false, false, false, false, false, false, false] (by kernel_rfl) rfl rfl ⟨hx202_0, hx203_0⟩ (fun hHeld => ?_); refine with_tabW laws_FnPackagistStages.tab13 laws_FnPackagistStages.bits13 (fun HT_ HW_ => ?_)
                          generalize wr.drew = w41 at HO_6 HB hx202_0 hx203_0 hHeld ⊢
                          refine pure_ (i := 0) (N := some 62) (v := ?_) (a' := ?_) #[true, false, false, false, false, false, false, false, false, false, false, false, false, false] rfl rfl (any_of HT_.out (by kernel_rfl)) (fun _ _ _ h => h) (Or.inl ⟨by rfl, ?_⟩) ?_ ?_
                          rotate_left
                          ·intro w'
                           go_simp
                           with_reducible rfl
                          rotate_left
                          ·simp only [Act.put, List.setIfInBounds_toArray, List.set_cons_zero, List.set_cons_succ, i64_w, i32_w]
                           rfl
                          refine pure_ (i := 1) (N := some 63) (v := ?_) (a' := ?_) #[true, true, false, false, false, false, false, false, false, false, false, false, false, false] rfl rfl (any_of HT_.out (by kernel_rfl)) (fun _ _ _ h => h) (Or.inl ⟨by rfl, ?_⟩) ?_ ?_
                          rotate_left
                          ·intro w'
                           go_simp
                           with_reducible rfl
                          rotate_left
                          ·simp only [Act.put, List.setIfInBounds_toArray, List.set_cons_zero, List.set_cons_succ, i64_w, i32_w]
                           rfl
                          refine pure_ (i := 2) (N := some 64) (v := ?_) (a' := ?_) #[true, true, true, false, false, false, false, false, false, false, false, false, false, false] rfl rfl (any_of HT_.out (by kernel_rfl)) (fun _ _ _ h => h) (Or.inl ⟨by rfl, ?_⟩) ?_ ?_
                          rotate_left
                          ·intro w'
                           go_simp
                           with_reducible rfl
                          rotate_left
                          ·simp only [Act.put, List.setIfInBounds_toArray, List.set_cons_zero, List.set_cons_succ, i64_w, i32_w]
                           rfl
                          refine pure_ (i := 4) (N := some 66) (v := ?_) (a' := ?_) #[true, true, true, false, true, false, false, false, false, false, false, false, false, false] rfl rfl (any_of HT_.out (by kernel_rfl)) (fun _ _ _ h => h) (Or.inl ⟨by rfl, ?_⟩) ?_ ?_
                          rotate_left
                          ·intro w'
                           go_simp
                           with_reducible rfl
                          rotate_left
                          ·simp only [Act.put, List.setIfInBounds_toArray, List.set_cons_zero, List.set_cons_succ, i64_w, i32_w]
                           rfl
                          refine pure_ (i := 5) (N := some 67) (v := ?_) (a' := ?_) #[true, true, true, false, true, true, false, false, false, false, false, false, false, false] rfl rfl (any_of HT_.out (by kernel_rfl)) (fun _ _ _ h => h) (Or.inl ⟨by rfl, ?_⟩) ?_ ?_
                          rotate_left
                          ·intro w'
                           go_simp
                           with_reducible rfl
                          rotate_left
                          ·simp only [Act.put, List.setIfInBounds_toArray, List.set_cons_zero, List.set_cons_succ, i64_w, i32_w]
                           rfl
                          refine pure_ (i := 6) (N := some 68) (v := ?_) (a' := ?_) #[true, true, true, false, true, true, true, false, false, false, false, false, false, false] rfl rfl (any_of HT_.out (by kernel_rfl)) (fun _ _ _ h => h) (Or.inl ⟨by rfl, ?_⟩) ?_ ?_
                          rotate_left
                          ·intro w'
                           go_simp
                           with_reducible rfl
                          rotate_left
                          ·simp only [Act.put, List.setIfInBounds_toArray, List.set_cons_zero, List.set_cons_succ, i64_w, i32_w]
                           rfl
                          refine take_ (i := 3) (N := some 65) (v := ?_) (a' := ?_) #[true, true, true, true, true, true, true, false, false, false, false, false, false, false] rfl rfl (take_ofW HT_.out HW_.out (by kernel_rfl)) (fun _ _ _ h => h) (Or.inl ⟨by rfl, ?_⟩) hHeld ?_ ?_
                          rotate_left
                          ·rintro w' ⟨s0, s1⟩
                           go_simp
                           with_reducible rfl
                          rotate_left
                          ·simp only [Act.put, List.setIfInBounds_toArray, List.set_cons_zero, List.set_cons_succ, i64_w, i32_w]
                           rfl
                          refine take_ (i := 7) (N := some 69) (v := ?_) (a' := ?_) #[true, true, true, true, true, true, true, true, false, false, false, false, false, false] rfl rfl (take_ofW HT_.out HW_.out (by kernel_rfl)) (fun _ _ _ h => h) (Or.inl ⟨by rfl, ?_⟩) hHeld ?_ ?_
                          rotate_left
                          ·rintro w' ⟨s0, s1⟩
                           go_simp
                           with_reducible rfl
                          rotate_left
                          ·simp only [Act.put, List.setIfInBounds_toArray, List.set_cons_zero, List.set_cons_succ, i64_w, i32_w]
                           rfl
                          refine one_ (i := 8) (N := some 70) #[true, true, true, true, true, true, true, true, true, false, false, false, false, false] rfl rfl (one_of HT_.out (by kernel_rfl)) (by decide) (fun K hK => ?_)
                          refine goes_ Tryd.func9 (by kernel_rfl) rfl #[.string (rdOf ByteArray.empty y195 x53_2), .string (rdOf ByteArray.empty y195 x58_3)] (by rfl) rfl rfl (by (try simp only [List.map_toArray, List.map_cons, List.map_nil]); first | done | rfl | (simp only [List.length_drop, List.length_take]; rfl)) ?_
                          with_reducible refine (impl_PackagistCompareText.calls k3 (rdOf ByteArray.empty y195 x53_2) (rdOf ByteArray.empty y195 x58_3) t204 true _ A34.out (by first | exact GL.at HG.out (by repeat (first | (with_reducible first | exact HB.out | apply below_alloc | apply pw_below_drewN | apply below_drew1) | exact HB.out)) | exact HG.out)).mono ?_
                          rintro e w42 ⟨rfl, hb⟩
                          have HS0_ := (hb.cell (World.block_lt_of_cell? _ _ (hHeld.1))).trans (hHeld.1)
                          have HS1_ := (hb.cell (World.block_lt_of_cell? _ _ (hHeld.2))).trans (hHeld.2)
                          refine ⟨_, rfl, ?_⟩
                          have n0_ := Aside0.mk (Kd.R_below (by (with_reducible repeat (first | apply Kd.R_alloc | apply Kd.R_drewN | apply Kd.R_drew)); exact HO_6.out) hb)
                          have n1_ := Aside0.mk (below_step (by repeat (first | (with_reducible first | exact HB.out | apply below_alloc | apply pw_below_drewN | apply below_drew1) | exact HB.out)) hb)
                          clear HO_6
                          clear HB
                          have HO_6 := n0_
                          have HB := n1_
                          clear n0_ n1_
                          (try clear hb)
                          (try clear hb2)
                          (try clear hk)
                          (try clear hi)
                          refine hK.out _ _ ⟨HS0_, HS1_⟩ (fun hHeld => ?_)
                          clear hK K
                          refine norm_ (a' := ?_) ?_ ?_
                          rotate_left
                          ·show Act.put _ (some 70) _ = _
                           simp only [Act.put, List.setIfInBounds_toArray, List.set_cons_zero, List.set_cons_succ, i64_w, i32_w]
                           rfl
                          refine pure_ (i := 9) (N := some 61) (v := ?_) (a' := ?_) #[true, true, true, true, true, true, true, true, true, true, false, false, false, false] rfl rfl (any_of HT_.out (by kernel_rfl)) (fun _ _ _ h => h) (Or.inl ⟨by rfl, ?_⟩) ?_ ?_
                          rotate_left
                          ·intro w'
                           go_simp
                           with_reducible rfl
                          rotate_left
                          ·simp only [Act.put, List.setIfInBounds_toArray, List.set_cons_zero, List.set_cons_succ, i64_w, i32_w]
                           rfl
                          refine pure_ (i := 10) (N := some 71) (v := ?_) (a' := ?_) #[true, true, true, true, true, true, true, true, true, true, true, false, false, false] rfl rfl (any_of HT_.out (by kernel_rfl)) (fun _ _ _ h => h) (Or.inl ⟨by rfl, ?_⟩) ?_ ?_
                          rotate_left
                          ·intro w'
                           go_simp
                           with_reducible rfl
                          rotate_left
                          ·simp only [Act.put, List.setIfInBounds_toArray, List.set_cons_zero, List.set_cons_succ, i64_w, i32_w]
                           rfl
                          refine pure_ (i := 11) (N := some 72) (v := ?_) (a' := ?_) #[true, true, true, true, true, true, true, true, true, true, true, true, false, false] rfl rfl (any_of HT_.out (by kernel_rfl)) (fun _ _ _ h => h) (Or.inl ⟨by rfl, ?_⟩) ?_ ?_
                          rotate_left
                          ·intro w'
                           go_simp
                           with_reducible rfl
                          rotate_left
                          ·simp only [Act.put, List.setIfInBounds_toArray, List.set_cons_zero, List.set_cons_succ, i64_w, i32_w]
                           rfl
                          refine pure_ (i := 12) (N := some 9) (v := ?_) (a' := ?_) #[true, true, true, true, true, true, true, true, true, true, true, true, true, false] rfl rfl (any_of HT_.out (by kernel_rfl)) (fun _ _ _ h => h) (Or.inl ⟨by rfl, ?_⟩) ?_ ?_
                          rotate_left
                          ·intro w'
                           go_simp
                           with_reducible rfl
                          rotate_left
                          ·simp only [Act.put, List.setIfInBounds_toArray, List.set_cons_zero, List.set_cons_succ, i64_w, i32_w]
                           rfl
                          refine pure_ (i := 13) (N := some 10) (v := ?_) (a' := ?_) #[true, true, true, true, true, true, true, true, true, true, true, true, true, true] rfl rfl (any_of HT_.out (by kernel_rfl)) (fun _ _ _ h => h) (Or.inl ⟨by rfl, ?_⟩) ?_ ?_
                          rotate_left
                          ·intro w'
                           go_simp
                           with_reducible rfl
                          rotate_left
                          ·simp only [Act.put, List.setIfInBounds_toArray, List.set_cons_zero, List.set_cons_succ, i64_w, i32_w]
                           rfl
                          refine done_ (done_of HT_.out (by kernel_rfl)) ?_
                          try go_wp2
                          go_ret
                          exact ⟨by first | rfl | (simp [errW_none, errW_some] <;> rfl) | (simp only [← hji36, ← hji37]; first | rfl | (simp [errW_none, errW_some] <;> rfl)) | (simp [*, errW_none, errW_some] <;> rfl) | (simp [bne_nil_hyb]; done), by repeat (first | (with_reducible first | exact HB.out | apply below_alloc | apply pw_below_drewN | apply below_drew1) | exact HB.out)⟩
                        ·replace c35 := Bool.eq_false_iff.mpr c35
                         subst c35
                         have H1 : (some false) = some r := by rw [if_neg (show ¬ (false = true) by decide)] at H; exact H
                         clear H
                         have H := H1
                         clear H1
                         obtain rfl := Option.some.inj H
                         try go_wp2
                         have n0_ := Aside0.mk (Kd.R_drew HO_6.out)
                         have n1_ := Aside0.mk (below_drew1 HB.out)
                         clear HO_6
                         clear HB
                         have HO_6 := n0_
                         have HB := n1_
                         clear n0_ n1_
                         have p202 : 0 ≤ (x53_2 : Int) := of_decide_eq_true (by first | (with_reducible assumption) | assumption)
                         have q202 : x53_2 < (y195.length : Int) := of_decide_eq_true (by first | (with_reducible assumption) | assumption)
                         obtain ⟨ad202, e202, hx202_0⟩ := Kd.at_string (Kd.R_reads' HO_6.out).2.2 x53_2 p202 q202
                         cases e202
                         replace p202 := eq_true p202
                         replace q202 := eq_true q202
                         have p203 : 0 ≤ (x58_3 : Int) := of_decide_eq_true (by first | (with_reducible assumption) | assumption)
                         have q203 : x58_3 < (y195.length : Int) := of_decide_eq_true (by first | (with_reducible assumption) | assumption)
                         obtain ⟨ad203, e203, hx203_0⟩ := Kd.at_string (Kd.R_reads' HO_6.out).2.2 x58_3 p203 q203
                         obtain rfl : ad202 = ad203 := (by injection e203)
                         replace p203 := eq_true p203
                         replace q203 := eq_true q203
                         refine start_ (n := 14) (S := fun w' => w'.cell? (ad202.add (x53_2).toNat) = some (.string (rdOf ByteArray.empty y195 x53_2)) ∧ w'.cell? (ad202.add (x58_3).toNat) = some (.string (rdOf ByteArray.empty y195 x58_3))) (ds := []) #[false, false, false, false, false, false, false, false, false, false, false, false, false, false] (by kernel_rfl) rfl rfl ⟨hx202_0, hx203_0⟩ (fun hHeld => ?_); refine with_tabW laws_FnPackagistStages.tab13 laws_FnPackagistStages.bits13 (fun HT_ HW_ => ?_)
                         generalize wr.drew = w43 at HO_6 HB hx202_0 hx203_0 hHeld ⊢
                         refine pure_ (i := 0) (N := some 62) (v := ?_) (a' := ?_) #[true, false, false, false, false, false, false, false, false, false, false, false, false, false] rfl rfl (any_of HT_.out (by kernel_rfl)) (fun _ _ _ h => h) (Or.inl ⟨by rfl, ?_⟩) ?_ ?_
                         rotate_left
                         ·intro w'
                          go_simp
                          with_reducible rfl
                         rotate_left
                         ·simp only [Act.put, List.setIfInBounds_toArray, List.set_cons_zero, List.set_cons_succ, i64_w, i32_w]
                          rfl
                         refine pure_ (i := 1) (N := some 63) (v := ?_) (a' := ?_) #[true, true, false, false, false, false, false, false, false, false, false, false, false, false] rfl rfl (any_of HT_.out (by kernel_rfl)) (fun _ _ _ h => h) (Or.inl ⟨by rfl, ?_⟩) ?_ ?_
                         rotate_left
                         ·intro w'
                          go_simp
                          with_reducible rfl
                         rotate_left
                         ·simp only [Act.put, List.setIfInBounds_toArray, List.set_cons_zero, List.set_cons_succ, i64_w, i32_w]
                          rfl
                         refine pure_ (i := 2) (N := some 64) (v := ?_) (a' := ?_) #[true, true, true, false, false, false, false, false, false, false, false, false, false, false] rfl rfl (any_of HT_.out (by kernel_rfl)) (fun _ _ _ h => h) (Or.inl ⟨by rfl, ?_⟩) ?_ ?_
                         rotate_left
                         ·intro w'
                          go_simp
                          with_reducible rfl
                         rotate_left
                         ·simp only [Act.put, List.setIfInBounds_toArray, List.set_cons_zero, List.set_cons_succ, i64_w, i32_w]
                          rfl
                         refine pure_ (i := 4) (N := some 66) (v := ?_) (a' := ?_) #[true, true, true, false, true, false, false, false, false, false, false, false, false, false] rfl rfl (any_of HT_.out (by kernel_rfl)) (fun _ _ _ h => h) (Or.inl ⟨by rfl, ?_⟩) ?_ ?_
                         rotate_left
                         ·intro w'
                          go_simp
                          with_reducible rfl
                         rotate_left
                         ·simp only [Act.put, List.setIfInBounds_toArray, List.set_cons_zero, List.set_cons_succ, i64_w, i32_w]
                          rfl
                         refine pure_ (i := 5) (N := some 67) (v := ?_) (a' := ?_) #[true, true, true, false, true, true, false, false, false, false, false, false, false, false] rfl rfl (any_of HT_.out (by kernel_rfl)) (fun _ _ _ h => h) (Or.inl ⟨by rfl, ?_⟩) ?_ ?_
                         rotate_left
                         ·intro w'
                          go_simp
                          with_reducible rfl
                         rotate_left
                         ·simp only [Act.put, List.setIfInBounds_toArray, List.set_cons_zero, List.set_cons_succ, i64_w, i32_w]
                          rfl
                         refine pure_ (i := 6) (N := some 68) (v := ?_) (a' := ?_) #[true, true, true, false, true, true, true, false, false, false, false, false, false, false] rfl rfl (any_of HT_.out (by kernel_rfl)) (fun _ _ _ h => h) (Or.inl ⟨by rfl, ?_⟩) ?_ ?_
                         rotate_left
                         ·intro w'
                          go_simp
                          with_reducible rfl
                         rotate_left
                         ·simp only [Act.put, List.setIfInBounds_toArray, List.set_cons_zero, List.set_cons_succ, i64_w, i32_w]
                          rfl
                         refine take_ (i := 3) (N := some 65) (v := ?_) (a' := ?_) #[true, true, true, true, true, true, true, false, false, false, false, false, false, false] rfl rfl (take_ofW HT_.out HW_.out (by kernel_rfl)) (fun _ _ _ h => h) (Or.inl ⟨by rfl, ?_⟩) hHeld ?_ ?_
                         rotate_left
                         ·rintro w' ⟨s0, s1⟩
                          go_simp
                          with_reducible rfl
                         rotate_left
                         ·simp only [Act.put, List.setIfInBounds_toArray, List.set_cons_zero, List.set_cons_succ, i64_w, i32_w]
                          rfl
                         refine take_ (i := 7) (N := some 69) (v := ?_) (a' := ?_) #[true, true, true, true, true, true, true, true, false, false, false, false, false, false] rfl rfl (take_ofW HT_.out HW_.out (by kernel_rfl)) (fun _ _ _ h => h) (Or.inl ⟨by rfl, ?_⟩) hHeld ?_ ?_
                         rotate_left
                         ·rintro w' ⟨s0, s1⟩
                          go_simp
                          with_reducible rfl
                         rotate_left
                         ·simp only [Act.put, List.setIfInBounds_toArray, List.set_cons_zero, List.set_cons_succ, i64_w, i32_w]
                          rfl
                         refine one_ (i := 8) (N := some 70) #[true, true, true, true, true, true, true, true, true, false, false, false, false, false] rfl rfl (one_of HT_.out (by kernel_rfl)) (by decide) (fun K hK => ?_)
                         refine goes_ Tryd.func9 (by kernel_rfl) rfl #[.string (rdOf ByteArray.empty y195 x53_2), .string (rdOf ByteArray.empty y195 x58_3)] (by rfl) rfl rfl (by (try simp only [List.map_toArray, List.map_cons, List.map_nil]); first | done | rfl | (simp only [List.length_drop, List.length_take]; rfl)) ?_
                         with_reducible refine (impl_PackagistCompareText.calls k3 (rdOf ByteArray.empty y195 x53_2) (rdOf ByteArray.empty y195 x58_3) t204 false _ A34.out (by first | exact GL.at HG.out (by repeat (first | (with_reducible first | exact HB.out | apply below_alloc | apply pw_below_drewN | apply below_drew1) | exact HB.out)) | exact HG.out)).mono ?_
                         rintro e w44 ⟨rfl, hb⟩
                         have HS0_ := (hb.cell (World.block_lt_of_cell? _ _ (hHeld.1))).trans (hHeld.1)
                         have HS1_ := (hb.cell (World.block_lt_of_cell? _ _ (hHeld.2))).trans (hHeld.2)
                         refine ⟨_, rfl, ?_⟩
                         have n0_ := Aside0.mk (Kd.R_below (by (with_reducible repeat (first | apply Kd.R_alloc | apply Kd.R_drewN | apply Kd.R_drew)); exact HO_6.out) hb)
                         have n1_ := Aside0.mk (below_step (by repeat (first | (with_reducible first | exact HB.out | apply below_alloc | apply pw_below_drewN | apply below_drew1) | exact HB.out)) hb)
                         clear HO_6
                         clear HB
                         have HO_6 := n0_
                         have HB := n1_
                         clear n0_ n1_
                         (try clear hb)
                         (try clear hb2)
                         (try clear hk)
                         (try clear hi)
                         refine hK.out _ _ ⟨HS0_, HS1_⟩ (fun hHeld => ?_)
                         clear hK K
                         refine norm_ (a' := ?_) ?_ ?_
                         rotate_left
                         ·show Act.put _ (some 70) _ = _
                          simp only [Act.put, List.setIfInBounds_toArray, List.set_cons_zero, List.set_cons_succ, i64_w, i32_w]
                          rfl
                         refine pure_ (i := 9) (N := some 61) (v := ?_) (a' := ?_) #[true, true, true, true, true, true, true, true, true, true, false, false, false, false] rfl rfl (any_of HT_.out (by kernel_rfl)) (fun _ _ _ h => h) (Or.inl ⟨by rfl, ?_⟩) ?_ ?_
                         rotate_left
                         ·intro w'
                          go_simp
                          with_reducible rfl
                         rotate_left
                         ·simp only [Act.put, List.setIfInBounds_toArray, List.set_cons_zero, List.set_cons_succ, i64_w, i32_w]
                          rfl
                         refine pure_ (i := 10) (N := some 71) (v := ?_) (a' := ?_) #[true, true, true, true, true, true, true, true, true, true, true, false, false, false] rfl rfl (any_of HT_.out (by kernel_rfl)) (fun _ _ _ h => h) (Or.inl ⟨by rfl, ?_⟩) ?_ ?_
                         rotate_left
                         ·intro w'
                          go_simp
                          with_reducible rfl
                         rotate_left
                         ·simp only [Act.put, List.setIfInBounds_toArray, List.set_cons_zero, List.set_cons_succ, i64_w, i32_w]
                          rfl
                         refine pure_ (i := 11) (N := some 72) (v := ?_) (a' := ?_) #[true, true, true, true, true, true, true, true, true, true, true, true, false, false] rfl rfl (any_of HT_.out (by kernel_rfl)) (fun _ _ _ h => h) (Or.inl ⟨by rfl, ?_⟩) ?_ ?_
                         rotate_left
                         ·intro w'
                          go_simp
                          with_reducible rfl
                         rotate_left
                         ·simp only [Act.put, List.setIfInBounds_toArray, List.set_cons_zero, List.set_cons_succ, i64_w, i32_w]
                          rfl
                         refine pure_ (i := 12) (N := some 9) (v := ?_) (a' := ?_) #[true, true, true, true, true, true, true, true, true, true, true, true, true, false] rfl rfl (any_of HT_.out (by kernel_rfl)) (fun _ _ _ h => h) (Or.inl ⟨by rfl, ?_⟩) ?_ ?_
                         rotate_left
                         ·intro w'
                          go_simp
                          with_reducible rfl
                         rotate_left
                         ·simp only [Act.put, List.setIfInBounds_toArray, List.set_cons_zero, List.set_cons_succ, i64_w, i32_w]
                          rfl
                         refine pure_ (i := 13) (N := some 10) (v := ?_) (a' := ?_) #[true, true, true, true, true, true, true, true, true, true, true, true, true, true] rfl rfl (any_of HT_.out (by kernel_rfl)) (fun _ _ _ h => h) (Or.inl ⟨by rfl, ?_⟩) ?_ ?_
                         rotate_left
                         ·intro w'
                          go_simp
                          with_reducible rfl
                         rotate_left
                         ·simp only [Act.put, List.setIfInBounds_toArray, List.set_cons_zero, List.set_cons_succ, i64_w, i32_w]
                          rfl
                         refine done_ (done_of HT_.out (by kernel_rfl)) ?_
                         try go_wp2
                         go_ret
                         exact ⟨by first | rfl | (simp [errW_none, errW_some] <;> rfl) | (simp [*, errW_none, errW_some] <;> rfl) | (simp [bne_nil_hyb]; done), by repeat (first | (with_reducible first | exact HB.out | apply below_alloc | apply pw_below_drewN | apply below_drew1) | exact HB.out)⟩
                       ·rw [if_neg c33] at H
                        exact absurd H (by simp)
                      ·rw [if_neg c32] at H
                       exact absurd H (by simp)
                     ·rw [if_neg c31] at H
                      exact absurd H (by simp)
                    ·rw [if_neg c30] at H
                     exact absurd H (by simp)
                   ·rw [if_neg c29] at H
                    have c29b0 : decide (x58_3 < (y195.length : Int)) = false := decide_eq_false c29
                    clear c29
                    have H' := Aside0.mk H
                    clear H
                    go_wp2
                    go_roundg k3
                    case measure => have := HJ3.out; have := HK2.out; have := HK3.out; omega
                    case rel => exact ⟨(wrap64 (x53_2 + 1)), (by first | rfl | (simp; done) | (simp [*]; done) | (simp [bne_nil_hyb]; done) | (simp [bne_nil_hyb, *]; done)), (by first | exact H' | (rw [hji36]; exact H') | (rw [hji37]; exact H')), ⟨by have := HJ3.out; have := HK2.out; have := HK3.out; omega⟩, ⟨by (with_reducible repeat (first | apply Kd.R_alloc | apply Kd.R_drewN | apply Kd.R_drew)); exact HO_6.out⟩, ⟨by repeat (first | (with_reducible first | exact HB.out | apply below_alloc | apply pw_below_drewN | apply below_drew1) | exact HB.out)⟩⟩
                ·rw [if_neg c28] at H
                 have c28b0 : decide (x53_2 < (y195.length : Int)) = false := decide_eq_false c28
                 clear c28
                 by_cases c45 : a0.size + 1 ≤ 9223372036854775807
                 ·rw [if_pos c45] at H
                  have c45b0 := eq_true c45
                  have c45b1 : decide (a0.size + 1 ≤ 9223372036854775807) = true := decide_eq_true c45
                  try have c45b2 : (9223372036854775807 < a0.size + 1) = False := eq_false (Nat.not_lt.2 c45)
                  by_cases c46 : (a0 ++ (⟨#[97]⟩ : ByteArray)).size + t194.size ≤ 9223372036854775807
                  ·rw [if_pos c46] at H
                   have c46b0 := eq_true c46
                   have c46b1 : decide ((a0 ++ (⟨#[97]⟩ : ByteArray)).size + t194.size ≤ 9223372036854775807) = true := decide_eq_true c46
                   try have c46b2 : (9223372036854775807 < (a0 ++ (⟨#[97]⟩ : ByteArray)).size + t194.size) = False := eq_false (Nat.not_lt.2 c46)
                   try have c46b3 : (9223372036854775807 < a0.size + 1 + t194.size) = False := eq_false (by have h_ := c46; simp only [ByteArray.size_append] at h_; have e0_ : (⟨#[97]⟩ : ByteArray).size = 1 := rfl; omega)
                   try have c46b4 : (a0.size + 1 + t194.size ≤ 9223372036854775807) = True := eq_true (by have h_ := c46; simp only [ByteArray.size_append] at h_; have e0_ : (⟨#[97]⟩ : ByteArray).size = 1 := rfl; omega)
                   by_cases c47 : a0.size + 7 ≤ 9223372036854775807
                   ·rw [if_pos c47] at H
                    have c47b0 := eq_true c47
                    have c47b1 : decide (a0.size + 7 ≤ 9223372036854775807) = true := decide_eq_true c47
                    try have c47b2 : (9223372036854775807 < a0.size + 7) = False := eq_false (Nat.not_lt.2 c47)
                    by_cases c48 : (a0 ++ (⟨#[45, 97, 108, 112, 104, 97, 46]⟩ : ByteArray)).size + t194.size ≤ 9223372036854775807
                    ·rw [if_pos c48] at H
                     have c48b0 := eq_true c48
                     have c48b1 : decide ((a0 ++ (⟨#[45, 97, 108, 112, 104, 97, 46]⟩ : ByteArray)).size + t194.size ≤ 9223372036854775807) = true := decide_eq_true c48
                     try have c48b2 : (9223372036854775807 < (a0 ++ (⟨#[45, 97, 108, 112, 104, 97, 46]⟩ : ByteArray)).size + t194.size) = False := eq_false (Nat.not_lt.2 c48)
                     try have c48b3 : (9223372036854775807 < a0.size + 7 + t194.size) = False := eq_false (by have h_ := c48; simp only [ByteArray.size_append] at h_; have e0_ : (⟨#[45, 97, 108, 112, 104, 97, 46]⟩ : ByteArray).size = 7 := rfl; omega)
                     try have c48b4 : (a0.size + 7 + t194.size ≤ 9223372036854775807) = True := eq_true (by have h_ := c48; simp only [ByteArray.size_append] at h_; have e0_ : (⟨#[45, 97, 108, 112, 104, 97, 46]⟩ : ByteArray).size = 7 := rfl; omega)
                     replace H := Option.bind_eq_some_iff.mp H
                     obtain ⟨⟨t198, t199⟩, A490, H⟩ := H
                     replace H : (if a0.size + 2 ≤ 9223372036854775807 then ((impl_PackagistCompareText.f k2 (a0 ++ (⟨#[46, 48]⟩ : ByteArray)) a0).bind fun bt200 => (if t199 = true then (if bt200.2 = true then (if t198 = 0 then (some (bt200.1 == 1)) else (some false)) else (some false)) else (some false))) else (none)) = some r := H
                     have A49 := Aside0.mk A490
                     clear A490
                     by_cases c50 : a0.size + 2 ≤ 9223372036854775807
                     ·rw [if_pos c50] at H
                      have c50b0 := eq_true c50
                      have c50b1 : decide (a0.size + 2 ≤ 9223372036854775807) = true := decide_eq_true c50
                      try have c50b2 : (9223372036854775807 < a0.size + 2) = False := eq_false (Nat.not_lt.2 c50)
                      replace H := Option.bind_eq_some_iff.mp H
                      obtain ⟨⟨t200, t201⟩, A510, H⟩ := H
                      replace H : (if t199 = true then (if t201 = true then (if t198 = 0 then (some (t200 == 1)) else (some false)) else (some false)) else (some false)) = some r := H
                      have A51 := Aside0.mk A510
                      clear A510
                      by_cases c52 : t199 = true
                      ·subst c52
                       have H1 : (if t201 = true then (if t198 = 0 then (some (t200 == 1)) else (some false)) else (some false)) = some r := by rw [if_pos rfl] at H; exact H
                       clear H
                       have H := H1
                       clear H1
                       by_cases c53 : t201 = true
                       ·subst c53
                        have H1 : (if t198 = 0 then (some (t200 == 1)) else (some false)) = some r := by rw [if_pos rfl] at H; exact H
                        clear H
                        have H := H1
                        clear H1
                        by_cases c54 : t198 = 0
                        ·rw [if_pos c54] at H
                         have c54b0 : (t198 == 0) = true := beq_iff_eq.mpr c54
                         have c54b1 : (t198 != 0) = false := bne_eq_false_iff_eq.mpr c54
                         clear c54
                         obtain rfl := Option.some.inj H
                         go_wp2_with (first | ((with_reducible refine gate_callee (f := 9) rfl ?_); refine goesL_ (some 95) rfl rfl Tryd.func9 (by kernel_rfl) rfl #[.string ((a0 ++ (⟨#[97]⟩ : ByteArray)) ++ t194), .string ((a0 ++ (⟨#[45, 97, 108, 112, 104, 97, 46]⟩ : ByteArray)) ++ t194)] rfl (by (try simp only [List.map_toArray, List.map_cons, List.map_nil]); first | done | rfl | (simp only [List.length_drop, List.length_take]; rfl)) ?_; (with_reducible refine (impl_PackagistCompareText.calls k2 ((a0 ++ (⟨#[97]⟩ : ByteArray)) ++ t194) ((a0 ++ (⟨#[45, 97, 108, 112, 104, 97, 46]⟩ : ByteArray)) ++ t194) t198 true _ A49.out (by first | exact GL.at HG.out (by repeat (first | (with_reducible first | exact HB.out | apply below_alloc | apply pw_below_drewN | apply below_drew1) | exact HB.out)) | exact HG.out)).mono ?_); rintro e w55 ⟨rfl, hb⟩; refine ⟨_, rfl, ?_⟩; have n0_ := Aside0.mk (Kd.R_below (by (with_reducible repeat (first | apply Kd.R_alloc | apply Kd.R_drewN | apply Kd.R_drew)); exact HO_6.out) hb); have n1_ := Aside0.mk (below_step (by repeat (first | (with_reducible first | exact HB.out | apply below_alloc | apply pw_below_drewN | apply below_drew1) | exact HB.out)) hb); clear HO_6; clear HB; have HO_6 := n0_; have HB := n1_; clear n0_ n1_; (try clear hb); (try clear hb2); (try clear hk); (try clear hi)) | ((with_reducible refine gate_callee (f := 9) rfl ?_); refine goesL_ (some 102) rfl rfl Tryd.func9 (by kernel_rfl) rfl #[.string (a0 ++ (⟨#[46, 48]⟩ : ByteArray)), .string a0] rfl (by (try simp only [List.map_toArray, List.map_cons, List.map_nil]); first | done | rfl | (simp only [List.length_drop, List.length_take]; rfl)) ?_; (with_reducible refine (impl_PackagistCompareText.calls k2 (a0 ++ (⟨#[46, 48]⟩ : ByteArray)) a0 t200 true _ A51.out (by first | exact GL.at HG.out (by repeat (first | (with_reducible first | exact HB.out | apply below_alloc | apply pw_below_drewN | apply below_drew1) | exact HB.out)) | exact HG.out)).mono ?_); rintro e w56 ⟨rfl, hb⟩; refine ⟨_, rfl, ?_⟩; have n0_ := Aside0.mk (Kd.R_below (by (with_reducible repeat (first | apply Kd.R_alloc | apply Kd.R_drewN | apply Kd.R_drew)); exact HO_6.out) hb); have n1_ := Aside0.mk (below_step (by repeat (first | (with_reducible first | exact HB.out | apply below_alloc | apply pw_below_drewN | apply below_drew1) | exact HB.out)) hb); clear HO_6; clear HB; have HO_6 := n0_; have HB := n1_; clear n0_ n1_; (try clear hb); (try clear hb2); (try clear hk); (try clear hi)))
                         go_ret
                         exact ⟨by first | rfl | (simp [errW_none, errW_some] <;> rfl) | (simp [*, errW_none, errW_some] <;> rfl) | (simp [bne_nil_hyb]; done), by repeat (first | (with_reducible first | exact HB.out | apply below_alloc | apply pw_below_drewN | apply below_drew1) | exact HB.out)⟩
                        ·rw [if_neg c54] at H
                         have c54b0 : (t198 == 0) = false := beq_eq_false_iff_ne.mpr c54
                         have c54b1 : (t198 != 0) = true := bne_iff_ne.mpr c54
                         obtain rfl := Option.some.inj H
                         go_wp2_with (first | ((with_reducible refine gate_callee (f := 9) rfl ?_); refine goesL_ (some 95) rfl rfl Tryd.func9 (by kernel_rfl) rfl #[.string ((a0 ++ (⟨#[97]⟩ : ByteArray)) ++ t194), .string ((a0 ++ (⟨#[45, 97, 108, 112, 104, 97, 46]⟩ : ByteArray)) ++ t194)] rfl (by (try simp only [List.map_toArray, List.map_cons, List.map_nil]); first | done | rfl | (simp only [List.length_drop, List.length_take]; rfl)) ?_; (with_reducible refine (impl_PackagistCompareText.calls k2 ((a0 ++ (⟨#[97]⟩ : ByteArray)) ++ t194) ((a0 ++ (⟨#[45, 97, 108, 112, 104, 97, 46]⟩ : ByteArray)) ++ t194) t198 true _ A49.out (by first | exact GL.at HG.out (by repeat (first | (with_reducible first | exact HB.out | apply below_alloc | apply pw_below_drewN | apply below_drew1) | exact HB.out)) | exact HG.out)).mono ?_); rintro e w57 ⟨rfl, hb⟩; refine ⟨_, rfl, ?_⟩; have n0_ := Aside0.mk (Kd.R_below (by (with_reducible repeat (first | apply Kd.R_alloc | apply Kd.R_drewN | apply Kd.R_drew)); exact HO_6.out) hb); have n1_ := Aside0.mk (below_step (by repeat (first | (with_reducible first | exact HB.out | apply below_alloc | apply pw_below_drewN | apply below_drew1) | exact HB.out)) hb); clear HO_6; clear HB; have HO_6 := n0_; have HB := n1_; clear n0_ n1_; (try clear hb); (try clear hb2); (try clear hk); (try clear hi)) | ((with_reducible refine gate_callee (f := 9) rfl ?_); refine goesL_ (some 102) rfl rfl Tryd.func9 (by kernel_rfl) rfl #[.string (a0 ++ (⟨#[46, 48]⟩ : ByteArray)), .string a0] rfl (by (try simp only [List.map_toArray, List.map_cons, List.map_nil]); first | done | rfl | (simp only [List.length_drop, List.length_take]; rfl)) ?_; (with_reducible refine (impl_PackagistCompareText.calls k2 (a0 ++ (⟨#[46, 48]⟩ : ByteArray)) a0 t200 true _ A51.out (by first | exact GL.at HG.out (by repeat (first | (with_reducible first | exact HB.out | apply below_alloc | apply pw_below_drewN | apply below_drew1) | exact HB.out)) | exact HG.out)).mono ?_); rintro e w58 ⟨rfl, hb⟩; refine ⟨_, rfl, ?_⟩; have n0_ := Aside0.mk (Kd.R_below (by (with_reducible repeat (first | apply Kd.R_alloc | apply Kd.R_drewN | apply Kd.R_drew)); exact HO_6.out) hb); have n1_ := Aside0.mk (below_step (by repeat (first | (with_reducible first | exact HB.out | apply below_alloc | apply pw_below_drewN | apply below_drew1) | exact HB.out)) hb); clear HO_6; clear HB; have HO_6 := n0_; have HB := n1_; clear n0_ n1_; (try clear hb); (try clear hb2); (try clear hk); (try clear hi)))
                         go_ret
                         exact ⟨by first | rfl | (simp [errW_none, errW_some] <;> rfl) | (simp [*, errW_none, errW_some] <;> rfl) | (simp [bne_nil_hyb]; done), by repeat (first | (with_reducible first | exact HB.out | apply below_alloc | apply pw_below_drewN | apply below_drew1) | exact HB.out)⟩
                       ·replace c53 := Bool.eq_false_iff.mpr c53
                        subst c53
                        have H1 : (some false) = some r := by rw [if_neg (show ¬ (false = true) by decide)] at H; exact H
                        clear H
                        have H := H1
                        clear H1
                        obtain rfl := Option.some.inj H
                        go_wp2_with (first | ((with_reducible refine gate_callee (f := 9) rfl ?_); refine goesL_ (some 95) rfl rfl Tryd.func9 (by kernel_rfl) rfl #[.string ((a0 ++ (⟨#[97]⟩ : ByteArray)) ++ t194), .string ((a0 ++ (⟨#[45, 97, 108, 112, 104, 97, 46]⟩ : ByteArray)) ++ t194)] rfl (by (try simp only [List.map_toArray, List.map_cons, List.map_nil]); first | done | rfl | (simp only [List.length_drop, List.length_take]; rfl)) ?_; (with_reducible refine (impl_PackagistCompareText.calls k2 ((a0 ++ (⟨#[97]⟩ : ByteArray)) ++ t194) ((a0 ++ (⟨#[45, 97, 108, 112, 104, 97, 46]⟩ : ByteArray)) ++ t194) t198 true _ A49.out (by first | exact GL.at HG.out (by repeat (first | (with_reducible first | exact HB.out | apply below_alloc | apply pw_below_drewN | apply below_drew1) | exact HB.out)) | exact HG.out)).mono ?_); rintro e w59 ⟨rfl, hb⟩; refine ⟨_, rfl, ?_⟩; have n0_ := Aside0.mk (Kd.R_below (by (with_reducible repeat (first | apply Kd.R_alloc | apply Kd.R_drewN | apply Kd.R_drew)); exact HO_6.out) hb); have n1_ := Aside0.mk (below_step (by repeat (first | (with_reducible first | exact HB.out | apply below_alloc | apply pw_below_drewN | apply below_drew1) | exact HB.out)) hb); clear HO_6; clear HB; have HO_6 := n0_; have HB := n1_; clear n0_ n1_; (try clear hb); (try clear hb2); (try clear hk); (try clear hi)) | ((with_reducible refine gate_callee (f := 9) rfl ?_); refine goesL_ (some 102) rfl rfl Tryd.func9 (by kernel_rfl) rfl #[.string (a0 ++ (⟨#[46, 48]⟩ : ByteArray)), .string a0] rfl (by (try simp only [List.map_toArray, List.map_cons, List.map_nil]); first | done | rfl | (simp only [List.length_drop, List.length_take]; rfl)) ?_; (with_reducible refine (impl_PackagistCompareText.calls k2 (a0 ++ (⟨#[46, 48]⟩ : ByteArray)) a0 t200 false _ A51.out (by first | exact GL.at HG.out (by repeat (first | (with_reducible first | exact HB.out | apply below_alloc | apply pw_below_drewN | apply below_drew1) | exact HB.out)) | exact HG.out)).mono ?_); rintro e w60 ⟨rfl, hb⟩; refine ⟨_, rfl, ?_⟩; have n0_ := Aside0.mk (Kd.R_below (by (with_reducible repeat (first | apply Kd.R_alloc | apply Kd.R_drewN | apply Kd.R_drew)); exact HO_6.out) hb); have n1_ := Aside0.mk (below_step (by repeat (first | (with_reducible first | exact HB.out | apply below_alloc | apply pw_below_drewN | apply below_drew1) | exact HB.out)) hb); clear HO_6; clear HB; have HO_6 := n0_; have HB := n1_; clear n0_ n1_; (try clear hb); (try clear hb2); (try clear hk); (try clear hi)))
                        go_ret
                        exact ⟨by first | rfl | (simp [errW_none, errW_some] <;> rfl) | (simp [*, errW_none, errW_some] <;> rfl) | (simp [bne_nil_hyb]; done), by repeat (first | (with_reducible first | exact HB.out | apply below_alloc | apply pw_below_drewN | apply below_drew1) | exact HB.out)⟩
                      ·replace c52 := Bool.eq_false_iff.mpr c52
                       subst c52
                       have H1 : (some false) = some r := by rw [if_neg (show ¬ (false = true) by decide)] at H; exact H
                       clear H
                       have H := H1
                       clear H1
                       obtain rfl := Option.some.inj H
                       go_wp2_with (first | ((with_reducible refine gate_callee (f := 9) rfl ?_); refine goesL_ (some 95) rfl rfl Tryd.func9 (by kernel_rfl) rfl #[.string ((a0 ++ (⟨#[97]⟩ : ByteArray)) ++ t194), .string ((a0 ++ (⟨#[45, 97, 108, 112, 104, 97, 46]⟩ : ByteArray)) ++ t194)] rfl (by (try simp only [List.map_toArray, List.map_cons, List.map_nil]); first | done | rfl | (simp only [List.length_drop, List.length_take]; rfl)) ?_; (with_reducible refine (impl_PackagistCompareText.calls k2 ((a0 ++ (⟨#[97]⟩ : ByteArray)) ++ t194) ((a0 ++ (⟨#[45, 97, 108, 112, 104, 97, 46]⟩ : ByteArray)) ++ t194) t198 false _ A49.out (by first | exact GL.at HG.out (by repeat (first | (with_reducible first | exact HB.out | apply below_alloc | apply pw_below_drewN | apply below_drew1) | exact HB.out)) | exact HG.out)).mono ?_); rintro e w61 ⟨rfl, hb⟩; refine ⟨_, rfl, ?_⟩; have n0_ := Aside0.mk (Kd.R_below (by (with_reducible repeat (first | apply Kd.R_alloc | apply Kd.R_drewN | apply Kd.R_drew)); exact HO_6.out) hb); have n1_ := Aside0.mk (below_step (by repeat (first | (with_reducible first | exact HB.out | apply below_alloc | apply pw_below_drewN | apply below_drew1) | exact HB.out)) hb); clear HO_6; clear HB; have HO_6 := n0_; have HB := n1_; clear n0_ n1_; (try clear hb); (try clear hb2); (try clear hk); (try clear hi)) | ((with_reducible refine gate_callee (f := 9) rfl ?_); refine goesL_ (some 102) rfl rfl Tryd.func9 (by kernel_rfl) rfl #[.string (a0 ++ (⟨#[46, 48]⟩ : ByteArray)), .string a0] rfl (by (try simp only [List.map_toArray, List.map_cons, List.map_nil]); first | done | rfl | (simp only [List.length_drop, List.length_take]; rfl)) ?_; (with_reducible refine (impl_PackagistCompareText.calls k2 (a0 ++ (⟨#[46, 48]⟩ : ByteArray)) a0 t200 t201 _ A51.out (by first | exact GL.at HG.out (by repeat (first | (with_reducible first | exact HB.out | apply below_alloc | apply pw_below_drewN | apply below_drew1) | exact HB.out)) | exact HG.out)).mono ?_); rintro e w62 ⟨rfl, hb⟩; refine ⟨_, rfl, ?_⟩; have n0_ := Aside0.mk (Kd.R_below (by (with_reducible repeat (first | apply Kd.R_alloc | apply Kd.R_drewN | apply Kd.R_drew)); exact HO_6.out) hb); have n1_ := Aside0.mk (below_step (by repeat (first | (with_reducible first | exact HB.out | apply below_alloc | apply pw_below_drewN | apply below_drew1) | exact HB.out)) hb); clear HO_6; clear HB; have HO_6 := n0_; have HB := n1_; clear n0_ n1_; (try clear hb); (try clear hb2); (try clear hk); (try clear hi)))
                       go_ret
                       exact ⟨by first | rfl | (simp [errW_none, errW_some] <;> rfl) | (simp [*, errW_none, errW_some] <;> rfl) | (simp [bne_nil_hyb]; done), by repeat (first | (with_reducible first | exact HB.out | apply below_alloc | apply pw_below_drewN | apply below_drew1) | exact HB.out)⟩
                     ·rw [if_neg c50] at H
                      exact absurd H (by simp)
                    ·rw [if_neg c48] at H
                     exact absurd H (by simp)
                   ·rw [if_neg c47] at H
                    exact absurd H (by simp)
                  ·rw [if_neg c46] at H
                   exact absurd H (by simp)
                 ·rw [if_neg c45] at H
                  exact absurd H (by simp)
             ·rw [if_neg c24] at H
              exact absurd H (by simp)
            ·rw [if_neg c23] at H
             exact absurd H (by simp)
           ·rw [if_neg c22] at H
            exact absurd H (by simp)
          ·rw [if_neg c21] at H
           exact absurd H (by simp)
         ·rw [if_neg c20] at H
          exact absurd H (by simp)
        ·rw [if_neg c19] at H
         exact absurd H (by simp)
       ·rw [if_neg c18] at H
        exact absurd H (by simp)
      ·rw [if_neg c17] at H
       exact absurd H (by simp)
     ·rw [if_neg c16] at H
      exact absurd H (by simp)

/-- THE ONE PURE STATEMENT of laws_FnPackagistStages: yours. -/
def laws_FnPackagistStages.Pure : Prop := ∀ (a0 : ByteArray) (a1 : Int), a0.size ≤ 140737488351232 → (Lit.int .u16 a1).wf = true → ∃ k, laws_FnPackagistStages.f k a0 a1 = some true
theorem laws_FnPackagistStages.walk (P : laws_FnPackagistStages.Pure) (a0 : ByteArray) (a1 : Int) (w : World) (w0 : a0.size ≤ 140737488351232) (w1 : (Lit.int .u16 a1).wf = true) (hG : GL w) :
  Calls Tryd.prog 4 #[.string a0, .int .u16 a1] w fun e w' => e = .returned (.bool true) ∧ Below w.heap.size w w' := by
 obtain ⟨k, h⟩ := P a0 a1 w0 w1
 refine (laws_FnPackagistStages.calls k a0 a1 true w h hG).mono ?_
 rintro e w' ⟨rfl, hd⟩
 exact ⟨rfl, hd⟩

end Go.Proofs.YtdjkekgfeadmoaaDoor.Q
