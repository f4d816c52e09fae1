/- Proved here: each Go function that is named in this text, called as its theorem 'calls' says, returns what its Lean function 'f' tells, and of the memory that was there nothing is changed (a row of a law: the law returns true). Conditions: those that stand in each theorem; where 'f' tells none, nothing is said. Laid by a program of this seat's prover out of the translation; Lean checks it. -/
import Derived.Test.YtdjkekgfeadmoaaGreatDoorQx0
import Derived.Test.YtdjkekgfeadmoaaGreatDoorQx3
import Derived.Test.YtdjkekgfeadmoaaGreatDoorQx6
namespace Go.Proofs.YtdjkekgfeadmoaaGreatDoor.Q
open Go.RowKit Go.Proofs.YtdjkekgfeadmoaaGreatDoorH Go.Proofs.YtdjkekgfeadmoaaGreatDoorG Go.Proofs.YtdjkekgfeadmoaaGreatDoorW.PrintWords Go.Proofs.YtdjkekgfeadmoaaGreatDoorW.PrintLast Go.Proofs.YtdjkekgfeadmoaaGreatDoorW.PrintMore
attribute [local go_sem] max2_int min2_int max_two min_two max_three min_three max_four min_four   -- for this text's walks alone
set_option linter.unusedVariables false
set_option linter.unusedSimpArgs false

/-! ### spec_packRest: function 23 -/
def spec_packRest.l0 : Nat → List ByteArray → Int → Option (Int)
 | 0, _, _ => none
 | k + 1, x0, x3 => if x3 < (x0.length : Int) then (if 0 ≤ x3 then ((spec_allDigits.f k (rdOf ByteArray.empty x0 x3)).bind fun t248 => (if t248 = true then (some 1) else ((spec_PackagistSpecial.f k (rdOf ByteArray.empty x0 x3) (⟨#[35]⟩ : ByteArray)).bind fun t250 => (if t250 = 0 then (spec_packRest.l0 k x0 (wrap64 (x3 + 1))) else (some t250))))) else (none)) else (some 0)
def spec_packRest.f (k : Nat) (l0 : List ByteArray) : Option (Int) := spec_packRest.l0 k l0 0
theorem spec_packRest.mono_l : ∀ k, (∀ y0 y1, LeO (spec_packRest.l0 k y0 y1) (spec_packRest.l0 (k + 1) y0 y1))
 | 0 => fun _ _ r h => by simp [spec_packRest.l0] at h
 | k + 1 => by
  have ih0 := spec_packRest.mono_l k
  ·intro y0 y1
   unfold spec_packRest.l0
   repeat' first
   | (with_reducible exact ih0 _ _)
   | (with_reducible exact spec_PackagistSpecial.mono _ _ _)
   | (with_reducible exact spec_allDigits.mono _ _)
   | (with_reducible exact LeO.refl _)
   | (with_reducible exact LeO.none _)
   | (with_reducible refine LeO.ite ?_ ?_)
   | (with_reducible refine LeO.bind ?_ (fun _ => ?_))
   | exact ih0 _ _
   | exact spec_PackagistSpecial.mono _ _ _
   | exact spec_allDigits.mono _ _
   | exact LeO.none _
   | refine LeO.ite ?_ ?_
   | refine LeO.bind ?_ (fun _ => ?_)
theorem spec_packRest.mono : ∀ a0 k, LeO (spec_packRest.f k a0) (spec_packRest.f (k + 1) a0) := by
 intro a0 k
 have ih0 := spec_packRest.mono_l k
 unfold spec_packRest.f
 repeat' first
   | (with_reducible exact ih0 _ _)
   | (with_reducible exact spec_PackagistSpecial.mono _ _ _)
   | (with_reducible exact spec_allDigits.mono _ _)
   | (with_reducible exact LeO.refl _)
   | (with_reducible exact LeO.none _)
   | (with_reducible refine LeO.ite ?_ ?_)
   | (with_reducible refine LeO.bind ?_ (fun _ => ?_))
   | exact ih0 _ _
   | exact spec_PackagistSpecial.mono _ _ _
   | exact spec_allDigits.mono _ _
   | exact LeO.none _
   | refine LeO.ite ?_ ?_
   | refine LeO.bind ?_ (fun _ => ?_)
set_option maxHeartbeats 8000000 in
set_option maxRecDepth 100000 in
theorem spec_packRest.calls (k : Nat) (A0 : Option Addr) (c0 : Nat) (l0 : List ByteArray) (r : Int) (w : World) (hr0 : Kd.C Kd.string w A0 l0.length l0) (hc0 : l0.length ≤ c0) (h : spec_packRest.f k l0 = some r) :
  Calls Tryz.prog 23 #[.slice A0 l0.length c0] w fun e w' => e = .returned (.int .i64 r) ∧ Below w.heap.size w w' := by
 have HR0 := Aside0.mk hr0
 have HC0 := Aside0.mk hc0
 clear hr0 hc0
 have HB := Aside0.mk (Below.refl w.heap.size w)
 have H : (spec_packRest.l0 k l0 0) = some r := h
 clear h
 have H' := Aside0.mk H
 clear H
 go_enter Tryz.func23, Tryz.ntmps23
 go_wp2
 (try simp only [Act.put, List.setIfInBounds_toArray, List.set_cons_zero, List.set_cons_succ])
 go_loopg [3] k (fun kq v3 w' => ∃ (x3_1 : Int), v3 = .int .i64 x3_1 ∧ Aside0 (spec_packRest.l0 kq l0 x3_1 = some r) ∧ Aside0 (kq ≤ k) ∧ Aside0 (Below w.heap.size w w'))
 case atStart => exact ⟨(0), (by first | rfl | (simp; done) | (simp [*]; done) | (simp [bne_nil_hyb]; done) | (simp [bne_nil_hyb, *]; done)), H', ⟨Nat.le_refl _⟩, ⟨by repeat (first | (with_reducible first | exact HB.out | apply below_alloc | apply pw_below_drewN | apply below_drew1) | exact HB.out)⟩⟩
 case round =>
  clear H'
  obtain ⟨x3_1, rfl, HA, HK1, HB⟩ := hrel
  cases gk with
  | zero => exact absurd HA.out (by simp [spec_packRest.l0])
  | succ k1 =>
   have H := HA.out
   clear HA
   simp only [spec_packRest.l0] at H
   by_cases c2 : x3_1 < (l0.length : Int)
   ·rw [if_pos c2] at H
    have c2b0 : decide (x3_1 < (l0.length : Int)) = true := decide_eq_true c2
    clear c2
    by_cases c3 : 0 ≤ x3_1
    ·rw [if_pos c3] at H
     have c3b0 : decide (0 ≤ x3_1) = true := decide_eq_true c3
     clear c3
     replace H := Option.bind_eq_some_iff.mp H
     obtain ⟨t248, A40, H⟩ := H
     replace H : (if t248 = true then (some 1) else ((spec_PackagistSpecial.f k1 (rdOf ByteArray.empty l0 x3_1) (⟨#[35]⟩ : ByteArray)).bind fun t250 => (if t250 = 0 then (spec_packRest.l0 k1 l0 (wrap64 (x3_1 + 1))) else (some t250)))) = some r := H
     have A4 := Aside0.mk A40
     clear A40
     by_cases c5 : t248 = true
     ·subst c5
      have H1 : (some 1) = some r := by rw [if_pos rfl] at H; exact H
      clear H
      have H := H1
      clear H1
      obtain rfl := Option.some.inj H
      have p247 : 0 ≤ (x3_1 : Int) := of_decide_eq_true (by first | (with_reducible assumption) | assumption)
      have q247 : x3_1 < (l0.length : Int) := of_decide_eq_true (by first | (with_reducible assumption) | assumption)
      obtain ⟨ad247, e247, hx247_0⟩ := Kd.at_string HR0.out x3_1 p247 q247
      cases e247
      replace hx247_0 := (HB.out.cell (World.block_lt_of_cell? w _ hx247_0)).trans hx247_0
      replace p247 := eq_true p247
      replace q247 := eq_true q247
      go_wp2_with (first | ((with_reducible refine gate_callee (f := 17) rfl ?_); refine goesL_ (some 15) rfl rfl Tryz.func17 (by kernel_rfl) rfl #[.string (rdOf ByteArray.empty l0 x3_1)] rfl (by (try simp only [List.map_toArray, List.map_cons, List.map_nil]); first | done | rfl | (simp only [List.length_drop, List.length_take]; rfl)) ?_; (with_reducible refine (spec_allDigits.calls k1 (rdOf ByteArray.empty l0 x3_1) true _ A4.out).mono ?_); rintro e w' ⟨rfl, ⟨nd, rfl⟩⟩; refine ⟨_, rfl, ?_⟩))
      go_ret
      exact ⟨by first | rfl | (simp [errW_none, errW_some] <;> rfl) | (simp [*, errW_none, errW_some] <;> rfl) | (simp [bne_nil_hyb]; done), by repeat (first | (with_reducible first | exact HB.out | apply below_alloc | apply pw_below_drewN | apply below_drew1) | exact HB.out)⟩
     ·replace c5 := Bool.eq_false_iff.mpr c5
      subst c5
      have H1 : ((spec_PackagistSpecial.f k1 (rdOf ByteArray.empty l0 x3_1) (⟨#[35]⟩ : ByteArray)).bind fun t250 => (if t250 = 0 then (spec_packRest.l0 k1 l0 (wrap64 (x3_1 + 1))) else (some t250))) = some r := by rw [if_neg (show ¬ (false = true) by decide)] at H; exact H
      clear H
      have H := H1
      clear H1
      replace H := Option.bind_eq_some_iff.mp H
      obtain ⟨t250, A60, H⟩ := H
      replace H : (if t250 = 0 then (spec_packRest.l0 k1 l0 (wrap64 (x3_1 + 1))) else (some t250)) = some r := H
      have A6 := Aside0.mk A60
      clear A60
      by_cases c7 : t250 = 0
      ·rw [if_pos c7] at H
       have c7b0 : (t250 == 0) = true := beq_iff_eq.mpr c7
       have c7b1 : (t250 != 0) = false := bne_eq_false_iff_eq.mpr c7
       clear c7
       have H' := Aside0.mk H
       clear H
       have p247 : 0 ≤ (x3_1 : Int) := of_decide_eq_true (by first | (with_reducible assumption) | assumption)
       have q247 : x3_1 < (l0.length : Int) := of_decide_eq_true (by first | (with_reducible assumption) | assumption)
       obtain ⟨ad247, e247, hx247_0⟩ := Kd.at_string HR0.out x3_1 p247 q247
       cases e247
       replace hx247_0 := (HB.out.cell (World.block_lt_of_cell? w _ hx247_0)).trans hx247_0
       replace p247 := eq_true p247
       replace q247 := eq_true q247
       go_wp2_with (first | ((with_reducible refine gate_callee (f := 17) rfl ?_); refine goesL_ (some 15) rfl rfl Tryz.func17 (by kernel_rfl) rfl #[.string (rdOf ByteArray.empty l0 x3_1)] rfl (by (try simp only [List.map_toArray, List.map_cons, List.map_nil]); first | done | rfl | (simp only [List.length_drop, List.length_take]; rfl)) ?_; (with_reducible refine (spec_allDigits.calls k1 (rdOf ByteArray.empty l0 x3_1) false _ A4.out).mono ?_); rintro e w' ⟨rfl, ⟨nd, rfl⟩⟩; refine ⟨_, rfl, ?_⟩; have p249 : 0 ≤ (x3_1 : Int) := of_decide_eq_true (by first | (with_reducible assumption) | assumption); have q249 : x3_1 < (l0.length : Int) := of_decide_eq_true (by first | (with_reducible assumption) | assumption); obtain ⟨ad249, e249, hx249_0⟩ := Kd.at_string HR0.out x3_1 p249 q249; obtain rfl : ad247 = ad249 := (by injection e249); replace hx249_0 := (HB.out.cell (World.block_lt_of_cell? w _ hx249_0)).trans hx249_0; replace p249 := eq_true p249; replace q249 := eq_true q249) | ((with_reducible refine gate_callee (f := 30) rfl ?_); refine goesL_ (some 20) rfl rfl Tryz.func30 (by kernel_rfl) rfl #[.string (rdOf ByteArray.empty l0 x3_1), .string (⟨#[35]⟩ : ByteArray)] rfl (by (try simp only [List.map_toArray, List.map_cons, List.map_nil]); first | done | rfl | (simp only [List.length_drop, List.length_take]; rfl)) ?_; (with_reducible refine (spec_PackagistSpecial.calls k1 (rdOf ByteArray.empty l0 x3_1) (⟨#[35]⟩ : ByteArray) t250 _ A6.out).mono ?_); rintro e w8 ⟨rfl, hb⟩; refine ⟨_, rfl, ?_⟩; have n0_ := Aside0.mk (below_step (by repeat (first | (with_reducible first | exact HB.out | apply below_alloc | apply pw_below_drewN | apply below_drew1) | exact HB.out)) hb); clear HB; have HB := n0_; clear n0_; (try clear hb); (try clear hb2); (try clear hk); (try clear hi)))
       go_roundg k1
       case measure => have := HK1.out; omega
       case rel => exact ⟨(wrap64 (x3_1 + 1)), (by first | rfl | (simp; done) | (simp [*]; done) | (simp [bne_nil_hyb]; done) | (simp [bne_nil_hyb, *]; done)), H', ⟨by have := HK1.out; omega⟩, ⟨by repeat (first | (with_reducible first | exact HB.out | apply below_alloc | apply pw_below_drewN | apply below_drew1) | exact HB.out)⟩⟩
      ·rw [if_neg c7] at H
       have c7b0 : (t250 == 0) = false := beq_eq_false_iff_ne.mpr c7
       have c7b1 : (t250 != 0) = true := bne_iff_ne.mpr c7
       obtain rfl := Option.some.inj H
       have p247 : 0 ≤ (x3_1 : Int) := of_decide_eq_true (by first | (with_reducible assumption) | assumption)
       have q247 : x3_1 < (l0.length : Int) := of_decide_eq_true (by first | (with_reducible assumption) | assumption)
       obtain ⟨ad247, e247, hx247_0⟩ := Kd.at_string HR0.out x3_1 p247 q247
       cases e247
       replace hx247_0 := (HB.out.cell (World.block_lt_of_cell? w _ hx247_0)).trans hx247_0
       replace p247 := eq_true p247
       replace q247 := eq_true q247
       go_wp2_with (first | ((with_reducible refine gate_callee (f := 17) rfl ?_); refine goesL_ (some 15) rfl rfl Tryz.func17 (by kernel_rfl) rfl #[.string (rdOf ByteArray.empty l0 x3_1)] rfl (by (try simp only [List.map_toArray, List.map_cons, List.map_nil]); first | done | rfl | (simp only [List.length_drop, List.length_take]; rfl)) ?_; (with_reducible refine (spec_allDigits.calls k1 (rdOf ByteArray.empty l0 x3_1) false _ A4.out).mono ?_); rintro e w' ⟨rfl, ⟨nd, rfl⟩⟩; refine ⟨_, rfl, ?_⟩; have p249 : 0 ≤ (x3_1 : Int) := of_decide_eq_true (by first | (with_reducible assumption) | assumption); have q249 : x3_1 < (l0.length : Int) := of_decide_eq_true (by first | (with_reducible assumption) | assumption); obtain ⟨ad249, e249, hx249_0⟩ := Kd.at_string HR0.out x3_1 p249 q249; obtain rfl : ad247 = ad249 := (by injection e249); replace hx249_0 := (HB.out.cell (World.block_lt_of_cell? w _ hx249_0)).trans hx249_0; replace p249 := eq_true p249; replace q249 := eq_true q249) | ((with_reducible refine gate_callee (f := 30) rfl ?_); refine goesL_ (some 20) rfl rfl Tryz.func30 (by kernel_rfl) rfl #[.string (rdOf ByteArray.empty l0 x3_1), .string (⟨#[35]⟩ : ByteArray)] rfl (by (try simp only [List.map_toArray, List.map_cons, List.map_nil]); first | done | rfl | (simp only [List.length_drop, List.length_take]; rfl)) ?_; (with_reducible refine (spec_PackagistSpecial.calls k1 (rdOf ByteArray.empty l0 x3_1) (⟨#[35]⟩ : ByteArray) t250 _ A6.out).mono ?_); rintro e w9 ⟨rfl, hb⟩; refine ⟨_, rfl, ?_⟩; have n0_ := Aside0.mk (below_step (by repeat (first | (with_reducible first | exact HB.out | apply below_alloc | apply pw_below_drewN | apply below_drew1) | exact HB.out)) hb); clear HB; have HB := n0_; clear n0_; (try clear hb); (try clear hb2); (try clear hk); (try clear hi)))
       go_ret
       exact ⟨by first | rfl | (simp [errW_none, errW_some] <;> rfl) | (simp [*, errW_none, errW_some] <;> rfl) | (simp [bne_nil_hyb]; done), by repeat (first | (with_reducible first | exact HB.out | apply below_alloc | apply pw_below_drewN | apply below_drew1) | exact HB.out)⟩
    ·rw [if_neg c3] at H
     exact absurd H (by simp)
   ·rw [if_neg c2] at H
    have c2b0 : decide (x3_1 < (l0.length : Int)) = false := decide_eq_false c2
    clear c2
    obtain rfl := Option.some.inj H
    go_wp2
    go_ret
    exact ⟨by first | rfl | (simp [errW_none, errW_some] <;> rfl) | (simp [*, errW_none, errW_some] <;> rfl) | (simp [bne_nil_hyb]; done), by repeat (first | (with_reducible first | exact HB.out | apply below_alloc | apply pw_below_drewN | apply below_drew1) | exact HB.out)⟩

/-! ### spec_PackagistCompare: function 11 -/
mutual
def spec_PackagistCompare.l0 : Nat → List ByteArray → List ByteArray → Int → Option (Int)
 | 0, _, _, _ => none
 | k + 1, x0, x1, x5 => if x5 < (x0.length : Int) then (spec_PackagistCompare.j1 k x0 x1 x5 (decide (x5 < (x1.length : Int)))) else (spec_PackagistCompare.j1 k x0 x1 x5 false)
def spec_PackagistCompare.j1 : Nat → List ByteArray → List ByteArray → Int → Bool → Option (Int)
 | 0, _, _, _, _ => none
 | k + 1, x0, x1, x5, x16 => if x16 = true then (if 0 ≤ x5 then (if x5 < (x0.length : Int) then (if x5 < (x1.length : Int) then ((spec_packPair.f k (rdOf ByteArray.empty x0 x5) (rdOf ByteArray.empty x1 x5)).bind fun t253 => (if t253 = 0 then (spec_PackagistCompare.l0 k x0 x1 (wrap64 (x5 + 1))) else (some t253))) else (none)) else (none)) else (none)) else (if (x0.length : Int) > (x1.length : Int) then (if 0 ≤ (x1.length : Int) then (if (x1.length : Int) ≤ (x0.length : Int) then ((spec_packRest.f k (x0.drop ((x1.length : Int) : Int).toNat)).bind fun t255 => (some t255)) else (none)) else (none)) else (if (x0.length : Int) < (x1.length : Int) then (if 0 ≤ (x0.length : Int) then (if (x0.length : Int) ≤ (x1.length : Int) then ((spec_packRest.f k (x1.drop ((x0.length : Int) : Int).toNat)).bind fun t257 => (some (wrap64 (-t257)))) else (none)) else (none)) else (some 0)))
end
def spec_PackagistCompare.f (k : Nat) (l0 : List ByteArray) (l1 : List ByteArray) : Option (Int) := spec_PackagistCompare.l0 k l0 l1 0
theorem spec_PackagistCompare.mono_l : ∀ k, (∀ y0 y1 y2, LeO (spec_PackagistCompare.l0 k y0 y1 y2) (spec_PackagistCompare.l0 (k + 1) y0 y1 y2)) ∧ (∀ y0 y1 y2 y3, LeO (spec_PackagistCompare.j1 k y0 y1 y2 y3) (spec_PackagistCompare.j1 (k + 1) y0 y1 y2 y3))
 | 0 => ⟨fun _ _ _ r h => by simp [spec_PackagistCompare.l0] at h, fun _ _ _ _ r h => by simp [spec_PackagistCompare.j1] at h⟩
 | k + 1 => by
  obtain ⟨ih0, ih1⟩ := spec_PackagistCompare.mono_l k
  refine ⟨?_, ?_⟩
  ·intro y0 y1 y2
   unfold spec_PackagistCompare.l0
   repeat' first
   | (with_reducible exact ih0 _ _ _)
   | (with_reducible exact ih1 _ _ _ _)
   | (with_reducible exact spec_packPair.mono _ _ _)
   | (with_reducible exact spec_packRest.mono _ _)
   | (with_reducible exact LeO.refl _)
   | (with_reducible exact LeO.none _)
   | (with_reducible refine LeO.ite ?_ ?_)
   | (with_reducible refine LeO.bind ?_ (fun _ => ?_))
   | exact ih0 _ _ _
   | exact ih1 _ _ _ _
   | exact spec_packPair.mono _ _ _
   | exact spec_packRest.mono _ _
   | exact LeO.none _
   | refine LeO.ite ?_ ?_
   | refine LeO.bind ?_ (fun _ => ?_)
  ·intro y0 y1 y2 y3
   unfold spec_PackagistCompare.j1
   repeat' first
   | (with_reducible exact ih0 _ _ _)
   | (with_reducible exact ih1 _ _ _ _)
   | (with_reducible exact spec_packPair.mono _ _ _)
   | (with_reducible exact spec_packRest.mono _ _)
   | (with_reducible exact LeO.refl _)
   | (with_reducible exact LeO.none _)
   | (with_reducible refine LeO.ite ?_ ?_)
   | (with_reducible refine LeO.bind ?_ (fun _ => ?_))
   | exact ih0 _ _ _
   | exact ih1 _ _ _ _
   | exact spec_packPair.mono _ _ _
   | exact spec_packRest.mono _ _
   | exact LeO.none _
   | refine LeO.ite ?_ ?_
   | refine LeO.bind ?_ (fun _ => ?_)
theorem spec_PackagistCompare.mono : ∀ a0 a1 k, LeO (spec_PackagistCompare.f k a0 a1) (spec_PackagistCompare.f (k + 1) a0 a1) := by
 intro a0 a1 k
 obtain ⟨ih0, ih1⟩ := spec_PackagistCompare.mono_l k
 unfold spec_PackagistCompare.f
 repeat' first
   | (with_reducible exact ih0 _ _ _)
   | (with_reducible exact ih1 _ _ _ _)
   | (with_reducible exact spec_packPair.mono _ _ _)
   | (with_reducible exact spec_packRest.mono _ _)
   | (with_reducible exact LeO.refl _)
   | (with_reducible exact LeO.none _)
   | (with_reducible refine LeO.ite ?_ ?_)
   | (with_reducible refine LeO.bind ?_ (fun _ => ?_))
   | exact ih0 _ _ _
   | exact ih1 _ _ _ _
   | exact spec_packPair.mono _ _ _
   | exact spec_packRest.mono _ _
   | exact LeO.none _
   | refine LeO.ite ?_ ?_
   | refine LeO.bind ?_ (fun _ => ?_)
def spec_PackagistCompare.T4 : Bool × List (List Nat × List Nat) := (true, [([], []), ([], []), ([0, 1], [0, 1]), ([2], [2]), ([], []), ([], []), ([4, 5], [4, 5]), ([6], [6]), ([3, 7], [3, 7]), ([8, 8, 0, 1, 2, 3, 4, 5, 6, 7, 8], [8])])
def spec_PackagistCompare.B4 : List Nat := [0, 0, 3, 7, 0, 0, 48, 112, 255, 511]
theorem spec_PackagistCompare.tab4 : rtab .any (opsOf Tryz.f11 4) = spec_PackagistCompare.T4 := by kernel_rfl
theorem spec_PackagistCompare.bits4 : waitsOk spec_PackagistCompare.T4.2 spec_PackagistCompare.B4 = true := by kernel_rfl
set_option maxHeartbeats 8000000 in
set_option maxRecDepth 100000 in
theorem spec_PackagistCompare.calls (k : Nat) (A0 : Option Addr) (c0 : Nat) (l0 : List ByteArray) (A1 : Option Addr) (c1 : Nat) (l1 : List ByteArray) (r : Int) (w : World) (hr0 : Kd.C Kd.string w A0 l0.length l0) (hc0 : l0.length ≤ c0) (hr1 : Kd.C Kd.string w A1 l1.length l1) (hc1 : l1.length ≤ c1) (h : spec_PackagistCompare.f k l0 l1 = some r) :
  Calls Tryz.prog 11 #[.slice A0 l0.length c0, .slice A1 l1.length c1] w fun e w' => e = .returned (.int .i64 r) ∧ Below w.heap.size w w' := by
 have HR0 := Aside0.mk hr0
 have HC0 := Aside0.mk hc0
 clear hr0 hc0
 have HR1 := Aside0.mk hr1
 have HC1 := Aside0.mk hc1
 clear hr1 hc1
 have HB := Aside0.mk (Below.refl w.heap.size w)
 have H : (spec_PackagistCompare.l0 k l0 l1 0) = some r := h
 clear h
 have H' := Aside0.mk H
 clear H
 go_enter Tryz.func11, Tryz.ntmps11
 go_wp2
 (try simp only [Act.put, List.setIfInBounds_toArray, List.set_cons_zero, List.set_cons_succ])
 go_loopg [5] k (fun kq v5 w' => ∃ (x5_1 : Int), v5 = .int .i64 x5_1 ∧ Aside0 (spec_PackagistCompare.l0 kq l0 l1 x5_1 = some r) ∧ Aside0 (kq ≤ k) ∧ Aside0 (Below w.heap.size w w'))
 case atStart => exact ⟨(0), (by first | rfl | (simp; done) | (simp [*]; done) | (simp [bne_nil_hyb]; done) | (simp [bne_nil_hyb, *]; done)), H', ⟨Nat.le_refl _⟩, ⟨by repeat (first | (with_reducible first | exact HB.out | apply below_alloc | apply pw_below_drewN | apply below_drew1) | exact HB.out)⟩⟩
 case round =>
  clear H'
  try clear c1
  try clear p2
  obtain ⟨x5_1, rfl, HA, HK1, HB⟩ := hrel
  cases gk with
  | zero => exact absurd HA.out (by simp [spec_PackagistCompare.l0])
  | succ k1 =>
   have H := HA.out
   clear HA
   simp only [spec_PackagistCompare.l0] at H
   have HC3 := Aside0.mk H
   clear H
   go_upto_region 2 with (fail)
   go_cut [16] (fun v16 wc => ∃ (kq : Nat) (x16_2 : Bool), v16 = .bool x16_2 ∧ Aside0 (spec_PackagistCompare.j1 kq l0 l1 x5_1 x16_2 = some r) ∧ Aside0 (kq ≤ k1) ∧ Aside0 (Below w.heap.size w wc))
   case first =>
    have H := HC3.out
    clear HC3
    by_cases c4 : x5_1 < (l0.length : Int)
    ·rw [if_pos c4] at H
     have c4b0 : decide (x5_1 < (l0.length : Int)) = true := decide_eq_true c4
     clear c4
     (first | rw [c4b0] | (simp only [i64_w, i32_w]; rw [c4b0]) | skip)
     have H' := Aside0.mk H
     clear H
     go_wp2
     go_meet
     case rel => exact ⟨_, (decide (x5_1 < (l1.length : Int))), (by first | rfl | (simp; done) | (simp [*]; done) | (simp [bne_nil_hyb]; done) | (simp [bne_nil_hyb, *]; done)), H', ⟨by have := HK1.out; first | omega | exact Nat.le_refl _⟩, ⟨by repeat (first | (with_reducible first | exact HB.out | apply below_alloc | apply pw_below_drewN | apply below_drew1) | exact HB.out)⟩⟩
    ·rw [if_neg c4] at H
     have c4b0 : decide (x5_1 < (l0.length : Int)) = false := decide_eq_false c4
     clear c4
     (first | rw [c4b0] | (simp only [i64_w, i32_w]; rw [c4b0]) | skip)
     have H' := Aside0.mk H
     clear H
     go_wp2
     go_meet
     case rel => exact ⟨_, (false), (by first | rfl | (simp; done) | (simp [*]; done) | (simp [bne_nil_hyb]; done) | (simp [bne_nil_hyb, *]; done)), H', ⟨by have := HK1.out; first | omega | exact Nat.le_refl _⟩, ⟨by repeat (first | (with_reducible first | exact HB.out | apply below_alloc | apply pw_below_drewN | apply below_drew1) | exact HB.out)⟩⟩
   case rest =>
    clear HC3
    try clear c1
    try clear p2
    try clear c4
    try clear c4b0
    try clear p2
    obtain ⟨kq, x16_2, rfl, HA, HJ2, HB⟩ := hcut
    cases kq with
    | zero => exact absurd HA.out (by simp [spec_PackagistCompare.j1])
    | succ kj2 =>
     have H := HA.out
     clear HA
     simp only [spec_PackagistCompare.j1] at H
     by_cases c5 : x16_2 = true
     ·subst c5
      have H1 : (if 0 ≤ x5_1 then (if x5_1 < (l0.length : Int) then (if x5_1 < (l1.length : Int) then ((spec_packPair.f kj2 (rdOf ByteArray.empty l0 x5_1) (rdOf ByteArray.empty l1 x5_1)).bind fun t253 => (if t253 = 0 then (spec_PackagistCompare.l0 kj2 l0 l1 (wrap64 (x5_1 + 1))) else (some t253))) else (none)) else (none)) else (none)) = some r := by rw [if_pos rfl] at H; exact H
      clear H
      have H := H1
      clear H1
      by_cases c6 : 0 ≤ x5_1
      ·rw [if_pos c6] at H
       have c6b0 : decide (0 ≤ x5_1) = true := decide_eq_true c6
       clear c6
       by_cases c7 : x5_1 < (l0.length : Int)
       ·rw [if_pos c7] at H
        have c7b0 : decide (x5_1 < (l0.length : Int)) = true := decide_eq_true c7
        clear c7
        by_cases c8 : x5_1 < (l1.length : Int)
        ·rw [if_pos c8] at H
         have c8b0 : decide (x5_1 < (l1.length : Int)) = true := decide_eq_true c8
         clear c8
         replace H := Option.bind_eq_some_iff.mp H
         obtain ⟨t253, A90, H⟩ := H
         replace H : (if t253 = 0 then (spec_PackagistCompare.l0 kj2 l0 l1 (wrap64 (x5_1 + 1))) else (some t253)) = some r := H
         have A9 := Aside0.mk A90
         clear A90
         by_cases c10 : t253 = 0
         ·rw [if_pos c10] at H
          have c10b0 : (t253 == 0) = true := beq_iff_eq.mpr c10
          have c10b1 : (t253 != 0) = false := bne_eq_false_iff_eq.mpr c10
          clear c10
          have H' := Aside0.mk H
          clear H
          try go_wp2
          have n0_ := Aside0.mk (below_drew1 HB.out)
          clear HB
          have HB := n0_
          clear n0_
          have p251 : 0 ≤ (x5_1 : Int) := of_decide_eq_true (by first | (with_reducible assumption) | assumption)
          have q251 : x5_1 < (l0.length : Int) := of_decide_eq_true (by first | (with_reducible assumption) | assumption)
          obtain ⟨ad251, e251, hx251_0⟩ := Kd.at_string HR0.out x5_1 p251 q251
          have hw251_0 := hx251_0
          cases e251
          replace hx251_0 := (HB.out.cell (World.block_lt_of_cell? w _ hx251_0)).trans hx251_0
          replace p251 := eq_true p251
          replace q251 := eq_true q251
          have p252 : 0 ≤ (x5_1 : Int) := of_decide_eq_true (by first | (with_reducible assumption) | assumption)
          have q252 : x5_1 < (l1.length : Int) := of_decide_eq_true (by first | (with_reducible assumption) | assumption)
          obtain ⟨ad252, e252, hx252_0⟩ := Kd.at_string HR1.out x5_1 p252 q252
          have hw252_0 := hx252_0
          cases e252
          replace hx252_0 := (HB.out.cell (World.block_lt_of_cell? w _ hx252_0)).trans hx252_0
          replace p252 := eq_true p252
          replace q252 := eq_true q252
          refine start_ (n := 10) (S := fun w' => w'.cell? (ad251.add (x5_1).toNat) = some (.string (rdOf ByteArray.empty l0 x5_1)) ∧ w'.cell? (ad252.add (x5_1).toNat) = some (.string (rdOf ByteArray.empty l1 x5_1))) (ds := []) #[false, false, false, false, false, false, false, false, false, false] (by kernel_rfl) rfl rfl ⟨((HB.out.cell (World.block_lt_of_cell? w _ hw251_0)).trans hw251_0), ((HB.out.cell (World.block_lt_of_cell? w _ hw252_0)).trans hw252_0)⟩ (fun hHeld => ?_); refine with_tabW spec_PackagistCompare.tab4 spec_PackagistCompare.bits4 (fun HT_ HW_ => ?_)
          generalize wc.drew = w11 at HB hx251_0 hx252_0 hHeld ⊢
          refine pure_ (i := 0) (N := some 19) (v := ?_) (a' := ?_) #[true, false, false, false, false, false, false, false, false, false] rfl rfl (any_of HT_.out (by kernel_rfl)) (fun _ _ _ h => h) (Or.inl ⟨by rfl, ?_⟩) ?_ ?_
          rotate_left
          ·intro w'
           go_simp
           with_reducible rfl
          rotate_left
          ·simp only [Act.put, List.setIfInBounds_toArray, List.set_cons_zero, List.set_cons_succ, i64_w, i32_w]
           rfl
          refine pure_ (i := 1) (N := some 20) (v := ?_) (a' := ?_) #[true, true, false, false, false, false, false, false, false, false] rfl rfl (any_of HT_.out (by kernel_rfl)) (fun _ _ _ h => h) (Or.inl ⟨by rfl, ?_⟩) ?_ ?_
          rotate_left
          ·intro w'
           go_simp
           with_reducible rfl
          rotate_left
          ·simp only [Act.put, List.setIfInBounds_toArray, List.set_cons_zero, List.set_cons_succ, i64_w, i32_w]
           rfl
          refine pure_ (i := 2) (N := some 21) (v := ?_) (a' := ?_) #[true, true, true, false, false, false, false, false, false, false] rfl rfl (any_of HT_.out (by kernel_rfl)) (fun _ _ _ h => h) (Or.inl ⟨by rfl, ?_⟩) ?_ ?_
          rotate_left
          ·intro w'
           go_simp
           with_reducible rfl
          rotate_left
          ·simp only [Act.put, List.setIfInBounds_toArray, List.set_cons_zero, List.set_cons_succ, i64_w, i32_w]
           rfl
          refine pure_ (i := 4) (N := some 23) (v := ?_) (a' := ?_) #[true, true, true, false, true, false, false, false, false, false] rfl rfl (any_of HT_.out (by kernel_rfl)) (fun _ _ _ h => h) (Or.inl ⟨by rfl, ?_⟩) ?_ ?_
          rotate_left
          ·intro w'
           go_simp
           with_reducible rfl
          rotate_left
          ·simp only [Act.put, List.setIfInBounds_toArray, List.set_cons_zero, List.set_cons_succ, i64_w, i32_w]
           rfl
          refine pure_ (i := 5) (N := some 24) (v := ?_) (a' := ?_) #[true, true, true, false, true, true, false, false, false, false] rfl rfl (any_of HT_.out (by kernel_rfl)) (fun _ _ _ h => h) (Or.inl ⟨by rfl, ?_⟩) ?_ ?_
          rotate_left
          ·intro w'
           go_simp
           with_reducible rfl
          rotate_left
          ·simp only [Act.put, List.setIfInBounds_toArray, List.set_cons_zero, List.set_cons_succ, i64_w, i32_w]
           rfl
          refine pure_ (i := 6) (N := some 25) (v := ?_) (a' := ?_) #[true, true, true, false, true, true, true, false, false, false] rfl rfl (any_of HT_.out (by kernel_rfl)) (fun _ _ _ h => h) (Or.inl ⟨by rfl, ?_⟩) ?_ ?_
          rotate_left
          ·intro w'
           go_simp
           with_reducible rfl
          rotate_left
          ·simp only [Act.put, List.setIfInBounds_toArray, List.set_cons_zero, List.set_cons_succ, i64_w, i32_w]
           rfl
          refine take_ (i := 3) (N := some 22) (v := ?_) (a' := ?_) #[true, true, true, true, true, true, true, false, false, false] rfl rfl (take_ofW HT_.out HW_.out (by kernel_rfl)) (fun _ _ _ h => h) (Or.inl ⟨by rfl, ?_⟩) hHeld ?_ ?_
          rotate_left
          ·rintro w' ⟨s0, s1⟩
           go_simp
           with_reducible rfl
          rotate_left
          ·simp only [Act.put, List.setIfInBounds_toArray, List.set_cons_zero, List.set_cons_succ, i64_w, i32_w]
           rfl
          refine take_ (i := 7) (N := some 26) (v := ?_) (a' := ?_) #[true, true, true, true, true, true, true, true, false, false] rfl rfl (take_ofW HT_.out HW_.out (by kernel_rfl)) (fun _ _ _ h => h) (Or.inl ⟨by rfl, ?_⟩) hHeld ?_ ?_
          rotate_left
          ·rintro w' ⟨s0, s1⟩
           go_simp
           with_reducible rfl
          rotate_left
          ·simp only [Act.put, List.setIfInBounds_toArray, List.set_cons_zero, List.set_cons_succ, i64_w, i32_w]
           rfl
          refine one_ (i := 8) (N := some 27) #[true, true, true, true, true, true, true, true, true, false] rfl rfl (one_of HT_.out (by kernel_rfl)) (by decide) (fun K hK => ?_)
          refine goes_ Tryz.func22 (by kernel_rfl) rfl #[.string (rdOf ByteArray.empty l0 x5_1), .string (rdOf ByteArray.empty l1 x5_1)] (by rfl) rfl rfl (by (try simp only [List.map_toArray, List.map_cons, List.map_nil]); first | done | rfl | (simp only [List.length_drop, List.length_take]; rfl)) ?_
          with_reducible refine (spec_packPair.calls kj2 (rdOf ByteArray.empty l0 x5_1) (rdOf ByteArray.empty l1 x5_1) t253 _ A9.out).mono ?_
          rintro e w12 ⟨rfl, hb⟩
          refine ⟨_, rfl, ?_⟩
          have n0_ := Aside0.mk (below_step (by repeat (first | (with_reducible first | exact HB.out | apply below_alloc | apply pw_below_drewN | apply below_drew1) | exact HB.out)) hb)
          clear HB
          have HB := n0_
          clear n0_
          (try clear hb)
          (try clear hb2)
          (try clear hk)
          (try clear hi)
          refine hK.out _ _ ⟨((HB.out.cell (World.block_lt_of_cell? w _ hw251_0)).trans hw251_0), ((HB.out.cell (World.block_lt_of_cell? w _ hw252_0)).trans hw252_0)⟩ (fun hHeld => ?_)
          clear hK K
          refine norm_ (a' := ?_) ?_ ?_
          rotate_left
          ·show Act.put _ (some 27) _ = _
           simp only [Act.put, List.setIfInBounds_toArray, List.set_cons_zero, List.set_cons_succ, i64_w, i32_w]
           rfl
          refine pure_ (i := 9) (N := some 6) (v := ?_) (a' := ?_) #[true, true, true, true, true, true, true, true, true, true] rfl rfl (any_of HT_.out (by kernel_rfl)) (fun _ _ _ h => h) (Or.inl ⟨by rfl, ?_⟩) ?_ ?_
          rotate_left
          ·intro w'
           go_simp
           with_reducible rfl
          rotate_left
          ·simp only [Act.put, List.setIfInBounds_toArray, List.set_cons_zero, List.set_cons_succ, i64_w, i32_w]
           rfl
          refine done_ (done_of HT_.out (by kernel_rfl)) ?_
          try go_wp2
          go_roundg kj2
          case measure => have := HK1.out; have := HJ2.out; omega
          case rel => exact ⟨(wrap64 (x5_1 + 1)), (by first | rfl | (simp; done) | (simp [*]; done) | (simp [bne_nil_hyb]; done) | (simp [bne_nil_hyb, *]; done)), H', ⟨by have := HK1.out; have := HJ2.out; omega⟩, ⟨by repeat (first | (with_reducible first | exact HB.out | apply below_alloc | apply pw_below_drewN | apply below_drew1) | exact HB.out)⟩⟩
         ·rw [if_neg c10] at H
          have c10b0 : (t253 == 0) = false := beq_eq_false_iff_ne.mpr c10
          have c10b1 : (t253 != 0) = true := bne_iff_ne.mpr c10
          obtain rfl := Option.some.inj H
          try go_wp2
          have n0_ := Aside0.mk (below_drew1 HB.out)
          clear HB
          have HB := n0_
          clear n0_
          have p251 : 0 ≤ (x5_1 : Int) := of_decide_eq_true (by first | (with_reducible assumption) | assumption)
          have q251 : x5_1 < (l0.length : Int) := of_decide_eq_true (by first | (with_reducible assumption) | assumption)
          obtain ⟨ad251, e251, hx251_0⟩ := Kd.at_string HR0.out x5_1 p251 q251
          have hw251_0 := hx251_0
          cases e251
          replace hx251_0 := (HB.out.cell (World.block_lt_of_cell? w _ hx251_0)).trans hx251_0
          replace p251 := eq_true p251
          replace q251 := eq_true q251
          have p252 : 0 ≤ (x5_1 : Int) := of_decide_eq_true (by first | (with_reducible assumption) | assumption)
          have q252 : x5_1 < (l1.length : Int) := of_decide_eq_true (by first | (with_reducible assumption) | assumption)
          obtain ⟨ad252, e252, hx252_0⟩ := Kd.at_string HR1.out x5_1 p252 q252
          have hw252_0 := hx252_0
          cases e252
          replace hx252_0 := (HB.out.cell (World.block_lt_of_cell? w _ hx252_0)).trans hx252_0
          replace p252 := eq_true p252
          replace q252 := eq_true q252
          refine start_ (n := 10) (S := fun w' => w'.cell? (ad251.add (x5_1).toNat) = some (.string (rdOf ByteArray.empty l0 x5_1)) ∧ w'.cell? (ad252.add (x5_1).toNat) = some (.string (rdOf ByteArray.empty l1 x5_1))) (ds := []) #[false, false, false, false, false, false, false, false, false, false] (by kernel_rfl) rfl rfl ⟨((HB.out.cell (World.block_lt_of_cell? w _ hw251_0)).trans hw251_0), ((HB.out.cell (World.block_lt_of_cell? w _ hw252_0)).trans hw252_0)⟩ (fun hHeld => ?_); refine with_tabW spec_PackagistCompare.tab4 spec_PackagistCompare.bits4 (fun HT_ HW_ => ?_)
          generalize wc.drew = w13 at HB hx251_0 hx252_0 hHeld ⊢
          refine pure_ (i := 0) (N := some 19) (v := ?_) (a' := ?_) #[true, false, false, false, false, false, false, false, false, false] rfl rfl (any_of HT_.out (by kernel_rfl)) (fun _ _ _ h => h) (Or.inl ⟨by rfl, ?_⟩) ?_ ?_
          rotate_left
          ·intro w'
           go_simp
           with_reducible rfl
          rotate_left
          ·simp only [Act.put, List.setIfInBounds_toArray, List.set_cons_zero, List.set_cons_succ, i64_w, i32_w]
           rfl
          refine pure_ (i := 1) (N := some 20) (v := ?_) (a' := ?_) #[true, true, false, false, false, false, false, false, false, false] rfl rfl (any_of HT_.out (by kernel_rfl)) (fun _ _ _ h => h) (Or.inl ⟨by rfl, ?_⟩) ?_ ?_
          rotate_left
          ·intro w'
           go_simp
           with_reducible rfl
          rotate_left
          ·simp only [Act.put, List.setIfInBounds_toArray, List.set_cons_zero, List.set_cons_succ, i64_w, i32_w]
           rfl
          refine pure_ (i := 2) (N := some 21) (v := ?_) (a' := ?_) #[true, true, true, false, false, false, false, false, false, false] rfl rfl (any_of HT_.out (by kernel_rfl)) (fun _ _ _ h => h) (Or.inl ⟨by rfl, ?_⟩) ?_ ?_
          rotate_left
          ·intro w'
           go_simp
           with_reducible rfl
          rotate_left
          ·simp only [Act.put, List.setIfInBounds_toArray, List.set_cons_zero, List.set_cons_succ, i64_w, i32_w]
           rfl
          refine pure_ (i := 4) (N := some 23) (v := ?_) (a' := ?_) #[true, true, true, false, true, false, false, false, false, false] rfl rfl (any_of HT_.out (by kernel_rfl)) (fun _ _ _ h => h) (Or.inl ⟨by rfl, ?_⟩) ?_ ?_
          rotate_left
          ·intro w'
           go_simp
           with_reducible rfl
          rotate_left
          ·simp only [Act.put, List.setIfInBounds_toArray, List.set_cons_zero, List.set_cons_succ, i64_w, i32_w]
           rfl
          refine pure_ (i := 5) (N := some 24) (v := ?_) (a' := ?_) #[true, true, true, false, true, true, false, false, false, false] rfl rfl (any_of HT_.out (by kernel_rfl)) (fun _ _ _ h => h) (Or.inl ⟨by rfl, ?_⟩) ?_ ?_
          rotate_left
          ·intro w'
           go_simp
           with_reducible rfl
          rotate_left
          ·simp only [Act.put, List.setIfInBounds_toArray, List.set_cons_zero, List.set_cons_succ, i64_w, i32_w]
           rfl
          refine pure_ (i := 6) (N := some 25) (v := ?_) (a' := ?_) #[true, true, true, false, true, true, true, false, false, false] rfl rfl (any_of HT_.out (by kernel_rfl)) (fun _ _ _ h => h) (Or.inl ⟨by rfl, ?_⟩) ?_ ?_
          rotate_left
          ·intro w'
           go_simp
           with_reducible rfl
          rotate_left
          ·simp only [Act.put, List.setIfInBounds_toArray, List.set_cons_zero, List.set_cons_succ, i64_w, i32_w]
           rfl
          refine take_ (i := 3) (N := some 22) (v := ?_) (a' := ?_) #[true, true, true, true, true, true, true, false, false, false] rfl rfl (take_ofW HT_.out HW_.out (by kernel_rfl)) (fun _ _ _ h => h) (Or.inl ⟨by rfl, ?_⟩) hHeld ?_ ?_
          rotate_left
          ·rintro w' ⟨s0, s1⟩
           go_simp
           with_reducible rfl
          rotate_left
          ·simp only [Act.put, List.setIfInBounds_toArray, List.set_cons_zero, List.set_cons_succ, i64_w, i32_w]
           rfl
          refine take_ (i := 7) (N := some 26) (v := ?_) (a' := ?_) #[true, true, true, true, true, true, true, true, false, false] rfl rfl (take_ofW HT_.out HW_.out (by kernel_rfl)) (fun _ _ _ h => h) (Or.inl ⟨by rfl, ?_⟩) hHeld ?_ ?_
          rotate_left
          ·rintro w' ⟨s0, s1⟩
           go_simp
           with_reducible rfl
          rotate_left
          ·simp only [Act.put, List.setIfInBounds_toArray, List.set_cons_zero, List.set_cons_succ, i64_w, i32_w]
           rfl
          refine one_ (i := 8) (N := some 27) #[true, true, true, true, true, true, true, true, true, false] rfl rfl (one_of HT_.out (by kernel_rfl)) (by decide) (fun K hK => ?_)
          refine goes_ Tryz.func22 (by kernel_rfl) rfl #[.string (rdOf ByteArray.empty l0 x5_1), .string (rdOf ByteArray.empty l1 x5_1)] (by rfl) rfl rfl (by (try simp only [List.map_toArray, List.map_cons, List.map_nil]); first | done | rfl | (simp only [List.length_drop, List.length_take]; rfl)) ?_
          with_reducible refine (spec_packPair.calls kj2 (rdOf ByteArray.empty l0 x5_1) (rdOf ByteArray.empty l1 x5_1) t253 _ A9.out).mono ?_
          rintro e w14 ⟨rfl, hb⟩
          refine ⟨_, rfl, ?_⟩
          have n0_ := Aside0.mk (below_step (by repeat (first | (with_reducible first | exact HB.out | apply below_alloc | apply pw_below_drewN | apply below_drew1) | exact HB.out)) hb)
          clear HB
          have HB := n0_
          clear n0_
          (try clear hb)
          (try clear hb2)
          (try clear hk)
          (try clear hi)
          refine hK.out _ _ ⟨((HB.out.cell (World.block_lt_of_cell? w _ hw251_0)).trans hw251_0), ((HB.out.cell (World.block_lt_of_cell? w _ hw252_0)).trans hw252_0)⟩ (fun hHeld => ?_)
          clear hK K
          refine norm_ (a' := ?_) ?_ ?_
          rotate_left
          ·show Act.put _ (some 27) _ = _
           simp only [Act.put, List.setIfInBounds_toArray, List.set_cons_zero, List.set_cons_succ, i64_w, i32_w]
           rfl
          refine pure_ (i := 9) (N := some 6) (v := ?_) (a' := ?_) #[true, true, true, true, true, true, true, true, true, true] rfl rfl (any_of HT_.out (by kernel_rfl)) (fun _ _ _ h => h) (Or.inl ⟨by rfl, ?_⟩) ?_ ?_
          rotate_left
          ·intro w'
           go_simp
           with_reducible rfl
          rotate_left
          ·simp only [Act.put, List.setIfInBounds_toArray, List.set_cons_zero, List.set_cons_succ, i64_w, i32_w]
           rfl
          refine done_ (done_of HT_.out (by kernel_rfl)) ?_
          try go_wp2
          go_ret
          exact ⟨by first | rfl | (simp [errW_none, errW_some] <;> rfl) | (simp [*, errW_none, errW_some] <;> rfl) | (simp [bne_nil_hyb]; done), by repeat (first | (with_reducible first | exact HB.out | apply below_alloc | apply pw_below_drewN | apply below_drew1) | exact HB.out)⟩
        ·rw [if_neg c8] at H
         exact absurd H (by simp)
       ·rw [if_neg c7] at H
        exact absurd H (by simp)
      ·rw [if_neg c6] at H
       exact absurd H (by simp)
     ·replace c5 := Bool.eq_false_iff.mpr c5
      subst c5
      have H1 : (if (l0.length : Int) > (l1.length : Int) then (if 0 ≤ (l1.length : Int) then (if (l1.length : Int) ≤ (l0.length : Int) then ((spec_packRest.f kj2 (l0.drop ((l1.length : Int) : Int).toNat)).bind fun t255 => (some t255)) else (none)) else (none)) else (if (l0.length : Int) < (l1.length : Int) then (if 0 ≤ (l0.length : Int) then (if (l0.length : Int) ≤ (l1.length : Int) then ((spec_packRest.f kj2 (l1.drop ((l0.length : Int) : Int).toNat)).bind fun t257 => (some (wrap64 (-t257)))) else (none)) else (none)) else (some 0))) = some r := by rw [if_neg (show ¬ (false = true) by decide)] at H; exact H
      clear H
      have H := H1
      clear H1
      by_cases c15 : (l0.length : Int) > (l1.length : Int)
      ·rw [if_pos c15] at H
       have c15b0 : decide ((l1.length : Int) < (l0.length : Int)) = true := decide_eq_true c15
       have c15b1 : decide (l1.length < l0.length) = true := decide_eq_true (Int.ofNat_lt.mp c15)
       clear c15
       by_cases c16 : 0 ≤ (l1.length : Int)
       ·rw [if_pos c16] at H
        have c16b0 := eq_true c16
        have c16b1 : decide (0 ≤ (l1.length : Int)) = true := decide_eq_true c16
        clear c16
        by_cases c17 : (l1.length : Int) ≤ (l0.length : Int)
        ·rw [if_pos c17] at H
         have c17b0 := eq_true c17
         have c17b1 : decide ((l1.length : Int) ≤ (l0.length : Int)) = true := decide_eq_true c17
         clear c17
         replace H := Option.bind_eq_some_iff.mp H
         obtain ⟨t255, A180, H⟩ := H
         replace H : (some t255) = some r := H
         have A18 := Aside0.mk A180
         clear A180
         obtain rfl := Option.some.inj H
         obtain ⟨i019, hi019, _, hsz19, _⟩ := info_parts info9
         obtain ⟨A19, hcut19, hA19, hC19⟩ := print_drop_of (P := Tryz.prog) Value.string (⟨#[]⟩ : ByteArray) 24 9 .i64 Tryz.underlying24 hi019 hsz19 A0 c0 l0 (l1.length : Int) (of_decide_eq_true (by first | (with_reducible assumption) | assumption)) (of_decide_eq_true (by first | (with_reducible assumption) | assumption)) HC0.out
         have HR254 := Aside0.mk (Kd.C_of_reads (h1 := fun _ => rfl) (hA19 _ (Kd.reads_of_C HR0.out)))
         have HC254 := Aside0.mk hC19
         clear hA19 hC19 hi019 hsz19
         go_wp2_with (first | ((with_reducible refine gate_callee (f := 23) rfl ?_); refine goesL_ (some 41) rfl rfl Tryz.func23 (by kernel_rfl) rfl #[.slice A19 (l0.drop ((l1.length : Int) : Int).toNat).length (c0 - (l1.length : Int).toNat)] rfl (by (try simp only [List.map_toArray, List.map_cons, List.map_nil]); first | done | (rw [show (l0.drop ((l1.length : Int) : Int).toNat).length = (l0.length - (l1.length : Int).toNat) from List.length_drop] <;> rfl) | rfl | (simp only [List.length_drop, List.length_take]; rfl)) ?_; (with_reducible refine (spec_packRest.calls kj2 _ _ (l0.drop ((l1.length : Int) : Int).toNat) t255 _ ?side1 ?side2 A18.out).mono ?_); (case side1 => repeat (first | exact (Kd.C_below HR254.out HB.out) | (with_reducible refine Kd.C_alloc ?_ _) | (with_reducible refine Kd.C_drewN ?_ _) | (with_reducible refine Kd.C_drew ?_))); (case side2 => exact HC254.out); rintro e w20 ⟨rfl, hb⟩; refine ⟨_, rfl, ?_⟩; have n0_ := Aside0.mk (below_step (by repeat (first | (with_reducible first | exact HB.out | apply below_alloc | apply pw_below_drewN | apply below_drew1) | exact HB.out)) hb); clear HB; have HB := n0_; clear n0_; (try clear hb); (try clear hb2); (try clear hk); (try clear hi)))
         go_ret
         exact ⟨by first | rfl | (simp [errW_none, errW_some] <;> rfl) | (simp [*, errW_none, errW_some] <;> rfl) | (simp [bne_nil_hyb]; done), by repeat (first | (with_reducible first | exact HB.out | apply below_alloc | apply pw_below_drewN | apply below_drew1) | exact HB.out)⟩
        ·rw [if_neg c17] at H
         exact absurd H (by simp)
       ·rw [if_neg c16] at H
        exact absurd H (by simp)
      ·rw [if_neg c15] at H
       have c15b0 : decide ((l1.length : Int) < (l0.length : Int)) = false := decide_eq_false c15
       have c15b1 : decide (l1.length < l0.length) = false := decide_eq_false (fun h => c15 (Int.ofNat_lt.mpr h))
       clear c15
       by_cases c21 : (l0.length : Int) < (l1.length : Int)
       ·rw [if_pos c21] at H
        have c21b0 : decide ((l0.length : Int) < (l1.length : Int)) = true := decide_eq_true c21
        have c21b1 : decide (l0.length < l1.length) = true := decide_eq_true (Int.ofNat_lt.mp c21)
        clear c21
        by_cases c22 : 0 ≤ (l0.length : Int)
        ·rw [if_pos c22] at H
         have c22b0 := eq_true c22
         have c22b1 : decide (0 ≤ (l0.length : Int)) = true := decide_eq_true c22
         clear c22
         by_cases c23 : (l0.length : Int) ≤ (l1.length : Int)
         ·rw [if_pos c23] at H
          have c23b0 := eq_true c23
          have c23b1 : decide ((l0.length : Int) ≤ (l1.length : Int)) = true := decide_eq_true c23
          clear c23
          replace H := Option.bind_eq_some_iff.mp H
          obtain ⟨t257, A240, H⟩ := H
          replace H : (some (wrap64 (-t257))) = some r := H
          have A24 := Aside0.mk A240
          clear A240
          obtain rfl := Option.some.inj H
          obtain ⟨i025, hi025, _, hsz25, _⟩ := info_parts info9
          obtain ⟨A25, hcut25, hA25, hC25⟩ := print_drop_of (P := Tryz.prog) Value.string (⟨#[]⟩ : ByteArray) 24 9 .i64 Tryz.underlying24 hi025 hsz25 A1 c1 l1 (l0.length : Int) (of_decide_eq_true (by first | (with_reducible assumption) | assumption)) (of_decide_eq_true (by first | (with_reducible assumption) | assumption)) HC1.out
          have HR256 := Aside0.mk (Kd.C_of_reads (h1 := fun _ => rfl) (hA25 _ (Kd.reads_of_C HR1.out)))
          have HC256 := Aside0.mk hC25
          clear hA25 hC25 hi025 hsz25
          go_wp2_with (first | ((with_reducible refine gate_callee (f := 23) rfl ?_); refine goesL_ (some 52) rfl rfl Tryz.func23 (by kernel_rfl) rfl #[.slice A25 (l1.drop ((l0.length : Int) : Int).toNat).length (c1 - (l0.length : Int).toNat)] rfl (by (try simp only [List.map_toArray, List.map_cons, List.map_nil]); first | done | (rw [show (l1.drop ((l0.length : Int) : Int).toNat).length = (l1.length - (l0.length : Int).toNat) from List.length_drop] <;> rfl) | rfl | (simp only [List.length_drop, List.length_take]; rfl)) ?_; (with_reducible refine (spec_packRest.calls kj2 _ _ (l1.drop ((l0.length : Int) : Int).toNat) t257 _ ?side1 ?side2 A24.out).mono ?_); (case side1 => repeat (first | exact (Kd.C_below HR256.out HB.out) | (with_reducible refine Kd.C_alloc ?_ _) | (with_reducible refine Kd.C_drewN ?_ _) | (with_reducible refine Kd.C_drew ?_))); (case side2 => exact HC256.out); rintro e w26 ⟨rfl, hb⟩; refine ⟨_, rfl, ?_⟩; have n0_ := Aside0.mk (below_step (by repeat (first | (with_reducible first | exact HB.out | apply below_alloc | apply pw_below_drewN | apply below_drew1) | exact HB.out)) hb); clear HB; have HB := n0_; clear n0_; (try clear hb); (try clear hb2); (try clear hk); (try clear hi)))
          go_ret
          exact ⟨by first | rfl | (simp [errW_none, errW_some] <;> rfl) | (simp [*, errW_none, errW_some] <;> rfl) | (simp [bne_nil_hyb]; done), by repeat (first | (with_reducible first | exact HB.out | apply below_alloc | apply pw_below_drewN | apply below_drew1) | exact HB.out)⟩
         ·rw [if_neg c23] at H
          exact absurd H (by simp)
        ·rw [if_neg c22] at H
         exact absurd H (by simp)
       ·rw [if_neg c21] at H
        have c21b0 : decide ((l0.length : Int) < (l1.length : Int)) = false := decide_eq_false c21
        have c21b1 : decide (l0.length < l1.length) = false := decide_eq_false (fun h => c21 (Int.ofNat_lt.mpr h))
        clear c21
        obtain rfl := Option.some.inj H
        go_wp2
        go_ret
        exact ⟨by first | rfl | (simp [errW_none, errW_some] <;> rfl) | (simp [*, errW_none, errW_some] <;> rfl) | (simp [bne_nil_hyb]; done), by repeat (first | (with_reducible first | exact HB.out | apply below_alloc | apply pw_below_drewN | apply below_drew1) | exact HB.out)⟩

/-! ### laws_turned: function 12 -/
def laws_turned.f (a0 : Int) (a1 : Int) : Option (Bool) := if a0 = (wrap64 (-a1)) then (if a0 ≥ (-1) then (some (decide (a0 ≤ 1))) else (some false)) else (some false)
set_option maxHeartbeats 8000000 in
set_option maxRecDepth 100000 in
theorem laws_turned.calls (a0 : Int) (a1 : Int) (r : Bool) (w : World) (h : laws_turned.f a0 a1 = some r) :
  Calls Tryz.prog 12 #[.int .i64 a0, .int .i64 a1] w fun e w' => e = .returned (.bool r) ∧ Drawn0 w w' := by
 have H : (if a0 = (wrap64 (-a1)) then (if a0 ≥ (-1) then (some (decide (a0 ≤ 1))) else (some false)) else (some false)) = some r := h
 clear h
 by_cases c3 : a0 = (wrap64 (-a1))
 ·rw [if_pos c3] at H
  have c3b0 : (a0 == (wrap64 (-a1))) = true := beq_iff_eq.mpr c3
  have c3b1 : (a0 != (wrap64 (-a1))) = false := bne_eq_false_iff_eq.mpr c3
  clear c3
  by_cases c4 : a0 ≥ (-1)
  ·rw [if_pos c4] at H
   have c4b0 : decide ((-1) ≤ a0) = true := decide_eq_true c4
   clear c4
   obtain rfl := Option.some.inj H
   go_enter Tryz.func12, Tryz.ntmps12
   go_wp2
   go_ret
   exact ⟨by first | rfl | (simp; done) | (simp [*]; done) | (simp [bne_nil_hyb]; done) | (simp [bne_nil_hyb, *]; done), by repeat (first | exact Drawn0.refl _ | apply Drawn0.step)⟩
  ·rw [if_neg c4] at H
   have c4b0 : decide ((-1) ≤ a0) = false := decide_eq_false c4
   clear c4
   obtain rfl := Option.some.inj H
   go_enter Tryz.func12, Tryz.ntmps12
   go_wp2
   go_ret
   exact ⟨by first | rfl | (simp; done) | (simp [*]; done) | (simp [bne_nil_hyb]; done) | (simp [bne_nil_hyb, *]; done), by repeat (first | exact Drawn0.refl _ | apply Drawn0.step)⟩
 ·rw [if_neg c3] at H
  have c3b0 : (a0 == (wrap64 (-a1))) = false := beq_eq_false_iff_ne.mpr c3
  have c3b1 : (a0 != (wrap64 (-a1))) = true := bne_iff_ne.mpr c3
  obtain rfl := Option.some.inj H
  go_enter Tryz.func12, Tryz.ntmps12
  go_wp2
  go_ret
  exact ⟨by first | rfl | (simp; done) | (simp [*]; done) | (simp [bne_nil_hyb]; done) | (simp [bne_nil_hyb, *]; done), by repeat (first | exact Drawn0.refl _ | apply Drawn0.step)⟩

end Go.Proofs.YtdjkekgfeadmoaaGreatDoor.Q
