/- Proved here, for the row of the law FnAlpineBuiltPair: contracts of the Go functions that it reaches, each as its theorem 'calls' says, and the words and plain laws that they need (Qx8, Qx9, Qx10, Qx16, Qx1, Qx2, Qx3, Qx20, BA, BB, BC, Qx6, Qx40, BD, BE, BF, BH). -/
import Derived.Test.YtapaijpglfmfgaaGreatDoorFnAlpineBuiltPairC
set_option linter.unusedVariables false
set_option linter.unusedSimpArgs false
set_option maxHeartbeats 8000000
set_option maxRecDepth 100000
section
namespace Go.Proofs.YtapaijpglfmfgaaGreatDoor.Q
open Go.RowKit YtapaijpglfmfgaaGreatDoorH YtapaijpglfmfgaaGreatDoorG YtapaijpglfmfgaaGreatDoorW.PrintWords YtapaijpglfmfgaaGreatDoorW.PrintLast YtapaijpglfmfgaaGreatDoorW.PrintMore
attribute [local go_sem] zsc zuc zhd zgd zhc zic zvc ztc
def zyc.l0 : Nat → ByteArray → Int → Option (Bool)
 | 0, _, _ => none
 | k + 1, x0, x3 => if x3 < (x0.size : Int) then (if 0 ≤ x3 then (if (bt x0 x3) > 127 then (some false) else (zyc.l0 k x0 (wrap64 (x3 + 1)))) else (none)) else (some true)
def zyc.f (k : Nat) (a0 : ByteArray) : Option (Bool) := zyc.l0 k a0 0
theorem zyc.calls (k : Nat) (a0 : ByteArray) (r : Bool) (w : World) (h : zyc.f k a0 = some r) :
  Calls Tryz.prog 24 #[.string a0] w fun e w' => e = .returned (.bool r) ∧ zo w w' := by
 have H : (zyc.l0 k a0 0) = some r := h
 clear h
 have H' := za.mk H
 clear H
 go_enter Tryz.func24, Tryz.ntmps24
 go_wp2
 (try simp only [Act.put, List.setIfInBounds_toArray, List.set_cons_zero, List.set_cons_succ])
 go_loopg [3] k (fun kq v3 w' => ∃ (x3_1 : Int), v3 = .int .i64 x3_1 ∧ za (zyc.l0 kq a0 x3_1 = some r) ∧ za (kq ≤ k) ∧ zo w w')
 case atStart => exact ⟨(0), (by rfl), H', ⟨Nat.le_refl _⟩, by repeat (first | exact zo.refl _ | apply zo.step)⟩
 case round =>
  clear H'
  obtain ⟨x3_1, rfl, HA, HK1, ⟨m1, rfl⟩⟩ := hrel
  cases gk with
  | zero => exact absurd HA.out (by simp [zyc.l0])
  | succ k1 =>
   have H := HA.out
   clear HA
   simp only [zyc.l0] at H
   by_cases c2 : x3_1 < (a0.size : Int)
   ·rw [if_pos c2] at H
    have c2b0 : decide (x3_1 < (a0.size : Int)) = true := decide_eq_true c2
    clear c2
    by_cases c3 : 0 ≤ x3_1
    ·rw [if_pos c3] at H
     have c3b0 : decide (0 ≤ x3_1) = true := decide_eq_true c3
     clear c3
     by_cases c5 : (bt a0 x3_1) > 127
     ·rw [if_pos c5] at H
      have c5b0 : decide (127 < (bt a0 x3_1)) = true := decide_eq_true c5
      clear c5
      obtain rfl := Option.some.inj H
      have p4 : 0 ≤ (x3_1 : Int) := of_decide_eq_true (by (with_reducible assumption))
      have q4 : x3_1 < (a0.size : Int) := of_decide_eq_true (by (with_reducible assumption))
      have hx4 := bt_at a0 x3_1
      replace p4 := eq_true p4
      replace q4 := eq_true q4
      go_wp2
      go_ret
      exact ⟨by rfl, by repeat (first | exact zo.refl _ | apply zo.step)⟩
     ·rw [if_neg c5] at H
      have c5b0 : decide (127 < (bt a0 x3_1)) = false := decide_eq_false c5
      clear c5
      have H' := za.mk H
      clear H
      have p4 : 0 ≤ (x3_1 : Int) := of_decide_eq_true (by (with_reducible assumption))
      have q4 : x3_1 < (a0.size : Int) := of_decide_eq_true (by (with_reducible assumption))
      have hx4 := bt_at a0 x3_1
      replace p4 := eq_true p4
      replace q4 := eq_true q4
      go_wp2
      go_roundg k1
      case measure => have := HK1.out; omega
      case rel => exact ⟨(wrap64 (x3_1 + 1)), (by rfl), H', ⟨by have := HK1.out; omega⟩, by repeat (first | exact zo.refl _ | apply zo.step)⟩
    ·rw [if_neg c3] at H
     exact absurd H (by simp)
   ·rw [if_neg c2] at H
    have c2b0 : decide (x3_1 < (a0.size : Int)) = false := decide_eq_false c2
    clear c2
    obtain rfl := Option.some.inj H
    go_wp2
    go_ret
    exact ⟨by rfl, by repeat (first | exact zo.refl _ | apply zo.step)⟩
def zt.l0 : Nat → ByteArray → List (S52) → Option ((List (S52)) × ByteArray)
 | 0, _, _ => none
 | k + 1, x0, x2 => (E1.zpb.f k x0).bind fun t185 => (if t185 = 0 then (some (x2, x0)) else (if 0 ≤ t185 then (if t185 ≤ (x0.size : Int) then ((zab.f k (x0.extract 0 (t185 : Int).toNat)).bind fun bt186 => (if x2.length < 2932031007402 then ((some (x2 ++ [(⟨x0.extract 0 (t185 : Int).toNat, (⟨bt186.1, bt186.2⟩ : S31), (x2.length : Int)⟩ : S52)] : List (S52))).bind fun y188 => ((some (x0.extract (t185 : Int).toNat x0.size : ByteArray)).bind fun y191 => (if y191.toList = ([] : List UInt8) then (some (y188, y191)) else (if 0 < (y191.size : Int) then (if (bt y191 0) = 46 then (if 1 ≤ (y191.size : Int) then (zt.l0 k (y191.extract 1 y191.size) y188) else (none)) else (some (y188, y191))) else (none))))) else (none))) else (none)) else (none)))
def zt.f (k : Nat) (a0 : ByteArray) : Option ((List (S52)) × ByteArray) := zt.l0 k a0 ([] : List (S52))
def zt.T4 : Bool × List (List Nat × List Nat) := (true, [([], []), ([], []), ([], []), ([1, 2], [1, 2]), ([], []), ([], []), ([4, 5], [4, 5]), ([6], [6]), ([], []), ([8], [8]), ([3, 7, 9], [3, 7, 9]), ([10], [10]), ([0, 11, 7], [0, 11]), ([12, 12, 0, 1, 2, 3, 4, 5, 6, 7, 8, 9, 10, 11, 12], [0, 8, 12])])
def zt.B4 : List Nat := [0, 0, 0, 6, 0, 0, 48, 112, 0, 256, 1022, 2046, 4095, 8191]
theorem zt.tab4 : rtab .any (opsOf Tryz.f25 4) = zt.T4 := by kernel_rfl
theorem zt.bits4 : zkh zt.T4.2 zt.B4 = true := by kernel_rfl
theorem zt.calls (k : Nat) (a0 : ByteArray) (r1 : List (S52)) (r2 : ByteArray) (w : World) (h : zt.f k a0 = some (r1, r2)) :
  Calls Tryz.prog 25 #[.string a0] w fun e w' => ∃ v0_ : Value, e = .returned (.tuple #[v0_, .string r2]) ∧ Kd.R k52 52 w' w.heap.size (fun _ => True) v0_ r1 ∧ Below w.heap.size w w' := by
 have hu52 := Tryz.underlying52
 have HB := za.mk (Below.refl w.heap.size w)
 have H : (zt.l0 k a0 ([] : List (S52))) = some (r1, r2) := h
 clear h
 have H' := za.mk H
 clear H
 go_enter Tryz.func25, Tryz.ntmps25
 go_wp2
 (try simp only [Act.put, List.setIfInBounds_toArray, List.set_cons_zero, List.set_cons_succ])
 go_loopg [0, 2] k (fun kq v0 v2 w' => ∃ (x0_1 : ByteArray) (x2_1 : List (S52)), v0 = .string x0_1 ∧ za (zt.l0 kq x0_1 x2_1 = some (r1, r2)) ∧ za (kq ≤ k) ∧ za (Kd.R k52 52 w' w.heap.size (fun _ => True) v2 x2_1) ∧ za (Below w.heap.size w w'))
 case atStart => exact ⟨(a0), (([] : List (S52))), (by rfl), H', ⟨Nat.le_refl _⟩, ⟨by exact Kd.R_nil _ _ _ _ _⟩, ⟨by (with_reducible exact HB.out)⟩⟩
 case round =>
  clear H'
  obtain ⟨x0_1, x2_1, rfl, HA, HK1, HO_2, HB⟩ := hrel
  cases gk with
  | zero => exact absurd HA.out (by simp [zt.l0])
  | succ k1 =>
   have H := HA.out
   clear HA
   simp only [zt.l0] at H
   replace H := Option.bind_eq_some_iff.mp H
   obtain ⟨t185, A20, H⟩ := H
   replace H : (if t185 = 0 then (some (x2_1, x0_1)) else (if 0 ≤ t185 then (if t185 ≤ (x0_1.size : Int) then ((zab.f k1 (x0_1.extract 0 (t185 : Int).toNat)).bind fun bt186 => (if x2_1.length < 2932031007402 then ((some (x2_1 ++ [(⟨x0_1.extract 0 (t185 : Int).toNat, (⟨bt186.1, bt186.2⟩ : S31), (x2_1.length : Int)⟩ : S52)] : List (S52))).bind fun y188 => ((some (x0_1.extract (t185 : Int).toNat x0_1.size : ByteArray)).bind fun y191 => (if y191.toList = ([] : List UInt8) then (some (y188, y191)) else (if 0 < (y191.size : Int) then (if (bt y191 0) = 46 then (if 1 ≤ (y191.size : Int) then (zt.l0 k1 (y191.extract 1 y191.size) y188) else (none)) else (some (y188, y191))) else (none))))) else (none))) else (none)) else (none))) = some (r1, r2) := H
   have A2 := za.mk A20
   clear A20
   by_cases c3 : t185 = 0
   ·rw [if_pos c3] at H
    have c3b0 : (t185 == 0) = true := beq_iff_eq.mpr c3
    have c3b1 : (t185 != 0) = false := bne_eq_false_iff_eq.mpr c3
    clear c3
    simp only [Option.some.injEq, Prod.mk.injEq] at H
    obtain ⟨rfl, rfl⟩ := H
    go_wp2_with (((with_reducible refine zx (f := 39) rfl ?_); refine zdc (some 6) rfl rfl Tryz.func39 (by kernel_rfl) rfl #[.string x0_1, .func (.func 40) #[] #[]] rfl (by (try simp only [List.map_toArray, List.map_cons, List.map_nil]); first | done | rfl | (simp only [List.length_drop, List.length_take]; rfl)) ?_; (with_reducible refine (E1.zpb.calls k1 x0_1 t185 _ A2.out).mono ?_); rintro e w' ⟨rfl, ⟨nd, rfl⟩⟩; refine ⟨_, rfl, ?_⟩))
    go_ret2
    exact ⟨_, by rfl, by (with_reducible repeat (first | apply Kd.R_alloc | apply Kd.R_drewN | apply Kd.R_drew)); exact HO_2.out, by (with_reducible apply zc; with_reducible exact HB.out)⟩
   ·rw [if_neg c3] at H
    have c3b0 : (t185 == 0) = false := beq_eq_false_iff_ne.mpr c3
    have c3b1 : (t185 != 0) = true := bne_iff_ne.mpr c3
    by_cases c4 : 0 ≤ t185
    ·rw [if_pos c4] at H
     have c4b0 := eq_true c4
     have c4b1 : decide (0 ≤ t185) = true := decide_eq_true c4
     clear c4
     by_cases c5 : t185 ≤ (x0_1.size : Int)
     ·rw [if_pos c5] at H
      have c5b0 := eq_true c5
      have c5b1 : decide (t185 ≤ (x0_1.size : Int)) = true := decide_eq_true c5
      clear c5
      have c6b0 := eq_true (of_decide_eq_true (by (with_reducible assumption)) : 0 ≤ t185)
      have c7b0 := eq_true (of_decide_eq_true (by (with_reducible assumption)) : t185 ≤ (x0_1.size : Int))
      replace H := Option.bind_eq_some_iff.mp H
      obtain ⟨⟨t186, t187⟩, A80, H⟩ := H
      replace H : (if x2_1.length < 2932031007402 then ((some (x2_1 ++ [(⟨x0_1.extract 0 (t185 : Int).toNat, (⟨t186, t187⟩ : S31), (x2_1.length : Int)⟩ : S52)] : List (S52))).bind fun y188 => ((some (x0_1.extract (t185 : Int).toNat x0_1.size : ByteArray)).bind fun y191 => (if y191.toList = ([] : List UInt8) then (some (y188, y191)) else (if 0 < (y191.size : Int) then (if (bt y191 0) = 46 then (if 1 ≤ (y191.size : Int) then (zt.l0 k1 (y191.extract 1 y191.size) y188) else (none)) else (some (y188, y191))) else (none))))) else (none)) = some (r1, r2) := H
      have A8 := za.mk A80
      clear A80
      by_cases c9 : x2_1.length < 2932031007402
      ·rw [if_pos c9] at H
       have LMc9 := za.mk c9
       clear c9
       obtain ⟨y188, hy188⟩ : ∃ y_ : List (S52), y_ = (x2_1 ++ [(⟨x0_1.extract 0 (t185 : Int).toNat, (⟨t186, t187⟩ : S31), (x2_1.length : Int)⟩ : S52)]) := ⟨_, rfl⟩
       replace H : ((some (x0_1.extract (t185 : Int).toNat x0_1.size : ByteArray)).bind fun y191 => (if y191.toList = ([] : List UInt8) then (some (y188, y191)) else (if 0 < (y191.size : Int) then (if (bt y191 0) = 46 then (if 1 ≤ (y191.size : Int) then (zt.l0 k1 (y191.extract 1 y191.size) y188) else (none)) else (some (y188, y191))) else (none)))) = some (r1, r2) := by (have H2_ := (Option.bind_some _ _).symm.trans H; rw [hy188]; with_reducible exact H2_)
       have Ny188 := za.mk hy188
       clear hy188
       have c10b0 := eq_true (of_decide_eq_true (by (with_reducible assumption)) : 0 ≤ t185)
       have c11b0 := eq_true (of_decide_eq_true (by (with_reducible assumption)) : t185 ≤ (x0_1.size : Int))
       obtain ⟨y191, hy191⟩ : ∃ y_ : ByteArray, y_ = (x0_1.extract (t185 : Int).toNat x0_1.size) := ⟨_, rfl⟩
       replace H : (if y191.toList = ([] : List UInt8) then (some (y188, y191)) else (if 0 < (y191.size : Int) then (if (bt y191 0) = 46 then (if 1 ≤ (y191.size : Int) then (zt.l0 k1 (y191.extract 1 y191.size) y188) else (none)) else (some (y188, y191))) else (none))) = some (r1, r2) := by (have H2_ := (Option.bind_some _ _).symm.trans H; rw [hy191]; with_reducible exact H2_)
       have Ny191 := za.mk hy191
       clear hy191
       by_cases c12 : y191.toList = ([] : List UInt8)
       ·rw [if_pos c12] at H
        have c12b0 : (y191.toList == ([] : List UInt8)) = true := beq_iff_eq.mpr c12
        have c12b1 : (y191.toList != ([] : List UInt8)) = false := bne_eq_false_iff_eq.mpr c12
        try have c12b9 : y191.toList.isEmpty = true := by simpa using c12b0
        clear c12
        simp only [Option.some.injEq, Prod.mk.injEq] at H
        obtain ⟨rfl, rfl⟩ := H
        try go_wp2_with (((with_reducible refine zx (f := 39) rfl ?_); refine zdc (some 6) rfl rfl Tryz.func39 (by kernel_rfl) rfl #[.string x0_1, .func (.func 40) #[] #[]] rfl (by (try simp only [List.map_toArray, List.map_cons, List.map_nil]); first | done | rfl | (simp only [List.length_drop, List.length_take]; rfl)) ?_; (with_reducible refine (E1.zpb.calls k1 x0_1 t185 _ A2.out).mono ?_); rintro e w' ⟨rfl, ⟨nd, rfl⟩⟩; refine ⟨_, rfl, ?_⟩))
        (try (rw [zre wr]; generalize hq_ : World.drewN wr _ = wr; have n0_ : za (Kd.R k52 52 wr w.heap.size (fun _ => True) u2 x2_1) := ⟨by rw [← hq_]; exact (by (with_reducible repeat (first | apply Kd.R_alloc | apply Kd.R_drewN | apply Kd.R_drew)); exact HO_2.out)⟩; have n1_ : za (Below w.heap.size w wr) := ⟨by rw [← hq_]; exact (by (with_reducible apply zc; with_reducible exact HB.out))⟩; clear HO_2 HB hq_; have HO_2 := n0_; have HB := n1_; clear n0_ n1_))
        replace HO_2 := za.mk (Kd.R_drew HO_2.out)
        replace HB := za.mk (zz HB.out)
        obtain ⟨Ao14, co14, eo14⟩ := Kd.R_slice HO_2.out
        (first | subst eo14 | (injection eo14 with f1_ f2_ f3_; have f4_ := f1_.symm; have f5_ := f3_.symm; clear f1_ f2_ f3_; subst f4_; subst f5_))
        refine zeh (n := 14) (S := fun w' => True) (ds := []) #[false, false, false, false, false, false, false, false, false, false, false, false, false, false] (by kernel_rfl) rfl rfl trivial (fun hHeld => ?_); refine zmg zt.tab4 zt.bits4 (fun HT_ HW_ => ?_)
        generalize wr.drew = w13 at HO_2 HB hHeld ⊢
        refine pure_ (i := 0) (N := some 11) (v := ?_) (a' := ?_) #[true, false, false, false, false, false, false, false, false, false, false, false, false, false] rfl rfl (zkc HT_.out (by kernel_rfl)) (fun _ _ _ h => h) (Or.inl ⟨by rfl, ?_⟩) ?_ ?_
        rotate_left
        ·intro w'
         go_simp
         with_reducible rfl
        rotate_left
        ·simp only [Act.put, List.setIfInBounds_toArray, List.set_cons_zero, List.set_cons_succ, i64_w, i32_w]
         rfl
        refine pure_ (i := 1) (N := some 12) (v := ?_) (a' := ?_) #[true, true, false, false, false, false, false, false, false, false, false, false, false, false] rfl rfl (zkc HT_.out (by kernel_rfl)) (fun _ _ _ h => h) (Or.inl ⟨by rfl, ?_⟩) ?_ ?_
        rotate_left
        ·intro w'
         go_simp
         with_reducible rfl
        rotate_left
        ·simp only [Act.put, List.setIfInBounds_toArray, List.set_cons_zero, List.set_cons_succ, i64_w, i32_w]
         rfl
        refine pure_ (i := 2) (N := some 13) (v := ?_) (a' := ?_) #[true, true, true, false, false, false, false, false, false, false, false, false, false, false] rfl rfl (zkc HT_.out (by kernel_rfl)) (fun _ _ _ h => h) (Or.inl ⟨by rfl, ?_⟩) ?_ ?_
        rotate_left
        ·intro w'
         go_simp
         with_reducible rfl
        rotate_left
        ·simp only [Act.put, List.setIfInBounds_toArray, List.set_cons_zero, List.set_cons_succ, i64_w, i32_w]
         rfl
        refine pure_ (i := 3) (N := some 14) (v := ?_) (a' := ?_) #[true, true, true, true, false, false, false, false, false, false, false, false, false, false] rfl rfl (zkc HT_.out (by kernel_rfl)) (fun _ _ _ h => h) (Or.inl ⟨by rfl, ?_⟩) ?_ ?_
        rotate_left
        ·intro w'
         go_simp
         with_reducible rfl
        rotate_left
        ·simp only [Act.put, List.setIfInBounds_toArray, List.set_cons_zero, List.set_cons_succ, i64_w, i32_w]
         rfl
        refine pure_ (i := 4) (N := some 15) (v := ?_) (a' := ?_) #[true, true, true, true, true, false, false, false, false, false, false, false, false, false] rfl rfl (zkc HT_.out (by kernel_rfl)) (fun _ _ _ h => h) (Or.inl ⟨by rfl, ?_⟩) ?_ ?_
        rotate_left
        ·intro w'
         go_simp
         with_reducible rfl
        rotate_left
        ·simp only [Act.put, List.setIfInBounds_toArray, List.set_cons_zero, List.set_cons_succ, i64_w, i32_w]
         rfl
        refine pure_ (i := 5) (N := some 16) (v := ?_) (a' := ?_) #[true, true, true, true, true, true, false, false, false, false, false, false, false, false] rfl rfl (zkc HT_.out (by kernel_rfl)) (fun _ _ _ h => h) (Or.inl ⟨by rfl, ?_⟩) ?_ ?_
        rotate_left
        ·intro w'
         go_simp
         with_reducible rfl
        rotate_left
        ·simp only [Act.put, List.setIfInBounds_toArray, List.set_cons_zero, List.set_cons_succ, i64_w, i32_w]
         rfl
        refine pure_ (i := 6) (N := some 17) (v := ?_) (a' := ?_) #[true, true, true, true, true, true, true, false, false, false, false, false, false, false] rfl rfl (zkc HT_.out (by kernel_rfl)) (fun _ _ _ h => h) (Or.inl ⟨by rfl, ?_⟩) ?_ ?_
        rotate_left
        ·intro w'
         go_simp
         with_reducible rfl
        rotate_left
        ·simp only [Act.put, List.setIfInBounds_toArray, List.set_cons_zero, List.set_cons_succ, i64_w, i32_w]
         rfl
        refine pure_ (i := 8) (N := some 19) (v := ?_) (a' := ?_) #[true, true, true, true, true, true, true, false, true, false, false, false, false, false] rfl rfl (zkc HT_.out (by kernel_rfl)) (fun _ _ _ h => h) (Or.inl ⟨by rfl, ?_⟩) ?_ ?_
        rotate_left
        ·intro w'
         go_simp
         with_reducible rfl
        rotate_left
        ·simp only [Act.put, List.setIfInBounds_toArray, List.set_cons_zero, List.set_cons_succ, i64_w, i32_w]
         rfl
        refine pure_ (i := 9) (N := some 20) (v := ?_) (a' := ?_) #[true, true, true, true, true, true, true, false, true, true, false, false, false, false] rfl rfl (zkc HT_.out (by kernel_rfl)) (fun _ _ _ h => h) (Or.inl ⟨by rfl, ?_⟩) ?_ ?_
        rotate_left
        ·intro w'
         go_simp
         with_reducible rfl
        rotate_left
        ·simp only [Act.put, List.setIfInBounds_toArray, List.set_cons_zero, List.set_cons_succ, i64_w, i32_w]
         rfl
        refine one_ (i := 7) (N := some 18) #[true, true, true, true, true, true, true, true, true, true, false, false, false, false] rfl rfl (zje HT_.out (by kernel_rfl)) (by decide) (fun K hK => ?_)
        refine goes_ Tryz.func41 (by kernel_rfl) rfl #[.string (x0_1.extract 0 (t185 : Int).toNat)] (by rfl) rfl rfl (by (try simp only [List.map_toArray, List.map_cons, List.map_nil]); first | done | rfl | (simp only [List.length_drop, List.length_take]; rfl)) ?_
        with_reducible refine (zab.calls k1 (x0_1.extract 0 (t185 : Int).toNat) t186 t187 _ A8.out).mono ?_
        rintro e w15 ⟨rfl, hb⟩
        refine ⟨_, rfl, ?_⟩
        replace HO_2 := za.mk (Kd.R_below (by (with_reducible repeat (first | apply Kd.R_alloc | apply Kd.R_drewN | apply Kd.R_drew)); exact HO_2.out) hb)
        replace HB := za.mk (zm (by (with_reducible exact HB.out)) hb)
        (try clear hb)
        (try clear hb2)
        (try clear hk)
        (try clear hi)
        refine hK.out _ _ trivial (fun hHeld => ?_)
        clear hK K
        refine norm_ (a' := ?_) ?_ ?_
        rotate_left
        ·show Act.put _ (some 18) _ = _
         simp only [Act.put, List.setIfInBounds_toArray, List.set_cons_zero, List.set_cons_succ, i64_w, i32_w]
         rfl
        refine pure_ (i := 10) (N := some 21) (v := ?_) (a' := ?_) #[true, true, true, true, true, true, true, true, true, true, true, false, false, false] rfl rfl (zkc HT_.out (by kernel_rfl)) (fun _ _ _ h => h) (Or.inl ⟨by rfl, ?_⟩) ?_ ?_
        rotate_left
        ·intro w'
         go_simp
         with_reducible rfl
        rotate_left
        ·simp only [Act.put, List.setIfInBounds_toArray, List.set_cons_zero, List.set_cons_succ, i64_w, i32_w]
         rfl
        refine one_ (i := 11) (N := some 22) #[true, true, true, true, true, true, true, true, true, true, true, true, false, false] rfl rfl (zje HT_.out (by kernel_rfl)) (by decide) (fun K hK => ?_)
        refine value_ (w1 := ?_) (v := ?_) (by rfl) rfl ?_ ?_
        rotate_left 2
        ·go_simp
         constructor
         ·rfl
         ·rfl
        refine hK.out _ _ trivial (fun hHeld => ?_)
        clear hK K
        refine norm_ (a' := ?_) ?_ ?_
        rotate_left
        ·show Act.put _ (some 22) _ = _
         simp only [Act.put, List.setIfInBounds_toArray, List.set_cons_zero, List.set_cons_succ, i64_w, i32_w]
         rfl
        refine one_ (i := 12) (N := some 23) #[true, true, true, true, true, true, true, true, true, true, true, true, true, false] rfl rfl (zje HT_.out (by kernel_rfl)) (by decide) (fun K hK => ?_)
        refine Kd.R_append_step k52 (w0 := w) w.heap.size (by rfl) (.tmp 11) (.tmp 22) 28 52 (.agg #[(.string ⟨#[]⟩), (.bool false), (.string ⟨#[]⟩), (.int .i64 0)]) 48 rfl Tryz.underlying28 info52 rfl (by decide) (by omega) (.slice Ao14 x2_1.length co14) x2_1 (⟨x0_1.extract 0 (t185 : Int).toNat, (⟨t186, t187⟩ : S31), (x2_1.length : Int)⟩ : S52) [.string (x0_1.extract 0 (t185 : Int).toNat), .bool t186, .string t187, .int .i64 (x2_1.length : Int)] (fun _ => True) (fun _ => False) rfl rfl ?aP (fun _ hk => hk.elim) ?aF ?aO ?aB ?aS ?aL ?_
        (case aP => exact k52_mkM _ _ _ (⟨x0_1.extract 0 (t185 : Int).toNat, (⟨t186, t187⟩ : S31), (x2_1.length : Int)⟩ : S52))
        (case aB => exact (by (with_reducible exact HB.out)))
        (case aF => exact (fun _ _ => trivial))
        (case aO => exact (by (with_reducible repeat (first | apply Kd.R_alloc | apply Kd.R_drewN | apply Kd.R_drew)); exact HO_2.out))
        (case aS => exact (zl (by (with_reducible exact HB.out))))
        (case aL => have := LMc9.out; omega)
        intro v189 w16 ho hb hg hat
        rw [← Ny188.out] at ho
        have HO190 := za.mk ho
        replace HB := za.mk hb
        clear HO_2
        clear ho hb hg hat
        refine hK.out _ _ trivial (fun hHeld => ?_)
        clear hK K
        refine norm_ (a' := ?_) ?_ ?_
        rotate_left
        ·show Act.put _ (some 23) _ = _
         simp only [Act.put, List.setIfInBounds_toArray, List.set_cons_zero, List.set_cons_succ, i64_w, i32_w]
         rfl
        refine pure_ (i := 13) (N := some 2) (v := ?_) (a' := ?_) #[true, true, true, true, true, true, true, true, true, true, true, true, true, true] rfl rfl (zkc HT_.out (by kernel_rfl)) (fun _ _ _ h => h) (Or.inl ⟨by rfl, ?_⟩) ?_ ?_
        rotate_left
        ·intro w'
         go_simp
         with_reducible rfl
        rotate_left
        ·simp only [Act.put, List.setIfInBounds_toArray, List.set_cons_zero, List.set_cons_succ, i64_w, i32_w]
         rfl
        refine done_ (done_of HT_.out (by kernel_rfl)) ?_
        try go_wp2_with (((with_reducible refine zmb (N := 26) rfl ?_); refine zxd ?hg (N := 26) ?hd (v := .string (x0_1.extract (t185 : Int).toNat x0_1.size)) (v' := .string y191) ?hr (congrArg Value.string Ny191.out.symm) ?_; (case hd => rfl); (case hg => rfl); (case hr => first | (go_simp; done) | (go_simp; rfl))))
        go_ret2
        exact ⟨_, by rfl, by (with_reducible repeat (first | apply Kd.R_alloc | apply Kd.R_drewN | apply Kd.R_drew)); exact HO190.out, by (with_reducible exact HB.out)⟩
       ·rw [if_neg c12] at H
        have c12b0 : (y191.toList == ([] : List UInt8)) = false := beq_eq_false_iff_ne.mpr c12
        have c12b1 : (y191.toList != ([] : List UInt8)) = true := bne_iff_ne.mpr c12
        try have c12b9 : y191.toList.isEmpty = false := by simpa using c12b0
        by_cases c17 : 0 < (y191.size : Int)
        ·rw [if_pos c17] at H
         have c17b0 : decide (0 < (y191.size : Int)) = true := decide_eq_true c17
         have c17b1 : decide (0 < y191.size) = true := decide_eq_true (by omega)
         clear c17
         by_cases c19 : (bt y191 0) = 46
         ·rw [if_pos c19] at H
          have c19b0 : ((bt y191 0) == 46) = true := beq_iff_eq.mpr c19
          have c19b1 : ((bt y191 0) != 46) = false := bne_eq_false_iff_eq.mpr c19
          clear c19
          by_cases c20 : 1 ≤ (y191.size : Int)
          ·rw [if_pos c20] at H
           have c20b0 := eq_true c20
           have c20b1 : decide (1 ≤ (y191.size : Int)) = true := decide_eq_true c20
           clear c20
           obtain ⟨y192, hy192⟩ : ∃ y_ : ByteArray, y_ = (y191.extract 1 y191.size) := ⟨_, rfl⟩
           replace H : (zt.l0 k1 y192 y188) = some (r1, r2) := by (rw [hy192]; with_reducible exact H)
           have Ny192 := za.mk hy192
           clear hy192
           have H' := za.mk H
           clear H
           try go_wp2_with (((with_reducible refine zx (f := 39) rfl ?_); refine zdc (some 6) rfl rfl Tryz.func39 (by kernel_rfl) rfl #[.string x0_1, .func (.func 40) #[] #[]] rfl (by (try simp only [List.map_toArray, List.map_cons, List.map_nil]); first | done | rfl | (simp only [List.length_drop, List.length_take]; rfl)) ?_; (with_reducible refine (E1.zpb.calls k1 x0_1 t185 _ A2.out).mono ?_); rintro e w' ⟨rfl, ⟨nd, rfl⟩⟩; refine ⟨_, rfl, ?_⟩))
           (try (rw [zre wr]; generalize hq_ : World.drewN wr _ = wr; have n0_ : za (Kd.R k52 52 wr w.heap.size (fun _ => True) u2 x2_1) := ⟨by rw [← hq_]; exact (by (with_reducible repeat (first | apply Kd.R_alloc | apply Kd.R_drewN | apply Kd.R_drew)); exact HO_2.out)⟩; have n1_ : za (Below w.heap.size w wr) := ⟨by rw [← hq_]; exact (by (with_reducible apply zc; with_reducible exact HB.out))⟩; clear HO_2 HB hq_; have HO_2 := n0_; have HB := n1_; clear n0_ n1_))
           replace HO_2 := za.mk (Kd.R_drew HO_2.out)
           replace HB := za.mk (zz HB.out)
           obtain ⟨Ao22, co22, eo22⟩ := Kd.R_slice HO_2.out
           (first | subst eo22 | (injection eo22 with f1_ f2_ f3_; have f4_ := f1_.symm; have f5_ := f3_.symm; clear f1_ f2_ f3_; subst f4_; subst f5_))
           refine zeh (n := 14) (S := fun w' => True) (ds := []) #[false, false, false, false, false, false, false, false, false, false, false, false, false, false] (by kernel_rfl) rfl rfl trivial (fun hHeld => ?_); refine zmg zt.tab4 zt.bits4 (fun HT_ HW_ => ?_)
           generalize wr.drew = w21 at HO_2 HB hHeld ⊢
           refine pure_ (i := 0) (N := some 11) (v := ?_) (a' := ?_) #[true, false, false, false, false, false, false, false, false, false, false, false, false, false] rfl rfl (zkc HT_.out (by kernel_rfl)) (fun _ _ _ h => h) (Or.inl ⟨by rfl, ?_⟩) ?_ ?_
           rotate_left
           ·intro w'
            go_simp
            with_reducible rfl
           rotate_left
           ·simp only [Act.put, List.setIfInBounds_toArray, List.set_cons_zero, List.set_cons_succ, i64_w, i32_w]
            rfl
           refine pure_ (i := 1) (N := some 12) (v := ?_) (a' := ?_) #[true, true, false, false, false, false, false, false, false, false, false, false, false, false] rfl rfl (zkc HT_.out (by kernel_rfl)) (fun _ _ _ h => h) (Or.inl ⟨by rfl, ?_⟩) ?_ ?_
           rotate_left
           ·intro w'
            go_simp
            with_reducible rfl
           rotate_left
           ·simp only [Act.put, List.setIfInBounds_toArray, List.set_cons_zero, List.set_cons_succ, i64_w, i32_w]
            rfl
           refine pure_ (i := 2) (N := some 13) (v := ?_) (a' := ?_) #[true, true, true, false, false, false, false, false, false, false, false, false, false, false] rfl rfl (zkc HT_.out (by kernel_rfl)) (fun _ _ _ h => h) (Or.inl ⟨by rfl, ?_⟩) ?_ ?_
           rotate_left
           ·intro w'
            go_simp
            with_reducible rfl
           rotate_left
           ·simp only [Act.put, List.setIfInBounds_toArray, List.set_cons_zero, List.set_cons_succ, i64_w, i32_w]
            rfl
           refine pure_ (i := 3) (N := some 14) (v := ?_) (a' := ?_) #[true, true, true, true, false, false, false, false, false, false, false, false, false, false] rfl rfl (zkc HT_.out (by kernel_rfl)) (fun _ _ _ h => h) (Or.inl ⟨by rfl, ?_⟩) ?_ ?_
           rotate_left
           ·intro w'
            go_simp
            with_reducible rfl
           rotate_left
           ·simp only [Act.put, List.setIfInBounds_toArray, List.set_cons_zero, List.set_cons_succ, i64_w, i32_w]
            rfl
           refine pure_ (i := 4) (N := some 15) (v := ?_) (a' := ?_) #[true, true, true, true, true, false, false, false, false, false, false, false, false, false] rfl rfl (zkc HT_.out (by kernel_rfl)) (fun _ _ _ h => h) (Or.inl ⟨by rfl, ?_⟩) ?_ ?_
           rotate_left
           ·intro w'
            go_simp
            with_reducible rfl
           rotate_left
           ·simp only [Act.put, List.setIfInBounds_toArray, List.set_cons_zero, List.set_cons_succ, i64_w, i32_w]
            rfl
           refine pure_ (i := 5) (N := some 16) (v := ?_) (a' := ?_) #[true, true, true, true, true, true, false, false, false, false, false, false, false, false] rfl rfl (zkc HT_.out (by kernel_rfl)) (fun _ _ _ h => h) (Or.inl ⟨by rfl, ?_⟩) ?_ ?_
           rotate_left
           ·intro w'
            go_simp
            with_reducible rfl
           rotate_left
           ·simp only [Act.put, List.setIfInBounds_toArray, List.set_cons_zero, List.set_cons_succ, i64_w, i32_w]
            rfl
           refine pure_ (i := 6) (N := some 17) (v := ?_) (a' := ?_) #[true, true, true, true, true, true, true, false, false, false, false, false, false, false] rfl rfl (zkc HT_.out (by kernel_rfl)) (fun _ _ _ h => h) (Or.inl ⟨by rfl, ?_⟩) ?_ ?_
           rotate_left
           ·intro w'
            go_simp
            with_reducible rfl
           rotate_left
           ·simp only [Act.put, List.setIfInBounds_toArray, List.set_cons_zero, List.set_cons_succ, i64_w, i32_w]
            rfl
           refine pure_ (i := 8) (N := some 19) (v := ?_) (a' := ?_) #[true, true, true, true, true, true, true, false, true, false, false, false, false, false] rfl rfl (zkc HT_.out (by kernel_rfl)) (fun _ _ _ h => h) (Or.inl ⟨by rfl, ?_⟩) ?_ ?_
           rotate_left
           ·intro w'
            go_simp
            with_reducible rfl
           rotate_left
           ·simp only [Act.put, List.setIfInBounds_toArray, List.set_cons_zero, List.set_cons_succ, i64_w, i32_w]
            rfl
           refine pure_ (i := 9) (N := some 20) (v := ?_) (a' := ?_) #[true, true, true, true, true, true, true, false, true, true, false, false, false, false] rfl rfl (zkc HT_.out (by kernel_rfl)) (fun _ _ _ h => h) (Or.inl ⟨by rfl, ?_⟩) ?_ ?_
           rotate_left
           ·intro w'
            go_simp
            with_reducible rfl
           rotate_left
           ·simp only [Act.put, List.setIfInBounds_toArray, List.set_cons_zero, List.set_cons_succ, i64_w, i32_w]
            rfl
           refine one_ (i := 7) (N := some 18) #[true, true, true, true, true, true, true, true, true, true, false, false, false, false] rfl rfl (zje HT_.out (by kernel_rfl)) (by decide) (fun K hK => ?_)
           refine goes_ Tryz.func41 (by kernel_rfl) rfl #[.string (x0_1.extract 0 (t185 : Int).toNat)] (by rfl) rfl rfl (by (try simp only [List.map_toArray, List.map_cons, List.map_nil]); first | done | rfl | (simp only [List.length_drop, List.length_take]; rfl)) ?_
           with_reducible refine (zab.calls k1 (x0_1.extract 0 (t185 : Int).toNat) t186 t187 _ A8.out).mono ?_
           rintro e w23 ⟨rfl, hb⟩
           refine ⟨_, rfl, ?_⟩
           replace HO_2 := za.mk (Kd.R_below (by (with_reducible repeat (first | apply Kd.R_alloc | apply Kd.R_drewN | apply Kd.R_drew)); exact HO_2.out) hb)
           replace HB := za.mk (zm (by (with_reducible exact HB.out)) hb)
           (try clear hb)
           (try clear hb2)
           (try clear hk)
           (try clear hi)
           refine hK.out _ _ trivial (fun hHeld => ?_)
           clear hK K
           refine norm_ (a' := ?_) ?_ ?_
           rotate_left
           ·show Act.put _ (some 18) _ = _
            simp only [Act.put, List.setIfInBounds_toArray, List.set_cons_zero, List.set_cons_succ, i64_w, i32_w]
            rfl
           refine pure_ (i := 10) (N := some 21) (v := ?_) (a' := ?_) #[true, true, true, true, true, true, true, true, true, true, true, false, false, false] rfl rfl (zkc HT_.out (by kernel_rfl)) (fun _ _ _ h => h) (Or.inl ⟨by rfl, ?_⟩) ?_ ?_
           rotate_left
           ·intro w'
            go_simp
            with_reducible rfl
           rotate_left
           ·simp only [Act.put, List.setIfInBounds_toArray, List.set_cons_zero, List.set_cons_succ, i64_w, i32_w]
            rfl
           refine one_ (i := 11) (N := some 22) #[true, true, true, true, true, true, true, true, true, true, true, true, false, false] rfl rfl (zje HT_.out (by kernel_rfl)) (by decide) (fun K hK => ?_)
           refine value_ (w1 := ?_) (v := ?_) (by rfl) rfl ?_ ?_
           rotate_left 2
           ·go_simp
            constructor
            ·rfl
            ·rfl
           refine hK.out _ _ trivial (fun hHeld => ?_)
           clear hK K
           refine norm_ (a' := ?_) ?_ ?_
           rotate_left
           ·show Act.put _ (some 22) _ = _
            simp only [Act.put, List.setIfInBounds_toArray, List.set_cons_zero, List.set_cons_succ, i64_w, i32_w]
            rfl
           refine one_ (i := 12) (N := some 23) #[true, true, true, true, true, true, true, true, true, true, true, true, true, false] rfl rfl (zje HT_.out (by kernel_rfl)) (by decide) (fun K hK => ?_)
           refine Kd.R_append_step k52 (w0 := w) w.heap.size (by rfl) (.tmp 11) (.tmp 22) 28 52 (.agg #[(.string ⟨#[]⟩), (.bool false), (.string ⟨#[]⟩), (.int .i64 0)]) 48 rfl Tryz.underlying28 info52 rfl (by decide) (by omega) (.slice Ao22 x2_1.length co22) x2_1 (⟨x0_1.extract 0 (t185 : Int).toNat, (⟨t186, t187⟩ : S31), (x2_1.length : Int)⟩ : S52) [.string (x0_1.extract 0 (t185 : Int).toNat), .bool t186, .string t187, .int .i64 (x2_1.length : Int)] (fun _ => True) (fun _ => False) rfl rfl ?aP (fun _ hk => hk.elim) ?aF ?aO ?aB ?aS ?aL ?_
           (case aP => exact k52_mkM _ _ _ (⟨x0_1.extract 0 (t185 : Int).toNat, (⟨t186, t187⟩ : S31), (x2_1.length : Int)⟩ : S52))
           (case aB => exact (by (with_reducible exact HB.out)))
           (case aF => exact (fun _ _ => trivial))
           (case aO => exact (by (with_reducible repeat (first | apply Kd.R_alloc | apply Kd.R_drewN | apply Kd.R_drew)); exact HO_2.out))
           (case aS => exact (zl (by (with_reducible exact HB.out))))
           (case aL => have := LMc9.out; omega)
           intro v189 w24 ho hb hg hat
           rw [← Ny188.out] at ho
           have HO190 := za.mk ho
           replace HB := za.mk hb
           clear HO_2
           clear ho hb hg hat
           refine hK.out _ _ trivial (fun hHeld => ?_)
           clear hK K
           refine norm_ (a' := ?_) ?_ ?_
           rotate_left
           ·show Act.put _ (some 23) _ = _
            simp only [Act.put, List.setIfInBounds_toArray, List.set_cons_zero, List.set_cons_succ, i64_w, i32_w]
            rfl
           refine pure_ (i := 13) (N := some 2) (v := ?_) (a' := ?_) #[true, true, true, true, true, true, true, true, true, true, true, true, true, true] rfl rfl (zkc HT_.out (by kernel_rfl)) (fun _ _ _ h => h) (Or.inl ⟨by rfl, ?_⟩) ?_ ?_
           rotate_left
           ·intro w'
            go_simp
            with_reducible rfl
           rotate_left
           ·simp only [Act.put, List.setIfInBounds_toArray, List.set_cons_zero, List.set_cons_succ, i64_w, i32_w]
            rfl
           refine done_ (done_of HT_.out (by kernel_rfl)) ?_
           try go_wp2_with (first | ((with_reducible refine zmb (N := 26) rfl ?_); refine zxd ?hg (N := 26) ?hd (v := .string (x0_1.extract (t185 : Int).toNat x0_1.size)) (v' := .string y191) ?hr (congrArg Value.string Ny191.out.symm) ?_; (case hd => rfl); (case hg => rfl); (case hr => first | (go_simp; done) | (go_simp; rfl)); have p18 : 0 ≤ (0 : Int) := (by omega); have q18 : 0 < y191.size := (by have : (0 : Int) < (y191.size : Int) := of_decide_eq_true (by (with_reducible assumption)); omega); have hx18 : ∀ h : 0 < y191.size, ((y191[0]'h).toNat : Int) = bt y191 0 := bt_at y191 0; clear p18; have qi18 : (0 < (y191.size : Int)) = True := eq_true (of_decide_eq_true (by (with_reducible assumption))); replace q18 := eq_true q18) | ((with_reducible refine zmb (N := 37) rfl ?_); refine zxd ?hg (N := 37) ?hd (v := .string (y191.extract 1 y191.size)) (v' := .string y192) ?hr (congrArg Value.string Ny192.out.symm) ?_; (case hd => rfl); (case hg => rfl); (case hr => first | (go_simp; done) | (go_simp; rfl))))
           go_roundg k1
           case measure => have := HK1.out; omega
           case rel => exact ⟨(y192), (y188), (by rfl), H', ⟨by have := HK1.out; omega⟩, ⟨by (with_reducible repeat (first | apply Kd.R_alloc | apply Kd.R_drewN | apply Kd.R_drew)); exact HO190.out⟩, ⟨by (with_reducible exact HB.out)⟩⟩
          ·rw [if_neg c20] at H
           exact absurd H (by simp)
         ·rw [if_neg c19] at H
          have c19b0 : ((bt y191 0) == 46) = false := beq_eq_false_iff_ne.mpr c19
          have c19b1 : ((bt y191 0) != 46) = true := bne_iff_ne.mpr c19
          simp only [Option.some.injEq, Prod.mk.injEq] at H
          obtain ⟨rfl, rfl⟩ := H
          try go_wp2_with (((with_reducible refine zx (f := 39) rfl ?_); refine zdc (some 6) rfl rfl Tryz.func39 (by kernel_rfl) rfl #[.string x0_1, .func (.func 40) #[] #[]] rfl (by (try simp only [List.map_toArray, List.map_cons, List.map_nil]); first | done | rfl | (simp only [List.length_drop, List.length_take]; rfl)) ?_; (with_reducible refine (E1.zpb.calls k1 x0_1 t185 _ A2.out).mono ?_); rintro e w' ⟨rfl, ⟨nd, rfl⟩⟩; refine ⟨_, rfl, ?_⟩))
          (try (rw [zre wr]; generalize hq_ : World.drewN wr _ = wr; have n0_ : za (Kd.R k52 52 wr w.heap.size (fun _ => True) u2 x2_1) := ⟨by rw [← hq_]; exact (by (with_reducible repeat (first | apply Kd.R_alloc | apply Kd.R_drewN | apply Kd.R_drew)); exact HO_2.out)⟩; have n1_ : za (Below w.heap.size w wr) := ⟨by rw [← hq_]; exact (by (with_reducible apply zc; with_reducible exact HB.out))⟩; clear HO_2 HB hq_; have HO_2 := n0_; have HB := n1_; clear n0_ n1_))
          replace HO_2 := za.mk (Kd.R_drew HO_2.out)
          replace HB := za.mk (zz HB.out)
          obtain ⟨Ao26, co26, eo26⟩ := Kd.R_slice HO_2.out
          (first | subst eo26 | (injection eo26 with f1_ f2_ f3_; have f4_ := f1_.symm; have f5_ := f3_.symm; clear f1_ f2_ f3_; subst f4_; subst f5_))
          refine zeh (n := 14) (S := fun w' => True) (ds := []) #[false, false, false, false, false, false, false, false, false, false, false, false, false, false] (by kernel_rfl) rfl rfl trivial (fun hHeld => ?_); refine zmg zt.tab4 zt.bits4 (fun HT_ HW_ => ?_)
          generalize wr.drew = w25 at HO_2 HB hHeld ⊢
          refine pure_ (i := 0) (N := some 11) (v := ?_) (a' := ?_) #[true, false, false, false, false, false, false, false, false, false, false, false, false, false] rfl rfl (zkc HT_.out (by kernel_rfl)) (fun _ _ _ h => h) (Or.inl ⟨by rfl, ?_⟩) ?_ ?_
          rotate_left
          ·intro w'
           go_simp
           with_reducible rfl
          rotate_left
          ·simp only [Act.put, List.setIfInBounds_toArray, List.set_cons_zero, List.set_cons_succ, i64_w, i32_w]
           rfl
          refine pure_ (i := 1) (N := some 12) (v := ?_) (a' := ?_) #[true, true, false, false, false, false, false, false, false, false, false, false, false, false] rfl rfl (zkc HT_.out (by kernel_rfl)) (fun _ _ _ h => h) (Or.inl ⟨by rfl, ?_⟩) ?_ ?_
          rotate_left
          ·intro w'
           go_simp
           with_reducible rfl
          rotate_left
          ·simp only [Act.put, List.setIfInBounds_toArray, List.set_cons_zero, List.set_cons_succ, i64_w, i32_w]
           rfl
          refine pure_ (i := 2) (N := some 13) (v := ?_) (a' := ?_) #[true, true, true, false, false, false, false, false, false, false, false, false, false, false] rfl rfl (zkc HT_.out (by kernel_rfl)) (fun _ _ _ h => h) (Or.inl ⟨by rfl, ?_⟩) ?_ ?_
          rotate_left
          ·intro w'
           go_simp
           with_reducible rfl
          rotate_left
          ·simp only [Act.put, List.setIfInBounds_toArray, List.set_cons_zero, List.set_cons_succ, i64_w, i32_w]
           rfl
          refine pure_ (i := 3) (N := some 14) (v := ?_) (a' := ?_) #[true, true, true, true, false, false, false, false, false, false, false, false, false, false] rfl rfl (zkc HT_.out (by kernel_rfl)) (fun _ _ _ h => h) (Or.inl ⟨by rfl, ?_⟩) ?_ ?_
          rotate_left
          ·intro w'
           go_simp
           with_reducible rfl
          rotate_left
          ·simp only [Act.put, List.setIfInBounds_toArray, List.set_cons_zero, List.set_cons_succ, i64_w, i32_w]
           rfl
          refine pure_ (i := 4) (N := some 15) (v := ?_) (a' := ?_) #[true, true, true, true, true, false, false, false, false, false, false, false, false, false] rfl rfl (zkc HT_.out (by kernel_rfl)) (fun _ _ _ h => h) (Or.inl ⟨by rfl, ?_⟩) ?_ ?_
          rotate_left
          ·intro w'
           go_simp
           with_reducible rfl
          rotate_left
          ·simp only [Act.put, List.setIfInBounds_toArray, List.set_cons_zero, List.set_cons_succ, i64_w, i32_w]
           rfl
          refine pure_ (i := 5) (N := some 16) (v := ?_) (a' := ?_) #[true, true, true, true, true, true, false, false, false, false, false, false, false, false] rfl rfl (zkc HT_.out (by kernel_rfl)) (fun _ _ _ h => h) (Or.inl ⟨by rfl, ?_⟩) ?_ ?_
          rotate_left
          ·intro w'
           go_simp
           with_reducible rfl
          rotate_left
          ·simp only [Act.put, List.setIfInBounds_toArray, List.set_cons_zero, List.set_cons_succ, i64_w, i32_w]
           rfl
          refine pure_ (i := 6) (N := some 17) (v := ?_) (a' := ?_) #[true, true, true, true, true, true, true, false, false, false, false, false, false, false] rfl rfl (zkc HT_.out (by kernel_rfl)) (fun _ _ _ h => h) (Or.inl ⟨by rfl, ?_⟩) ?_ ?_
          rotate_left
          ·intro w'
           go_simp
           with_reducible rfl
          rotate_left
          ·simp only [Act.put, List.setIfInBounds_toArray, List.set_cons_zero, List.set_cons_succ, i64_w, i32_w]
           rfl
          refine pure_ (i := 8) (N := some 19) (v := ?_) (a' := ?_) #[true, true, true, true, true, true, true, false, true, false, false, false, false, false] rfl rfl (zkc HT_.out (by kernel_rfl)) (fun _ _ _ h => h) (Or.inl ⟨by rfl, ?_⟩) ?_ ?_
          rotate_left
          ·intro w'
           go_simp
           with_reducible rfl
          rotate_left
          ·simp only [Act.put, List.setIfInBounds_toArray, List.set_cons_zero, List.set_cons_succ, i64_w, i32_w]
           rfl
          refine pure_ (i := 9) (N := some 20) (v := ?_) (a' := ?_) #[true, true, true, true, true, true, true, false, true, true, false, false, false, false] rfl rfl (zkc HT_.out (by kernel_rfl)) (fun _ _ _ h => h) (Or.inl ⟨by rfl, ?_⟩) ?_ ?_
          rotate_left
          ·intro w'
           go_simp
           with_reducible rfl
          rotate_left
          ·simp only [Act.put, List.setIfInBounds_toArray, List.set_cons_zero, List.set_cons_succ, i64_w, i32_w]
           rfl
          refine one_ (i := 7) (N := some 18) #[true, true, true, true, true, true, true, true, true, true, false, false, false, false] rfl rfl (zje HT_.out (by kernel_rfl)) (by decide) (fun K hK => ?_)
          refine goes_ Tryz.func41 (by kernel_rfl) rfl #[.string (x0_1.extract 0 (t185 : Int).toNat)] (by rfl) rfl rfl (by (try simp only [List.map_toArray, List.map_cons, List.map_nil]); first | done | rfl | (simp only [List.length_drop, List.length_take]; rfl)) ?_
          with_reducible refine (zab.calls k1 (x0_1.extract 0 (t185 : Int).toNat) t186 t187 _ A8.out).mono ?_
          rintro e w27 ⟨rfl, hb⟩
          refine ⟨_, rfl, ?_⟩
          replace HO_2 := za.mk (Kd.R_below (by (with_reducible repeat (first | apply Kd.R_alloc | apply Kd.R_drewN | apply Kd.R_drew)); exact HO_2.out) hb)
          replace HB := za.mk (zm (by (with_reducible exact HB.out)) hb)
          (try clear hb)
          (try clear hb2)
          (try clear hk)
          (try clear hi)
          refine hK.out _ _ trivial (fun hHeld => ?_)
          clear hK K
          refine norm_ (a' := ?_) ?_ ?_
          rotate_left
          ·show Act.put _ (some 18) _ = _
           simp only [Act.put, List.setIfInBounds_toArray, List.set_cons_zero, List.set_cons_succ, i64_w, i32_w]
           rfl
          refine pure_ (i := 10) (N := some 21) (v := ?_) (a' := ?_) #[true, true, true, true, true, true, true, true, true, true, true, false, false, false] rfl rfl (zkc HT_.out (by kernel_rfl)) (fun _ _ _ h => h) (Or.inl ⟨by rfl, ?_⟩) ?_ ?_
          rotate_left
          ·intro w'
           go_simp
           with_reducible rfl
          rotate_left
          ·simp only [Act.put, List.setIfInBounds_toArray, List.set_cons_zero, List.set_cons_succ, i64_w, i32_w]
           rfl
          refine one_ (i := 11) (N := some 22) #[true, true, true, true, true, true, true, true, true, true, true, true, false, false] rfl rfl (zje HT_.out (by kernel_rfl)) (by decide) (fun K hK => ?_)
          refine value_ (w1 := ?_) (v := ?_) (by rfl) rfl ?_ ?_
          rotate_left 2
          ·go_simp
           constructor
           ·rfl
           ·rfl
          refine hK.out _ _ trivial (fun hHeld => ?_)
          clear hK K
          refine norm_ (a' := ?_) ?_ ?_
          rotate_left
          ·show Act.put _ (some 22) _ = _
           simp only [Act.put, List.setIfInBounds_toArray, List.set_cons_zero, List.set_cons_succ, i64_w, i32_w]
           rfl
          refine one_ (i := 12) (N := some 23) #[true, true, true, true, true, true, true, true, true, true, true, true, true, false] rfl rfl (zje HT_.out (by kernel_rfl)) (by decide) (fun K hK => ?_)
          refine Kd.R_append_step k52 (w0 := w) w.heap.size (by rfl) (.tmp 11) (.tmp 22) 28 52 (.agg #[(.string ⟨#[]⟩), (.bool false), (.string ⟨#[]⟩), (.int .i64 0)]) 48 rfl Tryz.underlying28 info52 rfl (by decide) (by omega) (.slice Ao26 x2_1.length co26) x2_1 (⟨x0_1.extract 0 (t185 : Int).toNat, (⟨t186, t187⟩ : S31), (x2_1.length : Int)⟩ : S52) [.string (x0_1.extract 0 (t185 : Int).toNat), .bool t186, .string t187, .int .i64 (x2_1.length : Int)] (fun _ => True) (fun _ => False) rfl rfl ?aP (fun _ hk => hk.elim) ?aF ?aO ?aB ?aS ?aL ?_
          (case aP => exact k52_mkM _ _ _ (⟨x0_1.extract 0 (t185 : Int).toNat, (⟨t186, t187⟩ : S31), (x2_1.length : Int)⟩ : S52))
          (case aB => exact (by (with_reducible exact HB.out)))
          (case aF => exact (fun _ _ => trivial))
          (case aO => exact (by (with_reducible repeat (first | apply Kd.R_alloc | apply Kd.R_drewN | apply Kd.R_drew)); exact HO_2.out))
          (case aS => exact (zl (by (with_reducible exact HB.out))))
          (case aL => have := LMc9.out; omega)
          intro v189 w28 ho hb hg hat
          rw [← Ny188.out] at ho
          have HO190 := za.mk ho
          replace HB := za.mk hb
          clear HO_2
          clear ho hb hg hat
          refine hK.out _ _ trivial (fun hHeld => ?_)
          clear hK K
          refine norm_ (a' := ?_) ?_ ?_
          rotate_left
          ·show Act.put _ (some 23) _ = _
           simp only [Act.put, List.setIfInBounds_toArray, List.set_cons_zero, List.set_cons_succ, i64_w, i32_w]
           rfl
          refine pure_ (i := 13) (N := some 2) (v := ?_) (a' := ?_) #[true, true, true, true, true, true, true, true, true, true, true, true, true, true] rfl rfl (zkc HT_.out (by kernel_rfl)) (fun _ _ _ h => h) (Or.inl ⟨by rfl, ?_⟩) ?_ ?_
          rotate_left
          ·intro w'
           go_simp
           with_reducible rfl
          rotate_left
          ·simp only [Act.put, List.setIfInBounds_toArray, List.set_cons_zero, List.set_cons_succ, i64_w, i32_w]
           rfl
          refine done_ (done_of HT_.out (by kernel_rfl)) ?_
          try go_wp2_with (((with_reducible refine zmb (N := 26) rfl ?_); refine zxd ?hg (N := 26) ?hd (v := .string (x0_1.extract (t185 : Int).toNat x0_1.size)) (v' := .string y191) ?hr (congrArg Value.string Ny191.out.symm) ?_; (case hd => rfl); (case hg => rfl); (case hr => first | (go_simp; done) | (go_simp; rfl)); have p18 : 0 ≤ (0 : Int) := (by omega); have q18 : 0 < y191.size := (by have : (0 : Int) < (y191.size : Int) := of_decide_eq_true (by (with_reducible assumption)); omega); have hx18 : ∀ h : 0 < y191.size, ((y191[0]'h).toNat : Int) = bt y191 0 := bt_at y191 0; clear p18; have qi18 : (0 < (y191.size : Int)) = True := eq_true (of_decide_eq_true (by (with_reducible assumption))); replace q18 := eq_true q18))
          go_ret2
          exact ⟨_, by rfl, by (with_reducible repeat (first | apply Kd.R_alloc | apply Kd.R_drewN | apply Kd.R_drew)); exact HO190.out, by (with_reducible exact HB.out)⟩
        ·rw [if_neg c17] at H
         exact absurd H (by simp)
      ·rw [if_neg c9] at H
       exact absurd H (by simp)
     ·rw [if_neg c5] at H
      exact absurd H (by simp)
    ·rw [if_neg c4] at H
     exact absurd H (by simp)
def zue.f  : Option (List ByteArray) := some (([(⟨#[97, 108, 112, 104, 97]⟩ : ByteArray), (⟨#[98, 101, 116, 97]⟩ : ByteArray), (⟨#[112, 114, 101]⟩ : ByteArray), (⟨#[114, 99]⟩ : ByteArray), (⟨#[99, 118, 115]⟩ : ByteArray), (⟨#[115, 118, 110]⟩ : ByteArray), (⟨#[103, 105, 116]⟩ : ByteArray), (⟨#[104, 103]⟩ : ByteArray), (⟨#[112]⟩ : ByteArray)] : List ByteArray))
theorem zue.calls  (r : List ByteArray) (w : World) (h : zue.f  = some r) :
  Calls Tryz.prog 47 #[] w fun e w' => ∃ v0_ : Value, e = .returned (v0_) ∧ Kd.R Kd.string 9 w' w.heap.size (fun _ => True) v0_ r ∧ Below w.heap.size w w' := by
 have HB := za.mk (Below.refl w.heap.size w)
 have H : (some (([(⟨#[97, 108, 112, 104, 97]⟩ : ByteArray), (⟨#[98, 101, 116, 97]⟩ : ByteArray), (⟨#[112, 114, 101]⟩ : ByteArray), (⟨#[114, 99]⟩ : ByteArray), (⟨#[99, 118, 115]⟩ : ByteArray), (⟨#[115, 118, 110]⟩ : ByteArray), (⟨#[103, 105, 116]⟩ : ByteArray), (⟨#[104, 103]⟩ : ByteArray), (⟨#[112]⟩ : ByteArray)] : List ByteArray))) = some r := h
 clear h
 obtain ⟨y193, hy193⟩ : ∃ y_ : List ByteArray, y_ = (([(⟨#[97, 108, 112, 104, 97]⟩ : ByteArray), (⟨#[98, 101, 116, 97]⟩ : ByteArray), (⟨#[112, 114, 101]⟩ : ByteArray), (⟨#[114, 99]⟩ : ByteArray), (⟨#[99, 118, 115]⟩ : ByteArray), (⟨#[115, 118, 110]⟩ : ByteArray), (⟨#[103, 105, 116]⟩ : ByteArray), (⟨#[104, 103]⟩ : ByteArray), (⟨#[112]⟩ : ByteArray)] : List ByteArray)) := ⟨_, rfl⟩
 replace H : (some y193) = some r := by (rw [hy193]; with_reducible exact H)
 have Ny193 := za.mk hy193
 clear hy193
 obtain rfl := Option.some.inj H
 go_enter Tryz.func47, Tryz.ntmps47
 go_wp2_with (((with_reducible refine zmb (N := 1) rfl ?_); refine Kd.R_lit Kd.string _ 9 ?hg (N := 1) ?hd (xs := ([(⟨#[97, 108, 112, 104, 97]⟩ : ByteArray), (⟨#[98, 101, 116, 97]⟩ : ByteArray), (⟨#[112, 114, 101]⟩ : ByteArray), (⟨#[114, 99]⟩ : ByteArray), (⟨#[99, 118, 115]⟩ : ByteArray), (⟨#[115, 118, 110]⟩ : ByteArray), (⟨#[103, 105, 116]⟩ : ByteArray), (⟨#[104, 103]⟩ : ByteArray), (⟨#[112]⟩ : ByteArray)] : List ByteArray)) (inner := [.string (⟨#[97, 108, 112, 104, 97]⟩ : ByteArray), .string (⟨#[98, 101, 116, 97]⟩ : ByteArray), .string (⟨#[112, 114, 101]⟩ : ByteArray), .string (⟨#[114, 99]⟩ : ByteArray), .string (⟨#[99, 118, 115]⟩ : ByteArray), .string (⟨#[115, 118, 110]⟩ : ByteArray), .string (⟨#[103, 105, 116]⟩ : ByteArray), .string (⟨#[104, 103]⟩ : ByteArray), .string (⟨#[112]⟩ : ByteArray)]) (ok := fun _ => True) (okp := fun _ => True) ?hr ?hp (fun _ hk => hk) trivial (Below.refl _ _) (Nat.le_refl _) (by simp) ?_; (case hd => rfl); (case hg => rfl); (case hr => first | (go_simp; done) | (go_simp; rfl)); (case hp => exact (Reps.one (show Kd.M Kd.string _ _ _ (⟨#[97, 108, 112, 104, 97]⟩ : ByteArray) [.string (⟨#[97, 108, 112, 104, 97]⟩ : ByteArray)] from rfl) (Reps.one (show Kd.M Kd.string _ _ _ (⟨#[98, 101, 116, 97]⟩ : ByteArray) [.string (⟨#[98, 101, 116, 97]⟩ : ByteArray)] from rfl) (Reps.one (show Kd.M Kd.string _ _ _ (⟨#[112, 114, 101]⟩ : ByteArray) [.string (⟨#[112, 114, 101]⟩ : ByteArray)] from rfl) (Reps.one (show Kd.M Kd.string _ _ _ (⟨#[114, 99]⟩ : ByteArray) [.string (⟨#[114, 99]⟩ : ByteArray)] from rfl) (Reps.one (show Kd.M Kd.string _ _ _ (⟨#[99, 118, 115]⟩ : ByteArray) [.string (⟨#[99, 118, 115]⟩ : ByteArray)] from rfl) (Reps.one (show Kd.M Kd.string _ _ _ (⟨#[115, 118, 110]⟩ : ByteArray) [.string (⟨#[115, 118, 110]⟩ : ByteArray)] from rfl) (Reps.one (show Kd.M Kd.string _ _ _ (⟨#[103, 105, 116]⟩ : ByteArray) [.string (⟨#[103, 105, 116]⟩ : ByteArray)] from rfl) (Reps.one (show Kd.M Kd.string _ _ _ (⟨#[104, 103]⟩ : ByteArray) [.string (⟨#[104, 103]⟩ : ByteArray)] from rfl) (Reps.one (show Kd.M Kd.string _ _ _ (⟨#[112]⟩ : ByteArray) [.string (⟨#[112]⟩ : ByteArray)] from rfl) (Reps.none _ _))))))))))); intro v194 w1 ho2 hb hg_ hnew_; clear hg_ hnew_; (first | rw [← Ny193.out] at ho2 | (simp only [Int.reduceToNat] at ho2; rw [← Ny193.out] at ho2)); have HO195 := za.mk (Kd.R_lower ho2 (zl (by (with_reducible exact HB.out)))); replace HB := za.mk (zm (by (with_reducible exact HB.out)) hb); clear hb ho2))
 go_ret
 exact ⟨_, by rfl, by (with_reducible repeat (first | apply Kd.R_alloc | apply Kd.R_drewN | apply Kd.R_drew)); exact HO195.out, by (with_reducible exact HB.out)⟩
end Go.Proofs.YtapaijpglfmfgaaGreatDoor.Q
end
section
namespace Go.Proofs.YtapaijpglfmfgaaGreatDoor.Q
open Go.RowKit YtapaijpglfmfgaaGreatDoorH YtapaijpglfmfgaaGreatDoorG YtapaijpglfmfgaaGreatDoorW.PrintWords YtapaijpglfmfgaaGreatDoorW.PrintLast YtapaijpglfmfgaaGreatDoorW.PrintMore
attribute [local go_sem] zsc zuc zhd zgd zhc zic zvc ztc
def ztb.l0 : Nat → ByteArray → List ByteArray → Int → Option (ByteArray)
 | 0, _, _, _ => none
 | k + 1, x0, x3, x4 => if x4 < (x3.length : Int) then (if 0 ≤ x4 then (if (x0.size : Int) > ((rdOf ByteArray.empty x3 x4).size : Int) then (if 0 < (x0.size : Int) then (if (bt x0 0) = 95 then (if 1 ≤ (wrap64 (((rdOf ByteArray.empty x3 x4).size : Int) + 1)) then (if (wrap64 (((rdOf ByteArray.empty x3 x4).size : Int) + 1)) ≤ (x0.size : Int) then (if (x0.extract 1 ((wrap64 (((rdOf ByteArray.empty x3 x4).size : Int) + 1)) : Int).toNat).toList = (rdOf ByteArray.empty x3 x4).toList then (some (rdOf ByteArray.empty x3 x4)) else (ztb.l0 k x0 x3 (wrap64 (x4 + 1)))) else (none)) else (none)) else (ztb.l0 k x0 x3 (wrap64 (x4 + 1)))) else (none)) else (ztb.l0 k x0 x3 (wrap64 (x4 + 1)))) else (none)) else (some (⟨#[]⟩ : ByteArray))
def ztb.f (k : Nat) (a0 : ByteArray) : Option (ByteArray) := (zue.f).bind fun t196 => (ztb.l0 k a0 t196 0)
theorem ztb.calls (k : Nat) (a0 : ByteArray) (r : ByteArray) (w : World) (h : ztb.f k a0 = some r) :
  Calls Tryz.prog 27 #[.string a0] w fun e w' => e = .returned (.string r) ∧ Below w.heap.size w w' := by
 have HB := za.mk (Below.refl w.heap.size w)
 have H : ((zue.f).bind fun t196 => (ztb.l0 k a0 t196 0)) = some r := h
 clear h
 replace H := Option.bind_eq_some_iff.mp H
 obtain ⟨t196, A20, H⟩ := H
 replace H : (ztb.l0 k a0 t196 0) = some r := H
 have A2 := za.mk A20
 clear A20
 have H' := za.mk H
 clear H
 go_enter Tryz.func27, Tryz.ntmps27
 go_wp2_with ((go_at_call 47; (with_reducible refine (zue.calls  t196 _ A2.out).mono ?_); rintro e w3 ⟨v197, rfl, ho0, hb⟩; have HO198 := za.mk (Kd.R_lower ho0 (zl (by (with_reducible exact HB.out)))); replace HB := za.mk (zm (by (with_reducible exact HB.out)) hb); (try clear hb); (try clear hb2); (try clear hk); (try clear hi); (try clear ho0)))
 repeat (go_quiet (fail); try go_wp2_with (fail))
 (try simp only [Act.put, List.setIfInBounds_toArray, List.set_cons_zero, List.set_cons_succ])
 go_loopg [4] k (fun kq v4 w' => ∃ (x4_1 : Int), v4 = .int .i64 x4_1 ∧ za (ztb.l0 kq a0 t196 x4_1 = some r) ∧ za (kq ≤ k) ∧ za (Kd.R Kd.string 9 w' w.heap.size (fun _ => True) v197 t196) ∧ za (Below w.heap.size w w'))
 case atStart => exact ⟨(0), (by rfl), H', ⟨Nat.le_refl _⟩, ⟨by (with_reducible repeat (first | apply Kd.R_alloc | apply Kd.R_drewN | apply Kd.R_drew)); exact HO198.out⟩, ⟨by (with_reducible exact HB.out)⟩⟩
 case round =>
  clear H'
  obtain ⟨x4_1, rfl, HA, HK1, HO_3, HB⟩ := hrel
  cases gk with
  | zero => exact absurd HA.out (by simp [ztb.l0])
  | succ k1 =>
   have H := HA.out
   clear HA
   simp only [ztb.l0] at H
   by_cases c4 : x4_1 < (t196.length : Int)
   ·rw [if_pos c4] at H
    have c4b0 : decide (x4_1 < (t196.length : Int)) = true := decide_eq_true c4
    clear c4
    by_cases c5 : 0 ≤ x4_1
    ·rw [if_pos c5] at H
     have c5b0 : decide (0 ≤ x4_1) = true := decide_eq_true c5
     clear c5
     by_cases c6 : (a0.size : Int) > ((rdOf ByteArray.empty t196 x4_1).size : Int)
     ·rw [if_pos c6] at H
      have c6b0 : decide (((rdOf ByteArray.empty t196 x4_1).size : Int) < (a0.size : Int)) = true := decide_eq_true c6
      have c6b1 : decide ((rdOf ByteArray.empty t196 x4_1).size < a0.size) = true := decide_eq_true (Int.ofNat_lt.mp c6)
      clear c6
      by_cases c7 : 0 < (a0.size : Int)
      ·rw [if_pos c7] at H
       have c7b0 : decide (0 < (a0.size : Int)) = true := decide_eq_true c7
       have c7b1 : decide (0 < a0.size) = true := decide_eq_true (by omega)
       clear c7
       by_cases c9 : (bt a0 0) = 95
       ·rw [if_pos c9] at H
        have c9b0 : ((bt a0 0) == 95) = true := beq_iff_eq.mpr c9
        have c9b1 : ((bt a0 0) != 95) = false := bne_eq_false_iff_eq.mpr c9
        clear c9
        by_cases c10 : 1 ≤ (wrap64 (((rdOf ByteArray.empty t196 x4_1).size : Int) + 1))
        ·rw [if_pos c10] at H
         have c10b0 := eq_true c10
         have c10b1 : decide (1 ≤ (wrap64 (((rdOf ByteArray.empty t196 x4_1).size : Int) + 1))) = true := decide_eq_true c10
         by_cases c11 : (wrap64 (((rdOf ByteArray.empty t196 x4_1).size : Int) + 1)) ≤ (a0.size : Int)
         ·rw [if_pos c11] at H
          have c11b0 := eq_true c11
          have c11b1 : decide ((wrap64 (((rdOf ByteArray.empty t196 x4_1).size : Int) + 1)) ≤ (a0.size : Int)) = true := decide_eq_true c11
          by_cases c12 : (a0.extract 1 ((wrap64 (((rdOf ByteArray.empty t196 x4_1).size : Int) + 1)) : Int).toNat).toList = (rdOf ByteArray.empty t196 x4_1).toList
          ·rw [if_pos c12] at H
           have c12b0 : ((a0.extract 1 ((wrap64 (((rdOf ByteArray.empty t196 x4_1).size : Int) + 1)) : Int).toNat).toList == (rdOf ByteArray.empty t196 x4_1).toList) = true := beq_iff_eq.mpr c12
           have c12b1 : ((a0.extract 1 ((wrap64 (((rdOf ByteArray.empty t196 x4_1).size : Int) + 1)) : Int).toNat).toList != (rdOf ByteArray.empty t196 x4_1).toList) = false := bne_eq_false_iff_eq.mpr c12
           clear c12
           obtain rfl := Option.some.inj H
           obtain ⟨Ao13, co13, eo13⟩ := Kd.R_slice HO_3.out
           subst eo13
           have p199 : 0 ≤ (x4_1 : Int) := of_decide_eq_true (by (with_reducible assumption))
           have q199 : x4_1 < (t196.length : Int) := of_decide_eq_true (by (with_reducible assumption))
           obtain ⟨ad199, e199, hx199_0⟩ := Kd.at_string (Kd.R_reads' HO_3.out).2.2 x4_1 p199 q199
           cases e199
           replace p199 := eq_true p199
           replace q199 := eq_true q199
           have p8 : 0 ≤ (0 : Int) := (by omega)
           have q8 : 0 < a0.size := (by have : (0 : Int) < (a0.size : Int) := of_decide_eq_true (by (with_reducible assumption)); omega)
           have hx8 : ∀ h : 0 < a0.size, ((a0[0]'h).toNat : Int) = bt a0 0 := bt_at a0 0
           clear p8
           have qi8 : (0 < (a0.size : Int)) = True := eq_true (of_decide_eq_true (by (with_reducible assumption)))
           replace q8 := eq_true q8
           have p200 : 0 ≤ (x4_1 : Int) := of_decide_eq_true (by (with_reducible assumption))
           have q200 : x4_1 < (t196.length : Int) := of_decide_eq_true (by (with_reducible assumption))
           obtain ⟨ad200, e200, hx200_0⟩ := Kd.at_string (Kd.R_reads' HO_3.out).2.2 x4_1 p200 q200
           obtain rfl : ad199 = ad200 := (by injection e200)
           replace p200 := eq_true p200
           replace q200 := eq_true q200
           have p201 : 0 ≤ (x4_1 : Int) := of_decide_eq_true (by (with_reducible assumption))
           have q201 : x4_1 < (t196.length : Int) := of_decide_eq_true (by (with_reducible assumption))
           obtain ⟨ad201, e201, hx201_0⟩ := Kd.at_string (Kd.R_reads' HO_3.out).2.2 x4_1 p201 q201
           obtain rfl : ad199 = ad201 := (by injection e201)
           replace p201 := eq_true p201
           replace q201 := eq_true q201
           have p202 : 0 ≤ (x4_1 : Int) := of_decide_eq_true (by (with_reducible assumption))
           have q202 : x4_1 < (t196.length : Int) := of_decide_eq_true (by (with_reducible assumption))
           obtain ⟨ad202, e202, hx202_0⟩ := Kd.at_string (Kd.R_reads' HO_3.out).2.2 x4_1 p202 q202
           obtain rfl : ad199 = ad202 := (by injection e202)
           replace p202 := eq_true p202
           replace q202 := eq_true q202
           go_wp2
           repeat (go_quiet (fail); try go_wp2)
           go_ret
           exact ⟨by rfl, by (with_reducible apply zc; with_reducible exact HB.out)⟩
          ·rw [if_neg c12] at H
           have c12b0 : ((a0.extract 1 ((wrap64 (((rdOf ByteArray.empty t196 x4_1).size : Int) + 1)) : Int).toNat).toList == (rdOf ByteArray.empty t196 x4_1).toList) = false := beq_eq_false_iff_ne.mpr c12
           have c12b1 : ((a0.extract 1 ((wrap64 (((rdOf ByteArray.empty t196 x4_1).size : Int) + 1)) : Int).toNat).toList != (rdOf ByteArray.empty t196 x4_1).toList) = true := bne_iff_ne.mpr c12
           have H' := za.mk H
           clear H
           obtain ⟨Ao14, co14, eo14⟩ := Kd.R_slice HO_3.out
           subst eo14
           have p199 : 0 ≤ (x4_1 : Int) := of_decide_eq_true (by (with_reducible assumption))
           have q199 : x4_1 < (t196.length : Int) := of_decide_eq_true (by (with_reducible assumption))
           obtain ⟨ad199, e199, hx199_0⟩ := Kd.at_string (Kd.R_reads' HO_3.out).2.2 x4_1 p199 q199
           cases e199
           replace p199 := eq_true p199
           replace q199 := eq_true q199
           have p8 : 0 ≤ (0 : Int) := (by omega)
           have q8 : 0 < a0.size := (by have : (0 : Int) < (a0.size : Int) := of_decide_eq_true (by (with_reducible assumption)); omega)
           have hx8 : ∀ h : 0 < a0.size, ((a0[0]'h).toNat : Int) = bt a0 0 := bt_at a0 0
           clear p8
           have qi8 : (0 < (a0.size : Int)) = True := eq_true (of_decide_eq_true (by (with_reducible assumption)))
           replace q8 := eq_true q8
           have p200 : 0 ≤ (x4_1 : Int) := of_decide_eq_true (by (with_reducible assumption))
           have q200 : x4_1 < (t196.length : Int) := of_decide_eq_true (by (with_reducible assumption))
           obtain ⟨ad200, e200, hx200_0⟩ := Kd.at_string (Kd.R_reads' HO_3.out).2.2 x4_1 p200 q200
           obtain rfl : ad199 = ad200 := (by injection e200)
           replace p200 := eq_true p200
           replace q200 := eq_true q200
           have p201 : 0 ≤ (x4_1 : Int) := of_decide_eq_true (by (with_reducible assumption))
           have q201 : x4_1 < (t196.length : Int) := of_decide_eq_true (by (with_reducible assumption))
           obtain ⟨ad201, e201, hx201_0⟩ := Kd.at_string (Kd.R_reads' HO_3.out).2.2 x4_1 p201 q201
           obtain rfl : ad199 = ad201 := (by injection e201)
           replace p201 := eq_true p201
           replace q201 := eq_true q201
           go_wp2
           repeat (go_quiet (fail); try go_wp2)
           go_roundg k1
           case measure => have := HK1.out; omega
           case rel => exact ⟨(wrap64 (x4_1 + 1)), (by rfl), H', ⟨by have := HK1.out; omega⟩, ⟨by (with_reducible repeat (first | apply Kd.R_alloc | apply Kd.R_drewN | apply Kd.R_drew)); exact HO_3.out⟩, ⟨by (with_reducible apply zc; with_reducible exact HB.out)⟩⟩
         ·rw [if_neg c11] at H
          exact absurd H (by simp)
        ·rw [if_neg c10] at H
         exact absurd H (by simp)
       ·rw [if_neg c9] at H
        have c9b0 : ((bt a0 0) == 95) = false := beq_eq_false_iff_ne.mpr c9
        have c9b1 : ((bt a0 0) != 95) = true := bne_iff_ne.mpr c9
        have H' := za.mk H
        clear H
        obtain ⟨Ao15, co15, eo15⟩ := Kd.R_slice HO_3.out
        subst eo15
        have p199 : 0 ≤ (x4_1 : Int) := of_decide_eq_true (by (with_reducible assumption))
        have q199 : x4_1 < (t196.length : Int) := of_decide_eq_true (by (with_reducible assumption))
        obtain ⟨ad199, e199, hx199_0⟩ := Kd.at_string (Kd.R_reads' HO_3.out).2.2 x4_1 p199 q199
        cases e199
        replace p199 := eq_true p199
        replace q199 := eq_true q199
        have p8 : 0 ≤ (0 : Int) := (by omega)
        have q8 : 0 < a0.size := (by have : (0 : Int) < (a0.size : Int) := of_decide_eq_true (by (with_reducible assumption)); omega)
        have hx8 : ∀ h : 0 < a0.size, ((a0[0]'h).toNat : Int) = bt a0 0 := bt_at a0 0
        clear p8
        have qi8 : (0 < (a0.size : Int)) = True := eq_true (of_decide_eq_true (by (with_reducible assumption)))
        replace q8 := eq_true q8
        go_wp2
        repeat (go_quiet (fail); try go_wp2)
        go_roundg k1
        case measure => have := HK1.out; omega
        case rel => exact ⟨(wrap64 (x4_1 + 1)), (by rfl), H', ⟨by have := HK1.out; omega⟩, ⟨by (with_reducible repeat (first | apply Kd.R_alloc | apply Kd.R_drewN | apply Kd.R_drew)); exact HO_3.out⟩, ⟨by (with_reducible apply zc; with_reducible exact HB.out)⟩⟩
      ·rw [if_neg c7] at H
       exact absurd H (by simp)
     ·rw [if_neg c6] at H
      have c6b0 : decide (((rdOf ByteArray.empty t196 x4_1).size : Int) < (a0.size : Int)) = false := decide_eq_false c6
      have c6b1 : decide ((rdOf ByteArray.empty t196 x4_1).size < a0.size) = false := decide_eq_false (fun h => c6 (Int.ofNat_lt.mpr h))
      clear c6
      have H' := za.mk H
      clear H
      obtain ⟨Ao16, co16, eo16⟩ := Kd.R_slice HO_3.out
      subst eo16
      have p199 : 0 ≤ (x4_1 : Int) := of_decide_eq_true (by (with_reducible assumption))
      have q199 : x4_1 < (t196.length : Int) := of_decide_eq_true (by (with_reducible assumption))
      obtain ⟨ad199, e199, hx199_0⟩ := Kd.at_string (Kd.R_reads' HO_3.out).2.2 x4_1 p199 q199
      cases e199
      replace p199 := eq_true p199
      replace q199 := eq_true q199
      go_wp2
      repeat (go_quiet (fail); try go_wp2)
      go_roundg k1
      case measure => have := HK1.out; omega
      case rel => exact ⟨(wrap64 (x4_1 + 1)), (by rfl), H', ⟨by have := HK1.out; omega⟩, ⟨by (with_reducible repeat (first | apply Kd.R_alloc | apply Kd.R_drewN | apply Kd.R_drew)); exact HO_3.out⟩, ⟨by (with_reducible apply zc; with_reducible exact HB.out)⟩⟩
    ·rw [if_neg c5] at H
     exact absurd H (by simp)
   ·rw [if_neg c4] at H
    have c4b0 : decide (x4_1 < (t196.length : Int)) = false := decide_eq_false c4
    clear c4
    obtain rfl := Option.some.inj H
    obtain ⟨Ao17, co17, eo17⟩ := Kd.R_slice HO_3.out
    subst eo17
    go_wp2
    repeat (go_quiet (fail); try go_wp2)
    go_ret
    exact ⟨by rfl, by (with_reducible exact HB.out)⟩
def zjb.l0 : Nat → ByteArray → List ByteArray → Int → Option (Int)
 | 0, _, _, _ => none
 | k + 1, x0, x3, x4 => if x4 < (x3.length : Int) then (if 0 ≤ x4 then (if (rdOf ByteArray.empty x3 x4).toList = x0.toList then (some x4) else (zjb.l0 k x0 x3 (wrap64 (x4 + 1)))) else (none)) else (some (x3.length : Int))
def zjb.f (k : Nat) (a0 : ByteArray) : Option (Int) := zjb.l0 k a0 (([(⟨#[97, 108, 112, 104, 97]⟩ : ByteArray), (⟨#[98, 101, 116, 97]⟩ : ByteArray), (⟨#[112, 114, 101]⟩ : ByteArray), (⟨#[114, 99]⟩ : ByteArray), (⟨#[]⟩ : ByteArray), (⟨#[99, 118, 115]⟩ : ByteArray), (⟨#[115, 118, 110]⟩ : ByteArray), (⟨#[103, 105, 116]⟩ : ByteArray), (⟨#[104, 103]⟩ : ByteArray)] : List ByteArray)) 0
theorem zjb.calls (k : Nat) (a0 : ByteArray) (r : Int) (w : World) (h : zjb.f k a0 = some r) :
  Calls Tryz.prog 46 #[.string a0] w fun e w' => e = .returned (.int .i64 r) ∧ Below w.heap.size w w' := by
 have HB := za.mk (Below.refl w.heap.size w)
 have H : (zjb.l0 k a0 (([(⟨#[97, 108, 112, 104, 97]⟩ : ByteArray), (⟨#[98, 101, 116, 97]⟩ : ByteArray), (⟨#[112, 114, 101]⟩ : ByteArray), (⟨#[114, 99]⟩ : ByteArray), (⟨#[]⟩ : ByteArray), (⟨#[99, 118, 115]⟩ : ByteArray), (⟨#[115, 118, 110]⟩ : ByteArray), (⟨#[103, 105, 116]⟩ : ByteArray), (⟨#[104, 103]⟩ : ByteArray)] : List ByteArray)) 0) = some r := h
 clear h
 obtain ⟨y203, hy203⟩ : ∃ y_ : List ByteArray, y_ = (([(⟨#[97, 108, 112, 104, 97]⟩ : ByteArray), (⟨#[98, 101, 116, 97]⟩ : ByteArray), (⟨#[112, 114, 101]⟩ : ByteArray), (⟨#[114, 99]⟩ : ByteArray), (⟨#[]⟩ : ByteArray), (⟨#[99, 118, 115]⟩ : ByteArray), (⟨#[115, 118, 110]⟩ : ByteArray), (⟨#[103, 105, 116]⟩ : ByteArray), (⟨#[104, 103]⟩ : ByteArray)] : List ByteArray)) := ⟨_, rfl⟩
 replace H : (zjb.l0 k a0 y203 0) = some r := by (rw [hy203]; with_reducible exact H)
 have Ny203 := za.mk hy203
 clear hy203
 have H' := za.mk H
 clear H
 go_enter Tryz.func46, Tryz.ntmps46
 go_wp2_with (((with_reducible refine zmb (N := 5) rfl ?_); refine Kd.R_lit Kd.string _ 9 ?hg (N := 5) ?hd (xs := ([(⟨#[97, 108, 112, 104, 97]⟩ : ByteArray), (⟨#[98, 101, 116, 97]⟩ : ByteArray), (⟨#[112, 114, 101]⟩ : ByteArray), (⟨#[114, 99]⟩ : ByteArray), (⟨#[]⟩ : ByteArray), (⟨#[99, 118, 115]⟩ : ByteArray), (⟨#[115, 118, 110]⟩ : ByteArray), (⟨#[103, 105, 116]⟩ : ByteArray), (⟨#[104, 103]⟩ : ByteArray)] : List ByteArray)) (inner := [.string (⟨#[97, 108, 112, 104, 97]⟩ : ByteArray), .string (⟨#[98, 101, 116, 97]⟩ : ByteArray), .string (⟨#[112, 114, 101]⟩ : ByteArray), .string (⟨#[114, 99]⟩ : ByteArray), .string ⟨#[]⟩, .string (⟨#[99, 118, 115]⟩ : ByteArray), .string (⟨#[115, 118, 110]⟩ : ByteArray), .string (⟨#[103, 105, 116]⟩ : ByteArray), .string (⟨#[104, 103]⟩ : ByteArray)]) (ok := fun _ => True) (okp := fun _ => True) ?hr ?hp (fun _ hk => hk) trivial (Below.refl _ _) (Nat.le_refl _) (by simp) ?_; (case hd => rfl); (case hg => rfl); (case hr => first | (go_simp; done) | (go_simp; rfl)); (case hp => exact (Reps.one (show Kd.M Kd.string _ _ _ (⟨#[97, 108, 112, 104, 97]⟩ : ByteArray) [.string (⟨#[97, 108, 112, 104, 97]⟩ : ByteArray)] from rfl) (Reps.one (show Kd.M Kd.string _ _ _ (⟨#[98, 101, 116, 97]⟩ : ByteArray) [.string (⟨#[98, 101, 116, 97]⟩ : ByteArray)] from rfl) (Reps.one (show Kd.M Kd.string _ _ _ (⟨#[112, 114, 101]⟩ : ByteArray) [.string (⟨#[112, 114, 101]⟩ : ByteArray)] from rfl) (Reps.one (show Kd.M Kd.string _ _ _ (⟨#[114, 99]⟩ : ByteArray) [.string (⟨#[114, 99]⟩ : ByteArray)] from rfl) (Reps.one (show Kd.M Kd.string _ _ _ (⟨#[]⟩ : ByteArray) [.string ⟨#[]⟩] from rfl) (Reps.one (show Kd.M Kd.string _ _ _ (⟨#[99, 118, 115]⟩ : ByteArray) [.string (⟨#[99, 118, 115]⟩ : ByteArray)] from rfl) (Reps.one (show Kd.M Kd.string _ _ _ (⟨#[115, 118, 110]⟩ : ByteArray) [.string (⟨#[115, 118, 110]⟩ : ByteArray)] from rfl) (Reps.one (show Kd.M Kd.string _ _ _ (⟨#[103, 105, 116]⟩ : ByteArray) [.string (⟨#[103, 105, 116]⟩ : ByteArray)] from rfl) (Reps.one (show Kd.M Kd.string _ _ _ (⟨#[104, 103]⟩ : ByteArray) [.string (⟨#[104, 103]⟩ : ByteArray)] from rfl) (Reps.none _ _))))))))))); intro v204 w2 ho3 hb hg_ hnew_; clear hg_ hnew_; (first | rw [← Ny203.out] at ho3 | (simp only [Int.reduceToNat] at ho3; rw [← Ny203.out] at ho3)); have HO205 := za.mk (Kd.R_lower ho3 (zl (by (with_reducible exact HB.out)))); replace HB := za.mk (zm (by (with_reducible exact HB.out)) hb); clear hb ho3))
 (try simp only [Act.put, List.setIfInBounds_toArray, List.set_cons_zero, List.set_cons_succ])
 go_loopg [4] k (fun kq v4 w' => ∃ (x4_1 : Int), v4 = .int .i64 x4_1 ∧ za (zjb.l0 kq a0 y203 x4_1 = some r) ∧ za (kq ≤ k) ∧ za (Kd.R Kd.string 9 w' w.heap.size (fun _ => True) v204 y203) ∧ za (Below w.heap.size w w'))
 case atStart => exact ⟨(0), (by rfl), H', ⟨Nat.le_refl _⟩, ⟨by (with_reducible repeat (first | apply Kd.R_alloc | apply Kd.R_drewN | apply Kd.R_drew)); exact HO205.out⟩, ⟨by (with_reducible exact HB.out)⟩⟩
 case round =>
  clear H'
  obtain ⟨x4_1, rfl, HA, HK1, HO_3, HB⟩ := hrel
  cases gk with
  | zero => exact absurd HA.out (by simp [zjb.l0])
  | succ k1 =>
   have H := HA.out
   clear HA
   simp only [zjb.l0] at H
   by_cases c4 : x4_1 < (y203.length : Int)
   ·rw [if_pos c4] at H
    have c4b0 : decide (x4_1 < (y203.length : Int)) = true := decide_eq_true c4
    clear c4
    by_cases c5 : 0 ≤ x4_1
    ·rw [if_pos c5] at H
     have c5b0 : decide (0 ≤ x4_1) = true := decide_eq_true c5
     clear c5
     by_cases c6 : (rdOf ByteArray.empty y203 x4_1).toList = a0.toList
     ·rw [if_pos c6] at H
      have c6b0 : ((rdOf ByteArray.empty y203 x4_1).toList == a0.toList) = true := beq_iff_eq.mpr c6
      have c6b1 : ((rdOf ByteArray.empty y203 x4_1).toList != a0.toList) = false := bne_eq_false_iff_eq.mpr c6
      clear c6
      obtain rfl := Option.some.inj H
      obtain ⟨Ao7, co7, eo7⟩ := Kd.R_slice HO_3.out
      subst eo7
      have p206 : 0 ≤ (x4_1 : Int) := of_decide_eq_true (by (with_reducible assumption))
      have q206 : x4_1 < (y203.length : Int) := of_decide_eq_true (by (with_reducible assumption))
      obtain ⟨ad206, e206, hx206_0⟩ := Kd.at_string (Kd.R_reads' HO_3.out).2.2 x4_1 p206 q206
      cases e206
      replace p206 := eq_true p206
      replace q206 := eq_true q206
      go_wp2
      go_ret
      exact ⟨by rfl, by (with_reducible exact HB.out)⟩
     ·rw [if_neg c6] at H
      have c6b0 : ((rdOf ByteArray.empty y203 x4_1).toList == a0.toList) = false := beq_eq_false_iff_ne.mpr c6
      have c6b1 : ((rdOf ByteArray.empty y203 x4_1).toList != a0.toList) = true := bne_iff_ne.mpr c6
      have H' := za.mk H
      clear H
      obtain ⟨Ao8, co8, eo8⟩ := Kd.R_slice HO_3.out
      subst eo8
      have p206 : 0 ≤ (x4_1 : Int) := of_decide_eq_true (by (with_reducible assumption))
      have q206 : x4_1 < (y203.length : Int) := of_decide_eq_true (by (with_reducible assumption))
      obtain ⟨ad206, e206, hx206_0⟩ := Kd.at_string (Kd.R_reads' HO_3.out).2.2 x4_1 p206 q206
      cases e206
      replace p206 := eq_true p206
      replace q206 := eq_true q206
      go_wp2
      go_roundg k1
      case measure => have := HK1.out; omega
      case rel => exact ⟨(wrap64 (x4_1 + 1)), (by rfl), H', ⟨by have := HK1.out; omega⟩, ⟨by (with_reducible repeat (first | apply Kd.R_alloc | apply Kd.R_drewN | apply Kd.R_drew)); exact HO_3.out⟩, ⟨by (with_reducible exact HB.out)⟩⟩
    ·rw [if_neg c5] at H
     exact absurd H (by simp)
   ·rw [if_neg c4] at H
    have c4b0 : decide (x4_1 < (y203.length : Int)) = false := decide_eq_false c4
    clear c4
    obtain rfl := Option.some.inj H
    obtain ⟨Ao9, co9, eo9⟩ := Kd.R_slice HO_3.out
    subst eo9
    go_wp2
    go_ret
    exact ⟨by rfl, by (with_reducible exact HB.out)⟩
def zu.l0 : Nat → ByteArray → List (S56) → Option ((List (S56)) × ByteArray)
 | 0, _, _ => none
 | k + 1, x0, x2 => (ztb.f k x0).bind fun t207 => (if t207.toList = ([] : List UInt8) then (some (x2, x0)) else (if 0 ≤ (wrap64 ((t207.size : Int) + 1)) then (if (wrap64 ((t207.size : Int) + 1)) ≤ (x0.size : Int) then ((some (x0.extract ((wrap64 ((t207.size : Int) + 1)) : Int).toNat x0.size : ByteArray)).bind fun y208 => ((E1.zpb.f k y208).bind fun t209 => ((zjb.f k t207).bind fun t210 => (if 0 ≤ t209 then (if t209 ≤ (y208.size : Int) then ((zab.f k (y208.extract 0 (t209 : Int).toNat)).bind fun bt211 => (if x2.length < 4398046511104 then (zu.l0 k (y208.extract (t209 : Int).toNat y208.size) (x2 ++ [(⟨t210, (⟨bt211.1, bt211.2⟩ : S31)⟩ : S56)])) else (none))) else (none)) else (none))))) else (none)) else (none)))
def zu.f (k : Nat) (a0 : ByteArray) : Option ((List (S56)) × ByteArray) := zu.l0 k a0 ([] : List (S56))
def zu.T6 : Bool × List (List Nat × List Nat) := (true, [([], []), ([], []), ([1], [1]), ([], []), ([], []), ([3, 4], [3, 4]), ([5, 2], [5]), ([2, 6], [2, 6]), ([7], [7]), ([0, 8, 6], [0, 8]), ([9, 9, 0, 1, 2, 3, 4, 5, 6, 7, 8, 9], [0, 9])])
def zu.B6 : List Nat := [0, 0, 2, 0, 0, 24, 62, 126, 254, 511, 1023]
theorem zu.tab6 : rtab .any (opsOf Tryz.f26 6) = zu.T6 := by kernel_rfl
theorem zu.bits6 : zkh zu.T6.2 zu.B6 = true := by kernel_rfl
theorem zu.calls (k : Nat) (a0 : ByteArray) (r1 : List (S56)) (r2 : ByteArray) (w : World) (h : zu.f k a0 = some (r1, r2)) :
  Calls Tryz.prog 26 #[.string a0] w fun e w' => ∃ v0_ : Value, e = .returned (.tuple #[v0_, .string r2]) ∧ Kd.R k56 56 w' w.heap.size (fun _ => True) v0_ r1 ∧ Below w.heap.size w w' := by
 have hu56 := Tryz.underlying56
 have HB := za.mk (Below.refl w.heap.size w)
 have H : (zu.l0 k a0 ([] : List (S56))) = some (r1, r2) := h
 clear h
 have H' := za.mk H
 clear H
 go_enter Tryz.func26, Tryz.ntmps26
 go_wp2
 (try simp only [Act.put, List.setIfInBounds_toArray, List.set_cons_zero, List.set_cons_succ])
 go_loopg [0, 2] k (fun kq v0 v2 w' => ∃ (x0_1 : ByteArray) (x2_1 : List (S56)), v0 = .string x0_1 ∧ za (zu.l0 kq x0_1 x2_1 = some (r1, r2)) ∧ za (kq ≤ k) ∧ za (Kd.R k56 56 w' w.heap.size (fun _ => True) v2 x2_1) ∧ za (Below w.heap.size w w'))
 case atStart => exact ⟨(a0), (([] : List (S56))), (by rfl), H', ⟨Nat.le_refl _⟩, ⟨by exact Kd.R_nil _ _ _ _ _⟩, ⟨by (with_reducible exact HB.out)⟩⟩
 case round =>
  clear H'
  obtain ⟨x0_1, x2_1, rfl, HA, HK1, HO_2, HB⟩ := hrel
  cases gk with
  | zero => exact absurd HA.out (by simp [zu.l0])
  | succ k1 =>
   have H := HA.out
   clear HA
   simp only [zu.l0] at H
   replace H := Option.bind_eq_some_iff.mp H
   obtain ⟨t207, A20, H⟩ := H
   replace H : (if t207.toList = ([] : List UInt8) then (some (x2_1, x0_1)) else (if 0 ≤ (wrap64 ((t207.size : Int) + 1)) then (if (wrap64 ((t207.size : Int) + 1)) ≤ (x0_1.size : Int) then ((some (x0_1.extract ((wrap64 ((t207.size : Int) + 1)) : Int).toNat x0_1.size : ByteArray)).bind fun y208 => ((E1.zpb.f k1 y208).bind fun t209 => ((zjb.f k1 t207).bind fun t210 => (if 0 ≤ t209 then (if t209 ≤ (y208.size : Int) then ((zab.f k1 (y208.extract 0 (t209 : Int).toNat)).bind fun bt211 => (if x2_1.length < 4398046511104 then (zu.l0 k1 (y208.extract (t209 : Int).toNat y208.size) (x2_1 ++ [(⟨t210, (⟨bt211.1, bt211.2⟩ : S31)⟩ : S56)])) else (none))) else (none)) else (none))))) else (none)) else (none))) = some (r1, r2) := H
   have A2 := za.mk A20
   clear A20
   by_cases c3 : t207.toList = ([] : List UInt8)
   ·rw [if_pos c3] at H
    have c3b0 : (t207.toList == ([] : List UInt8)) = true := beq_iff_eq.mpr c3
    have c3b1 : (t207.toList != ([] : List UInt8)) = false := bne_eq_false_iff_eq.mpr c3
    try have c3b9 : t207.toList.isEmpty = true := by simpa using c3b0
    clear c3
    simp only [Option.some.injEq, Prod.mk.injEq] at H
    obtain ⟨rfl, rfl⟩ := H
    go_wp2_with (((with_reducible refine zx (f := 27) rfl ?_); refine zdc (some 7) rfl rfl Tryz.func27 (by kernel_rfl) rfl #[.string x0_1] rfl (by (try simp only [List.map_toArray, List.map_cons, List.map_nil]); first | done | rfl | (simp only [List.length_drop, List.length_take]; rfl)) ?_; (with_reducible refine (ztb.calls k1 x0_1 t207 _ A2.out).mono ?_); rintro e w4 ⟨rfl, hb⟩; refine ⟨_, rfl, ?_⟩; replace HO_2 := za.mk (Kd.R_below (by (with_reducible repeat (first | apply Kd.R_alloc | apply Kd.R_drewN | apply Kd.R_drew)); exact HO_2.out) hb); replace HB := za.mk (zm (by (with_reducible exact HB.out)) hb); (try clear hb); (try clear hb2); (try clear hk); (try clear hi)))
    go_ret2
    exact ⟨_, by rfl, by (with_reducible repeat (first | apply Kd.R_alloc | apply Kd.R_drewN | apply Kd.R_drew)); exact HO_2.out, by (with_reducible exact HB.out)⟩
   ·rw [if_neg c3] at H
    have c3b0 : (t207.toList == ([] : List UInt8)) = false := beq_eq_false_iff_ne.mpr c3
    have c3b1 : (t207.toList != ([] : List UInt8)) = true := bne_iff_ne.mpr c3
    try have c3b9 : t207.toList.isEmpty = false := by simpa using c3b0
    obtain ⟨ji5, hji5⟩ : ∃ j_ : Int, (wrap64 ((t207.size : Int) + 1)) = j_ := ⟨_, rfl⟩
    replace H : (if 0 ≤ (ji5) then (if (ji5) ≤ (x0_1.size : Int) then ((some (x0_1.extract ((ji5) : Int).toNat x0_1.size : ByteArray)).bind fun y208 => ((E1.zpb.f k1 y208).bind fun t209 => ((zjb.f k1 t207).bind fun t210 => (if 0 ≤ t209 then (if t209 ≤ (y208.size : Int) then ((zab.f k1 (y208.extract 0 (t209 : Int).toNat)).bind fun bt211 => (if x2_1.length < 4398046511104 then (zu.l0 k1 (y208.extract (t209 : Int).toNat y208.size) (x2_1 ++ [(⟨t210, (⟨bt211.1, bt211.2⟩ : S31)⟩ : S56)])) else (none))) else (none)) else (none))))) else (none)) else (none)) = some (r1, r2) := by (rw [hji5] at H; exact H)
    (try rw [hji5] at A2)
    have hji5w : (IntKind.i64.wrap ((t207.size : Int) + 1)) = ji5 := (i64_w _).trans hji5
    by_cases c6 : 0 ≤ (ji5)
    ·rw [if_pos c6] at H
     have c6b0 := eq_true c6
     have c6b1 : decide (0 ≤ (ji5)) = true := decide_eq_true c6
     clear c6
     by_cases c7 : (ji5) ≤ (x0_1.size : Int)
     ·rw [if_pos c7] at H
      have c7b0 := eq_true c7
      have c7b1 : decide ((ji5) ≤ (x0_1.size : Int)) = true := decide_eq_true c7
      clear c7
      obtain ⟨y208, hy208⟩ : ∃ y_ : ByteArray, y_ = (x0_1.extract ((ji5) : Int).toNat x0_1.size) := ⟨_, rfl⟩
      replace H : ((E1.zpb.f k1 y208).bind fun t209 => ((zjb.f k1 t207).bind fun t210 => (if 0 ≤ t209 then (if t209 ≤ (y208.size : Int) then ((zab.f k1 (y208.extract 0 (t209 : Int).toNat)).bind fun bt211 => (if x2_1.length < 4398046511104 then (zu.l0 k1 (y208.extract (t209 : Int).toNat y208.size) (x2_1 ++ [(⟨t210, (⟨bt211.1, bt211.2⟩ : S31)⟩ : S56)])) else (none))) else (none)) else (none)))) = some (r1, r2) := by (have H2_ := (Option.bind_some _ _).symm.trans H; rw [hy208]; with_reducible exact H2_)
      have Ny208 := za.mk hy208
      clear hy208
      replace H := Option.bind_eq_some_iff.mp H
      obtain ⟨t209, A80, H⟩ := H
      replace H : ((zjb.f k1 t207).bind fun t210 => (if 0 ≤ t209 then (if t209 ≤ (y208.size : Int) then ((zab.f k1 (y208.extract 0 (t209 : Int).toNat)).bind fun bt211 => (if x2_1.length < 4398046511104 then (zu.l0 k1 (y208.extract (t209 : Int).toNat y208.size) (x2_1 ++ [(⟨t210, (⟨bt211.1, bt211.2⟩ : S31)⟩ : S56)])) else (none))) else (none)) else (none))) = some (r1, r2) := H
      have A8 := za.mk A80
      clear A80
      replace H := Option.bind_eq_some_iff.mp H
      obtain ⟨t210, A90, H⟩ := H
      replace H : (if 0 ≤ t209 then (if t209 ≤ (y208.size : Int) then ((zab.f k1 (y208.extract 0 (t209 : Int).toNat)).bind fun bt211 => (if x2_1.length < 4398046511104 then (zu.l0 k1 (y208.extract (t209 : Int).toNat y208.size) (x2_1 ++ [(⟨t210, (⟨bt211.1, bt211.2⟩ : S31)⟩ : S56)])) else (none))) else (none)) else (none)) = some (r1, r2) := H
      have A9 := za.mk A90
      clear A90
      by_cases c10 : 0 ≤ t209
      ·rw [if_pos c10] at H
       have c10b0 := eq_true c10
       have c10b1 : decide (0 ≤ t209) = true := decide_eq_true c10
       clear c10
       by_cases c11 : t209 ≤ (y208.size : Int)
       ·rw [if_pos c11] at H
        have c11b0 := eq_true c11
        have c11b1 : decide (t209 ≤ (y208.size : Int)) = true := decide_eq_true c11
        clear c11
        replace H := Option.bind_eq_some_iff.mp H
        obtain ⟨⟨t211, t212⟩, A120, H⟩ := H
        replace H : (if x2_1.length < 4398046511104 then (zu.l0 k1 (y208.extract (t209 : Int).toNat y208.size) (x2_1 ++ [(⟨t210, (⟨t211, t212⟩ : S31)⟩ : S56)])) else (none)) = some (r1, r2) := H
        have A12 := za.mk A120
        clear A120
        by_cases c13 : x2_1.length < 4398046511104
        ·rw [if_pos c13] at H
         have LMc13 := za.mk c13
         clear c13
         obtain ⟨y213, hy213⟩ : ∃ y_ : List (S56), y_ = (x2_1 ++ [(⟨t210, (⟨t211, t212⟩ : S31)⟩ : S56)]) := ⟨_, rfl⟩
         replace H : (zu.l0 k1 (y208.extract (t209 : Int).toNat y208.size) y213) = some (r1, r2) := by (rw [hy213]; with_reducible exact H)
         have Ny213 := za.mk hy213
         clear hy213
         have c14b0 := eq_true (of_decide_eq_true (by (with_reducible assumption)) : 0 ≤ t209)
         have c15b0 := eq_true (of_decide_eq_true (by (with_reducible assumption)) : t209 ≤ (y208.size : Int))
         obtain ⟨y216, hy216⟩ : ∃ y_ : ByteArray, y_ = (y208.extract (t209 : Int).toNat y208.size) := ⟨_, rfl⟩
         replace H : (zu.l0 k1 y216 y213) = some (r1, r2) := by (rw [hy216]; with_reducible exact H)
         have Ny216 := za.mk hy216
         clear hy216
         have H' := za.mk H
         clear H
         try go_wp2_with (first | ((with_reducible refine zx (f := 27) rfl ?_); refine zdc (some 7) rfl rfl Tryz.func27 (by kernel_rfl) rfl #[.string x0_1] rfl (by (try simp only [List.map_toArray, List.map_cons, List.map_nil]); first | done | rfl | (simp only [List.length_drop, List.length_take]; rfl)) ?_; (with_reducible refine (ztb.calls k1 x0_1 t207 _ A2.out).mono ?_); rintro e w16 ⟨rfl, hb⟩; refine ⟨_, rfl, ?_⟩; replace HO_2 := za.mk (Kd.R_below (by (with_reducible repeat (first | apply Kd.R_alloc | apply Kd.R_drewN | apply Kd.R_drew)); exact HO_2.out) hb); replace HB := za.mk (zm (by (with_reducible exact HB.out)) hb); (try clear hb); (try clear hb2); (try clear hk); (try clear hi)) | ((with_reducible refine zmb (N := 16) rfl ?_); refine zxd ?hg (N := 16) ?hd (v := .string (x0_1.extract ((ji5) : Int).toNat x0_1.size)) (v' := .string y208) ?hr (congrArg Value.string Ny208.out.symm) ?_; (case hd => rfl); (case hg => rfl); (case hr => first | (go_simp; done) | (go_simp; rfl))) | ((with_reducible refine zx (f := 39) rfl ?_); refine zdc (some 18) rfl rfl Tryz.func39 (by kernel_rfl) rfl #[.string y208, .func (.func 40) #[] #[]] rfl (by (try simp only [List.map_toArray, List.map_cons, List.map_nil]); first | done | rfl | (simp only [List.length_drop, List.length_take]; rfl)) ?_; (with_reducible refine (E1.zpb.calls k1 y208 t209 _ A8.out).mono ?_); rintro e w' ⟨rfl, ⟨nd, rfl⟩⟩; refine ⟨_, rfl, ?_⟩))
         (try (rw [zre w16]; generalize hq_ : World.drewN w16 _ = w16; have n0_ : za (Kd.R k56 56 w16 w.heap.size (fun _ => True) u2 x2_1) := ⟨by rw [← hq_]; exact (by (with_reducible repeat (first | apply Kd.R_alloc | apply Kd.R_drewN | apply Kd.R_drew)); exact HO_2.out)⟩; have n1_ : za (Below w.heap.size w w16) := ⟨by rw [← hq_]; exact (by (with_reducible apply zc; with_reducible exact HB.out))⟩; clear HO_2 HB hq_; have HO_2 := n0_; have HB := n1_; clear n0_ n1_))
         replace HO_2 := za.mk (Kd.R_drew HO_2.out)
         replace HB := za.mk (zz HB.out)
         refine zeh (n := 11) (S := fun w' => True) (ds := []) #[false, false, false, false, false, false, false, false, false, false, false] (by kernel_rfl) rfl rfl trivial (fun hHeld => ?_); refine zmg zu.tab6 zu.bits6 (fun HT_ HW_ => ?_)
         generalize w16.drew = w17 at HO_2 HB hHeld ⊢
         refine pure_ (i := 0) (N := some 19) (v := ?_) (a' := ?_) #[true, false, false, false, false, false, false, false, false, false, false] rfl rfl (zkc HT_.out (by kernel_rfl)) (fun _ _ _ h => h) (Or.inl ⟨by rfl, ?_⟩) ?_ ?_
         rotate_left
         ·intro w'
          go_simp
          with_reducible rfl
         rotate_left
         ·simp only [Act.put, List.setIfInBounds_toArray, List.set_cons_zero, List.set_cons_succ, i64_w, i32_w]
          rfl
         refine pure_ (i := 1) (N := some 20) (v := ?_) (a' := ?_) #[true, true, false, false, false, false, false, false, false, false, false] rfl rfl (zkc HT_.out (by kernel_rfl)) (fun _ _ _ h => h) (Or.inl ⟨by rfl, ?_⟩) ?_ ?_
         rotate_left
         ·intro w'
          go_simp
          with_reducible rfl
         rotate_left
         ·simp only [Act.put, List.setIfInBounds_toArray, List.set_cons_zero, List.set_cons_succ, i64_w, i32_w]
          rfl
         refine pure_ (i := 3) (N := some 22) (v := ?_) (a' := ?_) #[true, true, false, true, false, false, false, false, false, false, false] rfl rfl (zkc HT_.out (by kernel_rfl)) (fun _ _ _ h => h) (Or.inl ⟨by rfl, ?_⟩) ?_ ?_
         rotate_left
         ·intro w'
          go_simp
          with_reducible rfl
         rotate_left
         ·simp only [Act.put, List.setIfInBounds_toArray, List.set_cons_zero, List.set_cons_succ, i64_w, i32_w]
          rfl
         refine pure_ (i := 4) (N := some 23) (v := ?_) (a' := ?_) #[true, true, false, true, true, false, false, false, false, false, false] rfl rfl (zkc HT_.out (by kernel_rfl)) (fun _ _ _ h => h) (Or.inl ⟨by rfl, ?_⟩) ?_ ?_
         rotate_left
         ·intro w'
          go_simp
          with_reducible rfl
         rotate_left
         ·simp only [Act.put, List.setIfInBounds_toArray, List.set_cons_zero, List.set_cons_succ, i64_w, i32_w]
          rfl
         refine pure_ (i := 5) (N := some 24) (v := ?_) (a' := ?_) #[true, true, false, true, true, true, false, false, false, false, false] rfl rfl (zkc HT_.out (by kernel_rfl)) (fun _ _ _ h => h) (Or.inl ⟨by rfl, ?_⟩) ?_ ?_
         rotate_left
         ·intro w'
          go_simp
          with_reducible rfl
         rotate_left
         ·simp only [Act.put, List.setIfInBounds_toArray, List.set_cons_zero, List.set_cons_succ, i64_w, i32_w]
          rfl
         refine one_ (i := 2) (N := some 21) #[true, true, true, true, true, true, false, false, false, false, false] rfl rfl (zje HT_.out (by kernel_rfl)) (by decide) (fun K hK => ?_)
         refine goes_ Tryz.func46 (by kernel_rfl) rfl #[.string t207] (by rfl) rfl rfl (by (try simp only [List.map_toArray, List.map_cons, List.map_nil]); first | done | rfl | (simp only [List.length_drop, List.length_take]; rfl)) ?_
         with_reducible refine (zjb.calls k1 t207 t210 _ A9.out).mono ?_
         rintro e w18 ⟨rfl, hb⟩
         refine ⟨_, rfl, ?_⟩
         replace HO_2 := za.mk (Kd.R_below (by (with_reducible repeat (first | apply Kd.R_alloc | apply Kd.R_drewN | apply Kd.R_drew)); exact HO_2.out) hb)
         replace HB := za.mk (zm (by (with_reducible exact HB.out)) hb)
         (try clear hb)
         (try clear hb2)
         (try clear hk)
         (try clear hi)
         refine hK.out _ _ trivial (fun hHeld => ?_)
         clear hK K
         refine norm_ (a' := ?_) ?_ ?_
         rotate_left
         ·show Act.put _ (some 21) _ = _
          simp only [Act.put, List.setIfInBounds_toArray, List.set_cons_zero, List.set_cons_succ, i64_w, i32_w]
          rfl
         refine one_ (i := 6) (N := some 25) #[true, true, true, true, true, true, true, false, false, false, false] rfl rfl (zje HT_.out (by kernel_rfl)) (by decide) (fun K hK => ?_)
         refine goes_ Tryz.func41 (by kernel_rfl) rfl #[.string (y208.extract 0 (t209 : Int).toNat)] (by rfl) rfl rfl (by (try simp only [List.map_toArray, List.map_cons, List.map_nil]); first | done | rfl | (simp only [List.length_drop, List.length_take]; rfl)) ?_
         with_reducible refine (zab.calls k1 (y208.extract 0 (t209 : Int).toNat) t211 t212 _ A12.out).mono ?_
         rintro e w19 ⟨rfl, hb⟩
         refine ⟨_, rfl, ?_⟩
         replace HO_2 := za.mk (Kd.R_below (by (with_reducible repeat (first | apply Kd.R_alloc | apply Kd.R_drewN | apply Kd.R_drew)); exact HO_2.out) hb)
         replace HB := za.mk (zm (by (with_reducible exact HB.out)) hb)
         (try clear hb)
         (try clear hb2)
         (try clear hk)
         (try clear hi)
         refine hK.out _ _ trivial (fun hHeld => ?_)
         clear hK K
         refine norm_ (a' := ?_) ?_ ?_
         rotate_left
         ·show Act.put _ (some 25) _ = _
          simp only [Act.put, List.setIfInBounds_toArray, List.set_cons_zero, List.set_cons_succ, i64_w, i32_w]
          rfl
         refine pure_ (i := 7) (N := some 26) (v := ?_) (a' := ?_) #[true, true, true, true, true, true, true, true, false, false, false] rfl rfl (zkc HT_.out (by kernel_rfl)) (fun _ _ _ h => h) (Or.inl ⟨by rfl, ?_⟩) ?_ ?_
         rotate_left
         ·intro w'
          go_simp
          with_reducible rfl
         rotate_left
         ·simp only [Act.put, List.setIfInBounds_toArray, List.set_cons_zero, List.set_cons_succ, i64_w, i32_w]
          rfl
         refine one_ (i := 8) (N := some 27) #[true, true, true, true, true, true, true, true, true, false, false] rfl rfl (zje HT_.out (by kernel_rfl)) (by decide) (fun K hK => ?_)
         refine value_ (w1 := ?_) (v := ?_) (by rfl) rfl ?_ ?_
         rotate_left 2
         ·go_simp
          constructor
          ·rfl
          ·rfl
         refine hK.out _ _ trivial (fun hHeld => ?_)
         clear hK K
         refine norm_ (a' := ?_) ?_ ?_
         rotate_left
         ·show Act.put _ (some 27) _ = _
          simp only [Act.put, List.setIfInBounds_toArray, List.set_cons_zero, List.set_cons_succ, i64_w, i32_w]
          rfl
         refine one_ (i := 9) (N := some 28) #[true, true, true, true, true, true, true, true, true, true, false] rfl rfl (zje HT_.out (by kernel_rfl)) (by decide) (fun K hK => ?_)
         refine Kd.R_append_step k56 (w0 := w) w.heap.size (by rfl) (.tmp 19) (.tmp 27) 29 56 (.agg #[(.int .i64 0), (.bool false), (.string ⟨#[]⟩)]) 32 rfl Tryz.underlying29 info56 rfl (by decide) (by omega) u2 x2_1 (⟨t210, (⟨t211, t212⟩ : S31)⟩ : S56) [.int .i64 t210, .bool t211, .string t212] (fun _ => True) (fun _ => False) rfl rfl ?aP (fun _ hk => hk.elim) ?aF ?aO ?aB ?aS ?aL ?_
         (case aP => exact k56_mkM _ _ _ (⟨t210, (⟨t211, t212⟩ : S31)⟩ : S56))
         (case aB => exact (by (with_reducible exact HB.out)))
         (case aF => exact (fun _ _ => trivial))
         (case aO => exact (by (with_reducible repeat (first | apply Kd.R_alloc | apply Kd.R_drewN | apply Kd.R_drew)); exact HO_2.out))
         (case aS => exact (zl (by (with_reducible exact HB.out))))
         (case aL => have := LMc13.out; omega)
         intro v214 w20 ho hb hg hat
         rw [← Ny213.out] at ho
         have HO215 := za.mk ho
         replace HB := za.mk hb
         clear HO_2
         clear ho hb hg hat
         refine hK.out _ _ trivial (fun hHeld => ?_)
         clear hK K
         refine norm_ (a' := ?_) ?_ ?_
         rotate_left
         ·show Act.put _ (some 28) _ = _
          simp only [Act.put, List.setIfInBounds_toArray, List.set_cons_zero, List.set_cons_succ, i64_w, i32_w]
          rfl
         refine pure_ (i := 10) (N := some 2) (v := ?_) (a' := ?_) #[true, true, true, true, true, true, true, true, true, true, true] rfl rfl (zkc HT_.out (by kernel_rfl)) (fun _ _ _ h => h) (Or.inl ⟨by rfl, ?_⟩) ?_ ?_
         rotate_left
         ·intro w'
          go_simp
          with_reducible rfl
         rotate_left
         ·simp only [Act.put, List.setIfInBounds_toArray, List.set_cons_zero, List.set_cons_succ, i64_w, i32_w]
          rfl
         refine done_ (done_of HT_.out (by kernel_rfl)) ?_
         try go_wp2_with (((with_reducible refine zmb (N := 31) rfl ?_); refine zxd ?hg (N := 31) ?hd (v := .string (y208.extract (t209 : Int).toNat y208.size)) (v' := .string y216) ?hr (congrArg Value.string Ny216.out.symm) ?_; (case hd => rfl); (case hg => rfl); (case hr => first | (go_simp; done) | (go_simp; rfl))))
         go_roundg k1
         case measure => have := HK1.out; omega
         case rel => exact ⟨(y216), (y213), (by rfl), H', ⟨by have := HK1.out; omega⟩, ⟨by (with_reducible repeat (first | apply Kd.R_alloc | apply Kd.R_drewN | apply Kd.R_drew)); exact HO215.out⟩, ⟨by (with_reducible exact HB.out)⟩⟩
        ·rw [if_neg c13] at H
         exact absurd H (by simp)
       ·rw [if_neg c11] at H
        exact absurd H (by simp)
      ·rw [if_neg c10] at H
       exact absurd H (by simp)
     ·rw [if_neg c7] at H
      exact absurd H (by simp)
    ·rw [if_neg c6] at H
     exact absurd H (by simp)
end Go.Proofs.YtapaijpglfmfgaaGreatDoor.Q
end
section
namespace Go.Proofs.YtapaijpglfmfgaaGreatDoor.Q
open Go.RowKit YtapaijpglfmfgaaGreatDoorH YtapaijpglfmfgaaGreatDoorG YtapaijpglfmfgaaGreatDoorW.PrintWords YtapaijpglfmfgaaGreatDoorW.PrintLast YtapaijpglfmfgaaGreatDoorW.PrintMore YtapaijpglfmfgaaGreatDoorC
attribute [local go_sem] zsc zuc zhd zgd zhc zic zvc ztc
mutual
def zi.j0 : Nat → ByteArray → Bool → Option (Bool)
 | 0, _, _ => none
 | k + 1, x4, x25 => if x25 = true then (if 1 ≤ (x4.size : Int) then (zi.j1 k (x4.extract 1 x4.size)) else (none)) else (zi.j1 k x4)
def zi.j1 : Nat → ByteArray → Option (Bool)
 | 0, _ => none
 | k + 1, x4 => (zu.f k x4).bind fun bt223 => (zi.l0 k bt223.2 0)
def zi.l0 : Nat → ByteArray → Int → Option (Bool)
 | 0, _, _ => none
 | k + 1, x4, x5 => if x5 < (x4.size : Int) then (if 0 ≤ x5 then (if x5 ≤ (x4.size : Int) then ((ztb.f k (x4.extract (x5 : Int).toNat x4.size)).bind fun t228 => (if t228.toList = ([] : List UInt8) then (zi.l0 k x4 (wrap64 (x5 + 1))) else (some false))) else (none)) else (none)) else (some true)
end
def zi.f (k : Nat) (a0 : ByteArray) : Option (Bool) := (zyc.f k a0).bind fun t217 => (if t217 = true then ((zt.f k a0).bind fun bt218 => (if bt218.2.toList = ([] : List UInt8) then (zi.j0 k bt218.2 false) else (if 0 < (bt218.2.size : Int) then (if (bt bt218.2 0) ≥ 97 then (zi.j0 k bt218.2 (decide ((bt bt218.2 0) ≤ 122))) else (zi.j0 k bt218.2 false)) else (none)))) else (some false))
theorem zi.calls (k : Nat) (a0 : ByteArray) (r : Bool) (w : World) (h : zi.f k a0 = some r) :
  Calls Tryz.prog 8 #[.string a0] w fun e w' => e = .returned (.bool r) ∧ Below w.heap.size w w' := by
 have HB := za.mk (Below.refl w.heap.size w)
 have H : ((zyc.f k a0).bind fun t217 => (if t217 = true then ((zt.f k a0).bind fun bt218 => (if bt218.2.toList = ([] : List UInt8) then (zi.j0 k bt218.2 false) else (if 0 < (bt218.2.size : Int) then (if (bt bt218.2 0) ≥ 97 then (zi.j0 k bt218.2 (decide ((bt bt218.2 0) ≤ 122))) else (zi.j0 k bt218.2 false)) else (none)))) else (some false))) = some r := h
 clear h
 replace H := Option.bind_eq_some_iff.mp H
 obtain ⟨t217, A20, H⟩ := H
 replace H : (if t217 = true then ((zt.f k a0).bind fun bt218 => (if bt218.2.toList = ([] : List UInt8) then (zi.j0 k bt218.2 false) else (if 0 < (bt218.2.size : Int) then (if (bt bt218.2 0) ≥ 97 then (zi.j0 k bt218.2 (decide ((bt bt218.2 0) ≤ 122))) else (zi.j0 k bt218.2 false)) else (none)))) else (some false)) = some r := H
 have A2 := za.mk A20
 clear A20
 by_cases c3 : t217 = true
 ·subst c3
  have H1 : ((zt.f k a0).bind fun bt218 => (if bt218.2.toList = ([] : List UInt8) then (zi.j0 k bt218.2 false) else (if 0 < (bt218.2.size : Int) then (if (bt bt218.2 0) ≥ 97 then (zi.j0 k bt218.2 (decide ((bt bt218.2 0) ≤ 122))) else (zi.j0 k bt218.2 false)) else (none)))) = some r := by rw [if_pos rfl] at H; exact H
  clear H
  have H := H1
  clear H1
  replace H := Option.bind_eq_some_iff.mp H
  obtain ⟨⟨t218, t219⟩, A40, H⟩ := H
  replace H : (if t219.toList = ([] : List UInt8) then (zi.j0 k t219 false) else (if 0 < (t219.size : Int) then (if (bt t219 0) ≥ 97 then (zi.j0 k t219 (decide ((bt t219 0) ≤ 122))) else (zi.j0 k t219 false)) else (none))) = some r := H
  have A4 := za.mk A40
  clear A40
  have HC5 := za.mk H
  clear H
  go_enter Tryz.func8, Tryz.ntmps8
  go_upto_region 4 with (first | ((with_reducible refine zx (f := 24) rfl ?_); refine zdc (some 7) rfl rfl Tryz.func24 (by kernel_rfl) rfl #[.string a0] rfl (by (try simp only [List.map_toArray, List.map_cons, List.map_nil]); first | done | rfl | (simp only [List.length_drop, List.length_take]; rfl)) ?_; (with_reducible refine (zyc.calls k a0 true _ A2.out).mono ?_); rintro e w' ⟨rfl, ⟨nd, rfl⟩⟩; refine ⟨_, rfl, ?_⟩) | ((with_reducible refine zx (f := 25) rfl ?_); refine zdc (some 11) rfl rfl Tryz.func25 (by kernel_rfl) rfl #[.string a0] rfl (by (try simp only [List.map_toArray, List.map_cons, List.map_nil]); first | done | rfl | (simp only [List.length_drop, List.length_take]; rfl)) ?_; (with_reducible refine (zt.calls k a0 t218 t219 _ A4.out).mono ?_); rintro e w6 ⟨v220, rfl, ho0, hb⟩; refine ⟨_, rfl, ?_⟩; have HO221 := za.mk (Kd.R_lower ho0 (zl (by (with_reducible apply zc; with_reducible exact HB.out)))); replace HB := za.mk (zm (by (with_reducible apply zc; with_reducible exact HB.out)) hb); (try clear hb); (try clear hb2); (try clear hk); (try clear hi); (try clear ho0)))
  (try simp only [Act.put, List.setIfInBounds_toArray, List.set_cons_zero, List.set_cons_succ])
  go_cut [25] (fun v25 wc => ∃ (kq : Nat) (x25_4 : Bool), v25 = .bool x25_4 ∧ za (zi.j0 kq t219 x25_4 = some r) ∧ za (kq ≤ k) ∧ za (Below w.heap.size w wc))
  case first =>
   have H := HC5.out
   clear HC5
   by_cases c7 : t219.toList = ([] : List UInt8)
   ·rw [if_pos c7] at H
    have c7b0 : (t219.toList == ([] : List UInt8)) = true := beq_iff_eq.mpr c7
    have c7b1 : (t219.toList != ([] : List UInt8)) = false := bne_eq_false_iff_eq.mpr c7
    try have c7b9 : t219.toList.isEmpty = true := by simpa using c7b0
    clear c7
    (first | rw [c7b0] | (simp only [i64_w, i32_w]; rw [c7b0]) | rw [c7b9] | skip)
    have H' := za.mk H
    clear H
    go_wp2
    go_meet
    case rel => exact ⟨_, (false), (by rfl), H', ⟨by omega⟩, ⟨by (with_reducible exact HB.out)⟩⟩
   ·rw [if_neg c7] at H
    have c7b0 : (t219.toList == ([] : List UInt8)) = false := beq_eq_false_iff_ne.mpr c7
    have c7b1 : (t219.toList != ([] : List UInt8)) = true := bne_iff_ne.mpr c7
    try have c7b9 : t219.toList.isEmpty = false := by simpa using c7b0
    (first | rw [c7b0] | (simp only [i64_w, i32_w]; rw [c7b0]) | rw [c7b9] | skip)
    by_cases c8 : 0 < (t219.size : Int)
    ·rw [if_pos c8] at H
     have c8b0 : decide (0 < (t219.size : Int)) = true := decide_eq_true c8
     have c8b1 : decide (0 < t219.size) = true := decide_eq_true (by omega)
     clear c8
     by_cases c10 : (bt t219 0) ≥ 97
     ·rw [if_pos c10] at H
      have c10b0 : decide (97 ≤ (bt t219 0)) = true := decide_eq_true c10
      clear c10
      have H' := za.mk H
      clear H
      have p9 : 0 ≤ (0 : Int) := (by omega)
      have q9 : 0 < t219.size := (by have : (0 : Int) < (t219.size : Int) := of_decide_eq_true (by (with_reducible assumption)); omega)
      have hx9 : ∀ h : 0 < t219.size, ((t219[0]'h).toNat : Int) = bt t219 0 := bt_at t219 0
      clear p9
      have qi9 : (0 < (t219.size : Int)) = True := eq_true (of_decide_eq_true (by (with_reducible assumption)))
      replace q9 := eq_true q9
      have p11 : 0 ≤ (0 : Int) := (by omega)
      have q11 : 0 < t219.size := (by have : (0 : Int) < (t219.size : Int) := of_decide_eq_true (by (with_reducible assumption)); omega)
      have hx11 : ∀ h : 0 < t219.size, ((t219[0]'h).toNat : Int) = bt t219 0 := bt_at t219 0
      clear p11
      have qi11 : (0 < (t219.size : Int)) = True := eq_true (of_decide_eq_true (by (with_reducible assumption)))
      replace q11 := eq_true q11
      go_wp2
      go_meet
      case rel => exact ⟨_, (decide ((bt t219 0) ≤ 122)), (by rfl), H', ⟨by omega⟩, ⟨by (with_reducible exact HB.out)⟩⟩
     ·rw [if_neg c10] at H
      have c10b0 : decide (97 ≤ (bt t219 0)) = false := decide_eq_false c10
      clear c10
      have H' := za.mk H
      clear H
      have p9 : 0 ≤ (0 : Int) := (by omega)
      have q9 : 0 < t219.size := (by have : (0 : Int) < (t219.size : Int) := of_decide_eq_true (by (with_reducible assumption)); omega)
      have hx9 : ∀ h : 0 < t219.size, ((t219[0]'h).toNat : Int) = bt t219 0 := bt_at t219 0
      clear p9
      have qi9 : (0 < (t219.size : Int)) = True := eq_true (of_decide_eq_true (by (with_reducible assumption)))
      replace q9 := eq_true q9
      go_wp2
      go_meet
      case rel => exact ⟨_, (false), (by rfl), H', ⟨by omega⟩, ⟨by (with_reducible exact HB.out)⟩⟩
    ·rw [if_neg c8] at H
     exact absurd H (by simp)
  case rest =>
   clear HC5
   obtain ⟨kq, x25_4, rfl, HA, HJ4, HB⟩ := hcut
   cases kq with
   | zero => exact absurd HA.out (by simp [zi.j0])
   | succ kj4 =>
    have H := HA.out
    clear HA
    simp only [zi.j0] at H
    have HC12 := za.mk H
    clear H
    go_upto_if 25 with (fail)
    go_cut [4, 25] (fun v4 v25 wc => ∃ (kq : Nat) (x4_11 : ByteArray), v4 = .string x4_11 ∧ za (zi.j1 kq x4_11 = some r) ∧ za (kq ≤ kj4) ∧ za (Below w.heap.size w wc))
    case first =>
     have H := HC12.out
     clear HC12
     by_cases c13 : x25_4 = true
     ·subst c13
      have H1 : (if 1 ≤ (t219.size : Int) then (zi.j1 kj4 (t219.extract 1 t219.size)) else (none)) = some r := by rw [if_pos rfl] at H; exact H
      clear H
      have H := H1
      clear H1
      by_cases c14 : 1 ≤ (t219.size : Int)
      ·rw [if_pos c14] at H
       have c14b0 := eq_true c14
       have c14b1 : decide (1 ≤ (t219.size : Int)) = true := decide_eq_true c14
       clear c14
       obtain ⟨y222, hy222⟩ : ∃ y_ : ByteArray, y_ = (t219.extract 1 t219.size) := ⟨_, rfl⟩
       replace H : (zi.j1 kj4 y222) = some r := by (rw [hy222]; with_reducible exact H)
       have Ny222 := za.mk hy222
       clear hy222
       have H' := za.mk H
       clear H
       go_wp2_with (((with_reducible refine zmb (N := 27) rfl ?_); refine zxd ?hg (N := 27) ?hd (v := .string (t219.extract 1 t219.size)) (v' := .string y222) ?hr (congrArg Value.string Ny222.out.symm) ?_; (case hd => rfl); (case hg => rfl); (case hr => first | (go_simp; done) | (go_simp; rfl))))
       go_meet
       case rel => exact ⟨_, (y222), (by rfl), H', ⟨by have := HJ4.out; first | omega | exact Nat.le_refl _⟩, ⟨by (with_reducible exact HB.out)⟩⟩
      ·rw [if_neg c14] at H
       exact absurd H (by simp)
     ·replace c13 := Bool.eq_false_iff.mpr c13
      subst c13
      have H1 : (zi.j1 kj4 t219) = some r := by rw [if_neg (show ¬ (false = true) by decide)] at H; exact H
      clear H
      have H := H1
      clear H1
      have H' := za.mk H
      clear H
      go_wp2
      go_meet
      case rel => exact ⟨_, (t219), (by rfl), H', ⟨by have := HJ4.out; first | omega | exact Nat.le_refl _⟩, ⟨by (with_reducible exact HB.out)⟩⟩
    case rest =>
     clear HC12
     obtain ⟨kq, x4_11, rfl, HA, HJ11, HB⟩ := hcut
     cases kq with
     | zero => exact absurd HA.out (by simp [zi.j1])
     | succ kj11 =>
      have H := HA.out
      clear HA
      simp only [zi.j1] at H
      replace H := Option.bind_eq_some_iff.mp H
      obtain ⟨⟨t223, t224⟩, A150, H⟩ := H
      replace H : (zi.l0 kj11 t224 0) = some r := H
      have A15 := za.mk A150
      clear A150
      have H' := za.mk H
      clear H
      go_wp2_with (((with_reducible refine zx (f := 26) rfl ?_); refine zdc (some 30) rfl rfl Tryz.func26 (by kernel_rfl) rfl #[.string x4_11] rfl (by (try simp only [List.map_toArray, List.map_cons, List.map_nil]); first | done | rfl | (simp only [List.length_drop, List.length_take]; rfl)) ?_; (with_reducible refine (zu.calls kj11 x4_11 t223 t224 _ A15.out).mono ?_); rintro e w16 ⟨v225, rfl, ho0, hb⟩; refine ⟨_, rfl, ?_⟩; have HO226 := za.mk (Kd.R_lower ho0 (zl (by (with_reducible exact HB.out)))); replace HB := za.mk (zm (by (with_reducible exact HB.out)) hb); (try clear hb); (try clear hb2); (try clear hk); (try clear hi); (try clear ho0)))
      (try simp only [Act.put, List.setIfInBounds_toArray, List.set_cons_zero, List.set_cons_succ])
      go_loopg [5] kj11 (fun kq v5 w' => ∃ (x5_3 : Int), v5 = .int .i64 x5_3 ∧ za (zi.l0 kq t224 x5_3 = some r) ∧ za (kq ≤ kj11) ∧ za (Below w.heap.size w w'))
      case atStart => exact ⟨(0), (by rfl), H', ⟨Nat.le_refl _⟩, ⟨by (with_reducible exact HB.out)⟩⟩
      case round =>
       clear H'
       obtain ⟨x5_3, rfl, HA, HK3, HB⟩ := hrel
       cases gk with
       | zero => exact absurd HA.out (by simp [zi.l0])
       | succ k3 =>
        have H := HA.out
        clear HA
        simp only [zi.l0] at H
        by_cases c17 : x5_3 < (t224.size : Int)
        ·rw [if_pos c17] at H
         have c17b0 : decide (x5_3 < (t224.size : Int)) = true := decide_eq_true c17
         clear c17
         by_cases c18 : 0 ≤ x5_3
         ·rw [if_pos c18] at H
          have c18b0 := eq_true c18
          have c18b1 : decide (0 ≤ x5_3) = true := decide_eq_true c18
          clear c18
          by_cases c19 : x5_3 ≤ (t224.size : Int)
          ·rw [if_pos c19] at H
           have c19b0 := eq_true c19
           have c19b1 : decide (x5_3 ≤ (t224.size : Int)) = true := decide_eq_true c19
           clear c19
           obtain ⟨y227, hy227⟩ : ∃ y_ : ByteArray, y_ = (t224.extract (x5_3 : Int).toNat t224.size) := ⟨_, rfl⟩
           replace H : ((ztb.f k3 y227).bind fun t228 => (if t228.toList = ([] : List UInt8) then (zi.l0 k3 t224 (wrap64 (x5_3 + 1))) else (some false))) = some r := by (rw [hy227]; with_reducible exact H)
           have Ny227 := za.mk hy227
           clear hy227
           replace H := Option.bind_eq_some_iff.mp H
           obtain ⟨t228, A200, H⟩ := H
           replace H : (if t228.toList = ([] : List UInt8) then (zi.l0 k3 t224 (wrap64 (x5_3 + 1))) else (some false)) = some r := H
           have A20 := za.mk A200
           clear A200
           by_cases c21 : t228.toList = ([] : List UInt8)
           ·rw [if_pos c21] at H
            have c21b0 : (t228.toList == ([] : List UInt8)) = true := beq_iff_eq.mpr c21
            have c21b1 : (t228.toList != ([] : List UInt8)) = false := bne_eq_false_iff_eq.mpr c21
            try have c21b9 : t228.toList.isEmpty = true := by simpa using c21b0
            clear c21
            have H' := za.mk H
            clear H
            go_wp2_with (first | ((with_reducible refine zmb (N := 41) rfl ?_); refine zxd ?hg (N := 41) ?hd (v := .string (t224.extract (x5_3 : Int).toNat t224.size)) (v' := .string y227) ?hr (congrArg Value.string Ny227.out.symm) ?_; (case hd => rfl); (case hg => rfl); (case hr => first | (go_simp; done) | (go_simp; rfl))) | ((with_reducible refine zx (f := 27) rfl ?_); refine zdc (some 42) rfl rfl Tryz.func27 (by kernel_rfl) rfl #[.string y227] rfl (by (try simp only [List.map_toArray, List.map_cons, List.map_nil]); first | done | rfl | (simp only [List.length_drop, List.length_take]; rfl)) ?_; (with_reducible refine (ztb.calls k3 y227 t228 _ A20.out).mono ?_); rintro e w22 ⟨rfl, hb⟩; refine ⟨_, rfl, ?_⟩; replace HB := za.mk (zm (by (with_reducible exact HB.out)) hb); (try clear hb); (try clear hb2); (try clear hk); (try clear hi)))
            go_roundg k3
            case measure => have := HJ4.out; have := HJ11.out; have := HK3.out; omega
            case rel => exact ⟨(wrap64 (x5_3 + 1)), (by rfl), H', ⟨by have := HJ4.out; have := HJ11.out; have := HK3.out; omega⟩, ⟨by (with_reducible exact HB.out)⟩⟩
           ·rw [if_neg c21] at H
            have c21b0 : (t228.toList == ([] : List UInt8)) = false := beq_eq_false_iff_ne.mpr c21
            have c21b1 : (t228.toList != ([] : List UInt8)) = true := bne_iff_ne.mpr c21
            try have c21b9 : t228.toList.isEmpty = false := by simpa using c21b0
            obtain rfl := Option.some.inj H
            go_wp2_with (first | ((with_reducible refine zmb (N := 41) rfl ?_); refine zxd ?hg (N := 41) ?hd (v := .string (t224.extract (x5_3 : Int).toNat t224.size)) (v' := .string y227) ?hr (congrArg Value.string Ny227.out.symm) ?_; (case hd => rfl); (case hg => rfl); (case hr => first | (go_simp; done) | (go_simp; rfl))) | ((with_reducible refine zx (f := 27) rfl ?_); refine zdc (some 42) rfl rfl Tryz.func27 (by kernel_rfl) rfl #[.string y227] rfl (by (try simp only [List.map_toArray, List.map_cons, List.map_nil]); first | done | rfl | (simp only [List.length_drop, List.length_take]; rfl)) ?_; (with_reducible refine (ztb.calls k3 y227 t228 _ A20.out).mono ?_); rintro e w23 ⟨rfl, hb⟩; refine ⟨_, rfl, ?_⟩; replace HB := za.mk (zm (by (with_reducible exact HB.out)) hb); (try clear hb); (try clear hb2); (try clear hk); (try clear hi)))
            go_ret
            exact ⟨by rfl, by (with_reducible exact HB.out)⟩
          ·rw [if_neg c19] at H
           exact absurd H (by simp)
         ·rw [if_neg c18] at H
          exact absurd H (by simp)
        ·rw [if_neg c17] at H
         have c17b0 : decide (x5_3 < (t224.size : Int)) = false := decide_eq_false c17
         clear c17
         obtain rfl := Option.some.inj H
         go_wp2
         go_ret
         exact ⟨by rfl, by (with_reducible exact HB.out)⟩
 ·replace c3 := Bool.eq_false_iff.mpr c3
  subst c3
  have H1 : (some false) = some r := by rw [if_neg (show ¬ (false = true) by decide)] at H; exact H
  clear H
  have H := H1
  clear H1
  obtain rfl := Option.some.inj H
  go_enter Tryz.func8, Tryz.ntmps8
  go_wp2_with (((with_reducible refine zx (f := 24) rfl ?_); refine zdc (some 7) rfl rfl Tryz.func24 (by kernel_rfl) rfl #[.string a0] rfl (by (try simp only [List.map_toArray, List.map_cons, List.map_nil]); first | done | rfl | (simp only [List.length_drop, List.length_take]; rfl)) ?_; (with_reducible refine (zyc.calls k a0 false _ A2.out).mono ?_); rintro e w' ⟨rfl, ⟨nd, rfl⟩⟩; refine ⟨_, rfl, ?_⟩))
  go_ret
  exact ⟨by rfl, by (with_reducible apply zc; with_reducible exact HB.out)⟩
def zob.l0 : Nat → List (S52) → Int → Option (Bool)
 | 0, _, _ => none
 | k + 1, x0, x3 => if x3 < (x0.length : Int) then (if 0 ≤ x3 then (if ((zld x0 x3).f0).toList = ([] : List UInt8) then (some false) else (zob.l0 k x0 (wrap64 (x3 + 1)))) else (none)) else (some true)
def zob.f (k : Nat) (l0 : List (S52)) : Option (Bool) := zob.l0 k l0 0
theorem zob.calls (k : Nat) (A0 : Option Addr) (c0 : Nat) (l0 : List (S52)) (r : Bool) (w : World) (hr0 : Kd.C k52 w A0 l0.length l0) (hc0 : l0.length ≤ c0) (h : zob.f k l0 = some r) :
  Calls Tryz.prog 28 #[.slice A0 l0.length c0] w fun e w' => e = .returned (.bool r) ∧ zo w w' := by
 have HR0 := za.mk hr0
 have HC0 := za.mk hc0
 clear hr0 hc0
 have H : (zob.l0 k l0 0) = some r := h
 clear h
 have H' := za.mk H
 clear H
 go_enter Tryz.func28, Tryz.ntmps28
 go_wp2
 (try simp only [Act.put, List.setIfInBounds_toArray, List.set_cons_zero, List.set_cons_succ])
 go_loopg [3] k (fun kq v3 w' => ∃ (x3_1 : Int), v3 = .int .i64 x3_1 ∧ za (zob.l0 kq l0 x3_1 = some r) ∧ za (kq ≤ k) ∧ zo w w')
 case atStart => exact ⟨(0), (by rfl), H', ⟨Nat.le_refl _⟩, by repeat (first | exact zo.refl _ | apply zo.step)⟩
 case round =>
  clear H'
  obtain ⟨x3_1, rfl, HA, HK1, ⟨m1, rfl⟩⟩ := hrel
  cases gk with
  | zero => exact absurd HA.out (by simp [zob.l0])
  | succ k1 =>
   have H := HA.out
   clear HA
   simp only [zob.l0] at H
   by_cases c2 : x3_1 < (l0.length : Int)
   ·rw [if_pos c2] at H
    have c2b0 : decide (x3_1 < (l0.length : Int)) = true := decide_eq_true c2
    clear c2
    by_cases c3 : 0 ≤ x3_1
    ·rw [if_pos c3] at H
     have c3b0 : decide (0 ≤ x3_1) = true := decide_eq_true c3
     clear c3
     by_cases c4 : ((zld l0 x3_1).f0).toList = ([] : List UInt8)
     ·rw [if_pos c4] at H
      have c4b0 : (((zld l0 x3_1).f0).toList == ([] : List UInt8)) = true := beq_iff_eq.mpr c4
      have c4b1 : (((zld l0 x3_1).f0).toList != ([] : List UInt8)) = false := bne_eq_false_iff_eq.mpr c4
      clear c4
      obtain rfl := Option.some.inj H
      have p229 : 0 ≤ (x3_1 : Int) := of_decide_eq_true (by (with_reducible assumption))
      have q229 : x3_1 < (l0.length : Int) := of_decide_eq_true (by (with_reducible assumption))
      obtain ⟨ad229, e229, hx229_0, hx229_1, hx229_2, hx229_3⟩ := at_T52 HR0.out x3_1 p229 q229
      cases e229
      replace p229 := eq_true p229
      replace q229 := eq_true q229
      go_wp2
      go_ret
      exact ⟨by rfl, by repeat (first | exact zo.refl _ | apply zo.step)⟩
     ·rw [if_neg c4] at H
      have c4b0 : (((zld l0 x3_1).f0).toList == ([] : List UInt8)) = false := beq_eq_false_iff_ne.mpr c4
      have c4b1 : (((zld l0 x3_1).f0).toList != ([] : List UInt8)) = true := bne_iff_ne.mpr c4
      have H' := za.mk H
      clear H
      have p229 : 0 ≤ (x3_1 : Int) := of_decide_eq_true (by (with_reducible assumption))
      have q229 : x3_1 < (l0.length : Int) := of_decide_eq_true (by (with_reducible assumption))
      obtain ⟨ad229, e229, hx229_0, hx229_1, hx229_2, hx229_3⟩ := at_T52 HR0.out x3_1 p229 q229
      cases e229
      replace p229 := eq_true p229
      replace q229 := eq_true q229
      go_wp2
      go_roundg k1
      case measure => have := HK1.out; omega
      case rel => exact ⟨(wrap64 (x3_1 + 1)), (by rfl), H', ⟨by have := HK1.out; omega⟩, by repeat (first | exact zo.refl _ | apply zo.step)⟩
    ·rw [if_neg c3] at H
     exact absurd H (by simp)
   ·rw [if_neg c2] at H
    have c2b0 : decide (x3_1 < (l0.length : Int)) = false := decide_eq_false c2
    clear c2
    obtain rfl := Option.some.inj H
    go_wp2
    go_ret
    exact ⟨by rfl, by repeat (first | exact zo.refl _ | apply zo.step)⟩
def zbb.l0 : Nat → List (S56) → Int → Option (Bool)
 | 0, _, _ => none
 | k + 1, x0, x5 => if x5 < (x0.length : Int) then (if 0 ≤ x5 then (if ((zcd x0 x5).f0) = 4 then (some false) else (if ((zcd x0 x5).f0) = 5 then (some false) else (zbb.l0 k x0 (wrap64 (x5 + 1))))) else (none)) else (some true)
def zbb.f (k : Nat) (l0 : List (S56)) (a1 : Int) : Option (Bool) := zbb.l0 k l0 a1
theorem zbb.calls (k : Nat) (A0 : Option Addr) (c0 : Nat) (l0 : List (S56)) (a1 : Int) (r : Bool) (w : World) (hr0 : Kd.C k56 w A0 l0.length l0) (hc0 : l0.length ≤ c0) (h : zbb.f k l0 a1 = some r) :
  Calls Tryz.prog 29 #[.slice A0 l0.length c0, .int .i64 a1] w fun e w' => e = .returned (.bool r) ∧ zo w w' := by
 have HR0 := za.mk hr0
 have HC0 := za.mk hc0
 clear hr0 hc0
 have H : (zbb.l0 k l0 a1) = some r := h
 clear h
 have H' := za.mk H
 clear H
 go_enter Tryz.func29, Tryz.ntmps29
 go_wp2
 (try simp only [Act.put, List.setIfInBounds_toArray, List.set_cons_zero, List.set_cons_succ])
 go_loopg [5] k (fun kq v5 w' => ∃ (x5_1 : Int), v5 = .int .i64 x5_1 ∧ za (zbb.l0 kq l0 x5_1 = some r) ∧ za (kq ≤ k) ∧ zo w w')
 case atStart => exact ⟨(a1), (by rfl), H', ⟨Nat.le_refl _⟩, by repeat (first | exact zo.refl _ | apply zo.step)⟩
 case round =>
  clear H'
  obtain ⟨x5_1, rfl, HA, HK1, ⟨m1, rfl⟩⟩ := hrel
  cases gk with
  | zero => exact absurd HA.out (by simp [zbb.l0])
  | succ k1 =>
   have H := HA.out
   clear HA
   simp only [zbb.l0] at H
   by_cases c3 : x5_1 < (l0.length : Int)
   ·rw [if_pos c3] at H
    have c3b0 : decide (x5_1 < (l0.length : Int)) = true := decide_eq_true c3
    clear c3
    by_cases c4 : 0 ≤ x5_1
    ·rw [if_pos c4] at H
     have c4b0 : decide (0 ≤ x5_1) = true := decide_eq_true c4
     clear c4
     by_cases c5 : ((zcd l0 x5_1).f0) = 4
     ·rw [if_pos c5] at H
      have c5b0 : (((zcd l0 x5_1).f0) == 4) = true := beq_iff_eq.mpr c5
      have c5b1 : (((zcd l0 x5_1).f0) != 4) = false := bne_eq_false_iff_eq.mpr c5
      clear c5
      obtain rfl := Option.some.inj H
      have p230 : 0 ≤ (x5_1 : Int) := of_decide_eq_true (by (with_reducible assumption))
      have q230 : x5_1 < (l0.length : Int) := of_decide_eq_true (by (with_reducible assumption))
      obtain ⟨ad230, e230, hx230_0, hx230_1, hx230_2⟩ := at_T56 HR0.out x5_1 p230 q230
      cases e230
      replace p230 := eq_true p230
      replace q230 := eq_true q230
      go_wp2
      go_ret
      exact ⟨by rfl, by repeat (first | exact zo.refl _ | apply zo.step)⟩
     ·rw [if_neg c5] at H
      have c5b0 : (((zcd l0 x5_1).f0) == 4) = false := beq_eq_false_iff_ne.mpr c5
      have c5b1 : (((zcd l0 x5_1).f0) != 4) = true := bne_iff_ne.mpr c5
      by_cases c6 : ((zcd l0 x5_1).f0) = 5
      ·rw [if_pos c6] at H
       have c6b0 : (((zcd l0 x5_1).f0) == 5) = true := beq_iff_eq.mpr c6
       have c6b1 : (((zcd l0 x5_1).f0) != 5) = false := bne_eq_false_iff_eq.mpr c6
       clear c6
       obtain rfl := Option.some.inj H
       have p230 : 0 ≤ (x5_1 : Int) := of_decide_eq_true (by (with_reducible assumption))
       have q230 : x5_1 < (l0.length : Int) := of_decide_eq_true (by (with_reducible assumption))
       obtain ⟨ad230, e230, hx230_0, hx230_1, hx230_2⟩ := at_T56 HR0.out x5_1 p230 q230
       cases e230
       replace p230 := eq_true p230
       replace q230 := eq_true q230
       have p231 : 0 ≤ (x5_1 : Int) := of_decide_eq_true (by (with_reducible assumption))
       have q231 : x5_1 < (l0.length : Int) := of_decide_eq_true (by (with_reducible assumption))
       obtain ⟨ad231, e231, hx231_0, hx231_1, hx231_2⟩ := at_T56 HR0.out x5_1 p231 q231
       obtain rfl : ad230 = ad231 := (by injection e231)
       replace p231 := eq_true p231
       replace q231 := eq_true q231
       go_wp2
       go_ret
       exact ⟨by rfl, by repeat (first | exact zo.refl _ | apply zo.step)⟩
      ·rw [if_neg c6] at H
       have c6b0 : (((zcd l0 x5_1).f0) == 5) = false := beq_eq_false_iff_ne.mpr c6
       have c6b1 : (((zcd l0 x5_1).f0) != 5) = true := bne_iff_ne.mpr c6
       have H' := za.mk H
       clear H
       have p230 : 0 ≤ (x5_1 : Int) := of_decide_eq_true (by (with_reducible assumption))
       have q230 : x5_1 < (l0.length : Int) := of_decide_eq_true (by (with_reducible assumption))
       obtain ⟨ad230, e230, hx230_0, hx230_1, hx230_2⟩ := at_T56 HR0.out x5_1 p230 q230
       cases e230
       replace p230 := eq_true p230
       replace q230 := eq_true q230
       have p231 : 0 ≤ (x5_1 : Int) := of_decide_eq_true (by (with_reducible assumption))
       have q231 : x5_1 < (l0.length : Int) := of_decide_eq_true (by (with_reducible assumption))
       obtain ⟨ad231, e231, hx231_0, hx231_1, hx231_2⟩ := at_T56 HR0.out x5_1 p231 q231
       obtain rfl : ad230 = ad231 := (by injection e231)
       replace p231 := eq_true p231
       replace q231 := eq_true q231
       go_wp2
       go_roundg k1
       case measure => have := HK1.out; omega
       case rel => exact ⟨(wrap64 (x5_1 + 1)), (by rfl), H', ⟨by have := HK1.out; omega⟩, by repeat (first | exact zo.refl _ | apply zo.step)⟩
    ·rw [if_neg c4] at H
     exact absurd H (by simp)
   ·rw [if_neg c3] at H
    have c3b0 : decide (x5_1 < (l0.length : Int)) = false := decide_eq_false c3
    clear c3
    obtain rfl := Option.some.inj H
    go_wp2
    go_ret
    exact ⟨by rfl, by repeat (first | exact zo.refl _ | apply zo.step)⟩
def zyb.f (k : Nat) (a0_0 : ByteArray) (a0_1 : ByteArray) (a0_2 : ByteArray) (a0_3 : ByteArray) (a0_4 : Bool) (l0_5 : List (S52)) (l0_6 : List (S56)) (a0_7 : Bool) (a0_8 : Bool) (a0_9 : ByteArray) (a1_0 : ByteArray) (a1_1 : ByteArray) (a1_2 : ByteArray) (a1_3 : ByteArray) (a1_4 : Bool) (l1_5 : List (S52)) (l1_6 : List (S56)) (a1_7 : Bool) (a1_8 : Bool) (a1_9 : ByteArray) : Option (Bool) := if (a0_4 == a1_4) = true then ((zob.f k l0_5).bind fun t234 => (if t234 = true then ((zob.f k l1_5).bind fun t235 => (if t235 = true then ((zbb.f k l0_6 (l1_6.length : Int)).bind fun t236 => (if t236 = true then ((zbb.f k l1_6 (l0_6.length : Int)).bind fun t237 => (some t237)) else (some false))) else (some false))) else (some false))) else (some false)
theorem zyb.calls (k : Nat) (a0_0 : ByteArray) (a0_1 : ByteArray) (a0_2 : ByteArray) (a0_3 : ByteArray) (a0_4 : Bool) (A0_5 : Option Addr) (c0_5 : Nat) (l0_5 : List (S52)) (A0_6 : Option Addr) (c0_6 : Nat) (l0_6 : List (S56)) (a0_7 : Bool) (a0_8 : Bool) (a0_9 : ByteArray) (a1_0 : ByteArray) (a1_1 : ByteArray) (a1_2 : ByteArray) (a1_3 : ByteArray) (a1_4 : Bool) (A1_5 : Option Addr) (c1_5 : Nat) (l1_5 : List (S52)) (A1_6 : Option Addr) (c1_6 : Nat) (l1_6 : List (S56)) (a1_7 : Bool) (a1_8 : Bool) (a1_9 : ByteArray) (r : Bool) (w : World) (hr0_5 : Kd.C k52 w A0_5 l0_5.length l0_5) (hc0_5 : l0_5.length ≤ c0_5) (hr0_6 : Kd.C k56 w A0_6 l0_6.length l0_6) (hc0_6 : l0_6.length ≤ c0_6) (hr1_5 : Kd.C k52 w A1_5 l1_5.length l1_5) (hc1_5 : l1_5.length ≤ c1_5) (hr1_6 : Kd.C k56 w A1_6 l1_6.length l1_6) (hc1_6 : l1_6.length ≤ c1_6) (h : zyb.f k a0_0 a0_1 a0_2 a0_3 a0_4 l0_5 l0_6 a0_7 a0_8 a0_9 a1_0 a1_1 a1_2 a1_3 a1_4 l1_5 l1_6 a1_7 a1_8 a1_9 = some r) :
  Calls Tryz.prog 9 #[.agg #[.string a0_0, .string a0_1, .string a0_2, .string a0_3, .bool a0_4, .slice A0_5 l0_5.length c0_5, .slice A0_6 l0_6.length c0_6, .bool a0_7, .bool a0_8, .string a0_9], .agg #[.string a1_0, .string a1_1, .string a1_2, .string a1_3, .bool a1_4, .slice A1_5 l1_5.length c1_5, .slice A1_6 l1_6.length c1_6, .bool a1_7, .bool a1_8, .string a1_9]] w fun e w' => e = .returned (.bool r) ∧ Below w.heap.size w w' := by
 have hu33 := Tryz.underlying33
 have HR0_5 := za.mk hr0_5
 have HC0_5 := za.mk hc0_5
 clear hr0_5 hc0_5
 have HR0_6 := za.mk hr0_6
 have HC0_6 := za.mk hc0_6
 clear hr0_6 hc0_6
 have HR1_5 := za.mk hr1_5
 have HC1_5 := za.mk hc1_5
 clear hr1_5 hc1_5
 have HR1_6 := za.mk hr1_6
 have HC1_6 := za.mk hc1_6
 clear hr1_6 hc1_6
 have HB := za.mk (Below.refl w.heap.size w)
 have H : (if (a0_4 == a1_4) = true then ((zob.f k l0_5).bind fun t234 => (if t234 = true then ((zob.f k l1_5).bind fun t235 => (if t235 = true then ((zbb.f k l0_6 (l1_6.length : Int)).bind fun t236 => (if t236 = true then ((zbb.f k l1_6 (l0_6.length : Int)).bind fun t237 => (some t237)) else (some false))) else (some false))) else (some false))) else (some false)) = some r := h
 clear h
 by_cases c3 : (a0_4 == a1_4) = true
 ·rw [if_pos c3] at H
  have c3b0 : (a0_4 == a1_4) = true := c3
  (try (have c3b1 : decide (a0_4 = a1_4) = true := by simpa using c3))
  (try (have c3b2 : (a0_4 == a1_4) = true := by simpa using c3))
  clear c3
  replace H := Option.bind_eq_some_iff.mp H
  obtain ⟨t234, A40, H⟩ := H
  replace H : (if t234 = true then ((zob.f k l1_5).bind fun t235 => (if t235 = true then ((zbb.f k l0_6 (l1_6.length : Int)).bind fun t236 => (if t236 = true then ((zbb.f k l1_6 (l0_6.length : Int)).bind fun t237 => (some t237)) else (some false))) else (some false))) else (some false)) = some r := H
  have A4 := za.mk A40
  clear A40
  by_cases c5 : t234 = true
  ·subst c5
   have H1 : ((zob.f k l1_5).bind fun t235 => (if t235 = true then ((zbb.f k l0_6 (l1_6.length : Int)).bind fun t236 => (if t236 = true then ((zbb.f k l1_6 (l0_6.length : Int)).bind fun t237 => (some t237)) else (some false))) else (some false))) = some r := by rw [if_pos rfl] at H; exact H
   clear H
   have H := H1
   clear H1
   replace H := Option.bind_eq_some_iff.mp H
   obtain ⟨t235, A60, H⟩ := H
   replace H : (if t235 = true then ((zbb.f k l0_6 (l1_6.length : Int)).bind fun t236 => (if t236 = true then ((zbb.f k l1_6 (l0_6.length : Int)).bind fun t237 => (some t237)) else (some false))) else (some false)) = some r := H
   have A6 := za.mk A60
   clear A60
   by_cases c7 : t235 = true
   ·subst c7
    have H1 : ((zbb.f k l0_6 (l1_6.length : Int)).bind fun t236 => (if t236 = true then ((zbb.f k l1_6 (l0_6.length : Int)).bind fun t237 => (some t237)) else (some false))) = some r := by rw [if_pos rfl] at H; exact H
    clear H
    have H := H1
    clear H1
    replace H := Option.bind_eq_some_iff.mp H
    obtain ⟨t236, A80, H⟩ := H
    replace H : (if t236 = true then ((zbb.f k l1_6 (l0_6.length : Int)).bind fun t237 => (some t237)) else (some false)) = some r := H
    have A8 := za.mk A80
    clear A80
    by_cases c9 : t236 = true
    ·subst c9
     have H1 : ((zbb.f k l1_6 (l0_6.length : Int)).bind fun t237 => (some t237)) = some r := by rw [if_pos rfl] at H; exact H
     clear H
     have H := H1
     clear H1
     replace H := Option.bind_eq_some_iff.mp H
     obtain ⟨t237, A100, H⟩ := H
     replace H : (some t237) = some r := H
     have A10 := za.mk A100
     clear A100
     obtain rfl := Option.some.inj H
     go_enter Tryz.func9, Tryz.ntmps9
     go_wp2_with (first | ((with_reducible refine zmb (N := 2) rfl ?_); (try (refine zrc (by rfl) ?_; dsimp only)); refine zrb ?hg (N := 2) ?hd (cs := #[.string a0_0, .string a0_1, .string a0_2, .string a0_3, .bool a0_4, .slice A0_5 l0_5.length c0_5, .slice A0_6 l0_6.length c0_6, .bool a0_7, .bool a0_8, .string a0_9]) (t := 33) ?hr ?_; (case hd => rfl); (case hg => rfl); (case hr => first | (go_simp; done) | (go_simp; rfl)); intro gb232 hg w11 hbox hb; have BK232 := za.mk hbox; have GW232 := za.mk ((by rw [hg]; exact (zl (by (with_reducible exact HB.out))) : w.heap.size ≤ gb232)); have GE232 := za.mk ((by rw [hg]; exact (zl (by (with_reducible exact HB.out))) : w.heap.size ≤ gb232)); replace HB := za.mk (zm (by (with_reducible exact HB.out)) hb); clear hb hbox hg) | ((with_reducible refine zmb (N := 3) rfl ?_); (try (refine zrc (by rfl) ?_; dsimp only)); refine zrb ?hg (N := 3) ?hd (cs := #[.string a1_0, .string a1_1, .string a1_2, .string a1_3, .bool a1_4, .slice A1_5 l1_5.length c1_5, .slice A1_6 l1_6.length c1_6, .bool a1_7, .bool a1_8, .string a1_9]) (t := 33) ?hr ?_; (case hd => rfl); (case hg => rfl); (case hr => first | (go_simp; done) | (go_simp; rfl)); intro gb233 hg w12 hbox hb; have n0_ := za.mk (ze BK232.out hb); have n1_ := za.mk (zm (by (with_reducible exact HB.out)) hb); have n2_ := za.mk hbox; have n3_ := za.mk ((by rw [hg]; exact (zl (by (with_reducible exact HB.out))) : w.heap.size ≤ gb233)); have n4_ := za.mk ((by rw [hg]; exact (zl (by (with_reducible exact HB.out))) : w.heap.size ≤ gb233)); have n5_ := za.mk ((by rw [hg]; exact Nat.ne_of_lt (znc BK232.out) : gb232 ≠ gb233)); have n6_ := za.mk ((by rw [hg]; exact Nat.ne_of_gt (znc BK232.out) : gb233 ≠ gb232)); clear BK232; clear HB; have BK232 := n0_; have HB := n1_; have BK233 := n2_; have GW233 := n3_; have GE233 := n4_; have NB232_233 := n5_; have NB233_232 := n6_; clear n0_ n1_ n2_ n3_ n4_ n5_ n6_; clear hb hbox hg; have hnb13 := NB232_233.out; have hnc13 := NB233_232.out; obtain ⟨hcz14_0, hcz14_1, hcz14_2, hcz14_3, hcz14_4, hcz14_5, hcz14_6, hcz14_7, hcz14_8, hcz14_9, _⟩ := cl10 BK232.out; obtain ⟨hcz15_0, hcz15_1, hcz15_2, hcz15_3, hcz15_4, hcz15_5, hcz15_6, hcz15_7, hcz15_8, hcz15_9, _⟩ := cl10 BK233.out) | (go_at_call 28; (with_reducible refine (zob.calls k _ _ l0_5 true _ ?side1 ?side2 A4.out).mono ?_); (case side1 => repeat (first | exact (Kd.C_below HR0_5.out HB.out) | (with_reducible refine Kd.C_alloc ?_ _) | (with_reducible refine Kd.C_drewN ?_ _) | (with_reducible refine Kd.C_drew ?_))); (case side2 => exact HC0_5.out); rintro e w' ⟨rfl, ⟨nd, rfl⟩⟩) | (go_at_call 28; (with_reducible refine (zob.calls k _ _ l1_5 true _ ?side1 ?side2 A6.out).mono ?_); (case side1 => repeat (first | exact (Kd.C_below HR1_5.out (by (with_reducible apply zc; with_reducible exact HB.out))) | (with_reducible refine Kd.C_alloc ?_ _) | (with_reducible refine Kd.C_drewN ?_ _) | (with_reducible refine Kd.C_drew ?_))); (case side2 => exact HC1_5.out); rintro e w' ⟨rfl, ⟨nd, rfl⟩⟩) | (go_at_call 29; (with_reducible refine (zbb.calls k _ _ l0_6 (l1_6.length : Int) true _ ?side1 ?side2 A8.out).mono ?_); (case side1 => repeat (first | exact (Kd.C_below HR0_6.out (by (with_reducible apply zc; with_reducible exact HB.out))) | (with_reducible refine Kd.C_alloc ?_ _) | (with_reducible refine Kd.C_drewN ?_ _) | (with_reducible refine Kd.C_drew ?_))); (case side2 => exact HC0_6.out); rintro e w' ⟨rfl, ⟨nd, rfl⟩⟩) | (go_at_call 29; (with_reducible refine (zbb.calls k _ _ l1_6 (l0_6.length : Int) t237 _ ?side1 ?side2 A10.out).mono ?_); (case side1 => repeat (first | exact (Kd.C_below HR1_6.out (by (with_reducible apply zc; with_reducible exact HB.out))) | (with_reducible refine Kd.C_alloc ?_ _) | (with_reducible refine Kd.C_drewN ?_ _) | (with_reducible refine Kd.C_drew ?_))); (case side2 => exact HC1_6.out); rintro e w' ⟨rfl, ⟨nd, rfl⟩⟩))
     go_ret
     exact ⟨by rfl, by (with_reducible apply zc; with_reducible exact HB.out)⟩
    ·replace c9 := Bool.eq_false_iff.mpr c9
     subst c9
     have H1 : (some false) = some r := by rw [if_neg (show ¬ (false = true) by decide)] at H; exact H
     clear H
     have H := H1
     clear H1
     obtain rfl := Option.some.inj H
     go_enter Tryz.func9, Tryz.ntmps9
     go_wp2_with (first | ((with_reducible refine zmb (N := 2) rfl ?_); (try (refine zrc (by rfl) ?_; dsimp only)); refine zrb ?hg (N := 2) ?hd (cs := #[.string a0_0, .string a0_1, .string a0_2, .string a0_3, .bool a0_4, .slice A0_5 l0_5.length c0_5, .slice A0_6 l0_6.length c0_6, .bool a0_7, .bool a0_8, .string a0_9]) (t := 33) ?hr ?_; (case hd => rfl); (case hg => rfl); (case hr => first | (go_simp; done) | (go_simp; rfl)); intro gb232 hg w16 hbox hb; have BK232 := za.mk hbox; have GW232 := za.mk ((by rw [hg]; exact (zl (by (with_reducible exact HB.out))) : w.heap.size ≤ gb232)); have GE232 := za.mk ((by rw [hg]; exact (zl (by (with_reducible exact HB.out))) : w.heap.size ≤ gb232)); replace HB := za.mk (zm (by (with_reducible exact HB.out)) hb); clear hb hbox hg) | ((with_reducible refine zmb (N := 3) rfl ?_); (try (refine zrc (by rfl) ?_; dsimp only)); refine zrb ?hg (N := 3) ?hd (cs := #[.string a1_0, .string a1_1, .string a1_2, .string a1_3, .bool a1_4, .slice A1_5 l1_5.length c1_5, .slice A1_6 l1_6.length c1_6, .bool a1_7, .bool a1_8, .string a1_9]) (t := 33) ?hr ?_; (case hd => rfl); (case hg => rfl); (case hr => first | (go_simp; done) | (go_simp; rfl)); intro gb233 hg w17 hbox hb; have n0_ := za.mk (ze BK232.out hb); have n1_ := za.mk (zm (by (with_reducible exact HB.out)) hb); have n2_ := za.mk hbox; have n3_ := za.mk ((by rw [hg]; exact (zl (by (with_reducible exact HB.out))) : w.heap.size ≤ gb233)); have n4_ := za.mk ((by rw [hg]; exact (zl (by (with_reducible exact HB.out))) : w.heap.size ≤ gb233)); have n5_ := za.mk ((by rw [hg]; exact Nat.ne_of_lt (znc BK232.out) : gb232 ≠ gb233)); have n6_ := za.mk ((by rw [hg]; exact Nat.ne_of_gt (znc BK232.out) : gb233 ≠ gb232)); clear BK232; clear HB; have BK232 := n0_; have HB := n1_; have BK233 := n2_; have GW233 := n3_; have GE233 := n4_; have NB232_233 := n5_; have NB233_232 := n6_; clear n0_ n1_ n2_ n3_ n4_ n5_ n6_; clear hb hbox hg; have hnb18 := NB232_233.out; have hnc18 := NB233_232.out; obtain ⟨hcz19_0, hcz19_1, hcz19_2, hcz19_3, hcz19_4, hcz19_5, hcz19_6, hcz19_7, hcz19_8, hcz19_9, _⟩ := cl10 BK232.out; obtain ⟨hcz20_0, hcz20_1, hcz20_2, hcz20_3, hcz20_4, hcz20_5, hcz20_6, hcz20_7, hcz20_8, hcz20_9, _⟩ := cl10 BK233.out) | (go_at_call 28; (with_reducible refine (zob.calls k _ _ l0_5 true _ ?side1 ?side2 A4.out).mono ?_); (case side1 => repeat (first | exact (Kd.C_below HR0_5.out HB.out) | (with_reducible refine Kd.C_alloc ?_ _) | (with_reducible refine Kd.C_drewN ?_ _) | (with_reducible refine Kd.C_drew ?_))); (case side2 => exact HC0_5.out); rintro e w' ⟨rfl, ⟨nd, rfl⟩⟩) | (go_at_call 28; (with_reducible refine (zob.calls k _ _ l1_5 true _ ?side1 ?side2 A6.out).mono ?_); (case side1 => repeat (first | exact (Kd.C_below HR1_5.out (by (with_reducible apply zc; with_reducible exact HB.out))) | (with_reducible refine Kd.C_alloc ?_ _) | (with_reducible refine Kd.C_drewN ?_ _) | (with_reducible refine Kd.C_drew ?_))); (case side2 => exact HC1_5.out); rintro e w' ⟨rfl, ⟨nd, rfl⟩⟩) | (go_at_call 29; (with_reducible refine (zbb.calls k _ _ l0_6 (l1_6.length : Int) false _ ?side1 ?side2 A8.out).mono ?_); (case side1 => repeat (first | exact (Kd.C_below HR0_6.out (by (with_reducible apply zc; with_reducible exact HB.out))) | (with_reducible refine Kd.C_alloc ?_ _) | (with_reducible refine Kd.C_drewN ?_ _) | (with_reducible refine Kd.C_drew ?_))); (case side2 => exact HC0_6.out); rintro e w' ⟨rfl, ⟨nd, rfl⟩⟩))
     go_ret
     exact ⟨by rfl, by (with_reducible apply zc; with_reducible exact HB.out)⟩
   ·replace c7 := Bool.eq_false_iff.mpr c7
    subst c7
    have H1 : (some false) = some r := by rw [if_neg (show ¬ (false = true) by decide)] at H; exact H
    clear H
    have H := H1
    clear H1
    obtain rfl := Option.some.inj H
    go_enter Tryz.func9, Tryz.ntmps9
    go_wp2_with (first | ((with_reducible refine zmb (N := 2) rfl ?_); (try (refine zrc (by rfl) ?_; dsimp only)); refine zrb ?hg (N := 2) ?hd (cs := #[.string a0_0, .string a0_1, .string a0_2, .string a0_3, .bool a0_4, .slice A0_5 l0_5.length c0_5, .slice A0_6 l0_6.length c0_6, .bool a0_7, .bool a0_8, .string a0_9]) (t := 33) ?hr ?_; (case hd => rfl); (case hg => rfl); (case hr => first | (go_simp; done) | (go_simp; rfl)); intro gb232 hg w21 hbox hb; have BK232 := za.mk hbox; have GW232 := za.mk ((by rw [hg]; exact (zl (by (with_reducible exact HB.out))) : w.heap.size ≤ gb232)); have GE232 := za.mk ((by rw [hg]; exact (zl (by (with_reducible exact HB.out))) : w.heap.size ≤ gb232)); replace HB := za.mk (zm (by (with_reducible exact HB.out)) hb); clear hb hbox hg) | ((with_reducible refine zmb (N := 3) rfl ?_); (try (refine zrc (by rfl) ?_; dsimp only)); refine zrb ?hg (N := 3) ?hd (cs := #[.string a1_0, .string a1_1, .string a1_2, .string a1_3, .bool a1_4, .slice A1_5 l1_5.length c1_5, .slice A1_6 l1_6.length c1_6, .bool a1_7, .bool a1_8, .string a1_9]) (t := 33) ?hr ?_; (case hd => rfl); (case hg => rfl); (case hr => first | (go_simp; done) | (go_simp; rfl)); intro gb233 hg w22 hbox hb; have n0_ := za.mk (ze BK232.out hb); have n1_ := za.mk (zm (by (with_reducible exact HB.out)) hb); have n2_ := za.mk hbox; have n3_ := za.mk ((by rw [hg]; exact (zl (by (with_reducible exact HB.out))) : w.heap.size ≤ gb233)); have n4_ := za.mk ((by rw [hg]; exact (zl (by (with_reducible exact HB.out))) : w.heap.size ≤ gb233)); have n5_ := za.mk ((by rw [hg]; exact Nat.ne_of_lt (znc BK232.out) : gb232 ≠ gb233)); have n6_ := za.mk ((by rw [hg]; exact Nat.ne_of_gt (znc BK232.out) : gb233 ≠ gb232)); clear BK232; clear HB; have BK232 := n0_; have HB := n1_; have BK233 := n2_; have GW233 := n3_; have GE233 := n4_; have NB232_233 := n5_; have NB233_232 := n6_; clear n0_ n1_ n2_ n3_ n4_ n5_ n6_; clear hb hbox hg; have hnb23 := NB232_233.out; have hnc23 := NB233_232.out; obtain ⟨hcz24_0, hcz24_1, hcz24_2, hcz24_3, hcz24_4, hcz24_5, hcz24_6, hcz24_7, hcz24_8, hcz24_9, _⟩ := cl10 BK232.out; obtain ⟨hcz25_0, hcz25_1, hcz25_2, hcz25_3, hcz25_4, hcz25_5, hcz25_6, hcz25_7, hcz25_8, hcz25_9, _⟩ := cl10 BK233.out) | (go_at_call 28; (with_reducible refine (zob.calls k _ _ l0_5 true _ ?side1 ?side2 A4.out).mono ?_); (case side1 => repeat (first | exact (Kd.C_below HR0_5.out HB.out) | (with_reducible refine Kd.C_alloc ?_ _) | (with_reducible refine Kd.C_drewN ?_ _) | (with_reducible refine Kd.C_drew ?_))); (case side2 => exact HC0_5.out); rintro e w' ⟨rfl, ⟨nd, rfl⟩⟩) | (go_at_call 28; (with_reducible refine (zob.calls k _ _ l1_5 false _ ?side1 ?side2 A6.out).mono ?_); (case side1 => repeat (first | exact (Kd.C_below HR1_5.out (by (with_reducible apply zc; with_reducible exact HB.out))) | (with_reducible refine Kd.C_alloc ?_ _) | (with_reducible refine Kd.C_drewN ?_ _) | (with_reducible refine Kd.C_drew ?_))); (case side2 => exact HC1_5.out); rintro e w' ⟨rfl, ⟨nd, rfl⟩⟩))
    go_ret
    exact ⟨by rfl, by (with_reducible apply zc; with_reducible exact HB.out)⟩
  ·replace c5 := Bool.eq_false_iff.mpr c5
   subst c5
   have H1 : (some false) = some r := by rw [if_neg (show ¬ (false = true) by decide)] at H; exact H
   clear H
   have H := H1
   clear H1
   obtain rfl := Option.some.inj H
   go_enter Tryz.func9, Tryz.ntmps9
   go_wp2_with (first | ((with_reducible refine zmb (N := 2) rfl ?_); (try (refine zrc (by rfl) ?_; dsimp only)); refine zrb ?hg (N := 2) ?hd (cs := #[.string a0_0, .string a0_1, .string a0_2, .string a0_3, .bool a0_4, .slice A0_5 l0_5.length c0_5, .slice A0_6 l0_6.length c0_6, .bool a0_7, .bool a0_8, .string a0_9]) (t := 33) ?hr ?_; (case hd => rfl); (case hg => rfl); (case hr => first | (go_simp; done) | (go_simp; rfl)); intro gb232 hg w26 hbox hb; have BK232 := za.mk hbox; have GW232 := za.mk ((by rw [hg]; exact (zl (by (with_reducible exact HB.out))) : w.heap.size ≤ gb232)); have GE232 := za.mk ((by rw [hg]; exact (zl (by (with_reducible exact HB.out))) : w.heap.size ≤ gb232)); replace HB := za.mk (zm (by (with_reducible exact HB.out)) hb); clear hb hbox hg) | ((with_reducible refine zmb (N := 3) rfl ?_); (try (refine zrc (by rfl) ?_; dsimp only)); refine zrb ?hg (N := 3) ?hd (cs := #[.string a1_0, .string a1_1, .string a1_2, .string a1_3, .bool a1_4, .slice A1_5 l1_5.length c1_5, .slice A1_6 l1_6.length c1_6, .bool a1_7, .bool a1_8, .string a1_9]) (t := 33) ?hr ?_; (case hd => rfl); (case hg => rfl); (case hr => first | (go_simp; done) | (go_simp; rfl)); intro gb233 hg w27 hbox hb; have n0_ := za.mk (ze BK232.out hb); have n1_ := za.mk (zm (by (with_reducible exact HB.out)) hb); have n2_ := za.mk hbox; have n3_ := za.mk ((by rw [hg]; exact (zl (by (with_reducible exact HB.out))) : w.heap.size ≤ gb233)); have n4_ := za.mk ((by rw [hg]; exact (zl (by (with_reducible exact HB.out))) : w.heap.size ≤ gb233)); have n5_ := za.mk ((by rw [hg]; exact Nat.ne_of_lt (znc BK232.out) : gb232 ≠ gb233)); have n6_ := za.mk ((by rw [hg]; exact Nat.ne_of_gt (znc BK232.out) : gb233 ≠ gb232)); clear BK232; clear HB; have BK232 := n0_; have HB := n1_; have BK233 := n2_; have GW233 := n3_; have GE233 := n4_; have NB232_233 := n5_; have NB233_232 := n6_; clear n0_ n1_ n2_ n3_ n4_ n5_ n6_; clear hb hbox hg; have hnb28 := NB232_233.out; have hnc28 := NB233_232.out; obtain ⟨hcz29_0, hcz29_1, hcz29_2, hcz29_3, hcz29_4, hcz29_5, hcz29_6, hcz29_7, hcz29_8, hcz29_9, _⟩ := cl10 BK232.out; obtain ⟨hcz30_0, hcz30_1, hcz30_2, hcz30_3, hcz30_4, hcz30_5, hcz30_6, hcz30_7, hcz30_8, hcz30_9, _⟩ := cl10 BK233.out) | (go_at_call 28; (with_reducible refine (zob.calls k _ _ l0_5 false _ ?side1 ?side2 A4.out).mono ?_); (case side1 => repeat (first | exact (Kd.C_below HR0_5.out HB.out) | (with_reducible refine Kd.C_alloc ?_ _) | (with_reducible refine Kd.C_drewN ?_ _) | (with_reducible refine Kd.C_drew ?_))); (case side2 => exact HC0_5.out); rintro e w' ⟨rfl, ⟨nd, rfl⟩⟩))
   go_ret
   exact ⟨by rfl, by (with_reducible apply zc; with_reducible exact HB.out)⟩
 ·rw [if_neg c3] at H
  have c3b0 : (a0_4 == a1_4) = false := by simpa using c3
  (try (have c3b1 : decide (a0_4 = a1_4) = false := by simpa using c3))
  (try (have c3b2 : (a0_4 == a1_4) = false := by simpa using c3))
  (try (have c3b3 : ¬ (a0_4 = a1_4) := by simpa using c3))
  clear c3
  obtain rfl := Option.some.inj H
  go_enter Tryz.func9, Tryz.ntmps9
  go_wp2_with (first | ((with_reducible refine zmb (N := 2) rfl ?_); (try (refine zrc (by rfl) ?_; dsimp only)); refine zrb ?hg (N := 2) ?hd (cs := #[.string a0_0, .string a0_1, .string a0_2, .string a0_3, .bool a0_4, .slice A0_5 l0_5.length c0_5, .slice A0_6 l0_6.length c0_6, .bool a0_7, .bool a0_8, .string a0_9]) (t := 33) ?hr ?_; (case hd => rfl); (case hg => rfl); (case hr => first | (go_simp; done) | (go_simp; rfl)); intro gb232 hg w31 hbox hb; have BK232 := za.mk hbox; have GW232 := za.mk ((by rw [hg]; exact (zl (by (with_reducible exact HB.out))) : w.heap.size ≤ gb232)); have GE232 := za.mk ((by rw [hg]; exact (zl (by (with_reducible exact HB.out))) : w.heap.size ≤ gb232)); replace HB := za.mk (zm (by (with_reducible exact HB.out)) hb); clear hb hbox hg) | ((with_reducible refine zmb (N := 3) rfl ?_); (try (refine zrc (by rfl) ?_; dsimp only)); refine zrb ?hg (N := 3) ?hd (cs := #[.string a1_0, .string a1_1, .string a1_2, .string a1_3, .bool a1_4, .slice A1_5 l1_5.length c1_5, .slice A1_6 l1_6.length c1_6, .bool a1_7, .bool a1_8, .string a1_9]) (t := 33) ?hr ?_; (case hd => rfl); (case hg => rfl); (case hr => first | (go_simp; done) | (go_simp; rfl)); intro gb233 hg w32 hbox hb; have n0_ := za.mk (ze BK232.out hb); have n1_ := za.mk (zm (by (with_reducible exact HB.out)) hb); have n2_ := za.mk hbox; have n3_ := za.mk ((by rw [hg]; exact (zl (by (with_reducible exact HB.out))) : w.heap.size ≤ gb233)); have n4_ := za.mk ((by rw [hg]; exact (zl (by (with_reducible exact HB.out))) : w.heap.size ≤ gb233)); have n5_ := za.mk ((by rw [hg]; exact Nat.ne_of_lt (znc BK232.out) : gb232 ≠ gb233)); have n6_ := za.mk ((by rw [hg]; exact Nat.ne_of_gt (znc BK232.out) : gb233 ≠ gb232)); clear BK232; clear HB; have BK232 := n0_; have HB := n1_; have BK233 := n2_; have GW233 := n3_; have GE233 := n4_; have NB232_233 := n5_; have NB233_232 := n6_; clear n0_ n1_ n2_ n3_ n4_ n5_ n6_; clear hb hbox hg; have hnb33 := NB232_233.out; have hnc33 := NB233_232.out; obtain ⟨hcz34_0, hcz34_1, hcz34_2, hcz34_3, hcz34_4, hcz34_5, hcz34_6, hcz34_7, hcz34_8, hcz34_9, _⟩ := cl10 BK232.out; obtain ⟨hcz35_0, hcz35_1, hcz35_2, hcz35_3, hcz35_4, hcz35_5, hcz35_6, hcz35_7, hcz35_8, hcz35_9, _⟩ := cl10 BK233.out))
  go_ret
  exact ⟨by rfl, by (with_reducible exact HB.out)⟩
end Go.Proofs.YtapaijpglfmfgaaGreatDoor.Q
end
section
namespace Go.Proofs.YtapaijpglfmfgaaGreatDoor.Q
open Go.RowKit YtapaijpglfmfgaaGreatDoorH YtapaijpglfmfgaaGreatDoorG YtapaijpglfmfgaaGreatDoorW.PrintWords YtapaijpglfmfgaaGreatDoorW.PrintLast YtapaijpglfmfgaaGreatDoorW.PrintMore YtapaijpglfmfgaaGreatDoorC
attribute [local go_sem] zsc zuc zhd zgd zhc zic zvc ztc
mutual
def zfc.j0 : Nat → ByteArray → Bool → ByteArray → ByteArray → ByteArray → ByteArray → Bool → List (S52) → Bool → Bool → ByteArray → Option (ByteArray × ByteArray × ByteArray × ByteArray × Bool × (List (S52)) × (List (S56)) × Bool × Bool × ByteArray × Bool)
 | 0, _, _, _, _, _, _, _, _, _, _, _ => none
 | k + 1, x0, x26, x325000, x325001, x325002, x325003, x325004, x325005, x325007, x325008, x325009 => if x26 = true then (if 0 ≤ 1 then (if 1 ≤ (x0.size : Int) then (zfc.j1 k (x0.extract 1 x0.size) x325000 x325001 (x0.extract 0 1) x325003 x325004 x325005 x325007 x325008 x325009) else (none)) else (none)) else (zfc.j1 k x0 x325000 x325001 x325002 x325003 x325004 x325005 x325007 x325008 x325009)
def zfc.j1 : Nat → ByteArray → ByteArray → ByteArray → ByteArray → ByteArray → Bool → List (S52) → Bool → Bool → ByteArray → Option (ByteArray × ByteArray × ByteArray × ByteArray × Bool × (List (S52)) × (List (S56)) × Bool × Bool × ByteArray × Bool)
 | 0, _, _, _, _, _, _, _, _, _, _ => none
 | k + 1, x0, x325000, x325001, x325002, x325003, x325004, x325005, x325007, x325008, x325009 => (zu.f k x0).bind fun bt329 => (if (bt329.2.size : Int) > 1 then (if 0 < (bt329.2.size : Int) then (if (bt bt329.2 0) = 126 then (if 1 < (bt329.2.size : Int) then ((zyh.f (bt bt329.2 1)).bind fun t333 => (zfc.j2 k bt329.2 t333 x325000 x325001 x325002 x325003 x325004 x325005 bt329.1 x325007 x325008 x325009)) else (none)) else (zfc.j2 k bt329.2 false x325000 x325001 x325002 x325003 x325004 x325005 bt329.1 x325007 x325008 x325009)) else (none)) else (zfc.j2 k bt329.2 false x325000 x325001 x325002 x325003 x325004 x325005 bt329.1 x325007 x325008 x325009))
def zfc.j2 : Nat → ByteArray → Bool → ByteArray → ByteArray → ByteArray → ByteArray → Bool → List (S52) → List (S56) → Bool → Bool → ByteArray → Option (ByteArray × ByteArray × ByteArray × ByteArray × Bool × (List (S52)) × (List (S56)) × Bool × Bool × ByteArray × Bool)
 | 0, _, _, _, _, _, _, _, _, _, _, _, _ => none
 | k + 1, x0, x50, x325000, x325001, x325002, x325003, x325004, x325005, x325006, x325007, x325008, x325009 => if x50 = true then (if 1 ≤ (x0.size : Int) then ((E2.zpb.f k (x0.extract 1 x0.size)).bind fun t334 => (if 0 ≤ (wrap64 (1 + t334)) then (if (wrap64 (1 + t334)) ≤ (x0.size : Int) then (zfc.j3 k (x0.extract ((wrap64 (1 + t334)) : Int).toNat x0.size) x325000 x325001 x325002 (x0.extract 0 ((wrap64 (1 + t334)) : Int).toNat) x325004 x325005 x325006 x325007 x325008 x325009) else (none)) else (none))) else (none)) else (zfc.j3 k x0 x325000 x325001 x325002 x325003 x325004 x325005 x325006 x325007 x325008 x325009)
def zfc.j3 : Nat → ByteArray → ByteArray → ByteArray → ByteArray → ByteArray → Bool → List (S52) → List (S56) → Bool → Bool → ByteArray → Option (ByteArray × ByteArray × ByteArray × ByteArray × Bool × (List (S52)) × (List (S56)) × Bool × Bool × ByteArray × Bool)
 | 0, _, _, _, _, _, _, _, _, _, _, _ => none
 | k + 1, x0, x325000, x325001, x325002, x325003, x325004, x325005, x325006, x325007, x325008, x325009 => if (x0.size : Int) > 1 then (if 0 ≤ 2 then (if 2 ≤ (x0.size : Int) then (zfc.j4 k x0 ((x0.extract 0 2).toList == ([45, 114] : List UInt8)) x325000 x325001 x325002 x325003 x325004 x325005 x325006 x325007 x325008 x325009) else (none)) else (none)) else (zfc.j4 k x0 false x325000 x325001 x325002 x325003 x325004 x325005 x325006 x325007 x325008 x325009)
def zfc.j4 : Nat → ByteArray → Bool → ByteArray → ByteArray → ByteArray → ByteArray → Bool → List (S52) → List (S56) → Bool → Bool → ByteArray → Option (ByteArray × ByteArray × ByteArray × ByteArray × Bool × (List (S52)) × (List (S56)) × Bool × Bool × ByteArray × Bool)
 | 0, _, _, _, _, _, _, _, _, _, _, _, _ => none
 | k + 1, x0, x62, x325000, x325001, x325002, x325003, x325004, x325005, x325006, x325007, x325008, x325009 => if x62 = true then (if 2 ≤ (x0.size : Int) then ((E1.zpb.f k (x0.extract 2 x0.size)).bind fun t335 => (if 2 ≤ (wrap64 (2 + t335)) then (if (wrap64 (2 + t335)) ≤ (x0.size : Int) then ((zab.f k (x0.extract 2 ((wrap64 (2 + t335)) : Int).toNat)).bind fun bt336 => (if 0 ≤ (wrap64 (2 + t335)) then (some (x325000, x0.extract ((wrap64 (2 + t335)) : Int).toNat x0.size, x325002, x325003, x325004, x325005, x325006, x325007, bt336.1, bt336.2, true)) else (none))) else (none)) else (none))) else (none)) else (if x0.toList = ([] : List UInt8) then (some (x325000, x325001, x325002, x325003, x325004, x325005, x325006, x325007, x325008, x325009, true)) else (some (x325000, x0, x325002, x325003, true, x325005, x325006, x325007, x325008, x325009, true)))
end
end Go.Proofs.YtapaijpglfmfgaaGreatDoor.Q
end
section
namespace Go.Proofs.YtapaijpglfmfgaaGreatDoor.Q
open Go.RowKit YtapaijpglfmfgaaGreatDoorH YtapaijpglfmfgaaGreatDoorG YtapaijpglfmfgaaGreatDoorW.PrintWords YtapaijpglfmfgaaGreatDoorW.PrintLast YtapaijpglfmfgaaGreatDoorW.PrintMore
attribute [local go_sem] zsc zuc zhd zgd zhc zic zvc ztc
theorem eqA31 (d : Nat) (w : World) (x0 y0 : Bool) (x1 y1 : ByteArray) :
  (Op.equalIn (d + 2) 31 (.agg #[.bool x0, .string x1]) (.agg #[.bool y0, .string y1])).run Tryz.prog w = .ok (x0 == y0 && (x1.toList == y1.toList)) w := by
 refine eqA_of Tryz.underlying31 (by kernel_rfl) ?_
 refine eqf_cons (by rfl) (by go_simp; rfl) (by go_simp; rfl) (by go_simp) ?_
 exact eqf_last (by rfl) (by go_simp; rfl) (by go_simp; rfl) (by go_simp)
end Go.Proofs.YtapaijpglfmfgaaGreatDoor.Q
end
section
namespace Go.Proofs.YtapaijpglfmfgaaGreatDoor.Q
open Go.RowKit YtapaijpglfmfgaaGreatDoorH YtapaijpglfmfgaaGreatDoorG YtapaijpglfmfgaaGreatDoorW.PrintWords YtapaijpglfmfgaaGreatDoorW.PrintLast YtapaijpglfmfgaaGreatDoorW.PrintMore
attribute [local go_sem] zsc zuc zhd zgd zhc zic zvc ztc
theorem eqA52 (d : Nat) (w : World) (x0 y0 : ByteArray) (x1 y1 : Bool) (x2 y2 : ByteArray) (x3 y3 : Int) :
  (Op.equalIn (d + 3) 52 (.agg #[.string x0, .bool x1, .string x2, .int .i64 x3]) (.agg #[.string y0, .bool y1, .string y2, .int .i64 y3])).run Tryz.prog w = .ok (x0.toList == y0.toList && ((x1 == y1 && (x2.toList == y2.toList)) && (x3 == y3))) w := by
 refine eqA_of Tryz.underlying52 (by kernel_rfl) ?_
 refine eqf_cons (by rfl) (by go_simp; rfl) (by go_simp; rfl) (by go_simp) ?_
 refine eqf_cons (by rfl) (by go_simp) (by go_simp) (eqA31 (d + 0) w _ _ _ _) ?_
 exact eqf_last (by rfl) (by go_simp; rfl) (by go_simp; rfl) (by go_simp)
end Go.Proofs.YtapaijpglfmfgaaGreatDoor.Q
end
section
namespace Go.Proofs.YtapaijpglfmfgaaGreatDoor.Q
open Go.RowKit YtapaijpglfmfgaaGreatDoorH YtapaijpglfmfgaaGreatDoorG YtapaijpglfmfgaaGreatDoorW.PrintWords YtapaijpglfmfgaaGreatDoorW.PrintLast YtapaijpglfmfgaaGreatDoorW.PrintMore
attribute [local go_sem] zsc zuc zhd zgd zhc zic zvc ztc
theorem eqA56 (d : Nat) (w : World) (x0 y0 : Int) (x1 y1 : Bool) (x2 y2 : ByteArray) :
  (Op.equalIn (d + 3) 56 (.agg #[.int .i64 x0, .bool x1, .string x2]) (.agg #[.int .i64 y0, .bool y1, .string y2])).run Tryz.prog w = .ok (x0 == y0 && ((x1 == y1 && (x2.toList == y2.toList)))) w := by
 refine eqA_of Tryz.underlying56 (by kernel_rfl) ?_
 refine eqf_cons (by rfl) (by go_simp; rfl) (by go_simp; rfl) (by go_simp) ?_
 exact eqf_last (by rfl) (by go_simp) (by go_simp) (eqA31 (d + 0) w _ _ _ _)
end Go.Proofs.YtapaijpglfmfgaaGreatDoor.Q
end
section
namespace Go.Proofs.YtapaijpglfmfgaaGreatDoor.Q
open Go.RowKit YtapaijpglfmfgaaGreatDoorH YtapaijpglfmfgaaGreatDoorG YtapaijpglfmfgaaGreatDoorW.PrintWords YtapaijpglfmfgaaGreatDoorW.PrintLast YtapaijpglfmfgaaGreatDoorW.PrintMore YtapaijpglfmfgaaGreatDoorC
attribute [local go_sem] zsc zuc zhd zgd zhc zic zvc ztc
attribute [local go_sem high] eqA31 eqA52 eqA56
mutual
def zwd.j0 : Nat → Bool → ByteArray → ByteArray → ByteArray → ByteArray → Bool → List (S52) → List (S56) → Bool → Bool → ByteArray → ByteArray → ByteArray → ByteArray → ByteArray → Bool → List (S52) → List (S56) → Bool → Bool → ByteArray → Option (Bool)
 | 0, _, _, _, _, _, _, _, _, _, _, _, _, _, _, _, _, _, _, _, _, _ => none
 | k + 1, x53, x395000, x395001, x395002, x395003, x395004, x395005, x395006, x395007, x395008, x395009, x396000, x396001, x396002, x396003, x396004, x396005, x396006, x396007, x396008, x396009 => if x53 = true then (some false) else (if (x395005.length : Int) = (x396005.length : Int) then (zwd.j1 k ((x395006.length : Int) != (x396006.length : Int)) x395000 x395001 x395002 x395003 x395004 x395005 x395006 x395007 x395008 x395009 x396000 x396001 x396002 x396003 x396004 x396005 x396006 x396007 x396008 x396009) else (zwd.j1 k true x395000 x395001 x395002 x395003 x395004 x395005 x395006 x395007 x395008 x395009 x396000 x396001 x396002 x396003 x396004 x396005 x396006 x396007 x396008 x396009))
def zwd.j1 : Nat → Bool → ByteArray → ByteArray → ByteArray → ByteArray → Bool → List (S52) → List (S56) → Bool → Bool → ByteArray → ByteArray → ByteArray → ByteArray → ByteArray → Bool → List (S52) → List (S56) → Bool → Bool → ByteArray → Option (Bool)
 | 0, _, _, _, _, _, _, _, _, _, _, _, _, _, _, _, _, _, _, _, _, _ => none
 | k + 1, x69, x395000, x395001, x395002, x395003, x395004, x395005, x395006, x395007, x395008, x395009, x396000, x396001, x396002, x396003, x396004, x396005, x396006, x396007, x396008, x396009 => if x69 = true then (some false) else (zwd.l0 k (x395005.length : Int) 0 x395000 x395001 x395002 x395003 x395004 x395005 x395006 x395007 x395008 x395009 x396000 x396001 x396002 x396003 x396004 x396005 x396006 x396007 x396008 x396009)
def zwd.l0 : Nat → Int → Int → ByteArray → ByteArray → ByteArray → ByteArray → Bool → List (S52) → List (S56) → Bool → Bool → ByteArray → ByteArray → ByteArray → ByteArray → ByteArray → Bool → List (S52) → List (S56) → Bool → Bool → ByteArray → Option (Bool)
 | 0, _, _, _, _, _, _, _, _, _, _, _, _, _, _, _, _, _, _, _, _, _, _ => none
 | k + 1, x72, x73, x395000, x395001, x395002, x395003, x395004, x395005, x395006, x395007, x395008, x395009, x396000, x396001, x396002, x396003, x396004, x396005, x396006, x396007, x396008, x396009 => if x73 < x72 then (if 0 ≤ x73 then (if x73 < (x395005.length : Int) then (if x73 < (x396005.length : Int) then (if (!((((zld x395005 x73).f0).toList) == (((zld x396005 x73).f0).toList)) || ((!(((zld x395005 x73).f1.f0) == ((zld x396005 x73).f1.f0)) || (!((((zld x395005 x73).f1.f1).toList) == (((zld x396005 x73).f1.f1).toList)))) || (!(((zld x395005 x73).f2) == ((zld x396005 x73).f2))))) = true then (some false) else (zwd.l0 k x72 (wrap64 (x73 + 1)) x395000 x395001 x395002 x395003 x395004 x395005 x395006 x395007 x395008 x395009 x396000 x396001 x396002 x396003 x396004 x396005 x396006 x396007 x396008 x396009)) else (none)) else (none)) else (none)) else (zwd.l1 k (x395006.length : Int) 0 x395000 x395001 x395002 x395003 x395004 x395005 x395006 x395007 x395008 x395009 x396000 x396001 x396002 x396003 x396004 x396005 x396006 x396007 x396008 x396009)
def zwd.l1 : Nat → Int → Int → ByteArray → ByteArray → ByteArray → ByteArray → Bool → List (S52) → List (S56) → Bool → Bool → ByteArray → ByteArray → ByteArray → ByteArray → ByteArray → Bool → List (S52) → List (S56) → Bool → Bool → ByteArray → Option (Bool)
 | 0, _, _, _, _, _, _, _, _, _, _, _, _, _, _, _, _, _, _, _, _, _, _ => none
 | k + 1, x90, x91, x395000, x395001, x395002, x395003, x395004, x395005, x395006, x395007, x395008, x395009, x396000, x396001, x396002, x396003, x396004, x396005, x396006, x396007, x396008, x396009 => if x91 < x90 then (if 0 ≤ x91 then (if x91 < (x395006.length : Int) then (if x91 < (x396006.length : Int) then (if (!(((zcd x395006 x91).f0) == ((zcd x396006 x91).f0)) || ((!(((zcd x395006 x91).f1.f0) == ((zcd x396006 x91).f1.f0)) || (!((((zcd x395006 x91).f1.f1).toList) == (((zcd x396006 x91).f1.f1).toList)))))) = true then (some false) else (zwd.l1 k x90 (wrap64 (x91 + 1)) x395000 x395001 x395002 x395003 x395004 x395005 x395006 x395007 x395008 x395009 x396000 x396001 x396002 x396003 x396004 x396005 x396006 x396007 x396008 x396009)) else (none)) else (none)) else (none)) else (some true)
end
end Go.Proofs.YtapaijpglfmfgaaGreatDoor.Q
end
section
namespace Go.Proofs.YtapaijpglfmfgaaGreatDoor.V
open Go.RowKit YtapaijpglfmfgaaGreatDoor.Q YtapaijpglfmfgaaGreatDoorG YtapaijpglfmfgaaGreatDoorP YtapaijpglfmfgaaGreatDoorH YtapaijpglfmfgaaGreatDoorB YtapaijpglfmfgaaGreatDoorM YtapaijpglfmfgaaGreatDoorW.PrintWords YtapaijpglfmfgaaGreatDoorW.PrintLast
theorem rd_nat (l : List Int) (i : Nat) : rd l (i : Int) = l.getD i 0 := by simp [rd]
theorem intOf_l2 (m : List Int) (hm : m.length ≤ 1000000) : ∀ (n k : Nat), m.length - k = n → k ≤ m.length →
  Ev (fun q => zab.l2 q m (zxf m.length (m.take k)) (k : Int)) (false, strOfNums m.reverse) := by
 intro n
 induction n with
 | zero =>
  intro k hn hk
  obtain rfl : k = m.length := by omega
  refine Ev.succ ?_
  simp only [zab.l2]
  refine Ev.neg (fun _ => by first | omega | assumption | nofun) ?_
  refine Ev.eq (Ev.now _) ?_
  rw [List.take_length, content_done _ rfl]
 | succ n ih =>
  intro k hn hk
  have hlt : k < m.length := by omega
  have htl : (m.take k).length = k := by rw [List.length_take]; omega
  have hcl : (zxf m.length (m.take k)).length = m.length := content_len (by omega)
  refine Ev.succ ?_
  simp only [zab.l2, rd_nat]
  refine Ev.pos (fun _ => by first | omega | trivial | assumption) ?_
  refine Ev.pos (fun _ => by first | omega | trivial | assumption) ?_
  rw [w64 (i := (m.length : Int) - 1) (by omega) (by omega), w64 (i := (m.length : Int) - 1 - (k : Int)) (by omega) (by omega), w64 (i := (k : Int) + 1) (by omega) (by omega)]
  refine Ev.pos (fun _ => by omega) ?_
  refine Ev.pos (fun _ => by rw [hcl]; omega) ?_
  have e1 : ((m.length : Int) - 1 - (k : Int)).toNat = m.length - (m.take k).length - 1 := by rw [htl]; omega
  rw [e1, content_step _ (by rw [htl]; exact hlt)]
  have e2 : m.take k ++ [m.getD k 0] = m.take (k + 1) := by
   rw [List.take_add_one, List.getElem?_eq_getElem hlt, List.getD_eq_getElem?_getD, List.getElem?_eq_getElem hlt]
   rfl
  rw [e2]
  exact ih (k + 1) (by omega) (by omega)
theorem intOf_l1 (s : ByteArray) (i : Int) {r : Bool × ByteArray} : ∀ (rest done : List Int) (c : Nat), Byt rest → c ≤ 300 → done.length + rest.length ≤ 1000000 →
  Ev (fun q => zab.l1 q s (done ++ (mul10 rest c).1) i ((mul10 rest c).2 : Int) ((done.length + rest.length : Nat) : Int)) r → Ev (fun q => zab.l1 q s (done ++ rest) i (c : Int) (done.length : Int)) r
 | [], done, c, _, _, _, h => by simpa [mul10] using h
 | x :: rest, done, c, hb, hc, hl, h => by
  have hx := hb.cons.1
  simp only [List.length_cons] at hl
  refine Ev.succ ?_
  simp only [zab.l1, rd_nat]
  refine Ev.pos (fun _ => by rw [List.length_append, List.length_cons]; omega) ?_
  refine Ev.pos (fun _ => by omega) ?_
  have hg : (done ++ x :: rest).getD done.length 0 = x := by simp [List.getD_eq_getElem?_getD]
  rw [hg, w64 (i := x) (by omega) (by omega), w64 (i := 10 * x) (by omega) (by omega), w64 (i := (c : Int) + 10 * x) (by omega) (by omega), w64 (i := (done.length : Int) + 1) (by omega) (by omega), Int.toNat_natCast]
  have e0 : (c : Int) + 10 * x = ((c + 10 * x.toNat : Nat) : Int) := by omega
  have e1 : Int.tmod ((c : Int) + 10 * x) 256 % 256 = (((c + 10 * x.toNat) % 256 : Nat) : Int) := by
   rw [e0, Int.tmod_eq_emod_of_nonneg (by omega)]
   omega
  have e2 : wrap64 (Int.tdiv ((c : Int) + 10 * x) 256) = (((c + 10 * x.toNat) / 256 : Nat) : Int) := by
   rw [e0, Int.tdiv_eq_ediv_of_nonneg (by omega), w64 (by omega) (by omega)]
   omega
  rw [e1, e2]
  have e3 : (done ++ x :: rest).set done.length (((c + 10 * x.toNat) % 256 : Nat) : Int) = (done ++ [(((c + 10 * x.toNat) % 256 : Nat) : Int)]) ++ rest := by simp
  rw [e3]
  have ih := intOf_l1 s i (r := r) rest (done ++ [(((c + 10 * x.toNat) % 256 : Nat) : Int)]) ((c + 10 * x.toNat) / 256) hb.cons.2 (by omega) (by simp; omega)
  have e4 : ((done ++ [(((c + 10 * x.toNat) % 256 : Nat) : Int)]).length : Int) = (done.length : Int) + 1 := by simp
  rw [e4] at ih
  refine ih ?_
  simp only [mul10] at h
  have e5 : (((done ++ [(((c + 10 * x.toNat) % 256 : Nat) : Int)]).length + rest.length : Nat) : Int) = ((done.length + (x :: rest).length : Nat) : Int) := by simp; omega
  rw [e5, List.append_assoc]
  exact h
theorem pushD_len (m : List Int) (d : Nat) : (pushD m d).length ≤ m.length + 1 := by
 unfold pushD
 split
 ·simp [zog]
 ·rw [zog]; omega
theorem intOf_l0 (s : ByteArray) (hs : s.size ≤ 200000) (hd : ∀ c ∈ bytesOf s, isD c = true) : ∀ (n i : Nat) (m : List Int), s.size - i = n → i ≤ s.size → m.length ≤ i → Tight m (decL ((bytesOf s).take i)) →
  Ev (fun q => zab.l0 q s m (i : Int)) (false, magB (decL (bytesOf s))) := by
 intro n
 induction n with
 | zero =>
  intro i m hn hi hm ht
  obtain rfl : i = s.size := by omega
  rw [List.take_of_length_le (by rw [bytesOf_length]; exact Nat.le_refl _)] at ht
  refine Ev.succ ?_
  simp only [zab.l0]
  refine Ev.neg (fun _ => by first | omega | assumption | nofun) ?_
  refine Ev.pos (fun _ => by omega) ?_
  refine Ev.pos (fun _ => by omega) ?_
  have h := intOf_l2 m (by omega) _ 0 rfl (Nat.zero_le _)
  have e : zxf m.length (m.take 0) = List.replicate ((m.length : Int)).toNat 0 := by simp [zxf]
  rw [e] at h
  refine Ev.eq h ?_
  rw [ht.mag]
  rfl
 | succ n ih =>
  intro i m hn hi hm ht
  have hl : i < (bytesOf s).length := by rw [bytesOf_length]; omega
  have hc : isD ((bytesOf s).getD i 0) = true := hd _ (by rw [List.getD_eq_getElem?_getD, List.getElem?_eq_getElem hl]; exact List.getElem_mem hl)
  unfold isD at hc
  have hc2 := of_decide_eq_true hc
  obtain ⟨d, hdd⟩ : ∃ d, d = ((bytesOf s).getD i 0 - 48).toNat := ⟨_, rfl⟩
  refine Ev.succ ?_
  simp only [zab.l0, zsg]
  refine Ev.pos (fun _ => by first | omega | trivial | assumption) ?_
  refine Ev.pos (fun _ => by first | omega | trivial | assumption) ?_
  have e1 : ((bytesOf s).getD i 0 - 48) % 256 = (d : Int) := by omega
  rw [e1]
  have htk : decL ((bytesOf s).take (i + 1)) = 10 * decL ((bytesOf s).take i) + d := by
   rw [List.take_add_one, List.getElem?_eq_getElem hl, hdd, List.getD_eq_getElem?_getD, List.getElem?_eq_getElem hl]
   exact decL_snoc _ _
  have hp : Tight (pushD m d) (decL ((bytesOf s).take (i + 1))) := by rw [htk]; exact push_tight ht (by omega)
  have hcar := zei m d ht.byt (by omega)
  have hpl := pushD_len m d
  have next := ih (i + 1) (pushD m d) (by omega) (by omega) (by omega) hp
  have h := intOf_l1 s (i : Int) (r := (false, magB (decL (bytesOf s)))) m [] d ht.byt (by omega) (by simp; omega)
  simp only [List.nil_append, List.length_nil, Nat.zero_add] at h
  refine h ?_
  refine Ev.succ ?_
  simp only [zab.l1]
  refine Ev.neg (fun _ => by rw [zog]; omega) ?_
  rw [w64 (i := (i : Int) + 1) (by omega) (by omega)]
  unfold pushD at next
  by_cases hq : (mul10 m d).2 > 0
  ·rw [if_pos hq] at next
   refine Ev.pos (fun _ => by omega) ?_
   refine Ev.pos (fun _ => by rw [zog]; omega) ?_
   have e2 : ((mul10 m d).2 : Int) % 256 = ((mul10 m d).2 : Int) := by omega
   rw [e2]
   exact next
  ·rw [if_neg hq] at next
   refine Ev.neg (fun _ => by omega) ?_
   exact next
theorem intOf_ev (s : ByteArray) (hs : s.size ≤ 200000) (hd : ∀ c ∈ bytesOf s, isD c = true) : Ev (fun q => zab.f q s) (false, magB (decL (bytesOf s))) :=
 intOf_l0 s hs hd _ 0 [] rfl (Nat.zero_le _) (Nat.le_refl _) ⟨fun x hx => by simp at hx, rfl, fun h => absurd rfl h⟩
theorem isDigit_eq (c : Int) : E1.zlc.f c = some (isD c) := by
 unfold E1.zlc.f isD
 by_cases h : c ≥ 48
 ·rw [if_pos h]; simp; omega
 ·rw [if_neg h]; simp; omega
theorem run1_from (s : ByteArray) (hs : s.size ≤ 2000000) : ∀ (n i : Nat), s.size - i = n → i ≤ s.size → Ev (fun k => E1.zpb.l0 k s (i : Int)) ((i + run isD ((bytesOf s).drop i) : Nat) : Int) := by
 intro n
 induction n with
 | zero =>
  intro i hn hi
  refine Ev.succ ?_
  simp only [E1.zpb.l0]
  refine Ev.neg (fun _ => by first | omega | assumption | nofun) ?_
  refine Ev.eq (Ev.now _) ?_
  rw [List.drop_of_length_le (by rw [bytesOf_length]; omega), run_nil]
  rfl
 | succ n ih =>
  intro i hn hi
  have hl : i < (bytesOf s).length := by rw [bytesOf_length]; omega
  refine Ev.succ ?_
  simp only [E1.zpb.l0, zsg, isDigit_eq, Option.bind_some]
  refine Ev.pos (fun _ => by first | omega | trivial | assumption) ?_
  refine Ev.pos (fun _ => by first | omega | trivial | assumption) ?_
  rw [zug _ _ hl]
  cases hd : isD ((bytesOf s).getD i 0)
  ·refine Ev.neg (fun _ => Bool.false_ne_true) ?_
   refine Ev.eq (Ev.now _) ?_
   rw [zvg hd]
   rfl
  ·refine Ev.pos (fun _ => rfl) ?_
   rw [w64 (by omega) (by omega), zmh hd]
   refine Ev.eq (ih (i + 1) (by omega) (by omega)) ?_
   have : i + 1 + run isD ((bytesOf s).drop (i + 1)) = i + (run isD ((bytesOf s).drop (i + 1)) + 1) := by omega
   rw [this]
theorem run1_ev (s : ByteArray) (hs : s.size ≤ 2000000) : Ev (fun k => E1.zpb.f k s) ((run isD (bytesOf s) : Nat) : Int) := by
 have h := run1_from s hs _ 0 rfl (Nat.zero_le _)
 simpa [E1.zpb.f] using h
def znf (k : Nat) (c : List (List Int)) : List S52 := (c.zipIdx k).map fun p => ⟨strOfNums p.1, ⟨false, magB (decL p.1)⟩, (p.2 : Int)⟩
theorem zji (k : Nat) (d : List Int) (c : List (List Int)) : znf k (d :: c) = ⟨strOfNums d, ⟨false, magB (decL d)⟩, (k : Int)⟩ :: znf (k + 1) c := rfl
theorem str_take (s : ByteArray) (n : Nat) : s.extract 0 n = strOfNums ((bytesOf s).take n) := by rw [← zfg, str_B]
theorem zqj : ∀ (n : Nat) (s : ByteArray) (acc : List S52), s.size ≤ n → n ≤ 100000 → acc.length + n ≤ 200000 →
  Ev (fun k => zt.l0 k s acc) (acc ++ znf acc.length (numsP n (bytesOf s)).1, strOfNums (numsP n (bytesOf s)).2) := by
 intro n
 induction n with
 | zero =>
  intro s acc hs hn ha
  have h0 : bytesOf s = [] := (size_nil s).1 (by omega)
  have hr := run1_ev s (by omega)
  rw [h0] at hr ⊢
  refine Ev.succ ?_
  simp only [zt.l0]
  refine Ev.bind hr ?_
  refine Ev.pos (fun _ => rfl) ?_
  refine Ev.eq (Ev.now _) ?_
  have : s = strOfNums [] := by rw [← h0, str_B]
  rw [this]
  simp [numsP, znf]
 | succ n ih =>
  intro s acc hs hn ha
  have hr := run1_ev s (by omega)
  have hrl := run_le isD (bytesOf s)
  rw [bytesOf_length] at hrl
  refine Ev.succ ?_
  simp only [zt.l0]
  refine Ev.bind hr ?_
  simp only [numsP]
  by_cases h0 : run isD (bytesOf s) = 0
  ·rw [if_pos h0]
   refine Ev.pos (fun _ => by omega) ?_
   refine Ev.eq (Ev.now _) ?_
   rw [str_B]
   simp [znf]
  ·rw [if_neg h0]
   refine Ev.neg (fun _ => by omega) ?_
   refine Ev.pos (fun _ => by omega) ?_
   refine Ev.pos (fun _ => by omega) ?_
   rw [Int.toNat_natCast]
   have hdig : ∀ c ∈ (bytesOf s).take (run isD (bytesOf s)), isD c = true := fun c hc => zdi hc
   have hio := intOf_ev (s.extract 0 (run isD (bytesOf s))) (by rw [zcc, zfg, List.length_take, bytesOf_length]; omega) (by rw [zfg]; exact hdig)
   rw [zfg] at hio
   refine Ev.bind hio ?_
   refine Ev.pos (fun _ => by omega) ?_
   refine Ev.bind0 rfl ?_
   refine Ev.bind0 rfl ?_
   have hb : bytesOf (s.extract (run isD (bytesOf s)) s.size) = (bytesOf s).drop (run isD (bytesOf s)) := B_drop _ _
   obtain ⟨Y, hY⟩ : ∃ Y, Y = s.extract (run isD (bytesOf s)) s.size := ⟨_, rfl⟩
   rw [← hY] at hb ⊢
   have hYs : Y.size ≤ n := by rw [zcc, hb, List.length_drop, bytesOf_length]; omega
   have hYe : Y = strOfNums ((bytesOf s).drop (run isD (bytesOf s))) := by rw [← hb, str_B]
   rw [str_take]
   by_cases h1 : Y.toList = []
   ·have h1b : (bytesOf s).drop (run isD (bytesOf s)) = [] := hb.symm.trans ((zvb Y).1 h1)
    refine Ev.pos (fun _ => h1) ?_
    refine Ev.eq (Ev.now _) ?_
    rw [h1b]
    rw [if_neg (by decide)]
    rw [zji, hYe, h1b]
    rfl
   ·have hpos : 0 < Y.size := by
     rw [zcc]
     exact List.length_pos_iff.2 (fun e => h1 ((zvb Y).2 e))
    refine Ev.neg (fun _ => h1) ?_
    refine Ev.pos (fun _ => by omega) ?_
    rw [zci, hb]
    by_cases h2 : ((bytesOf s).drop (run isD (bytesOf s))).getD 0 0 = 46
    ·rw [if_pos h2]
     refine Ev.pos (fun _ => h2) ?_
     refine Ev.pos (fun _ => by omega) ?_
     have hb1 : bytesOf (Y.extract 1 Y.size) = (bytesOf s).drop (run isD (bytesOf s) + 1) := by rw [B_drop, hb, List.drop_drop]
     have := ih (Y.extract 1 Y.size) (acc ++ [⟨strOfNums ((bytesOf s).take (run isD (bytesOf s))), ⟨false, magB (decL ((bytesOf s).take (run isD (bytesOf s))))⟩, (acc.length : Int)⟩]) (by rw [zcc, hb1, List.length_drop, bytesOf_length]; omega) (by omega) (by simp; omega)
     rw [hb1] at this
     refine Ev.eq this ?_
     rw [List.append_assoc, List.length_append]
     rfl
    ·rw [if_neg h2]
     refine Ev.neg (fun _ => h2) ?_
     refine Ev.eq (Ev.now _) ?_
     rw [hYe]
     rfl
theorem readNumbers_ev (s : ByteArray) (hs : s.size ≤ 100000) : Ev (fun k => zt.f k s) (numsA (numsP (bytesOf s).length (bytesOf s)).1, strOfNums (rest1 (bytesOf s))) := by
 have h := zqj (bytesOf s).length s [] (by rw [bytesOf_length]; exact Nat.le_refl _) (by rw [bytesOf_length]; exact hs) (by rw [bytesOf_length]; simp; omega)
 rw [List.nil_append] at h
 exact h
end Go.Proofs.YtapaijpglfmfgaaGreatDoor.V
end
section
namespace Go.Proofs.YtapaijpglfmfgaaGreatDoor.V
open Go.RowKit YtapaijpglfmfgaaGreatDoor.Q YtapaijpglfmfgaaGreatDoorG YtapaijpglfmfgaaGreatDoorP YtapaijpglfmfgaaGreatDoorH YtapaijpglfmfgaaGreatDoorB YtapaijpglfmfgaaGreatDoorM YtapaijpglfmfgaaGreatDoorW.PrintWords YtapaijpglfmfgaaGreatDoorW.PrintLast
theorem rdOf_at (ws : List ByteArray) (j : Nat) (h : j < ws.length) : rdOf ByteArray.empty ws (j : Int) = ws[j] := by
 simp only [rdOf, Int.toNat_natCast, List.getD_eq_getElem?_getD, List.getElem?_eq_getElem h, Option.getD_some]
theorem word_from (s : ByteArray) (hs : s.size ≤ 2000000) (ws : List ByteArray) (hw : ∀ w ∈ ws, w.size ≤ 100 ∧ 1 ≤ w.size) (hl : ws.length ≤ 100) : ∀ (m j : Nat), ws.length - j = m → j ≤ ws.length →
  Ev (fun k => ztb.l0 k s ws (j : Int)) (strOfNums ((if (bytesOf s).getD 0 0 = 95 then ((ws.drop j).map bytesOf).find? (fun w => pre w ((bytesOf s).drop 1)) else none).getD [])) := by
 intro m
 induction m with
 | zero =>
  intro j hm hj
  obtain rfl : j = ws.length := by omega
  refine Ev.succ ?_
  simp only [ztb.l0]
  refine Ev.neg (fun _ => by first | omega | assumption | nofun) ?_
  refine Ev.eq (Ev.now _) ?_
  rw [List.drop_length, List.map_nil, List.find?_nil]
  split <;> rfl
 | succ m ih =>
  intro j hm hj
  have hlt : j < ws.length := by omega
  have hd : ws.drop j = ws[j] :: ws.drop (j + 1) := List.drop_eq_getElem_cons hlt
  have next := ih (j + 1) (by omega) (by omega)
  obtain ⟨h100, h1⟩ := hw _ (List.getElem_mem hlt)
  rw [hd, List.map_cons, List.find?_cons]
  obtain ⟨W, hW⟩ : ∃ W, W = ws[j] := ⟨_, rfl⟩
  have hrd := rdOf_at ws j hlt
  rw [← hW] at h100 h1 hrd ⊢
  refine Ev.succ ?_
  simp only [ztb.l0]
  refine Ev.pos (fun _ => by first | omega | trivial | assumption) ?_
  refine Ev.pos (fun _ => by first | omega | trivial | assumption) ?_
  rw [hrd, w64 (i := (j : Int) + 1) (by omega) (by omega), w64 (i := (W.size : Int) + 1) (by omega) (by omega), zci]
  have hnone : ¬ (s.size > W.size) → pre (bytesOf W) ((bytesOf s).drop 1) = false := fun h => by
   unfold pre
   rw [decide_eq_false_iff_not]
   intro e
   have := congrArg List.length e
   rw [List.length_take, List.length_drop, bytesOf_length, bytesOf_length] at this
   omega
  by_cases hsz : s.size > W.size
  ·refine Ev.pos (fun _ => by omega) ?_
   refine Ev.pos (fun _ => by omega) ?_
   by_cases h95 : (bytesOf s).getD 0 0 = 95
   ·rw [if_pos h95] at next ⊢
    refine Ev.pos (fun _ => h95) ?_
    refine Ev.pos (fun _ => by omega) ?_
    refine Ev.pos (fun _ => by omega) ?_
    have e1 : ((W.size : Int) + 1).toNat = 1 + W.size := by omega
    have e2 : (s.extract 1 ((W.size : Int) + 1).toNat).toList = W.toList ↔ pre (bytesOf W) ((bytesOf s).drop 1) = true := by
     rw [e1, zid, zpf, Nat.add_sub_cancel_left]
     unfold pre
     rw [decide_eq_true_iff, zcc]
    by_cases hp : pre (bytesOf W) ((bytesOf s).drop 1) = true
    ·rw [hp]
     refine Ev.pos (fun _ => e2.2 hp) ?_
     refine Ev.eq (Ev.now _) ?_
     exact (str_B W).symm
    ·rw [Bool.eq_false_iff.2 hp]
     refine Ev.neg (fun _ e => hp (e2.1 e)) ?_
     exact next
   ·rw [if_neg h95] at next ⊢
    refine Ev.neg (fun _ => h95) ?_
    exact next
  ·refine Ev.neg (fun _ => by omega) ?_
   rw [hnone hsz]
   exact next
theorem word_ev (s : ByteArray) (hs : s.size ≤ 2000000) : Ev (fun k => ztb.f k s) (strOfNums ((ztd (bytesOf s)).getD [])) := by
 simp only [ztb.f]
 refine Ev.bind0 rfl ?_
 have h := word_from s hs sufBs (fun w hw => ⟨sufBs_size w hw, by
  have h1 : bytesOf w ∈ zbc := by rw [← sufBs_B]; exact List.mem_map_of_mem hw
  rw [zcc]
  exact (zsd h1).1⟩) (by decide) 9 0 rfl (by decide)
 rw [List.drop_zero, sufBs_B] at h
 exact h
theorem sweight_from (x : ByteArray) (ws : List ByteArray) (hl : ws.length ≤ 100) : ∀ (m j : Nat), ws.length - j = m → j ≤ ws.length →
  Ev (fun k => zjb.l0 k x ws (j : Int)) ((j + ((ws.drop j).map bytesOf).idxOf (bytesOf x) : Nat) : Int) := by
 intro m
 induction m with
 | zero =>
  intro j hm hj
  obtain rfl : j = ws.length := by omega
  refine Ev.succ ?_
  simp only [zjb.l0]
  refine Ev.neg (fun _ => by first | omega | assumption | nofun) ?_
  refine Ev.eq (Ev.now _) ?_
  rw [List.drop_length]
  rfl
 | succ m ih =>
  intro j hm hj
  have hlt : j < ws.length := by omega
  have hd : ws.drop j = ws[j] :: ws.drop (j + 1) := List.drop_eq_getElem_cons hlt
  refine Ev.succ ?_
  simp only [zjb.l0]
  refine Ev.pos (fun _ => by first | omega | trivial | assumption) ?_
  refine Ev.pos (fun _ => by first | omega | trivial | assumption) ?_
  rw [rdOf_at ws j hlt, hd, List.map_cons, List.idxOf_cons]
  by_cases h : bytesOf x = bytesOf ws[j]
  ·refine Ev.pos (fun _ => (zid _ _).2 h.symm) ?_
   refine Ev.eq (Ev.now _) ?_
   have : (bytesOf ws[j] == bytesOf x) = true := by rw [beq_iff_eq]; exact h.symm
   rw [this]
   rfl
  ·refine Ev.neg (fun _ e => h ((zid _ _).1 e).symm) ?_
   rw [w64 (i := (j : Int) + 1) (by omega) (by omega)]
   refine Ev.eq (ih (j + 1) (by omega) (by omega)) ?_
   have : (bytesOf ws[j] == bytesOf x) = false := by rw [beq_eq_false_iff_ne]; exact fun e => h e.symm
   rw [this]
   simp only [cond_false]
   omega
theorem sweight_ev (x : ByteArray) : Ev (fun k => zjb.f k x) (wgt (bytesOf x) : Int) := by
 simp only [zjb.f]
 have h := sweight_from x wgtBs (by decide) 9 0 rfl (by decide)
 rw [List.drop_zero, wgtBs_B] at h
 refine Ev.eq h ?_
 unfold wgt
 rw [Nat.zero_add]
theorem B_word {w : List Int} (h : w ∈ zbc) : bytesOf (strOfNums w) = w := B_str (fun c hc => by have := zeg h c hc; omega)
theorem zaj : ∀ (n : Nat) (s : ByteArray) (acc : List S56), s.size ≤ n → n ≤ 100000 → acc.length + n ≤ 200000 →
  Ev (fun k => zu.l0 k s acc) (acc ++ sufsA (sufsP n (bytesOf s)).1, strOfNums (sufsP n (bytesOf s)).2) := by
 intro n
 induction n with
 | zero =>
  intro s acc hs hn ha
  have h0 : bytesOf s = [] := (size_nil s).1 (by omega)
  have hr := word_ev s (by omega)
  refine Ev.succ ?_
  simp only [zu.l0]
  refine Ev.bind hr ?_
  have e : ztd (bytesOf s) = none := by rw [h0]; rfl
  rw [e]
  refine Ev.pos (fun _ => (zvb _).2 rfl) ?_
  refine Ev.eq (Ev.now _) ?_
  simp only [sufsP]
  rw [str_B]
  simp [sufsA]
 | succ n ih =>
  intro s acc hs hn ha
  have hr := word_ev s (by omega)
  refine Ev.succ ?_
  simp only [zu.l0]
  refine Ev.bind hr ?_
  cases hq : ztd (bytesOf s) with
  | none =>
   rw [zse hq]
   refine Ev.pos (fun _ => (zvb _).2 rfl) ?_
   refine Ev.eq (Ev.now _) ?_
   rw [str_B]
   simp [sufsA]
  | some w =>
   obtain ⟨k1, k2⟩ := zne hq
   have hlen := zsd k1
   have hbw := B_word k1
   rw [zqe hq]
   have htot := congrArg List.length k2
   simp only [List.length_cons, List.length_append, List.length_drop, bytesOf_length] at htot
   have hWs : (strOfNums w).size = w.length := by rw [zcc, hbw]
   show Ev _ _
   simp only [Option.getD_some]
   refine Ev.neg (fun _ e => by have := (zvb _).1 e; rw [hbw] at this; rw [this] at hlen; simp at hlen) ?_
   rw [hWs, w64 (i := (w.length : Int) + 1) (by omega) (by omega)]
   refine Ev.pos (fun _ => by omega) ?_
   refine Ev.pos (fun _ => by omega) ?_
   refine Ev.bind0 rfl ?_
   have e1 : ((w.length : Int) + 1).toNat = 1 + w.length := by omega
   rw [e1]
   have hb : bytesOf (s.extract (1 + w.length) s.size) = (bytesOf s).drop (1 + w.length) := B_drop _ _
   obtain ⟨Y, hY⟩ : ∃ Y, Y = s.extract (1 + w.length) s.size := ⟨_, rfl⟩
   rw [← hY] at hb ⊢
   have hYs : Y.size = s.size - (1 + w.length) := by rw [zcc, hb, List.length_drop, bytesOf_length]
   have hru := run1_ev Y (by omega)
   have hrl := run_le isD (bytesOf Y)
   rw [bytesOf_length] at hrl
   refine Ev.bind hru ?_
   have hsw := sweight_ev (strOfNums w)
   rw [hbw] at hsw
   refine Ev.bind hsw ?_
   refine Ev.pos (fun _ => by omega) ?_
   refine Ev.pos (fun _ => by omega) ?_
   rw [Int.toNat_natCast]
   have hdig : ∀ c ∈ (bytesOf Y).take (run isD (bytesOf Y)), isD c = true := fun c hc => zdi hc
   have hio := intOf_ev (Y.extract 0 (run isD (bytesOf Y))) (by rw [zcc, zfg, List.length_take, bytesOf_length]; omega) (by rw [zfg]; exact hdig)
   rw [zfg] at hio
   refine Ev.bind hio ?_
   refine Ev.pos (fun _ => by omega) ?_
   have hbz : bytesOf (Y.extract (run isD (bytesOf Y)) Y.size) = (bytesOf Y).drop (run isD (bytesOf Y)) := B_drop _ _
   have := ih (Y.extract (run isD (bytesOf Y)) Y.size) (acc ++ [⟨(wgt w : Int), ⟨false, magB (decL ((bytesOf Y).take (run isD (bytesOf Y))))⟩⟩]) (by rw [zcc, hbz, List.length_drop, bytesOf_length]; omega) (by omega) (by simp; omega)
   rw [hbz, hb] at this
   rw [hb]
   refine Ev.eq this ?_
   rw [List.append_assoc]
   rfl
theorem readSuffixes_ev (s : ByteArray) (hs : s.size ≤ 100000) : Ev (fun k => zu.f k s) (sufsA (sufsP (bytesOf s).length (bytesOf s)).1, strOfNums (sufsP (bytesOf s).length (bytesOf s)).2) := by
 have h := zaj (bytesOf s).length s [] (by rw [bytesOf_length]; exact Nat.le_refl _) (by rw [bytesOf_length]; exact hs) (by rw [bytesOf_length]; simp; omega)
 rw [List.nil_append] at h
 exact h
theorem ascii_from (s : ByteArray) (hs : s.size ≤ 2000000000) : ∀ (n i : Nat), s.size - i = n → i ≤ s.size →
  Ev (fun k => zyc.l0 k s i) (decide (∀ x ∈ (bytesOf s).drop i, x ≤ 127)) := by
 intro n
 induction n with
 | zero =>
  intro i hn hi
  refine Ev.succ ?_
  simp only [zyc.l0]
  refine Ev.neg (fun _ => by omega) ?_
  refine Ev.eq (Ev.now _) ?_
  rw [List.drop_of_length_le (by rw [bytesOf_length]; omega)]
  simp
 | succ n ih =>
  intro i hn hi
  have hl : i < (bytesOf s).length := by rw [bytesOf_length]; omega
  refine Ev.succ ?_
  simp only [zyc.l0]
  refine Ev.pos (fun _ => by omega) ?_
  refine Ev.pos (fun _ => by omega) ?_
  rw [zsg, zug _ _ hl]
  by_cases h : (bytesOf s).getD i 0 > 127
  ·refine Ev.pos (fun _ => h) ?_
   refine Ev.eq (Ev.now _) ?_
   symm
   simp only [decide_eq_false_iff_not]
   intro hx
   have := hx _ List.mem_cons_self
   omega
  ·refine Ev.neg (fun _ => h) ?_
   rw [w64 (by omega) (by omega)]
   refine Ev.eq (ih (i + 1) (by omega) (by omega)) ?_
   rw [decide_eq_decide]
   simp only [List.mem_cons, forall_eq_or_imp]
   exact ⟨fun hx => ⟨by omega, hx⟩, fun hx => hx.2⟩
theorem ascii_ev (s : ByteArray) (hs : s.size ≤ 2000000000) : Ev (fun k => zyc.f k s) (decide (∀ x ∈ bytesOf s, x ≤ 127)) := by
 have h := ascii_from s hs _ 0 rfl (Nat.zero_le _)
 simpa [zyc.f] using h
theorem clear_from (s : ByteArray) (hs : s.size ≤ 2000000) : ∀ (n i : Nat), s.size - i = n → i ≤ s.size → Ev (fun k => zi.l0 k s (i : Int)) (zbh ((bytesOf s).drop i)) := by
 intro n
 induction n with
 | zero =>
  intro i hn hi
  refine Ev.succ ?_
  simp only [zi.l0]
  refine Ev.neg (fun _ => by first | omega | assumption | nofun) ?_
  refine Ev.eq (Ev.now _) ?_
  rw [List.drop_of_length_le (by rw [bytesOf_length]; omega)]
  rfl
 | succ n ih =>
  intro i hn hi
  have hl : i < (bytesOf s).length := by rw [bytesOf_length]; omega
  have hb : bytesOf (s.extract i s.size) = (bytesOf s).drop i := B_drop _ _
  have hw := word_ev (s.extract i s.size) (by rw [zcc, hb, List.length_drop, bytesOf_length]; omega)
  rw [hb] at hw
  refine Ev.succ ?_
  simp only [zi.l0, Int.toNat_natCast]
  refine Ev.pos (fun _ => by first | omega | trivial | assumption) ?_
  refine Ev.pos (fun _ => by first | omega | trivial | assumption) ?_
  refine Ev.pos (fun _ => by first | omega | trivial | assumption) ?_
  refine Ev.bind hw ?_
  rw [w64 (i := (i : Int) + 1) (by omega) (by omega)]
  have e : zbh ((bytesOf s).drop i) = ((ztd ((bytesOf s).drop i)).isNone && zbh ((bytesOf s).drop (i + 1))) := by
   rw [zug _ _ hl]
   rfl
  rw [e]
  cases hq : ztd ((bytesOf s).drop i) with
  | none =>
   refine Ev.pos (fun _ => (zvb _).2 rfl) ?_
   exact ih (i + 1) (by omega) (by omega)
  | some w =>
   have k1 := (zne hq).1
   have hlen := zsd k1
   refine Ev.neg (fun _ e => by have := (zvb _).1 e; rw [show (some w).getD [] = w from rfl, B_word k1] at this; rw [this] at hlen; simp at hlen) ?_
   exact Ev.now _
theorem letter_cases {α : Type} (s : ByteArray) {g : Bool → Nat → Option α} {r : α} (h : Ev (g (isL ((bytesOf s).getD 0 0))) r) : Ev (fun k => if s.toList = ([] : List UInt8) then g false k else if 0 < (s.size : Int) then (if (bt s 0) ≥ 97 then g (decide ((bt s 0) ≤ 122)) k else g false k) else none) r := by
 by_cases h0 : bytesOf s = []
 ·refine Ev.pos (fun _ => (zvb s).2 h0) ?_
  rw [h0] at h
  exact h
 ·have hpos : 0 < s.size := by rw [zcc]; exact List.length_pos_iff.2 h0
  refine Ev.neg (fun _ e => h0 ((zvb s).1 e)) ?_
  refine Ev.pos (fun _ => by omega) ?_
  rw [zci]
  unfold isL at h
  by_cases h1 : (bytesOf s).getD 0 0 ≥ 97
  ·refine Ev.pos (fun _ => h1) ?_
   have e : decide ((bytesOf s).getD 0 0 ≤ 122) = decide (97 ≤ (bytesOf s).getD 0 0 ∧ (bytesOf s).getD 0 0 ≤ 122) := by rw [decide_eq_decide]; omega
   rw [e]
   exact h
  ·refine Ev.neg (fun _ => h1) ?_
   rw [decide_eq_false (by omega)] at h
   exact h
theorem B_rest {l r : List Int} (hl : ∀ x ∈ l, 0 ≤ x ∧ x ≤ 255) (h : ∃ a, l = a ++ r) : bytesOf (strOfNums r) = r := by
 obtain ⟨a, rfl⟩ := h
 exact B_str (fun c hc => hl c (List.mem_append_right _ hc))
theorem zoj (l : List Int) : ∃ a, l = a ++ rest1 l := by
 obtain ⟨sub, e, _⟩ := zvf l.length l
 exact ⟨sub, e⟩
theorem rest2_suffix (l : List Int) : ∃ a, l = a ++ rest2 l := by
 obtain ⟨a, e⟩ := zoj l
 unfold rest2 ztf
 split
 ·exact ⟨a ++ (rest1 l).take 1, by rw [List.append_assoc, List.take_append_drop]; exact e⟩
 ·exact ⟨a, e⟩
theorem znj : ∀ (n : Nat) (l : List Int), ∃ a, l = a ++ (sufsP n l).2
 | 0, l => ⟨[], rfl⟩
 | n + 1, l => by
  cases hq : ztd l with
  | none => rw [zse hq]; exact ⟨[], rfl⟩
  | some w =>
   rw [zqe hq]
   obtain ⟨a, e⟩ := znj n ((l.drop (1 + w.length)).drop (run isD (l.drop (1 + w.length))))
   refine ⟨l.take (1 + w.length + run isD (l.drop (1 + w.length))) ++ a, ?_⟩
   simp only
   rw [List.append_assoc, ← e, List.drop_drop, List.take_append_drop]
theorem rest3_suffix (l : List Int) : ∃ a, l = a ++ rest3 l := by
 obtain ⟨a, e⟩ := rest2_suffix l
 obtain ⟨b, e2⟩ := znj (rest2 l).length (rest2 l)
 exact ⟨a ++ b, by rw [List.append_assoc]; unfold rest3; rw [← e2]; exact e⟩
theorem known_ev (s : ByteArray) (hs : s.size ≤ 100000) : Ev (fun k => zi.f k s) (decide (∀ x ∈ bytesOf s, x ≤ 127) && zbh (rest3 (bytesOf s))) := by
 simp only [zi.f]
 refine Ev.bind (ascii_ev s (by omega)) ?_
 cases ha : decide (∀ x ∈ bytesOf s, x ≤ 127)
 ·refine Ev.neg (fun _ => Bool.false_ne_true) ?_
  exact Ev.now _
 ·refine Ev.pos (fun _ => rfl) ?_
  rw [Bool.true_and]
  refine Ev.bind (readNumbers_ev s hs) ?_
  have hb1 := B_rest (zjh s) (zoj (bytesOf s))
  have hl1 := zli (bytesOf s)
  have hz := hs
  rw [zcc] at hz
  refine letter_cases (strOfNums (rest1 (bytesOf s))) (g := fun b k => zi.j0 k (strOfNums (rest1 (bytesOf s))) b) ?_
  rw [hb1]
  have hj1 : ∀ (t : ByteArray), bytesOf t = rest2 (bytesOf s) → Ev (fun k => zi.j1 k t) (zbh (rest3 (bytesOf s))) := by
   intro t ht
   have hl2 := zti (bytesOf s)
   have hl3 := rest3_len (bytesOf s)
   refine Ev.succ ?_
   simp only [zi.j1]
   have h := readSuffixes_ev t (by rw [zcc, ht]; omega)
   rw [ht] at h
   refine Ev.bind h ?_
   have hb3 := B_rest (zjh s) (rest3_suffix (bytesOf s))
   have h2 := clear_from (strOfNums (rest3 (bytesOf s))) (by rw [zcc, hb3]; omega) _ 0 rfl (Nat.zero_le _)
   rw [hb3, List.drop_zero] at h2
   exact h2
  refine Ev.succ ?_
  simp only [zi.j0]
  cases hc : isL ((rest1 (bytesOf s)).getD 0 0)
  ·refine Ev.neg (fun _ => Bool.false_ne_true) ?_
   refine hj1 _ ?_
   rw [hb1]
   unfold rest2 ztf
   rw [hc]
   rfl
  ·have hne : rest1 (bytesOf s) ≠ [] := by intro e; rw [e] at hc; exact absurd hc (by decide)
   have hpos : 0 < (strOfNums (rest1 (bytesOf s))).size := by rw [zcc, hb1]; exact List.length_pos_iff.2 hne
   refine Ev.pos (fun _ => rfl) ?_
   refine Ev.pos (fun _ => by omega) ?_
   refine hj1 _ ?_
   rw [B_drop, hb1]
   unfold rest2 ztf
   rw [hc]
   rfl
end Go.Proofs.YtapaijpglfmfgaaGreatDoor.V
end
section
namespace Go.Proofs.YtapaijpglfmfgaaGreatDoor.V
open Go.RowKit YtapaijpglfmfgaaGreatDoor.Q YtapaijpglfmfgaaGreatDoorG YtapaijpglfmfgaaGreatDoorP YtapaijpglfmfgaaGreatDoorH YtapaijpglfmfgaaGreatDoorB YtapaijpglfmfgaaGreatDoorM YtapaijpglfmfgaaGreatDoorW.PrintWords YtapaijpglfmfgaaGreatDoorW.PrintLast
theorem zrf (c : List (List Int)) : (numsA c).length = c.length := by simp [numsA]
theorem zfd (c : List (List Int × List Int)) : (sufsA c).length = c.length := by simp [sufsA]
end Go.Proofs.YtapaijpglfmfgaaGreatDoor.V
end
section
namespace Go.Proofs.YtapaijpglfmfgaaGreatDoor.Q
open Go.RowKit YtapaijpglfmfgaaGreatDoorH YtapaijpglfmfgaaGreatDoorG YtapaijpglfmfgaaGreatDoorW.PrintWords YtapaijpglfmfgaaGreatDoorW.PrintLast YtapaijpglfmfgaaGreatDoorW.PrintMore
attribute [local go_sem] zsc zuc zhd zgd zhc zic zvc ztc
def zpc.f (k : Nat) (a0 : ByteArray) : Option (Bool × ByteArray) := (zhe.f k a0).bind fun bt136 => (some (bt136.1, bt136.2.1))
theorem zpc.calls (k : Nat) (a0 : ByteArray) (r1 : Bool) (r2 : ByteArray) (w : World) (h : zpc.f k a0 = some (r1, r2)) :
  Calls Tryz.prog 21 #[.string a0] w fun e w' => e = .returned (.agg #[.bool r1, .string r2]) ∧ Below w.heap.size w w' := by
 have hu31 := Tryz.underlying31
 have HB := za.mk (Below.refl w.heap.size w)
 have H : ((zhe.f k a0).bind fun bt136 => (some (bt136.1, bt136.2.1))) = some (r1, r2) := h
 clear h
 replace H := Option.bind_eq_some_iff.mp H
 obtain ⟨⟨t136, t137, t138⟩, A20, H⟩ := H
 replace H : (some (t136, t137)) = some (r1, r2) := H
 have A2 := za.mk A20
 clear A20
 simp only [Option.some.injEq, Prod.mk.injEq] at H
 obtain ⟨rfl, rfl⟩ := H
 go_enter Tryz.func21, Tryz.ntmps21
 go_wp2_with (first | ((with_reducible refine zmb (N := 2) rfl ?_); refine zrb ?hg (N := 2) ?hd (cs := #[.bool false, .string (⟨#[]⟩ : ByteArray)]) (t := 31) ?hr ?_; (case hd => rfl); (case hg => rfl); (case hr => first | (go_simp; done) | (go_simp; rfl)); intro gb135 hg w3 hbox hb; have n0_ := za.mk (zm (by repeat (first | (with_reducible first | exact HB.out | apply zj | apply zc | apply zz) | exact HB.out)) hb); have n1_ := za.mk (hbox); have n2_ := za.mk ((by rw [hg]; exact (zl (by repeat (first | (with_reducible first | exact HB.out | apply zj | apply zc | apply zz) | exact HB.out))) : w.heap.size ≤ gb135)); have n3_ := za.mk ((by rw [hg]; exact (zl (by repeat (first | (with_reducible first | exact HB.out | apply zj | apply zc | apply zz) | exact HB.out))) : w.heap.size ≤ gb135)); clear HB; have HB := n0_; have BK135 := n1_; have GW135 := n2_; have GE135 := n3_; clear n0_ n1_ n2_ n3_; clear hb hbox hg) | ((with_reducible refine zx (f := 45) rfl ?_); refine zdc (some 7) rfl rfl Tryz.func45 (by kernel_rfl) rfl #[.string a0] rfl (by (try simp only [List.map_toArray, List.map_cons, List.map_nil]); first | done | rfl | (simp only [List.length_drop, List.length_take]; rfl)) ?_; (with_reducible refine (zhe.calls k a0 t136 t137 t138 _ A2.out).mono ?_); rintro e w4 ⟨rfl, hb⟩; refine ⟨_, rfl, ?_⟩; have n0_ := za.mk (ze (g := gb135) (o := .cells #[.bool false, .string (⟨#[]⟩ : ByteArray)] 31 (0, 0)) (by (with_reducible repeat (first | refine zib ?_ _ | refine zjd ?_ | refine zjc ?_ _)); exact BK135.out) hb); have n1_ := za.mk (zm (by repeat (first | (with_reducible first | exact HB.out | apply zj | apply zc | apply zz | refine zk ?_ GE135.out) | exact HB.out)) hb); clear BK135; clear HB; have BK135 := n0_; have HB := n1_; clear n0_ n1_; (try clear hb); (try clear hb2); (try clear hk); (try clear hi)) | ((with_reducible refine zmb (N := 3) rfl ?_); refine zrb ?hg (N := 3) ?hd (cs := #[.bool false, .string (⟨#[]⟩ : ByteArray)]) (t := 31) ?hr ?_; (case hd => rfl); (case hg => rfl); (case hr => first | (go_simp; done) | (go_simp; rfl)); intro gb139 hg w5 hbox hb; have n0_ := za.mk (ze (g := gb135) (o := .cells #[.bool false, .string (⟨#[]⟩ : ByteArray)] 31 (0, 0)) (by (with_reducible repeat (first | refine zib ?_ _ | refine zjd ?_ | refine zjc ?_ _)); exact BK135.out) hb); have n1_ := za.mk (zm (by repeat (first | (with_reducible first | exact HB.out | apply zj | apply zc | apply zz | refine zk ?_ GE135.out) | exact HB.out)) hb); have n2_ := za.mk (hbox); have n3_ := za.mk ((by rw [hg]; exact (zl (by repeat (first | (with_reducible first | exact HB.out | apply zj | apply zc | apply zz | refine zk ?_ GE135.out) | exact HB.out))) : w.heap.size ≤ gb139)); have n4_ := za.mk ((by rw [hg]; exact (zl (by repeat (first | (with_reducible first | exact HB.out | apply zj | apply zc | apply zz | refine zk ?_ GE135.out) | exact HB.out))) : w.heap.size ≤ gb139)); have n5_ := za.mk ((by rw [hg]; exact Nat.ne_of_lt (znc (g := gb135) (o := .cells #[.bool false, .string (⟨#[]⟩ : ByteArray)] 31 (0, 0)) (by (with_reducible repeat (first | refine zib ?_ _ | refine zjd ?_ | refine zjc ?_ _)); exact BK135.out)) : gb135 ≠ gb139)); have n6_ := za.mk ((by rw [hg]; exact Nat.ne_of_gt (znc (g := gb135) (o := .cells #[.bool false, .string (⟨#[]⟩ : ByteArray)] 31 (0, 0)) (by (with_reducible repeat (first | refine zib ?_ _ | refine zjd ?_ | refine zjc ?_ _)); exact BK135.out)) : gb139 ≠ gb135)); clear BK135; clear HB; have BK135 := n0_; have HB := n1_; have BK139 := n2_; have GW139 := n3_; have GE139 := n4_; have NB135_139 := n5_; have NB139_135 := n6_; clear n0_ n1_ n2_ n3_ n4_ n5_ n6_; clear hb hbox hg; have hnb6 := NB139_135.out; have hnc6 := NB135_139.out; have hcz7_0 : w5.cell? ⟨gb139, 0, none⟩ = some (.bool false) := (zf BK139.out 0).trans rfl; have hcz7_1 : w5.cell? ⟨gb139, 1, none⟩ = some (.string (⟨#[]⟩ : ByteArray)) := (zf BK139.out 1).trans rfl; have hfz7_0 := zy BK139.out 0; have hfz7_1 := zy BK139.out 1; have hcz8_0 : w5.cell? ⟨gb135, 0, none⟩ = some (.bool false) := (zf BK135.out 0).trans rfl; have hcz8_1 : w5.cell? ⟨gb135, 1, none⟩ = some (.string (⟨#[]⟩ : ByteArray)) := (zf BK135.out 1).trans rfl; have hfz8_0 := zy BK135.out 0; have hfz8_1 := zy BK135.out 1))
 refine bodyPost_ret (results_cell_row rfl _ _ gb135 31 #[.bool t136, .string t137] (0, 0) _ rfl (by (with_reducible repeat (first | refine zib ?_ _ | refine zjd ?_ | refine zjc ?_ _)); refine zdb (cs := #[.bool t136, .string (⟨#[]⟩ : ByteArray)]) ?_ 1 _ rfl; (with_reducible repeat (first | refine zib ?_ _ | refine zjd ?_ | refine zjc ?_ _)); refine zdb (cs := #[.bool false, .string (⟨#[]⟩ : ByteArray)]) ?_ 0 _ rfl; (with_reducible repeat (first | refine zib ?_ _ | refine zjd ?_ | refine zjc ?_ _)); refine zkb ?_ NB135_139.out _; (with_reducible repeat (first | refine zib ?_ _ | refine zjd ?_ | refine zjc ?_ _)); refine zkb ?_ NB135_139.out _; (with_reducible repeat (first | refine zib ?_ _ | refine zjd ?_ | refine zjc ?_ _)); exact BK135.out) Tryz.underlying31 rfl (by kernel_rfl)) rfl ?_
 exact ⟨by first | rfl | (simp [zcf, zbf] <;> rfl) | (simp [*, zcf, zbf] <;> rfl) | (simp [zoc]; done), by repeat (first | (with_reducible first | exact HB.out | apply zj | apply zc | apply zz | refine zk ?_ GE135.out | refine zk ?_ GE139.out) | exact HB.out)⟩
def zag.f  : Option (List Int) := some (([0, 1, 2, 3, 5, 6, 7, 8, 9] : List Int))
theorem zag.calls  (r : List Int) (w : World) (h : zag.f  = some r) :
  Calls Tryz.prog 22 #[] w fun e w' => ∃ v0_ : Value, e = .returned (v0_) ∧ Kd.R (Kd.int .i64) 3 w' w.heap.size (fun _ => True) v0_ r ∧ Below w.heap.size w w' := by
 have HB := za.mk (Below.refl w.heap.size w)
 have H : (some (([0, 1, 2, 3, 5, 6, 7, 8, 9] : List Int))) = some r := h
 clear h
 obtain ⟨y140, hy140⟩ : ∃ y_ : List Int, y_ = (([0, 1, 2, 3, 5, 6, 7, 8, 9] : List Int)) := ⟨_, rfl⟩
 replace H : (some y140) = some r := by first | (rw [hy140]; with_reducible exact H) | (have H2_ := (Option.bind_some _ _).symm.trans H; rw [hy140]; with_reducible exact H2_) | (have H2_ := (Option.bind_some _ _).symm.trans H; with_reducible exact H2_) | with_reducible exact H | (rw [hy140]; exact H) | exact H
 have Ny140 := za.mk hy140
 clear hy140
 obtain rfl := Option.some.inj H
 go_enter Tryz.func22, Tryz.ntmps22
 go_wp2_with (first | ((with_reducible refine zmb (N := 1) rfl ?_); refine Kd.R_lit (Kd.int .i64) _ 3 ?hg (N := 1) ?hd (xs := ([0, 1, 2, 3, 5, 6, 7, 8, 9] : List Int)) (inner := [.int .i64 0, .int .i64 1, .int .i64 2, .int .i64 3, .int .i64 5, .int .i64 6, .int .i64 7, .int .i64 8, .int .i64 9]) (ok := fun _ => True) (okp := fun _ => True) ?hr ?hp (fun _ hk => hk) trivial (Below.refl _ _) (Nat.le_refl _) (by simp) ?_; (case hd => rfl); (case hg => rfl); (case hr => first | (go_simp; done) | (go_simp; rfl)); (case hp => exact (Reps.one (show Kd.M (Kd.int .i64) _ _ _ 0 [.int .i64 0] from rfl) (Reps.one (show Kd.M (Kd.int .i64) _ _ _ 1 [.int .i64 1] from rfl) (Reps.one (show Kd.M (Kd.int .i64) _ _ _ 2 [.int .i64 2] from rfl) (Reps.one (show Kd.M (Kd.int .i64) _ _ _ 3 [.int .i64 3] from rfl) (Reps.one (show Kd.M (Kd.int .i64) _ _ _ 5 [.int .i64 5] from rfl) (Reps.one (show Kd.M (Kd.int .i64) _ _ _ 6 [.int .i64 6] from rfl) (Reps.one (show Kd.M (Kd.int .i64) _ _ _ 7 [.int .i64 7] from rfl) (Reps.one (show Kd.M (Kd.int .i64) _ _ _ 8 [.int .i64 8] from rfl) (Reps.one (show Kd.M (Kd.int .i64) _ _ _ 9 [.int .i64 9] from rfl) (Reps.none _ _))))))))))); intro v141 w1 ho2 hb hg_ hnew_; clear hg_ hnew_; (first | rw [← Ny140.out] at ho2 | (simp only [Int.reduceToNat] at ho2; rw [← Ny140.out] at ho2)); have n0_ := za.mk (Kd.R_lower ho2 (zl (by repeat (first | (with_reducible first | exact HB.out | apply zj | apply zc | apply zz) | exact HB.out)))); have n1_ := za.mk (zm (by repeat (first | (with_reducible first | exact HB.out | apply zj | apply zc | apply zz) | exact HB.out)) hb); clear HB; have HO142 := n0_; have HB := n1_; clear n0_ n1_; clear hb ho2))
 go_ret
 exact ⟨_, by first | rfl | (simp [zcf, zbf] <;> rfl) | (simp [*, zcf, zbf] <;> rfl) | (simp [zoc]; done), by (with_reducible repeat (first | apply Kd.R_alloc | apply Kd.R_drewN | apply Kd.R_drew)); exact HO142.out, by repeat (first | (with_reducible first | exact HB.out | apply zj | apply zc | apply zz) | exact HB.out)⟩
def zie.f  : Option (List ByteArray) := some (([(⟨#[97, 108, 112, 104, 97]⟩ : ByteArray), (⟨#[98, 101, 116, 97]⟩ : ByteArray), (⟨#[112, 114, 101]⟩ : ByteArray), (⟨#[114, 99]⟩ : ByteArray), (⟨#[99, 118, 115]⟩ : ByteArray), (⟨#[115, 118, 110]⟩ : ByteArray), (⟨#[103, 105, 116]⟩ : ByteArray), (⟨#[104, 103]⟩ : ByteArray), (⟨#[112]⟩ : ByteArray)] : List ByteArray))
theorem zie.calls  (r : List ByteArray) (w : World) (h : zie.f  = some r) :
  Calls Tryz.prog 23 #[] w fun e w' => ∃ v0_ : Value, e = .returned (v0_) ∧ Kd.R Kd.string 9 w' w.heap.size (fun _ => True) v0_ r ∧ Below w.heap.size w w' := by
 have HB := za.mk (Below.refl w.heap.size w)
 have H : (some (([(⟨#[97, 108, 112, 104, 97]⟩ : ByteArray), (⟨#[98, 101, 116, 97]⟩ : ByteArray), (⟨#[112, 114, 101]⟩ : ByteArray), (⟨#[114, 99]⟩ : ByteArray), (⟨#[99, 118, 115]⟩ : ByteArray), (⟨#[115, 118, 110]⟩ : ByteArray), (⟨#[103, 105, 116]⟩ : ByteArray), (⟨#[104, 103]⟩ : ByteArray), (⟨#[112]⟩ : ByteArray)] : List ByteArray))) = some r := h
 clear h
 obtain ⟨y143, hy143⟩ : ∃ y_ : List ByteArray, y_ = (([(⟨#[97, 108, 112, 104, 97]⟩ : ByteArray), (⟨#[98, 101, 116, 97]⟩ : ByteArray), (⟨#[112, 114, 101]⟩ : ByteArray), (⟨#[114, 99]⟩ : ByteArray), (⟨#[99, 118, 115]⟩ : ByteArray), (⟨#[115, 118, 110]⟩ : ByteArray), (⟨#[103, 105, 116]⟩ : ByteArray), (⟨#[104, 103]⟩ : ByteArray), (⟨#[112]⟩ : ByteArray)] : List ByteArray)) := ⟨_, rfl⟩
 replace H : (some y143) = some r := by first | (rw [hy143]; with_reducible exact H) | (have H2_ := (Option.bind_some _ _).symm.trans H; rw [hy143]; with_reducible exact H2_) | (have H2_ := (Option.bind_some _ _).symm.trans H; with_reducible exact H2_) | with_reducible exact H | (rw [hy143]; exact H) | exact H
 have Ny143 := za.mk hy143
 clear hy143
 obtain rfl := Option.some.inj H
 go_enter Tryz.func23, Tryz.ntmps23
 go_wp2_with (first | ((with_reducible refine zmb (N := 1) rfl ?_); refine Kd.R_lit Kd.string _ 9 ?hg (N := 1) ?hd (xs := ([(⟨#[97, 108, 112, 104, 97]⟩ : ByteArray), (⟨#[98, 101, 116, 97]⟩ : ByteArray), (⟨#[112, 114, 101]⟩ : ByteArray), (⟨#[114, 99]⟩ : ByteArray), (⟨#[99, 118, 115]⟩ : ByteArray), (⟨#[115, 118, 110]⟩ : ByteArray), (⟨#[103, 105, 116]⟩ : ByteArray), (⟨#[104, 103]⟩ : ByteArray), (⟨#[112]⟩ : ByteArray)] : List ByteArray)) (inner := [.string (⟨#[97, 108, 112, 104, 97]⟩ : ByteArray), .string (⟨#[98, 101, 116, 97]⟩ : ByteArray), .string (⟨#[112, 114, 101]⟩ : ByteArray), .string (⟨#[114, 99]⟩ : ByteArray), .string (⟨#[99, 118, 115]⟩ : ByteArray), .string (⟨#[115, 118, 110]⟩ : ByteArray), .string (⟨#[103, 105, 116]⟩ : ByteArray), .string (⟨#[104, 103]⟩ : ByteArray), .string (⟨#[112]⟩ : ByteArray)]) (ok := fun _ => True) (okp := fun _ => True) ?hr ?hp (fun _ hk => hk) trivial (Below.refl _ _) (Nat.le_refl _) (by simp) ?_; (case hd => rfl); (case hg => rfl); (case hr => first | (go_simp; done) | (go_simp; rfl)); (case hp => exact (Reps.one (show Kd.M Kd.string _ _ _ (⟨#[97, 108, 112, 104, 97]⟩ : ByteArray) [.string (⟨#[97, 108, 112, 104, 97]⟩ : ByteArray)] from rfl) (Reps.one (show Kd.M Kd.string _ _ _ (⟨#[98, 101, 116, 97]⟩ : ByteArray) [.string (⟨#[98, 101, 116, 97]⟩ : ByteArray)] from rfl) (Reps.one (show Kd.M Kd.string _ _ _ (⟨#[112, 114, 101]⟩ : ByteArray) [.string (⟨#[112, 114, 101]⟩ : ByteArray)] from rfl) (Reps.one (show Kd.M Kd.string _ _ _ (⟨#[114, 99]⟩ : ByteArray) [.string (⟨#[114, 99]⟩ : ByteArray)] from rfl) (Reps.one (show Kd.M Kd.string _ _ _ (⟨#[99, 118, 115]⟩ : ByteArray) [.string (⟨#[99, 118, 115]⟩ : ByteArray)] from rfl) (Reps.one (show Kd.M Kd.string _ _ _ (⟨#[115, 118, 110]⟩ : ByteArray) [.string (⟨#[115, 118, 110]⟩ : ByteArray)] from rfl) (Reps.one (show Kd.M Kd.string _ _ _ (⟨#[103, 105, 116]⟩ : ByteArray) [.string (⟨#[103, 105, 116]⟩ : ByteArray)] from rfl) (Reps.one (show Kd.M Kd.string _ _ _ (⟨#[104, 103]⟩ : ByteArray) [.string (⟨#[104, 103]⟩ : ByteArray)] from rfl) (Reps.one (show Kd.M Kd.string _ _ _ (⟨#[112]⟩ : ByteArray) [.string (⟨#[112]⟩ : ByteArray)] from rfl) (Reps.none _ _))))))))))); intro v144 w1 ho2 hb hg_ hnew_; clear hg_ hnew_; (first | rw [← Ny143.out] at ho2 | (simp only [Int.reduceToNat] at ho2; rw [← Ny143.out] at ho2)); have n0_ := za.mk (Kd.R_lower ho2 (zl (by repeat (first | (with_reducible first | exact HB.out | apply zj | apply zc | apply zz) | exact HB.out)))); have n1_ := za.mk (zm (by repeat (first | (with_reducible first | exact HB.out | apply zj | apply zc | apply zz) | exact HB.out)) hb); clear HB; have HO145 := n0_; have HB := n1_; clear n0_ n1_; clear hb ho2))
 go_ret
 exact ⟨_, by first | rfl | (simp [zcf, zbf] <;> rfl) | (simp [*, zcf, zbf] <;> rfl) | (simp [zoc]; done), by (with_reducible repeat (first | apply Kd.R_alloc | apply Kd.R_drewN | apply Kd.R_drew)); exact HO145.out, by repeat (first | (with_reducible first | exact HB.out | apply zj | apply zc | apply zz) | exact HB.out)⟩
end Go.Proofs.YtapaijpglfmfgaaGreatDoor.Q
end
section
namespace Go.Proofs.YtapaijpglfmfgaaGreatDoor.Q
open Go.RowKit YtapaijpglfmfgaaGreatDoorH YtapaijpglfmfgaaGreatDoorG YtapaijpglfmfgaaGreatDoorW.PrintWords YtapaijpglfmfgaaGreatDoorW.PrintLast YtapaijpglfmfgaaGreatDoorW.PrintMore
attribute [local go_sem] zsc zuc zhd zgd zhc zic zvc ztc
mutual
def zb.j0 : Nat → Bool → List Int → Int → List Int → List Int → ByteArray → Bool → Int → Option (ByteArray × ByteArray × ByteArray × ByteArray × ByteArray × Bool × (List (S52)) × (List (S56)) × Bool × Bool × ByteArray × Bool)
 | 0, _, _, _, _, _, _, _, _ => none
 | k + 1, x36, x147000, x147001, x147002, x147003, x147004, x147005, x147006 => if x36 = true then (some ((⟨#[]⟩ : ByteArray), (⟨#[]⟩ : ByteArray), (⟨#[]⟩ : ByteArray), (⟨#[]⟩ : ByteArray), (⟨#[]⟩ : ByteArray), false, ([] : List (S52)), ([] : List (S56)), false, false, (⟨#[]⟩ : ByteArray), false)) else (zb.l0 k (⟨#[]⟩ : ByteArray) x147000 (x147000.length : Int) 0 x147000 x147001 x147002 x147003 x147004 x147005 x147006 (⟨#[]⟩ : ByteArray) (⟨#[]⟩ : ByteArray) (⟨#[]⟩ : ByteArray) (⟨#[]⟩ : ByteArray) false ([] : List (S52)) false false (⟨#[]⟩ : ByteArray))
def zb.l0 : Nat → ByteArray → List Int → Int → Int → List Int → Int → List Int → List Int → ByteArray → Bool → Int → ByteArray → ByteArray → ByteArray → ByteArray → Bool → List (S52) → Bool → Bool → ByteArray → Option (ByteArray × ByteArray × ByteArray × ByteArray × ByteArray × Bool × (List (S52)) × (List (S56)) × Bool × Bool × ByteArray × Bool)
 | 0, _, _, _, _, _, _, _, _, _, _, _, _, _, _, _, _, _, _, _, _ => none
 | k + 1, x6, x40, x41, x42, x147000, x147001, x147002, x147003, x147004, x147005, x147006, x149000, x149001, x149002, x149003, x149004, x149005, x149007, x149008, x149009 => if x42 < x41 then (if 0 ≤ x42 then (if x42 < (x40.length : Int) then (if x42 > 0 then (if x6.size + 1 ≤ 9223372036854775807 then (zb.j2 k (x6 ++ (⟨#[46]⟩ : ByteArray)) x42 (rd x40 x42) x40 x41 x42 x147000 x147001 x147002 x147003 x147004 x147005 x147006 x149000 x149001 x149002 x149003 x149004 x149005 x149007 x149008 x149009) else (none)) else (zb.j2 k x6 x42 (rd x40 x42) x40 x41 x42 x147000 x147001 x147002 x147003 x147004 x147005 x147006 x149000 x149001 x149002 x149003 x149004 x149005 x149007 x149008 x149009)) else (none)) else (none)) else (if (Int.tmod x147001 27) > 0 then (if x6.size + (Utf8.encode ((97 + (Int.tmod x147001 27) - 1) % 256)).size ≤ 9223372036854775807 then (zb.j3 k (x6 ++ (Utf8.encode ((97 + (Int.tmod x147001 27) - 1) % 256))) x147000 x147001 x147002 x147003 x147004 x147005 x147006 x149000 x149001 (Utf8.encode ((97 + (Int.tmod x147001 27) - 1) % 256)) x149003 x149004 x149005 x149007 x149008 x149009) else (none)) else (zb.j3 k x6 x147000 x147001 x147002 x147003 x147004 x147005 x147006 x149000 x149001 x149002 x149003 x149004 x149005 x149007 x149008 x149009))
def zb.j2 : Nat → ByteArray → Int → Int → List Int → Int → Int → List Int → Int → List Int → List Int → ByteArray → Bool → Int → ByteArray → ByteArray → ByteArray → ByteArray → Bool → List (S52) → Bool → Bool → ByteArray → Option (ByteArray × ByteArray × ByteArray × ByteArray × ByteArray × Bool × (List (S52)) × (List (S56)) × Bool × Bool × ByteArray × Bool)
 | 0, _, _, _, _, _, _, _, _, _, _, _, _, _, _, _, _, _, _, _, _, _, _ => none
 | k + 1, x6, x7, x8, x40, x41, x42, x147000, x147001, x147002, x147003, x147004, x147005, x147006, x149000, x149001, x149002, x149003, x149004, x149005, x149007, x149008, x149009 => (zfb.f k x8).bind fun t150 => (if x6.size + t150.size ≤ 9223372036854775807 then ((zfb.f k x8).bind fun t151 => ((zfb.f k x8).bind fun t152 => ((zpc.f k t152).bind fun bt153 => (if x149005.length < 2932031007402 then (zb.l0 k (x6 ++ t150) x40 x41 (wrap64 (x42 + 1)) x147000 x147001 x147002 x147003 x147004 x147005 x147006 x149000 x149001 x149002 x149003 x149004 (x149005 ++ [(⟨t151, (⟨bt153.1, bt153.2⟩ : S31), x7⟩ : S52)]) x149007 x149008 x149009) else (none))))) else (none))
def zb.j3 : Nat → ByteArray → List Int → Int → List Int → List Int → ByteArray → Bool → Int → ByteArray → ByteArray → ByteArray → ByteArray → Bool → List (S52) → Bool → Bool → ByteArray → Option (ByteArray × ByteArray × ByteArray × ByteArray × ByteArray × Bool × (List (S52)) × (List (S56)) × Bool × Bool × ByteArray × Bool)
 | 0, _, _, _, _, _, _, _, _, _, _, _, _, _, _, _, _, _ => none
 | k + 1, x6, x147000, x147001, x147002, x147003, x147004, x147005, x147006, x149000, x149001, x149002, x149003, x149004, x149005, x149007, x149008, x149009 => zb.l1 k x6 x147002 (x147002.length : Int) 0 x147000 x147001 x147002 x147003 x147004 x147005 x147006 x149000 x149001 x149002 x149003 x149004 x149005 ([] : List (S56)) x149007 x149008 x149009
def zb.l1 : Nat → ByteArray → List Int → Int → Int → List Int → Int → List Int → List Int → ByteArray → Bool → Int → ByteArray → ByteArray → ByteArray → ByteArray → Bool → List (S52) → List (S56) → Bool → Bool → ByteArray → Option (ByteArray × ByteArray × ByteArray × ByteArray × ByteArray × Bool × (List (S52)) × (List (S56)) × Bool × Bool × ByteArray × Bool)
 | 0, _, _, _, _, _, _, _, _, _, _, _, _, _, _, _, _, _, _, _, _, _ => none
 | k + 1, x6, x84, x85, x86, x147000, x147001, x147002, x147003, x147004, x147005, x147006, x149000, x149001, x149002, x149003, x149004, x149005, x149006, x149007, x149008, x149009 => if x86 < x85 then (if 0 ≤ x86 then (if x86 < (x84.length : Int) then ((zag.f).bind fun t159 => (if 0 ≤ (Int.tmod (rd x84 x86) 9) then (if (Int.tmod (rd x84 x86) 9) < (t159.length : Int) then ((zie.f).bind fun t164 => (if (Int.tmod (rd x84 x86) 9) < (t164.length : Int) then (if 1 + (rdOf ByteArray.empty t164 (Int.tmod (rd x84 x86) 9)).size ≤ 9223372036854775807 then (if x6.size + ((⟨#[95]⟩ : ByteArray) ++ (rdOf ByteArray.empty t164 (Int.tmod (rd x84 x86) 9))).size ≤ 9223372036854775807 then (if x86 < (x147003.length : Int) then (zb.j5 k (x6 ++ ((⟨#[95]⟩ : ByteArray) ++ (rdOf ByteArray.empty t164 (Int.tmod (rd x84 x86) 9)))) x86 x84 x85 x86 (decide ((rd x147003 x86) > 0)) x147000 x147001 x147002 x147003 x147004 x147005 x147006 x149000 x149001 x149002 x149003 x149004 x149005 x149006 x149007 x149008 x149009 (rd t159 (Int.tmod (rd x84 x86) 9)) false (⟨#[]⟩ : ByteArray)) else (zb.j5 k (x6 ++ ((⟨#[95]⟩ : ByteArray) ++ (rdOf ByteArray.empty t164 (Int.tmod (rd x84 x86) 9)))) x86 x84 x85 x86 false x147000 x147001 x147002 x147003 x147004 x147005 x147006 x149000 x149001 x149002 x149003 x149004 x149005 x149006 x149007 x149008 x149009 (rd t159 (Int.tmod (rd x84 x86) 9)) false (⟨#[]⟩ : ByteArray))) else (none)) else (none)) else (none))) else (none)) else (none))) else (none)) else (none)) else (zb.l2 k x6 0 x147000 x147001 x147002 x147003 x147004 x147005 x147006 x149000 x149001 x149002 x149003 x149004 x149005 x149006 x149007 x149008 x149009)
def zb.j5 : Nat → ByteArray → Int → List Int → Int → Int → Bool → List Int → Int → List Int → List Int → ByteArray → Bool → Int → ByteArray → ByteArray → ByteArray → ByteArray → Bool → List (S52) → List (S56) → Bool → Bool → ByteArray → Int → Bool → ByteArray → Option (ByteArray × ByteArray × ByteArray × ByteArray × ByteArray × Bool × (List (S52)) × (List (S56)) × Bool × Bool × ByteArray × Bool)
 | 0, _, _, _, _, _, _, _, _, _, _, _, _, _, _, _, _, _, _, _, _, _, _, _, _, _, _ => none
 | k + 1, x6, x10, x84, x85, x86, x117, x147000, x147001, x147002, x147003, x147004, x147005, x147006, x149000, x149001, x149002, x149003, x149004, x149005, x149006, x149007, x149008, x149009, x164000, x164001, x164002 => if x117 = true then (if 0 ≤ x10 then (if x10 < (x147003.length : Int) then ((zfb.f k (rd x147003 x10)).bind fun t170 => ((zpc.f k t170).bind fun bt171 => ((zfb.f k (rd x147003 x10)).bind fun t174 => (if x6.size + t174.size ≤ 9223372036854775807 then (if x149006.length < 4398046511104 then (zb.l1 k (x6 ++ t174) x84 x85 (wrap64 (x86 + 1)) x147000 x147001 x147002 x147003 x147004 x147005 x147006 x149000 x149001 x149002 x149003 x149004 x149005 (x149006 ++ [(⟨x164000, (⟨bt171.1, bt171.2⟩ : S31)⟩ : S56)]) x149007 x149008 x149009) else (none)) else (none))))) else (none)) else (none)) else (if x149006.length < 4398046511104 then (zb.l1 k x6 x84 x85 (wrap64 (x86 + 1)) x147000 x147001 x147002 x147003 x147004 x147005 x147006 x149000 x149001 x149002 x149003 x149004 x149005 (x149006 ++ [(⟨x164000, (⟨x164001, x164002⟩ : S31)⟩ : S56)]) x149007 x149008 x149009) else (none))
def zb.l2 : Nat → ByteArray → Int → List Int → Int → List Int → List Int → ByteArray → Bool → Int → ByteArray → ByteArray → ByteArray → ByteArray → Bool → List (S52) → List (S56) → Bool → Bool → ByteArray → Option (ByteArray × ByteArray × ByteArray × ByteArray × ByteArray × Bool × (List (S52)) × (List (S56)) × Bool × Bool × ByteArray × Bool)
 | 0, _, _, _, _, _, _, _, _, _, _, _, _, _, _, _, _, _, _, _ => none
 | k + 1, x6, x13, x147000, x147001, x147002, x147003, x147004, x147005, x147006, x149000, x149001, x149002, x149003, x149004, x149005, x149006, x149007, x149008, x149009 => if x13 < (x147004.size : Int) then (if 0 ≤ x13 then (if (bt x147004 x13) ≥ 48 then (if (bt x147004 x13) ≤ 57 then (zb.l2 k x6 (wrap64 (x13 + 1)) x147000 x147001 x147002 x147003 x147004 x147005 x147006 x149000 x149001 x149002 x149003 x149004 x149005 x149006 x149007 x149008 x149009) else (if (bt x147004 x13) ≥ 97 then (if ((bt x147004 x13) ≤ 102) then (zb.l2 k x6 (wrap64 (x13 + 1)) x147000 x147001 x147002 x147003 x147004 x147005 x147006 x149000 x149001 x149002 x149003 x149004 x149005 x149006 x149007 x149008 x149009) else (some ((⟨#[]⟩ : ByteArray), (⟨#[]⟩ : ByteArray), (⟨#[]⟩ : ByteArray), (⟨#[]⟩ : ByteArray), (⟨#[]⟩ : ByteArray), false, ([] : List (S52)), ([] : List (S56)), false, false, (⟨#[]⟩ : ByteArray), false))) else (some ((⟨#[]⟩ : ByteArray), (⟨#[]⟩ : ByteArray), (⟨#[]⟩ : ByteArray), (⟨#[]⟩ : ByteArray), (⟨#[]⟩ : ByteArray), false, ([] : List (S52)), ([] : List (S56)), false, false, (⟨#[]⟩ : ByteArray), false)))) else (if (bt x147004 x13) ≥ 97 then (if ((bt x147004 x13) ≤ 102) then (zb.l2 k x6 (wrap64 (x13 + 1)) x147000 x147001 x147002 x147003 x147004 x147005 x147006 x149000 x149001 x149002 x149003 x149004 x149005 x149006 x149007 x149008 x149009) else (some ((⟨#[]⟩ : ByteArray), (⟨#[]⟩ : ByteArray), (⟨#[]⟩ : ByteArray), (⟨#[]⟩ : ByteArray), (⟨#[]⟩ : ByteArray), false, ([] : List (S52)), ([] : List (S56)), false, false, (⟨#[]⟩ : ByteArray), false))) else (some ((⟨#[]⟩ : ByteArray), (⟨#[]⟩ : ByteArray), (⟨#[]⟩ : ByteArray), (⟨#[]⟩ : ByteArray), (⟨#[]⟩ : ByteArray), false, ([] : List (S52)), ([] : List (S56)), false, false, (⟨#[]⟩ : ByteArray), false)))) else (none)) else (if x147004.toList = ([] : List UInt8) then (zb.j7 k x6 x147000 x147001 x147002 x147003 x147004 x147005 x147006 x149000 x149001 x149002 x149003 x149004 x149005 x149006 x149007 x149008 x149009) else (if 1 + x147004.size ≤ 9223372036854775807 then (if x6.size + ((⟨#[126]⟩ : ByteArray) ++ x147004).size ≤ 9223372036854775807 then (zb.j7 k (x6 ++ ((⟨#[126]⟩ : ByteArray) ++ x147004)) x147000 x147001 x147002 x147003 x147004 x147005 x147006 x149000 x149001 x149002 ((⟨#[126]⟩ : ByteArray) ++ x147004) x149004 x149005 x149006 x149007 x149008 x149009) else (none)) else (none)))
def zb.j7 : Nat → ByteArray → List Int → Int → List Int → List Int → ByteArray → Bool → Int → ByteArray → ByteArray → ByteArray → ByteArray → Bool → List (S52) → List (S56) → Bool → Bool → ByteArray → Option (ByteArray × ByteArray × ByteArray × ByteArray × ByteArray × Bool × (List (S52)) × (List (S56)) × Bool × Bool × ByteArray × Bool)
 | 0, _, _, _, _, _, _, _, _, _, _, _, _, _, _, _, _, _, _ => none
 | k + 1, x6, x147000, x147001, x147002, x147003, x147004, x147005, x147006, x149000, x149001, x149002, x149003, x149004, x149005, x149006, x149007, x149008, x149009 => if x147005 = true then ((zfb.f k x147006).bind fun t181 => ((zpc.f k t181).bind fun bt182 => ((zfb.f k x147006).bind fun t184 => (if 2 + t184.size ≤ 9223372036854775807 then (if x6.size + ((⟨#[45, 114]⟩ : ByteArray) ++ t184).size ≤ 9223372036854775807 then (some (x6 ++ ((⟨#[45, 114]⟩ : ByteArray) ++ t184), x6 ++ ((⟨#[45, 114]⟩ : ByteArray) ++ t184), x149001, x149002, x149003, x149004, x149005, x149006, true, bt182.1, bt182.2, true)) else (none)) else (none))))) else (some (x6, x6, x149001, x149002, x149003, x149004, x149005, x149006, true, x149008, x149009, true))
end
def zb.f (k : Nat) (l0_0 : List Int) (a0_1 : Int) (l0_2 : List Int) (l0_3 : List Int) (a0_4 : ByteArray) (a0_5 : Bool) (a0_6 : Int) : Option (ByteArray × ByteArray × ByteArray × ByteArray × ByteArray × Bool × (List (S52)) × (List (S56)) × Bool × Bool × ByteArray × Bool) := if (l0_0.length : Int) = 0 then (zb.j0 k true l0_0 a0_1 l0_2 l0_3 a0_4 a0_5 a0_6) else (if (l0_0.length : Int) > 60 then (zb.j0 k true l0_0 a0_1 l0_2 l0_3 a0_4 a0_5 a0_6) else (if (l0_2.length : Int) > 60 then (zb.j0 k true l0_0 a0_1 l0_2 l0_3 a0_4 a0_5 a0_6) else (zb.j0 k (decide ((a0_4.size : Int) > 1200)) l0_0 a0_1 l0_2 l0_3 a0_4 a0_5 a0_6)))
def zb.T11 : Bool × List (List Nat × List Nat) := (true, [([], []), ([0], [0]), ([], []), ([2], [2]), ([], []), ([4, 3], [4]), ([5, 5], [5]), ([], []), ([3, 6, 7], [3, 6, 7]), ([8], [8]), ([1, 9, 6], [1, 9]), ([0, 1, 2, 3, 4, 5, 6, 7, 8, 9, 10], []), ([11, 10, 10, 0, 1, 2, 3, 4, 5, 6, 7, 8, 9, 10], [10, 11])])
def zb.B11 : List Nat := [0, 1, 0, 4, 0, 28, 60, 0, 252, 508, 1023, 2047, 4095]
theorem zb.tab11 : rtab .any (opsOf Tryz.f7 11) = zb.T11 := by kernel_rfl
theorem zb.bits11 : zkh zb.T11.2 zb.B11 = true := by kernel_rfl
end Go.Proofs.YtapaijpglfmfgaaGreatDoor.Q
end
section
namespace Go.Proofs.YtapaijpglfmfgaaGreatDoor.V
open Go.RowKit YtapaijpglfmfgaaGreatDoor.Q YtapaijpglfmfgaaGreatDoorG YtapaijpglfmfgaaGreatDoorP YtapaijpglfmfgaaGreatDoorH YtapaijpglfmfgaaGreatDoorB YtapaijpglfmfgaaGreatDoorM YtapaijpglfmfgaaGreatDoorW.PrintWords YtapaijpglfmfgaaGreatDoorW.PrintLast
def decD (n : Nat) : List Int := if n < 10 then [48 + (n : Int)] else decD (n / 10) ++ [48 + ((n % 10 : Nat) : Int)]
theorem zth {n : Nat} (h : n < 10) : decD n = [48 + (n : Int)] := by rw [decD, if_pos h]
theorem decD_big {n : Nat} (h : ¬ n < 10) : decD n = decD (n / 10) ++ [48 + ((n % 10 : Nat) : Int)] := by rw [decD, if_neg h]
theorem decD_spec (n : Nat) : decD n ≠ [] ∧ (∀ c ∈ decD n, isD c = true) ∧ decL (decD n) = n := by
 induction n using Nat.strongRecOn with
 | ind n ih =>
  by_cases h : n < 10
  ·rw [zth h]
   refine ⟨by simp, fun c hc => ?_, ?_⟩
   ·have e : c = 48 + (n : Int) := by simpa using hc
    rw [e]; unfold isD; apply decide_eq_true; omega
   ·simp [decL]; omega
  ·rw [decD_big h]
   obtain ⟨_, h2, h3⟩ := ih (n / 10) (by omega)
   refine ⟨by simp, fun c hc => ?_, ?_⟩
   ·rcases List.mem_append.1 hc with hc | hc
    ·exact h2 c hc
    ·have e : c = 48 + ((n % 10 : Nat) : Int) := by simpa using hc
     rw [e]; unfold isD; apply decide_eq_true; omega
   ·rw [decL_snoc, h3]; omega
theorem decD_len : ∀ (k n : Nat), n < 10 ^ (k + 1) → (decD n).length ≤ k + 1
 | 0, n, h => by rw [zth (by simpa using h)]; simp
 | k + 1, n, h => by
  by_cases h0 : n < 10
  ·rw [zth h0]; simp
  ·rw [decD_big h0]
   have := decD_len k (n / 10) (by rw [Nat.pow_succ] at h; omega)
   simp; omega
theorem wrap_u16 {x : Int} (h0 : 0 ≤ x) (h1 : x ≤ 65535) : IntKind.u16.wrap x = x := by
 simp [IntKind.wrap, IntKind.signed, IntKind.bits]
 omega
theorem decimal_from (n : Nat) : n ≤ 65535 → ∀ acc : ByteArray, acc.size + (decD n).length ≤ 1000 → ∃ r, Ev (fun k => zfb.l0 k n acc) r ∧ bytesOf r = decD n ++ bytesOf acc := by
 induction n using Nat.strongRecOn with
 | ind n ih =>
  intro hn acc hacc
  have e1 : Int.tmod (n : Int) 10 = ((n % 10 : Nat) : Int) := by rw [Int.tmod_eq_emod_of_nonneg (by omega)]; omega
  have e2 : Int.tdiv (n : Int) 10 = ((n / 10 : Nat) : Int) := by rw [Int.tdiv_eq_ediv_of_nonneg (by omega)]; omega
  have e3 : IntKind.u16.wrap (48 + ((n % 10 : Nat) : Int)) = 48 + ((n % 10 : Nat) : Int) := wrap_u16 (by omega) (by omega)
  have e4 : IntKind.u16.wrap ((n / 10 : Nat) : Int) = ((n / 10 : Nat) : Int) := wrap_u16 (by omega) (by omega)
  have e5 : wrap32 (48 + ((n % 10 : Nat) : Int)) = 48 + ((n % 10 : Nat) : Int) := w32 (by omega) (by omega)
  have hb : bytesOf (Utf8.encode (48 + ((n % 10 : Nat) : Int))) = [48 + ((n % 10 : Nat) : Int)] := B_encode (by omega) (by omega)
  have hsz : (Utf8.encode (48 + ((n % 10 : Nat) : Int))).size = 1 := by rw [zcc, hb]; rfl
  by_cases h : n < 10
  ·refine ⟨Utf8.encode (48 + ((n % 10 : Nat) : Int)) ++ acc, Ev.succ ?_, ?_⟩
   ·simp only [zfb.l0, e1, e2, e3, e4, e5]
    refine Ev.pos (fun _ => by rw [hsz]; omega) ?_
    refine Ev.pos (fun _ => by omega) ?_
    exact Ev.now _
   ·rw [zle, hb, zth h, Nat.mod_eq_of_lt h]
  ·rw [decD_big h, List.length_append, List.length_singleton] at hacc
   have hs2 : (Utf8.encode (48 + ((n % 10 : Nat) : Int)) ++ acc).size = 1 + acc.size := by rw [ByteArray.size_append, hsz]
   obtain ⟨r, hr, h1⟩ := ih (n / 10) (by omega) (by omega) (Utf8.encode (48 + ((n % 10 : Nat) : Int)) ++ acc) (by omega)
   refine ⟨r, Ev.succ ?_, ?_⟩
   ·simp only [zfb.l0, e1, e2, e3, e4, e5]
    refine Ev.pos (fun _ => by rw [hsz]; omega) ?_
    refine Ev.neg (fun _ => by omega) ?_
    exact hr
   ·rw [h1, zle, hb, decD_big h, List.append_assoc]
def dec (a : Int) : List Int := decD a.toNat
theorem zsf (a : Int) : ∀ c ∈ dec a, isD c = true := (decD_spec _).2.1
theorem dec_ne (a : Int) : dec a ≠ [] := (decD_spec _).1
theorem dec_val (a : Int) : decL (dec a) = a.toNat := (decD_spec _).2.2
def U16 (a : Int) : Prop := 0 ≤ a ∧ a ≤ 65535
theorem u16_of {a : Int} (h : (Lit.int .u16 a).wf = true) : U16 a := by
 unfold U16
 simp [Lit.wf, IntKind.min, IntKind.max, IntKind.signed, IntKind.bits] at h
 omega
theorem dec_len {a : Int} (h : U16 a) : (dec a).length ≤ 5 := by
 obtain ⟨h0, h1⟩ := h
 refine decD_len 4 _ ?_
 have e : (10 : Nat) ^ (4 + 1) = 100000 := by decide
 omega
theorem isD_byte {c : Int} (h : isD c = true) : 0 ≤ c ∧ c ≤ 255 := by
 unfold isD at h
 have := of_decide_eq_true h
 omega
theorem zdg {l : List Int} (h : ∀ c ∈ l, isD c = true) : bytesOf (strOfNums l) = l := B_str (fun c hc => isD_byte (h c hc))
theorem zif {a : Int} (h : U16 a) : Ev (fun k => zfb.f k a) (strOfNums (dec a)) := by
 have hl := dec_len h
 obtain ⟨h0, h1⟩ := h
 have e0 : bytesOf (⟨#[]⟩ : ByteArray) = [] := rfl
 obtain ⟨r, hr, hb⟩ := decimal_from a.toNat (by omega) (⟨#[]⟩ : ByteArray) (by
  have e : (⟨#[]⟩ : ByteArray).size = 0 := rfl
  have : (decD a.toNat).length ≤ 5 := hl
  omega)
 rw [e0, List.append_nil] at hb
 have e1 : ((a.toNat : Nat) : Int) = a := by omega
 rw [e1] at hr
 refine Ev.eq hr ?_
 rw [← str_B r, hb]
 rfl
theorem dec_size {a : Int} (h : U16 a) : (strOfNums (dec a)).size ≤ 5 := by rw [zcc, zdg (zsf a)]; exact dec_len h
theorem digit_eq (c : Int) : zlc.f c = some (isD c) := by
 unfold zlc.f isD
 by_cases h : c ≥ 48
 ·rw [if_pos h]; simp; omega
 ·rw [if_neg h]; simp; omega
theorem allDigits_from (s : ByteArray) (hs : s.size ≤ 2000000) (hd : ∀ c ∈ bytesOf s, isD c = true) (hp : 0 < s.size) : ∀ (n i : Nat), s.size - i = n → i ≤ s.size → Ev (fun k => zub.l0 k s (i : Int)) true := by
 intro n
 induction n with
 | zero =>
  intro i hn hi
  refine Ev.succ ?_
  simp only [zub.l0]
  refine Ev.neg (fun _ => by omega) ?_
  refine Ev.eq (Ev.now _) ?_
  exact decide_eq_true (by omega)
 | succ n ih =>
  intro i hn hi
  have hl : i < (bytesOf s).length := by rw [bytesOf_length]; omega
  refine Ev.succ ?_
  simp only [zub.l0, zsg, digit_eq, Option.bind_some]
  refine Ev.pos (fun _ => by first | trivial | assumption | omega) ?_
  refine Ev.pos (fun _ => by first | trivial | assumption | omega) ?_
  refine Ev.pos (fun _ => hd _ (by rw [List.getD_eq_getElem?_getD, List.getElem?_eq_getElem hl]; exact List.getElem_mem hl)) ?_
  rw [w64 (by omega) (by omega)]
  exact ih (i + 1) (by omega) (by omega)
theorem number_ev (s : ByteArray) (hs : s.size ≤ 200000) (hd : ∀ c ∈ bytesOf s, isD c = true) (hp : 0 < s.size) : Ev (fun k => zpc.f k s) (false, magB (decL (bytesOf s))) := by
 have hl : 0 < (bytesOf s).length := by rw [bytesOf_length]; exact hp
 have hc : isD ((bytesOf s).getD 0 0) = true := hd _ (by rw [List.getD_eq_getElem?_getD, List.getElem?_eq_getElem hl]; exact List.getElem_mem hl)
 unfold isD at hc
 have hc2 := of_decide_eq_true hc
 simp only [zpc.f, zhe.f, zwb.f]
 refine Ev.bind (a := (false, magB (decL (bytesOf s)), true)) ?_ (Ev.now _)
 refine Ev.bind (a := (false, magB (decL (bytesOf s)), true)) ?_ (Ev.now _)
 refine Ev.pos (fun _ => by omega) ?_
 refine Ev.pos (fun _ => by omega) ?_
 rw [zci]
 refine Ev.neg (fun _ => by omega) ?_
 have e : ((bytesOf s).getD 0 0 == 45) = false := by rw [beq_eq_false_iff_ne]; omega
 rw [e]
 refine Ev.succ ?_
 simp only [zwb.j0]
 refine Ev.neg (fun _ => Bool.false_ne_true) ?_
 refine Ev.succ ?_
 simp only [zwb.j1]
 have h := allDigits_from s (by omega) hd hp _ 0 rfl (Nat.zero_le _)
 refine Ev.bind (a := true) (by simpa [zub.f] using h) ?_
 refine Ev.pos (fun _ => by first | rfl | trivial) ?_
 refine Ev.bind (intOf_ev s hs hd) ?_
 refine Ev.neg (fun _ => Bool.false_ne_true) ?_
 exact Ev.now _
theorem zfj {a : Int} (h : U16 a) : Ev (fun k => zpc.f k (strOfNums (dec a))) (false, magB a.toNat) := by
 have hs := dec_size h
 have hb := zdg (zsf a)
 have := number_ev (strOfNums (dec a)) (by omega) (by rw [hb]; exact zsf a) (by rw [zcc, hb]; exact List.length_pos_iff.2 (dec_ne a))
 rw [hb, dec_val] at this
 exact this
end Go.Proofs.YtapaijpglfmfgaaGreatDoor.V
end
section
namespace Go.Proofs.YtapaijpglfmfgaaGreatDoor.V
open Go.RowKit YtapaijpglfmfgaaGreatDoor.Q YtapaijpglfmfgaaGreatDoorG YtapaijpglfmfgaaGreatDoorP YtapaijpglfmfgaaGreatDoorH YtapaijpglfmfgaaGreatDoorB YtapaijpglfmfgaaGreatDoorM YtapaijpglfmfgaaGreatDoorW.PrintWords YtapaijpglfmfgaaGreatDoorW.PrintLast
def tC (ns : List Int) : List (List Int) := ns.map dec
def tL (l : Int) : List Int := if Int.tmod l 27 > 0 then [96 + Int.tmod l 27] else []
def sW (i : Int) : List Int := zbc.getD (Int.tmod i 9).toNat []
def zgg (j : Nat) (ss sn : List Int) : List (List Int × List Int) := (ss.zipIdx j).map fun p => (sW p.1, if 0 < sn.getD p.2 0 then dec (sn.getD p.2 0) else [])
def tS (ss sn : List Int) : List (List Int × List Int) := zgg 0 ss sn
def tH (h : List Int) : List Int := if h = [] then [] else 126 :: h
def tB (b : Bool) (n : Int) : List Int := if b then dec n else []
def tE (b : Bool) (n : Int) : List Int := if b then 45 :: 114 :: dec n else []
def zff : List (List Int) → List Int
 | [] => []
 | d :: r => d ++ r.flatMap fun x => 46 :: x
def joinS (s : List (List Int × List Int)) : List Int := s.flatMap fun x => 95 :: (x.1 ++ x.2)
def textL (ns : List Int) (l : Int) (ss sn h : List Int) (b : Bool) (n : Int) : List Int := zff (tC ns) ++ (tL l ++ (joinS (tS ss sn) ++ (tH h ++ tE b n)))
def tOk (ns ss h : List Int) : Prop := ns ≠ [] ∧ ns.length ≤ 60 ∧ ss.length ≤ 60 ∧ h.length ≤ 1200 ∧ ∀ c ∈ h, isX c = true
abbrev Texted := ByteArray × ByteArray × ByteArray × ByteArray × ByteArray × Bool × List S52 × List S56 × Bool × Bool × ByteArray × Bool
def failT : Texted := (⟨#[]⟩, ⟨#[]⟩, ⟨#[]⟩, ⟨#[]⟩, ⟨#[]⟩, false, [], [], false, false, ⟨#[]⟩, false)
def goodT (ns : List Int) (l : Int) (ss sn h : List Int) (b : Bool) (n : Int) : Texted :=
 (strOfNums (textL ns l ss sn h b n), strOfNums (textL ns l ss sn h b n), ⟨#[]⟩, strOfNums (tL l), strOfNums (tH h), false, numsA (tC ns), sufsA (tS ss sn), true, false, magB (decL (tB b n)), true)
theorem size_of {s : ByteArray} {l : List Int} (h : bytesOf s = l) : s.size = l.length := by rw [zcc, h]
theorem zze (s t : ByteArray) : (s ++ t).size = s.size + t.size := ByteArray.size_append
theorem t7_ev (T : ByteArray) (hT : T.size ≤ 1000000) (ns : List Int) (l : Int) (ss sn : List Int) (h : ByteArray) (b : Bool) (n : Int) (hn : b = true → U16 n) (L H : ByteArray) (N : List S52) (S : List S56) (R : ByteArray) (hR : bytesOf R = bytesOf T ++ tE b n) :
  Ev (fun k => zb.j7 k T ns l ss sn h b n ⟨#[]⟩ ⟨#[]⟩ L H false N S false false ⟨#[]⟩) (R, R, ⟨#[]⟩, L, H, false, N, S, true, false, magB (decL (tB b n)), true) := by
 refine Ev.succ ?_
 simp only [zb.j7]
 cases b
 ·refine Ev.neg (fun _ => Bool.false_ne_true) ?_
  have e : R = T := B_inj (by rw [hR]; simp [tE])
  rw [e]
  exact Ev.now _
 ·have hu := hn rfl
  have hds := dec_size hu
  have hdb := zdg (zsf n)
  refine Ev.pos (fun _ => by first | rfl | trivial) ?_
  refine Ev.bind (zif hu) ?_
  refine Ev.bind (zfj hu) ?_
  refine Ev.bind (zif hu) ?_
  refine Ev.pos (fun _ => by omega) ?_
  have e2 : (⟨#[45, 114]⟩ : ByteArray).size = 2 := rfl
  refine Ev.pos (fun _ => by rw [zze, e2]; omega) ?_
  have e : T ++ ((⟨#[45, 114]⟩ : ByteArray) ++ strOfNums (dec n)) = R := B_inj (by
   rw [hR, zle, zle, hdb]
   rfl)
  rw [e]
  refine Ev.eq (Ev.now _) ?_
  rw [show decL (tB true n) = n.toNat from dec_val n]
theorem t2_bad (T : ByteArray) (ns : List Int) (l : Int) (ss sn : List Int) (h : ByteArray) (hs : h.size ≤ 1200) (b : Bool) (n : Int) (L : ByteArray) (N : List S52) (S : List S56) : ∀ (m i : Nat), h.size - i = m → i ≤ h.size → ¬ (∀ c ∈ (bytesOf h).drop i, isX c = true) →
  Ev (fun k => zb.l2 k T (i : Int) ns l ss sn h b n ⟨#[]⟩ ⟨#[]⟩ L ⟨#[]⟩ false N S false false ⟨#[]⟩) failT := by
 intro m
 induction m with
 | zero =>
  intro i hm hi hx
  refine absurd (fun c hc => ?_) hx
  rw [List.drop_of_length_le (by rw [bytesOf_length]; omega)] at hc
  simp at hc
 | succ m ih =>
  intro i hm hi hx
  have hl : i < (bytesOf h).length := by rw [bytesOf_length]; omega
  refine Ev.succ ?_
  simp only [zb.l2, zsg]
  refine Ev.pos (fun _ => by omega) ?_
  refine Ev.pos (fun _ => by omega) ?_
  rw [w64 (i := (i : Int) + 1) (by omega) (by omega)]
  rw [zug _ _ hl] at hx
  have next := fun hx2 => ih (i + 1) (by omega) (by omega) hx2
  obtain ⟨c, hc⟩ : ∃ c, c = (bytesOf h).getD i 0 := ⟨_, rfl⟩
  rw [← hc] at hx ⊢
  have hnx : isX c = true → ¬ (∀ c ∈ (bytesOf h).drop (i + 1), isX c = true) := fun h1 h2 => hx (fun d hd => by
   rcases List.mem_cons.1 hd with e | hd
   ·rw [e]; exact h1
   ·exact h2 d hd)
  have hX : isX c = true ↔ (48 ≤ c ∧ c ≤ 57) ∨ (97 ≤ c ∧ c ≤ 102) := by simp [isX, isD]
  have hi2 : ((i : Int) + 1) = ((i + 1 : Nat) : Int) := by omega
  rw [hi2]
  by_cases h1 : c ≥ 48
  ·refine Ev.pos (fun _ => h1) ?_
   by_cases h2 : c ≤ 57
   ·refine Ev.pos (fun _ => h2) ?_
    exact next (hnx (hX.2 (by omega)))
   ·refine Ev.neg (fun _ => h2) ?_
    by_cases h3 : c ≥ 97
    ·refine Ev.pos (fun _ => h3) ?_
     by_cases h4 : c ≤ 102
     ·refine Ev.pos (fun _ => h4) ?_
      exact next (hnx (hX.2 (by omega)))
     ·refine Ev.neg (fun _ => h4) ?_
      exact Ev.now _
    ·refine Ev.neg (fun _ => h3) ?_
     exact Ev.now _
  ·refine Ev.neg (fun _ => h1) ?_
   by_cases h3 : c ≥ 97
   ·refine Ev.pos (fun _ => h3) ?_
    by_cases h4 : c ≤ 102
    ·refine Ev.pos (fun _ => h4) ?_
     exact next (hnx (hX.2 (by omega)))
    ·refine Ev.neg (fun _ => h4) ?_
     exact Ev.now _
   ·refine Ev.neg (fun _ => h3) ?_
    exact Ev.now _
theorem t2_good (T : ByteArray) (hT : T.size ≤ 900000) (ns : List Int) (l : Int) (ss sn : List Int) (h : ByteArray) (hs : h.size ≤ 1200) (b : Bool) (n : Int) (hn : b = true → U16 n) (L : ByteArray) (N : List S52) (S : List S56) (hx : ∀ c ∈ bytesOf h, isX c = true) (R : ByteArray) (hR : bytesOf R = bytesOf T ++ (tH (bytesOf h) ++ tE b n)) : ∀ (m i : Nat), h.size - i = m → i ≤ h.size →
  Ev (fun k => zb.l2 k T (i : Int) ns l ss sn h b n ⟨#[]⟩ ⟨#[]⟩ L ⟨#[]⟩ false N S false false ⟨#[]⟩) (R, R, ⟨#[]⟩, L, strOfNums (tH (bytesOf h)), false, N, S, true, false, magB (decL (tB b n)), true) := by
 intro m
 induction m with
 | zero =>
  intro i hm hi
  refine Ev.succ ?_
  simp only [zb.l2]
  refine Ev.neg (fun _ => by omega) ?_
  by_cases h0 : bytesOf h = []
  ·refine Ev.pos (fun _ => (zvb h).2 h0) ?_
   have e : strOfNums (tH (bytesOf h)) = ⟨#[]⟩ := by rw [h0]; rfl
   rw [e]
   exact t7_ev T (by omega) ns l ss sn h b n hn L _ N S R (by rw [hR, h0]; rfl)
  ·refine Ev.neg (fun _ e => h0 ((zvb h).1 e)) ?_
   have e1 : (⟨#[126]⟩ : ByteArray).size = 1 := rfl
   refine Ev.pos (fun _ => by omega) ?_
   refine Ev.pos (fun _ => by rw [zze, e1]; omega) ?_
   have hb : bytesOf ((⟨#[126]⟩ : ByteArray) ++ h) = tH (bytesOf h) := by
    rw [zle]
    unfold tH
    rw [if_neg h0]
    rfl
   have e : strOfNums (tH (bytesOf h)) = (⟨#[126]⟩ : ByteArray) ++ h := by rw [← hb, str_B]
   rw [e]
   exact t7_ev (T ++ ((⟨#[126]⟩ : ByteArray) ++ h)) (by rw [zze, zze, e1]; omega) ns l ss sn h b n hn L _ N S R (by rw [hR, zle, hb, List.append_assoc])
 | succ m ih =>
  intro i hm hi
  have hl : i < (bytesOf h).length := by rw [bytesOf_length]; omega
  have hc := hx ((bytesOf h).getD i 0) (by rw [List.getD_eq_getElem?_getD, List.getElem?_eq_getElem hl]; exact List.getElem_mem hl)
  have next := ih (i + 1) (by omega) (by omega)
  have hX : isX ((bytesOf h).getD i 0) = true ↔ (48 ≤ (bytesOf h).getD i 0 ∧ (bytesOf h).getD i 0 ≤ 57) ∨ (97 ≤ (bytesOf h).getD i 0 ∧ (bytesOf h).getD i 0 ≤ 102) := by simp [isX, isD]
  have hi2 : ((i : Int) + 1) = ((i + 1 : Nat) : Int) := by omega
  refine Ev.succ ?_
  simp only [zb.l2, zsg]
  refine Ev.pos (fun _ => by omega) ?_
  refine Ev.pos (fun _ => by omega) ?_
  rw [w64 (i := (i : Int) + 1) (by omega) (by omega), hi2]
  rcases hX.1 hc with h1 | h1
  ·refine Ev.pos (fun _ => by omega) ?_
   refine Ev.pos (fun _ => by omega) ?_
   exact next
  ·refine Ev.pos (fun _ => by omega) ?_
   refine Ev.neg (fun _ => by omega) ?_
   refine Ev.pos (fun _ => by omega) ?_
   refine Ev.pos (fun _ => by omega) ?_
   exact next
theorem tSfrom_cons (j : Nat) (s : Int) (ss sn : List Int) : zgg j (s :: ss) sn = (sW s, if 0 < sn.getD j 0 then dec (sn.getD j 0) else []) :: zgg (j + 1) ss sn := rfl
theorem zvh (x : List Int × List Int) (s : List (List Int × List Int)) : joinS (x :: s) = 95 :: (x.1 ++ x.2) ++ joinS s := rfl
theorem mod9 (i : Int) (h : 0 ≤ i) : 0 ≤ Int.tmod i 9 ∧ Int.tmod i 9 < 9 := by
 rw [Int.tmod_eq_emod_of_nonneg h]
 omega
theorem sW_mem (i : Int) (h : 0 ≤ i) : sW i ∈ zbc := by
 obtain ⟨h0, h1⟩ := mod9 i h
 unfold sW
 have hl : (Int.tmod i 9).toNat < zbc.length := by show _ < 9; omega
 rw [List.getD_eq_getElem?_getD, List.getElem?_eq_getElem hl]
 exact List.getElem_mem hl
theorem nine {P : Nat → Prop} (h : P 0 ∧ P 1 ∧ P 2 ∧ P 3 ∧ P 4 ∧ P 5 ∧ P 6 ∧ P 7 ∧ P 8) : ∀ i, i < 9 → P i := by
 intro i hi
 obtain ⟨a0, a1, a2, a3, a4, a5, a6, a7, a8⟩ := h
 match i, hi with
 | 0, _ => exact a0
 | 1, _ => exact a1
 | 2, _ => exact a2
 | 3, _ => exact a3
 | 4, _ => exact a4
 | 5, _ => exact a5
 | 6, _ => exact a6
 | 7, _ => exact a7
 | 8, _ => exact a8
theorem weights_at (i : Int) (h : 0 ≤ i) : rd [0, 1, 2, 3, 5, 6, 7, 8, 9] (Int.tmod i 9) = (wgt (sW i) : Int) := by
 obtain ⟨h0, h1⟩ := mod9 i h
 unfold sW
 obtain ⟨q, hq⟩ : ∃ q : Nat, Int.tmod i 9 = (q : Int) := ⟨(Int.tmod i 9).toNat, by omega⟩
 rw [hq, Int.toNat_natCast]
 revert q
 have := nine (P := fun q => rd [0, 1, 2, 3, 5, 6, 7, 8, 9] (q : Int) = (wgt (zbc.getD q []) : Int)) (by decide)
 intro q hq
 exact this q (by omega)
theorem words_at (i : Int) (h : 0 ≤ i) : bytesOf (rdOf ByteArray.empty sufBs (Int.tmod i 9)) = sW i := by
 obtain ⟨h0, h1⟩ := mod9 i h
 obtain ⟨q, hq⟩ : ∃ q : Nat, Int.tmod i 9 = (q : Int) := ⟨(Int.tmod i 9).toNat, by omega⟩
 unfold sW
 rw [hq, Int.toNat_natCast, rdOf_B, sufBs_B]
theorem t1_ev {r : Texted} (ns : List Int) (l : Int) (ss sn : List Int) (hss : ss.length ≤ 60) (hse : ∀ x ∈ ss, 0 ≤ x) (hsn : ∀ x ∈ sn, U16 x) (h : ByteArray) (b : Bool) (n : Int) (L : ByteArray) (N : List S52) : ∀ (m j : Nat) (T : ByteArray) (S : List S56), ss.length - j = m → j ≤ ss.length → T.size ≤ 100000 + 100 * j → S.length ≤ 1000 + j →
  (∀ T' : ByteArray, bytesOf T' = bytesOf T ++ joinS (zgg j (ss.drop j) sn) → T'.size ≤ 110000 → Ev (fun k => zb.l2 k T' 0 ns l ss sn h b n ⟨#[]⟩ ⟨#[]⟩ L ⟨#[]⟩ false N (S ++ sufsA (zgg j (ss.drop j) sn)) false false ⟨#[]⟩) r) →
  Ev (fun k => zb.l1 k T ss (ss.length : Int) (j : Int) ns l ss sn h b n ⟨#[]⟩ ⟨#[]⟩ L ⟨#[]⟩ false N S false false ⟨#[]⟩) r := by
 intro m
 induction m with
 | zero =>
  intro j T S hm hj hT hS hk
  refine Ev.succ ?_
  simp only [zb.l1]
  refine Ev.neg (fun _ => by omega) ?_
  have e : ss.drop j = [] := List.drop_of_length_le (by omega)
  rw [e] at hk
  have := hk T (by simp [joinS, zgg]) (by omega)
  simpa [zgg, sufsA] using this
 | succ m ih =>
  intro j T S hm hj hT hS hk
  have hlt : j < ss.length := by omega
  have hd : ss.drop j = ss[j] :: ss.drop (j + 1) := List.drop_eq_getElem_cons hlt
  have h0 := hse _ (List.getElem_mem hlt)
  have hrd : rd ss (j : Int) = ss[j] := by rw [rd_nat, List.getD_eq_getElem?_getD, List.getElem?_eq_getElem hlt]; rfl
  obtain ⟨x, hx⟩ : ∃ x, x = ss[j] := ⟨_, rfl⟩
  rw [hd, ← hx, tSfrom_cons] at hk
  rw [← hx] at hrd h0
  obtain ⟨m0, m1⟩ := mod9 x h0
  have hwb := words_at x h0
  have hmem := sW_mem x h0
  have hwl := zsd hmem
  have hww := weights_at x h0
  obtain ⟨W, hW⟩ : ∃ W, W = rdOf ByteArray.empty sufBs (Int.tmod x 9) := ⟨_, rfl⟩
  rw [← hW] at hwb
  have hWs : W.size = (sW x).length := size_of hwb
  have e95 : (⟨#[95]⟩ : ByteArray).size = 1 := rfl
  have hbW : bytesOf (T ++ ((⟨#[95]⟩ : ByteArray) ++ W)) = bytesOf T ++ (95 :: sW x) := by rw [zle, zle, hwb]; rfl
  have hj2 : ((j : Int) + 1) = ((j + 1 : Nat) : Int) := by omega
  refine Ev.succ ?_
  simp only [zb.l1, hrd]
  refine Ev.pos (fun _ => by omega) ?_
  refine Ev.pos (fun _ => by omega) ?_
  refine Ev.pos (fun _ => by omega) ?_
  refine Ev.bind0 rfl ?_
  refine Ev.pos (fun _ => by omega) ?_
  refine Ev.pos (fun _ => by show Int.tmod x 9 < ((9 : Nat) : Int); omega) ?_
  refine Ev.bind0 (a := sufBs) rfl ?_
  rw [← hW]
  refine Ev.pos (fun _ => by show Int.tmod x 9 < ((9 : Nat) : Int); omega) ?_
  refine Ev.pos (fun _ => by omega) ?_
  refine Ev.pos (fun _ => by rw [zze, e95]; omega) ?_
  rw [hww]
  have hT2 : (T ++ ((⟨#[95]⟩ : ByteArray) ++ W)).size = T.size + (1 + W.size) := by rw [zze, zze, e95]
  have hjoin : ∀ (d : List Int) (T' : ByteArray), bytesOf T' = (bytesOf T ++ (95 :: sW x)) ++ d ++ joinS (zgg (j + 1) (ss.drop (j + 1)) sn) → bytesOf T' = bytesOf T ++ joinS ((sW x, d) :: zgg (j + 1) (ss.drop (j + 1)) sn) := by
   intro d T' h
   rw [h, zvh]
   simp only [List.append_assoc, List.cons_append]
  have key : ∀ (q : Bool), q = decide (0 < sn.getD j 0) → Ev (fun k => zb.j5 k (T ++ ((⟨#[95]⟩ : ByteArray) ++ W)) (j : Int) ss (ss.length : Int) (j : Int) q ns l ss sn h b n ⟨#[]⟩ ⟨#[]⟩ L ⟨#[]⟩ false N S false false ⟨#[]⟩ (wgt (sW x) : Int) false ⟨#[]⟩) r := by
   intro q hq
   refine Ev.succ ?_
   simp only [zb.j5]
   by_cases hp : 0 < sn.getD j 0
   ·rw [hq, decide_eq_true hp]
    have hlt2 : j < sn.length := by
     by_cases h : j < sn.length
     ·exact h
     ·rw [List.getD_eq_getElem?_getD, List.getElem?_eq_none (by omega)] at hp
      exact absurd hp (by decide)
    have hu : U16 (sn.getD j 0) := by
     rw [List.getD_eq_getElem?_getD, List.getElem?_eq_getElem hlt2]
     exact hsn _ (List.getElem_mem hlt2)
    have hds := dec_size hu
    have hdb := zdg (zsf (sn.getD j 0))
    rw [if_pos hp] at hk
    refine Ev.pos (fun _ => by first | rfl | trivial) ?_
    refine Ev.pos (fun _ => by omega) ?_
    refine Ev.pos (fun _ => by omega) ?_
    rw [rd_nat]
    refine Ev.bind (zif hu) ?_
    refine Ev.bind (zfj hu) ?_
    refine Ev.bind (zif hu) ?_
    refine Ev.pos (fun _ => by omega) ?_
    refine Ev.pos (fun _ => by omega) ?_
    rw [w64 (i := (j : Int) + 1) (by omega) (by omega), hj2]
    refine ih (j + 1) _ _ (by omega) (by omega) (by rw [zze, hT2]; omega) (by simp; omega) ?_
    intro T' hT' hs'
    have := hk T' (hjoin _ T' (by rw [hT', zle, hbW, hdb])) hs'
    rw [List.append_assoc]
    have e : (sufsA ((sW x, dec (sn.getD j 0)) :: zgg (j + 1) (ss.drop (j + 1)) sn)) = [⟨(wgt (sW x) : Int), ⟨false, magB (sn.getD j 0).toNat⟩⟩] ++ sufsA (zgg (j + 1) (ss.drop (j + 1)) sn) := by
     simp only [sufsA, List.map_cons, dec_val]
     rfl
    rw [e] at this
    exact this
   ·rw [hq, decide_eq_false hp]
    rw [if_neg hp] at hk
    refine Ev.neg (fun _ => Bool.false_ne_true) ?_
    refine Ev.pos (fun _ => by omega) ?_
    rw [w64 (i := (j : Int) + 1) (by omega) (by omega), hj2]
    refine ih (j + 1) _ _ (by omega) (by omega) (by rw [hT2]; omega) (by simp; omega) ?_
    intro T' hT' hs'
    have := hk T' (hjoin _ T' (by rw [hT', hbW, List.append_nil])) hs'
    rw [List.append_assoc]
    exact this
  by_cases hlt2 : j < sn.length
  ·refine Ev.pos (fun _ => by omega) ?_
   rw [rd_nat]
   exact key _ (by rw [decide_eq_decide])
  ·refine Ev.neg (fun _ => by omega) ?_
   refine key _ ?_
   rw [List.getD_eq_getElem?_getD, List.getElem?_eq_none (by omega)]
   rfl
theorem t3_ev {r : Texted} (ns : List Int) (l : Int) (hl : 0 ≤ l) (ss sn : List Int) (hss : ss.length ≤ 60) (hse : ∀ x ∈ ss, 0 ≤ x) (hsn : ∀ x ∈ sn, U16 x) (h : ByteArray) (b : Bool) (n : Int) (N : List S52) (T : ByteArray) (hT : T.size ≤ 50000)
  (hk : ∀ T' : ByteArray, bytesOf T' = bytesOf T ++ (tL l ++ joinS (tS ss sn)) → T'.size ≤ 110000 → Ev (fun k => zb.l2 k T' 0 ns l ss sn h b n ⟨#[]⟩ ⟨#[]⟩ (strOfNums (tL l)) ⟨#[]⟩ false N (sufsA (tS ss sn)) false false ⟨#[]⟩) r) :
  Ev (fun k => zb.l0 k T ns (ns.length : Int) (ns.length : Int) ns l ss sn h b n ⟨#[]⟩ ⟨#[]⟩ ⟨#[]⟩ ⟨#[]⟩ false N false false ⟨#[]⟩) r := by
 have go : ∀ (T1 L : ByteArray), bytesOf T1 = bytesOf T ++ tL l → T1.size ≤ 60000 → L = strOfNums (tL l) → Ev (fun k => zb.j3 k T1 ns l ss sn h b n ⟨#[]⟩ ⟨#[]⟩ L ⟨#[]⟩ false N false false ⟨#[]⟩) r := by
  intro T1 L h1 h2 hL
  refine Ev.succ ?_
  simp only [zb.j3]
  refine t1_ev ns l ss sn hss hse hsn h b n L N _ 0 T1 [] rfl (Nat.zero_le _) (by omega) (by simp) ?_
  intro T' hT' hs'
  rw [hL, List.nil_append, List.drop_zero]
  exact hk T' (by rw [hT', h1, List.append_assoc, List.drop_zero]; rfl) hs'
 refine Ev.succ ?_
 simp only [zb.l0]
 refine Ev.neg (fun _ => by omega) ?_
 have hm : 0 ≤ Int.tmod l 27 ∧ Int.tmod l 27 < 27 := by rw [Int.tmod_eq_emod_of_nonneg hl]; omega
 by_cases h0 : Int.tmod l 27 > 0
 ·refine Ev.pos (fun _ => h0) ?_
  have e : (97 + Int.tmod l 27 - 1) % 256 = 96 + Int.tmod l 27 := by omega
  rw [e]
  have hb : bytesOf (Utf8.encode (96 + Int.tmod l 27)) = tL l := by
   unfold tL
   rw [if_pos h0]
   exact B_encode (by omega) (by omega)
  have hz : (Utf8.encode (96 + Int.tmod l 27)).size = 1 := by
   rw [zcc, hb]
   unfold tL
   rw [if_pos h0]
   rfl
  refine Ev.pos (fun _ => by omega) ?_
  refine go _ _ (by rw [zle, hb]) (by rw [zze]; omega) (by rw [← hb, str_B])
 ·refine Ev.neg (fun _ => h0) ?_
  have e : tL l = [] := by unfold tL; rw [if_neg h0]
  refine go _ _ (by rw [e, List.append_nil]) (by omega) (by rw [e]; rfl)
theorem t0_ev {r : Texted} (ns : List Int) (hns : ns.length ≤ 60) (hne : ∀ x ∈ ns, U16 x) (l : Int) (ss sn : List Int) (h : ByteArray) (b : Bool) (n : Int) : ∀ (m j : Nat) (T : ByteArray) (N : List S52), ns.length - j = m → j ≤ ns.length → T.size ≤ 10 * j → N.length = j →
  (∀ T' : ByteArray, bytesOf T' = bytesOf T ++ (if j = 0 then zff (tC (ns.drop j)) else (tC (ns.drop j)).flatMap fun x => 46 :: x) → T'.size ≤ 50000 → Ev (fun k => zb.l0 k T' ns (ns.length : Int) (ns.length : Int) ns l ss sn h b n ⟨#[]⟩ ⟨#[]⟩ ⟨#[]⟩ ⟨#[]⟩ false (N ++ znf j (tC (ns.drop j))) false false ⟨#[]⟩) r) →
  Ev (fun k => zb.l0 k T ns (ns.length : Int) (j : Int) ns l ss sn h b n ⟨#[]⟩ ⟨#[]⟩ ⟨#[]⟩ ⟨#[]⟩ false N false false ⟨#[]⟩) r := by
 intro m
 induction m with
 | zero =>
  intro j T N hm hj hT hN hk
  obtain rfl : j = ns.length := by omega
  have e : ns.drop ns.length = [] := List.drop_length
  rw [e] at hk
  have := hk T (by split <;> simp [tC, zff]) (by omega)
  simpa [tC, znf] using this
 | succ m ih =>
  intro j T N hm hj hT hN hk
  have hlt : j < ns.length := by omega
  have hd : ns.drop j = ns[j] :: ns.drop (j + 1) := List.drop_eq_getElem_cons hlt
  have hu := hne _ (List.getElem_mem hlt)
  have hrd : rd ns (j : Int) = ns[j] := by rw [rd_nat, List.getD_eq_getElem?_getD, List.getElem?_eq_getElem hlt]; rfl
  obtain ⟨x, hx⟩ : ∃ x, x = ns[j] := ⟨_, rfl⟩
  rw [hd, ← hx] at hk
  rw [← hx] at hrd hu
  have hds := dec_size hu
  have hdb := zdg (zsf x)
  have hj2 : ((j : Int) + 1) = ((j + 1 : Nat) : Int) := by omega
  have key : ∀ (T1 : ByteArray), T1.size ≤ 10 * j + 1 → bytesOf T1 = bytesOf T ++ (if j = 0 then [] else [46]) → Ev (fun k => zb.j2 k T1 (j : Int) x ns (ns.length : Int) (j : Int) ns l ss sn h b n ⟨#[]⟩ ⟨#[]⟩ ⟨#[]⟩ ⟨#[]⟩ false N false false ⟨#[]⟩) r := by
   intro T1 hT1 hb1
   refine Ev.succ ?_
   simp only [zb.j2]
   refine Ev.bind (zif hu) ?_
   refine Ev.pos (fun _ => by omega) ?_
   refine Ev.bind (zif hu) ?_
   refine Ev.bind (zif hu) ?_
   refine Ev.bind (zfj hu) ?_
   refine Ev.pos (fun _ => by omega) ?_
   rw [w64 (i := (j : Int) + 1) (by omega) (by omega), hj2]
   refine ih (j + 1) _ _ (by omega) (by omega) (by rw [zze]; omega) (by simp; omega) ?_
   intro T' hT' hs'
   rw [if_neg (by omega)] at hT'
   have := hk T' (by
    rw [hT', zle, hb1, hdb]
    simp only [tC, List.map_cons]
    by_cases hj0 : j = 0
    ·rw [if_pos hj0, if_pos hj0]
     simp [zff]
    ·rw [if_neg hj0, if_neg hj0]
     simp) hs'
   have e : znf j (tC (x :: ns.drop (j + 1))) = [⟨strOfNums (dec x), ⟨false, magB x.toNat⟩, (j : Int)⟩] ++ znf (j + 1) (tC (ns.drop (j + 1))) := by
    show znf j (dec x :: tC (ns.drop (j + 1))) = _
    rw [zji, dec_val]
    rfl
   rw [e, ← List.append_assoc] at this
   exact this
  refine Ev.succ ?_
  simp only [zb.l0, hrd]
  refine Ev.pos (fun _ => by omega) ?_
  refine Ev.pos (fun _ => by omega) ?_
  refine Ev.pos (fun _ => by omega) ?_
  by_cases hj0 : j = 0
  ·refine Ev.neg (fun _ => by omega) ?_
   exact key T (by omega) (by rw [if_pos hj0, List.append_nil])
  ·refine Ev.pos (fun _ => by omega) ?_
   refine Ev.pos (fun _ => by omega) ?_
   have e46 : (⟨#[46]⟩ : ByteArray).size = 1 := rfl
   exact key _ (by rw [zze, e46]; omega) (by rw [zle, if_neg hj0]; rfl)
theorem text_ev (ns : List Int) (hne : ∀ x ∈ ns, U16 x) (l : Int) (hl : 0 ≤ l) (ss sn : List Int) (hse : ∀ x ∈ ss, 0 ≤ x) (hsn : ∀ x ∈ sn, U16 x) (h : ByteArray) (b : Bool) (n : Int) (hn : b = true → U16 n) :
  (tOk ns ss (bytesOf h) → Ev (fun k => zb.f k ns l ss sn h b n) (goodT ns l ss sn (bytesOf h) b n)) ∧ (¬ tOk ns ss (bytesOf h) → Ev (fun k => zb.f k ns l ss sn h b n) failT) := by
 have bad : Ev (fun k => zb.j0 k true ns l ss sn h b n) failT := by
  refine Ev.succ ?_
  simp only [zb.j0]
  refine Ev.pos (fun _ => by first | rfl | trivial) ?_
  exact Ev.now _
 have hz := bytesOf_length h
 by_cases h0 : ns = []
 ·refine ⟨fun hk => absurd h0 hk.1, fun _ => ?_⟩
  simp only [zb.f]
  refine Ev.pos (fun _ => by rw [h0]; rfl) ?_
  exact bad
 have hp : 0 < ns.length := List.length_pos_iff.2 h0
 by_cases h1 : ns.length ≤ 60
 case neg =>
  refine ⟨fun hk => absurd hk.2.1 h1, fun _ => ?_⟩
  simp only [zb.f]
  refine Ev.neg (fun _ => by omega) ?_
  refine Ev.pos (fun _ => by omega) ?_
  exact bad
 by_cases h2 : ss.length ≤ 60
 case neg =>
  refine ⟨fun hk => absurd hk.2.2.1 h2, fun _ => ?_⟩
  simp only [zb.f]
  refine Ev.neg (fun _ => by omega) ?_
  refine Ev.neg (fun _ => by omega) ?_
  refine Ev.pos (fun _ => by omega) ?_
  exact bad
 by_cases h3 : h.size ≤ 1200
 case neg =>
  refine ⟨fun hk => absurd hk.2.2.2.1 (by omega), fun _ => ?_⟩
  simp only [zb.f]
  refine Ev.neg (fun _ => by omega) ?_
  refine Ev.neg (fun _ => by omega) ?_
  refine Ev.neg (fun _ => by omega) ?_
  have : decide ((h.size : Int) > 1200) = true := decide_eq_true (by omega)
  rw [this]
  exact bad
 have go : ∀ {r : Texted}, (∀ T' : ByteArray, bytesOf T' = zff (tC ns) ++ (tL l ++ joinS (tS ss sn)) → T'.size ≤ 110000 → Ev (fun k => zb.l2 k T' 0 ns l ss sn h b n ⟨#[]⟩ ⟨#[]⟩ (strOfNums (tL l)) ⟨#[]⟩ false (numsA (tC ns)) (sufsA (tS ss sn)) false false ⟨#[]⟩) r) → Ev (fun k => zb.f k ns l ss sn h b n) r := by
  intro r hk
  simp only [zb.f]
  refine Ev.neg (fun _ => by omega) ?_
  refine Ev.neg (fun _ => by omega) ?_
  refine Ev.neg (fun _ => by omega) ?_
  have : decide ((h.size : Int) > 1200) = false := decide_eq_false (by omega)
  rw [this]
  refine Ev.succ ?_
  simp only [zb.j0]
  refine Ev.neg (fun _ => Bool.false_ne_true) ?_
  refine t0_ev ns h1 hne l ss sn h b n _ 0 ⟨#[]⟩ [] rfl (Nat.zero_le _) (Nat.le_refl _) rfl ?_
  intro T' hT' hs'
  rw [if_pos rfl, List.drop_zero] at hT'
  rw [List.nil_append, List.drop_zero]
  refine t3_ev ns l hl ss sn h2 hse hsn h b n _ T' hs' ?_
  intro T2 hT2 hs2
  refine hk T2 ?_ hs2
  rw [hT2, hT']
  rfl
 by_cases hx : ∀ c ∈ bytesOf h, isX c = true
 ·refine ⟨fun _ => ?_, fun hk => absurd ⟨h0, h1, h2, by omega, hx⟩ hk⟩
  refine go ?_
  intro T' hT' hs'
  have hr : ∀ c ∈ textL ns l ss sn (bytesOf h) b n, 0 ≤ c ∧ c ≤ 255 := by
   intro c hc
   unfold textL at hc
   rcases List.mem_append.1 hc with hc | hc
   ·exact zjh T' c (by rw [hT']; exact List.mem_append_left _ hc)
   ·rcases List.mem_append.1 hc with hc | hc
    ·exact zjh T' c (by rw [hT']; exact List.mem_append_right _ (List.mem_append_left _ hc))
    ·rcases List.mem_append.1 hc with hc | hc
     ·exact zjh T' c (by rw [hT']; exact List.mem_append_right _ (List.mem_append_right _ hc))
     ·rcases List.mem_append.1 hc with hc | hc
      ·unfold tH at hc
       split at hc
       ·simp at hc
       ·rcases List.mem_cons.1 hc with e | hc
        ·omega
        ·exact zjh h c hc
      ·unfold tE at hc
       split at hc
       ·rcases List.mem_cons.1 hc with e | hc
        ·omega
        ·rcases List.mem_cons.1 hc with e | hc
         ·omega
         ·exact isD_byte (zsf n c hc)
       ·simp at hc
  have := t2_good T' (by omega) ns l ss sn h h3 b n hn (strOfNums (tL l)) (numsA (tC ns)) (sufsA (tS ss sn)) hx (strOfNums (textL ns l ss sn (bytesOf h) b n)) (by
   rw [B_str hr, hT']
   unfold textL
   simp only [List.append_assoc]) _ 0 rfl (Nat.zero_le _)
  exact this
 ·refine ⟨fun hk => absurd hk.2.2.2.2 hx, fun _ => ?_⟩
  refine go ?_
  intro T' hT' hs'
  exact t2_bad T' ns l ss sn h h3 b n (strOfNums (tL l)) (numsA (tC ns)) (sufsA (tS ss sn)) _ 0 rfl (Nat.zero_le _) hx
end Go.Proofs.YtapaijpglfmfgaaGreatDoor.V
end
section
namespace Go.Proofs.YtapaijpglfmfgaaGreatDoor.V
open Go.RowKit YtapaijpglfmfgaaGreatDoor.Q YtapaijpglfmfgaaGreatDoorG YtapaijpglfmfgaaGreatDoorP YtapaijpglfmfgaaGreatDoorH YtapaijpglfmfgaaGreatDoorB YtapaijpglfmfgaaGreatDoorM YtapaijpglfmfgaaGreatDoorW.PrintWords YtapaijpglfmfgaaGreatDoorW.PrintLast
def hd (l : List Int) : Int := l.getD 0 0
theorem hd_nil (b : List Int) : hd ([] ++ b) = hd b := rfl
structure Stop (l : List Int) : Prop where
 d : isD (hd l) = false
 p : hd l ≠ 46
 let_ : isL (hd l) = false
 u : hd l ≠ 95
 t : hd l ≠ 126
theorem Stop.x {l : List Int} (h : Stop l) : isX (hd l) = false := by
 have h1 := h.d
 have h2 := h.let_
 unfold isX
 rw [h1]
 unfold isL at h2
 have := of_decide_eq_false h2
 simp
 omega
theorem run_hd {p : Int → Bool} {a b : List Int} (h : ∀ c ∈ a, p c = true) (hb : p (hd b) = false) : run p (a ++ b) = a.length := run_stop_append h (.inr hb)
theorem numsP_join : ∀ (c : List (List Int)) (n : Nat) (X : List Int), c ≠ [] → (∀ d ∈ c, d ≠ [] ∧ ∀ x ∈ d, isD x = true) → isD (hd X) = false → hd X ≠ 46 → c.length ≤ n → numsP n (zff c ++ X) = (c, X)
 | [], _, _, h, _, _, _, _ => absurd rfl h
 | _ :: _, 0, _, _, _, _, _, h => by simp at h
 | [d], n + 1, X, _, hc, h1, h2, _ => by
  obtain ⟨d0, d1⟩ := hc d List.mem_cons_self
  have e : zff [d] ++ X = d ++ X := by simp [zff]
  have hr : run isD (d ++ X) = d.length := run_hd d1 h1
  have hp : d.length ≠ 0 := by have := List.length_pos_iff.2 d0; omega
  rw [e]
  simp only [numsP]
  rw [hr, if_neg hp, List.drop_left, if_neg (show ¬ X.getD 0 0 = 46 from h2), List.take_left]
 | d :: d' :: r, n + 1, X, _, hc, h1, h2, hn => by
  obtain ⟨d0, d1⟩ := hc d List.mem_cons_self
  have e : zff (d :: d' :: r) ++ X = d ++ (46 :: (zff (d' :: r) ++ X)) := by simp [zff]
  have hr : run isD (d ++ (46 :: (zff (d' :: r) ++ X))) = d.length := run_hd d1 (show isD 46 = false by decide)
  have hp : d.length ≠ 0 := by have := List.length_pos_iff.2 d0; omega
  have ih := numsP_join (d' :: r) n X (by simp) (fun x hx => hc x (List.mem_cons_of_mem _ hx)) h1 h2 (by simpa using hn)
  rw [e]
  simp only [numsP]
  rw [hr, if_neg hp, List.drop_left, if_pos (show (46 :: (zff (d' :: r) ++ X)).getD 0 0 = 46 from rfl), List.take_left, ← List.drop_drop, List.drop_left]
  show (d :: (numsP n (zff (d' :: r) ++ X)).1, (numsP n (zff (d' :: r) ++ X)).2) = _
  rw [ih]
theorem letterP_at {t Y : List Int} (h : (t = [] ∧ isL (hd Y) = false) ∨ ∃ x, t = [x] ∧ isL x = true) : ztf (t ++ Y) = (t, Y) := by
 unfold ztf
 rcases h with ⟨rfl, h⟩ | ⟨x, rfl, h⟩
 ·have h2 : isL (([] ++ Y).getD 0 0) = false := h
  rw [h2]
  rfl
 ·have h2 : isL (([x] ++ Y).getD 0 0) = true := h
  rw [h2]
  rfl
theorem wordAt_word {w y : List Int} (hw : w ∈ zbc) (hy : hd y ≠ 114) : ztd (95 :: (w ++ y)) = some w := by
 unfold ztd
 rw [if_pos (show (95 :: (w ++ y)).getD 0 0 = 95 from rfl)]
 show zbc.find? (fun w' => pre w' (w ++ y)) = some w
 simp only [zbc, List.mem_cons, List.not_mem_nil, or_false] at hw
 rcases hw with rfl | rfl | rfl | rfl | rfl | rfl | rfl | rfl | rfl
 ·simp [zbc, List.find?_cons, pre]
 ·simp [zbc, List.find?_cons, pre]
 ·simp [zbc, List.find?_cons, pre]
 ·simp [zbc, List.find?_cons, pre]
 ·simp [zbc, List.find?_cons, pre]
 ·simp [zbc, List.find?_cons, pre]
 ·simp [zbc, List.find?_cons, pre]
 ·simp [zbc, List.find?_cons, pre]
 ·cases y with
  | nil => decide
  | cons a y =>
   have ha : a ≠ 114 := hy
   simp [zbc, List.find?_cons, pre, ha]
theorem wordAt_no {Z : List Int} (h : hd Z ≠ 95) : ztd Z = none := by unfold ztd; rw [if_neg (show ¬ Z.getD 0 0 = 95 from h)]
theorem hd_joinS {s : List (List Int × List Int)} {Z : List Int} (h : s ≠ []) : hd (joinS s ++ Z) = 95 := by
 cases s with
 | nil => exact absurd rfl h
 | cons x s => rfl
theorem sufsP_join : ∀ (s : List (List Int × List Int)) (n : Nat) (Z : List Int), (∀ x ∈ s, x.1 ∈ zbc ∧ ∀ c ∈ x.2, isD c = true) → hd Z ≠ 95 → hd Z ≠ 114 → isD (hd Z) = false → s.length ≤ n → sufsP n (joinS s ++ Z) = (s, Z)
  | [], n, Z, _, h1, _, _, _ => by
    show sufsP n Z = ([], Z)
    exact zse (wordAt_no h1) n
  | _ :: _, 0, _, _, _, _, _, h => by simp at h
  | (w, dg) :: s, n + 1, Z, hs, h1, h2, h3, hn => by
    obtain ⟨hw, hdg⟩ := hs _ List.mem_cons_self
    have ih := sufsP_join s n Z (fun x hx => hs x (List.mem_cons_of_mem _ hx)) h1 h2 h3 (by simpa using hn)
    obtain ⟨R, hR⟩ : ∃ R, R = joinS s ++ Z := ⟨_, rfl⟩
    have e : joinS ((w, dg) :: s) ++ Z = 95 :: (w ++ (dg ++ R)) := by rw [hR, zvh]; simp
    have hRh : hd R = 95 ∨ hd R = hd Z := by
      rw [hR]
      by_cases h0 : s = []
      · right; rw [h0]; rfl
      · left; exact hd_joinS h0
    have hRd : isD (hd R) = false := by rcases hRh with e | e <;> rw [e]; · rfl
                                        · exact h3
    have hy : hd (dg ++ R) ≠ 114 := by
      cases dg with
      | nil => rcases hRh with e | e
               · rw [hd_nil, e]; decide
               · rw [hd_nil, e]; exact h2
      | cons a q =>
        have ha := hdg a List.mem_cons_self
        intro e
        have e2 : a = 114 := e
        rw [e2] at ha
        exact absurd ha (by decide)
    rw [e, zqe (wordAt_word hw hy)]
    have ed : (95 :: (w ++ (dg ++ R))).drop (1 + w.length) = dg ++ R := by
      rw [Nat.add_comm, List.drop_succ_cons, List.drop_left]
    rw [ed, run_hd hdg hRd, List.take_left, List.drop_left, hR, ih]
theorem hashP_at {h E : List Int} (hh : (h = [] ∧ hd E ≠ 126) ∨ ∃ x, h = 126 :: x ∧ x ≠ [] ∧ (∀ c ∈ x, isX c = true) ∧ isX (hd E) = false) : hashP (h ++ E) = (h, E) := by
 unfold hashP
 rcases hh with ⟨rfl, h0⟩ | ⟨x, rfl, x0, hx, h0⟩
 ·rw [if_neg (fun e => h0 e.1)]
  rfl
 ·have e : (126 :: x ++ E).drop 1 = x ++ E := rfl
  rw [e, run_hd hx h0]
  have hp : x.length ≠ 0 := by have := List.length_pos_iff.2 x0; omega
  rw [if_pos ⟨rfl, hp⟩]
  have e1 : (126 :: x ++ E).take (1 + x.length) = 126 :: x := by
   rw [Nat.add_comm, List.cons_append, List.take_succ_cons, List.take_left]
  have e2 : (126 :: x ++ E).drop (1 + x.length) = E := by
   rw [Nat.add_comm, List.cons_append, List.drop_succ_cons, List.drop_left]
  rw [e1, e2]
theorem parse_join {c : List (List Int)} {t : List Int} {s : List (List Int × List Int)} {h E : List Int} (hc0 : c ≠ []) (hc : ∀ d ∈ c, d ≠ [] ∧ ∀ x ∈ d, isD x = true) (ht : t = [] ∨ ∃ x, t = [x] ∧ isL x = true)
    (hs : ∀ x ∈ s, x.1 ∈ zbc ∧ ∀ c ∈ x.2, isD c = true) (hh : h = [] ∨ ∃ x, h = 126 :: x ∧ x ≠ [] ∧ ∀ c ∈ x, isX c = true) (hE : Stop E) :
    zxe (zff c ++ (t ++ (joinS s ++ (h ++ E)))) = ⟨zff c ++ (t ++ (joinS s ++ (h ++ E))), c, t, s, h, (zig E).1, (zig E).2.1, (zig E).2.2⟩ ∧ rest3 (zff c ++ (t ++ (joinS s ++ (h ++ E)))) = h ++ E := by
  -- heads
  have hZ : hd (h ++ E) = 126 ∨ hd (h ++ E) = hd E := by
    rcases hh with rfl | ⟨x, rfl, _, _⟩
    · right; rfl
    · left; rfl
  have hY : hd (joinS s ++ (h ++ E)) = 95 ∨ hd (joinS s ++ (h ++ E)) = hd (h ++ E) := by
    by_cases h0 : s = []
    · right; rw [h0]; rfl
    · left; exact hd_joinS h0
  have hZl : isL (hd (h ++ E)) = false := by rcases hZ with e | e <;> rw [e]; · rfl
                                             · exact hE.let_
  have hZd : isD (hd (h ++ E)) = false := by rcases hZ with e | e <;> rw [e]; · rfl
                                             · exact hE.d
  have hZu : hd (h ++ E) ≠ 95 := by rcases hZ with e | e <;> rw [e]; · decide
                                    · exact hE.u
  have hZp : hd (h ++ E) ≠ 46 := by rcases hZ with e | e <;> rw [e]; · decide
                                    · exact hE.p
  have hYl : isL (hd (joinS s ++ (h ++ E))) = false := by rcases hY with e | e <;> rw [e]; · rfl
                                                          · exact hZl
  have hYd : isD (hd (joinS s ++ (h ++ E))) = false := by rcases hY with e | e <;> rw [e]; · rfl
                                                          · exact hZd
  have hYp : hd (joinS s ++ (h ++ E)) ≠ 46 := by rcases hY with e | e <;> rw [e]; · decide
                                                 · exact hZp
  have hX : isD (hd (t ++ (joinS s ++ (h ++ E)))) = false ∧ hd (t ++ (joinS s ++ (h ++ E))) ≠ 46 := by
    rcases ht with rfl | ⟨x, rfl, hx⟩
    · exact ⟨hYd, hYp⟩
    · have e : hd ([x] ++ (joinS s ++ (h ++ E))) = x := rfl
      rw [e]
      unfold isL at hx
      have := of_decide_eq_true hx
      refine ⟨?_, by omega⟩
      unfold isD
      exact decide_eq_false (by omega)
  have hlenc : c.length ≤ (zff c ++ (t ++ (joinS s ++ (h ++ E)))).length := by
    have : ∀ r : List (List Int), r.length ≤ (r.flatMap fun x => 46 :: x).length := by
      intro r
      induction r with
      | nil => exact Nat.le_refl _
      | cons a r ih => simp only [List.flatMap_cons, List.length_append, List.length_cons]; omega
    cases c with
    | nil => exact absurd rfl hc0
    | cons d r =>
      have h1 := this r
      have h2 := List.length_pos_iff.2 (hc d List.mem_cons_self).1
      simp only [zff, List.length_append, List.length_cons]
      omega
  have e1 := numsP_join c _ (t ++ (joinS s ++ (h ++ E))) hc0 hc hX.1 hX.2 hlenc
  have e2 : ztf (t ++ (joinS s ++ (h ++ E))) = (t, joinS s ++ (h ++ E)) := letterP_at (by
    rcases ht with e | ⟨x, e, hx⟩
    · exact .inl ⟨e, hYl⟩
    · exact .inr ⟨x, e, hx⟩)
  have hlens : s.length ≤ (joinS s ++ (h ++ E)).length := by
    have : ∀ r : List (List Int × List Int), r.length ≤ (joinS r).length := by
      intro r
      induction r with
      | nil => exact Nat.le_refl _
      | cons a r ih => rw [zvh]; simp only [List.length_append, List.length_cons]; omega
    have := this s
    rw [List.length_append]
    omega
  have e3 := sufsP_join s _ (h ++ E) hs hZu (fun e => by rw [e] at hZl; exact absurd hZl (by decide)) hZd hlens
  have e4 : hashP (h ++ E) = (h, E) := hashP_at (by
    rcases hh with e | ⟨x, e, x0, hx⟩
    · exact .inl ⟨e, hE.t⟩
    · exact .inr ⟨x, e, x0, hx, hE.x⟩)
  have r1 : rest1 (zff c ++ (t ++ (joinS s ++ (h ++ E)))) = t ++ (joinS s ++ (h ++ E)) := by unfold rest1; rw [e1]
  have r2 : rest2 (zff c ++ (t ++ (joinS s ++ (h ++ E)))) = joinS s ++ (h ++ E) := by unfold rest2; rw [r1, e2]
  have r3 : rest3 (zff c ++ (t ++ (joinS s ++ (h ++ E)))) = h ++ E := by unfold rest3; rw [r2, e3]
  have r4 : rest4 (zff c ++ (t ++ (joinS s ++ (h ++ E)))) = E := by unfold rest4; rw [r3, e4]
  refine ⟨?_, r3⟩
  unfold zxe
  rw [e1, r1, e2, r2, e3, r3, e4, r4]
theorem Stop.nil : Stop [] := ⟨by decide, by decide, by decide, by decide, by decide⟩
theorem Stop.cons {x : Int} {l : List Int} (h1 : isD x = false) (h2 : x ≠ 46) (h3 : isL x = false) (h4 : x ≠ 95) (h5 : x ≠ 126) : Stop (x :: l) := ⟨h1, h2, h3, h4, h5⟩
theorem stop_E (b : Bool) (n : Int) : Stop (tE b n) := by
 cases b
 ·exact Stop.nil
 ·exact Stop.cons (by decide) (by decide) (by decide) (by decide) (by decide)
theorem build_E (b : Bool) (n : Int) : zig (tE b n) = (false, tB b n, []) := by
 cases b
 ·rfl
 ·have hr : run isD (dec n) = (dec n).length := run_all (zsf n)
  show zig (45 :: 114 :: dec n) = (false, dec n, [])
  unfold zig
  rw [if_neg (by simp), if_pos (show List.take 2 (45 :: 114 :: dec n) = [45, 114] from rfl)]
  show (false, (dec n).take (run isD (dec n)), (dec n).drop (run isD (dec n))) = _
  rw [hr, List.take_length, List.drop_length]
theorem tC_good (ns : List Int) : ∀ d ∈ tC ns, d ≠ [] ∧ ∀ x ∈ d, isD x = true := by
 intro d hd
 obtain ⟨x, _, rfl⟩ := List.mem_map.1 hd
 exact ⟨dec_ne x, zsf x⟩
theorem tC_ne {ns : List Int} (h : ns ≠ []) : tC ns ≠ [] := by
 intro e
 exact h (List.map_eq_nil_iff.1 e)
theorem tL_good {l : Int} (hl : 0 ≤ l) : tL l = [] ∨ ∃ x, tL l = [x] ∧ isL x = true := by
 unfold tL
 have hm : 0 ≤ Int.tmod l 27 ∧ Int.tmod l 27 < 27 := by rw [Int.tmod_eq_emod_of_nonneg hl]; omega
 split
 ·refine .inr ⟨_, rfl, ?_⟩
  unfold isL
  exact decide_eq_true (by omega)
 ·exact .inl rfl
theorem tS_good {ss sn : List Int} (hse : ∀ x ∈ ss, 0 ≤ x) : ∀ x ∈ tS ss sn, x.1 ∈ zbc ∧ ∀ c ∈ x.2, isD c = true := by
 intro x hx
 unfold tS zgg at hx
 obtain ⟨p, hp, rfl⟩ := List.mem_map.1 hx
 have h1 : p.1 ∈ ss := by
  have := List.mem_map_of_mem (f := Prod.fst) hp
  rwa [List.zipIdx_map_fst] at this
 refine ⟨sW_mem _ (hse _ h1), fun c hc => ?_⟩
 simp only at hc
 split at hc
 ·exact zsf _ c hc
 ·simp at hc
theorem tH_good {h : List Int} (hx : ∀ c ∈ h, isX c = true) : tH h = [] ∨ ∃ x, tH h = 126 :: x ∧ x ≠ [] ∧ ∀ c ∈ x, isX c = true := by
 unfold tH
 split
 ·exact .inl rfl
 ·rename_i h0
  exact .inr ⟨h, rfl, h0, hx⟩
theorem parse_text {ns ss sn h : List Int} {l n : Int} {b : Bool} (hk : tOk ns ss h) (hl : 0 ≤ l) (hse : ∀ x ∈ ss, 0 ≤ x) :
  zxe (textL ns l ss sn h b n) = ⟨textL ns l ss sn h b n, tC ns, tL l, tS ss sn, tH h, false, tB b n, []⟩ ∧ rest3 (textL ns l ss sn h b n) = tH h ++ tE b n := by
 obtain ⟨h0, _, _, _, hx⟩ := hk
 have := parse_join (tC_ne h0) (tC_good ns) (tL_good hl) (tS_good (sn := sn) hse) (tH_good hx) (stop_E b n)
 rw [build_E] at this
 exact this
def U8 (a : Int) : Prop := 0 ≤ a ∧ a ≤ 255
theorem u8_of {a : Int} (h : (Lit.int .u8 a).wf = true) : U8 a := by
 unfold U8
 simp [Lit.wf, IntKind.min, IntKind.max, IntKind.signed, IntKind.bits] at h
 omega
theorem joinP_len (c : List (List Int)) (h : ∀ d ∈ c, d.length ≤ 5) : (zff c).length ≤ 6 * c.length := by
 have aux : ∀ r : List (List Int), (∀ d ∈ r, d.length ≤ 5) → (r.flatMap fun x => 46 :: x).length ≤ 6 * r.length := by
  intro r hr
  induction r with
  | nil => exact Nat.zero_le _
  | cons a r ih =>
   have h1 := hr a List.mem_cons_self
   have h2 := ih (fun d hd => hr d (List.mem_cons_of_mem _ hd))
   simp only [List.flatMap_cons, List.length_append, List.length_cons]
   omega
 cases c with
 | nil => exact Nat.zero_le _
 | cons d r =>
  have h1 := h d List.mem_cons_self
  have h2 := aux r (fun d hd => h d (List.mem_cons_of_mem _ hd))
  simp only [zff, List.length_append, List.length_cons]
  omega
theorem joinS_len (s : List (List Int × List Int)) (h : ∀ x ∈ s, x.1.length ≤ 5 ∧ x.2.length ≤ 5) : (joinS s).length ≤ 11 * s.length := by
 induction s with
 | nil => exact Nat.zero_le _
 | cons a r ih =>
  have h1 := h a List.mem_cons_self
  have h2 := ih (fun d hd => h d (List.mem_cons_of_mem _ hd))
  rw [zvh]
  simp only [List.length_append, List.length_cons]
  omega
theorem joinP_mem {c : List (List Int)} {x : Int} (h : x ∈ zff c) : x = 46 ∨ ∃ d ∈ c, x ∈ d := by
 cases c with
 | nil => simp [zff] at h
 | cons d r =>
  rcases List.mem_append.1 h with h | h
  ·exact .inr ⟨d, List.mem_cons_self, h⟩
  ·obtain ⟨e, he, hx⟩ := List.mem_flatMap.1 h
   rcases List.mem_cons.1 hx with e1 | e1
   ·exact .inl e1
   ·exact .inr ⟨e, List.mem_cons_of_mem _ he, e1⟩
theorem isD_asc {c : Int} (h : isD c = true) : 0 ≤ c ∧ c ≤ 127 := by
 unfold isD at h
 have := of_decide_eq_true h
 omega
theorem textL_good {ns ss sn h : List Int} {l n : Int} {b : Bool} (hk : tOk ns ss h) (hne : ∀ x ∈ ns, U16 x) (hl : 0 ≤ l) (hse : ∀ x ∈ ss, 0 ≤ x) (hsn : ∀ x ∈ sn, U16 x) (hn : U16 n) :
  (∀ c ∈ textL ns l ss sn h b n, 0 ≤ c ∧ c ≤ 127) ∧ (textL ns l ss sn h b n).length ≤ 3000 := by
 obtain ⟨k0, k1, k2, k3, k4⟩ := hk
 have hC := tC_good ns
 have hS := tS_good (sn := sn) hse
 have hS2 : ∀ x ∈ tS ss sn, x.1.length ≤ 5 ∧ x.2.length ≤ 5 := by
  intro x hx
  refine ⟨(zsd (hS x hx).1).2, ?_⟩
  unfold tS zgg at hx
  obtain ⟨p, hp, rfl⟩ := List.mem_map.1 hx
  simp only
  split
  ·rename_i h0
   refine dec_len ?_
   by_cases hlt : p.2 < sn.length
   ·rw [List.getD_eq_getElem?_getD, List.getElem?_eq_getElem hlt]
    exact hsn _ (List.getElem_mem hlt)
   ·rw [List.getD_eq_getElem?_getD, List.getElem?_eq_none (by omega)] at h0
    exact absurd h0 (by decide)
  ·exact Nat.zero_le _
 constructor
 ·intro c hc
  unfold textL at hc
  rcases List.mem_append.1 hc with hc | hc
  ·rcases joinP_mem hc with e | ⟨d, hd, hx⟩
   ·omega
   ·exact isD_asc ((hC d hd).2 c hx)
  rcases List.mem_append.1 hc with hc | hc
  ·rcases tL_good hl with e | ⟨x, e, hx⟩
   ·rw [e] at hc; simp at hc
   ·rw [e] at hc
    have e2 : c = x := by simpa using hc
    rw [e2]
    unfold isL at hx
    have := of_decide_eq_true hx
    omega
  rcases List.mem_append.1 hc with hc | hc
  ·obtain ⟨x, hx, hc⟩ := List.mem_flatMap.1 hc
   obtain ⟨h1, h2⟩ := hS x hx
   rcases List.mem_cons.1 hc with e | hc
   ·omega
   rcases List.mem_append.1 hc with hc | hc
   ·have := zeg h1 c hc; omega
   ·exact isD_asc (h2 c hc)
  rcases List.mem_append.1 hc with hc | hc
  ·unfold tH at hc
   split at hc
   ·simp at hc
   ·rcases List.mem_cons.1 hc with e | hc
    ·omega
    ·have hX := k4 c hc
     have : (48 ≤ c ∧ c ≤ 57) ∨ (97 ≤ c ∧ c ≤ 102) := by simpa [isX, isD] using hX
     omega
  ·unfold tE at hc
   split at hc
   ·rcases List.mem_cons.1 hc with e | hc
    ·omega
    rcases List.mem_cons.1 hc with e | hc
    ·omega
    ·exact isD_asc (zsf n c hc)
   ·simp at hc
 ·have h1 := joinP_len (tC ns) (fun d hd => by
   obtain ⟨x, hx, rfl⟩ := List.mem_map.1 hd
   exact dec_len (hne x hx))
  have h2 := joinS_len (tS ss sn) hS2
  have e1 : (tC ns).length = ns.length := by simp [tC]
  have e2 : (tS ss sn).length = ss.length := by simp [tS, zgg]
  have h3 : (tL l).length ≤ 1 := by unfold tL; split <;> simp
  have h4 : (tH h).length ≤ 1 + h.length := by unfold tH; split <;> simp; omega
  have h5 : (tE b n).length ≤ 7 := by
   have := dec_len hn
   unfold tE
   split
   ·simp; omega
   ·simp
  unfold textL
  simp only [List.length_append]
  omega
end Go.Proofs.YtapaijpglfmfgaaGreatDoor.V
end
section
namespace Go.Proofs.YtapaijpglfmfgaaGreatDoor.V
open Go.RowKit YtapaijpglfmfgaaGreatDoor.Q YtapaijpglfmfgaaGreatDoorG YtapaijpglfmfgaaGreatDoorP YtapaijpglfmfgaaGreatDoorH YtapaijpglfmfgaaGreatDoorB YtapaijpglfmfgaaGreatDoorM YtapaijpglfmfgaaGreatDoorW.PrintWords YtapaijpglfmfgaaGreatDoorW.PrintLast
theorem toSx_at {w d : List Int} (h : ∀ c ∈ d, isD c = true) (hl : d.length ≤ 1000000) : toSx (convS (w, d)) = ⟨(wgt w : Int), 0, decL d⟩ := by
 unfold toSx convS
 simp only
 rw [(or0_good h hl).2.2]
theorem clear_no95 {l : List Int} (h : ∀ c ∈ l, c ≠ 95) : zbh l = true := by
 rw [zdj]
 intro j
 refine wordAt_no ?_
 cases e : l.drop j with
 | nil => decide
 | cons x r =>
  have : x ∈ l := List.mem_of_mem_drop (i := j) (by rw [e]; exact List.mem_cons_self)
  exact h x this
end Go.Proofs.YtapaijpglfmfgaaGreatDoor.V
end
