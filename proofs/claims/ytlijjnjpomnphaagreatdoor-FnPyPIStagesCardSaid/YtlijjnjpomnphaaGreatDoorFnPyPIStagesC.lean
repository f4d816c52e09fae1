/- Proved here, for the row of the law FnPyPIStages: contracts of the Go functions that it reaches, each as its theorem 'calls' says, and the words and plain laws that they need (Sx7, M, P, YP, YQ, YB, YE, YF, YG, YH, YI, YJ, K1, K2, K3, K4, K5, K6, K7). -/
import Derived.Test.YtlijjnjpomnphaaGreatDoorFnPyPIStagesB
import Derived.WalkKit
import Derived.Deep.LoopGhost
import Derived.BigQuiet
import Derived.Test.YtlijjnjpomnphaaGreatDoorProg
import Derived.Laws.Externs
import Derived.Shelf.Bits.Mul64
import Derived.LaidEql
set_option linter.unusedVariables false
set_option linter.unusedSimpArgs false
set_option maxHeartbeats 8000000
set_option maxRecDepth 100000
section
namespace Go.Proofs.YtlijjnjpomnphaaGreatDoor.S
open Go.RowKit YtlijjnjpomnphaaGreatDoorH YtlijjnjpomnphaaGreatDoorW.PrintWords YtlijjnjpomnphaaGreatDoorW.PrintLast YtlijjnjpomnphaaGreatDoorW.PrintMore
attribute [local go_sem] zhd zid zud ztd ztc zuc zgd zkd
def zx.l0 : Nat → ByteArray → List ByteArray → Int → Int → Option (List ByteArray)
 | 0, _, _, _, _ => none
 | k + 1, x0, x3, x4, x5 => if x5 < (x0.size : Int) then (if 0 ≤ x5 then (if (bt x0 x5) = 46 then (if 0 ≤ x4 then (if x4 ≤ x5 then (if x5 ≤ (x0.size : Int) then (if x3.length < 8796093022208 then (zx.l0 k x0 (x3 ++ [x0.extract (x4 : Int).toNat (x5 : Int).toNat]) (wrap64 (x5 + 1)) (wrap64 (x5 + 1))) else (none)) else (none)) else (none)) else (none)) else (if (bt x0 x5) = 95 then (if 0 ≤ x4 then (if x4 ≤ x5 then (if x5 ≤ (x0.size : Int) then (if x3.length < 8796093022208 then (zx.l0 k x0 (x3 ++ [x0.extract (x4 : Int).toNat (x5 : Int).toNat]) (wrap64 (x5 + 1)) (wrap64 (x5 + 1))) else (none)) else (none)) else (none)) else (none)) else (if (bt x0 x5) = 45 then (if 0 ≤ x4 then (if x4 ≤ x5 then (if x5 ≤ (x0.size : Int) then (if x3.length < 8796093022208 then (zx.l0 k x0 (x3 ++ [x0.extract (x4 : Int).toNat (x5 : Int).toNat]) (wrap64 (x5 + 1)) (wrap64 (x5 + 1))) else (none)) else (none)) else (none)) else (none)) else (zx.l0 k x0 x3 x4 (wrap64 (x5 + 1)))))) else (none)) else (if 0 ≤ x4 then (if x4 ≤ (x0.size : Int) then (if x3.length < 8796093022208 then (some (x3 ++ [x0.extract (x4 : Int).toNat x0.size])) else (none)) else (none)) else (none))
def zx.f (k : Nat) (a0 : ByteArray) : Option (List ByteArray) := zx.l0 k a0 ([] : List ByteArray) 0 0
theorem zx.calls (k : Nat) (a0 : ByteArray) (r : List ByteArray) (w : World) (h : zx.f k a0 = some r) :
  Calls Tryz.prog 110 #[.string a0] w fun e w' => ∃ v0_ : Value, e = .returned (v0_) ∧ Kd.R Kd.string 9 w' w.heap.size (fun _ => True) v0_ r ∧ Below w.heap.size w w' := by
 have HB := za.mk (Below.refl w.heap.size w)
 have H : (zx.l0 k a0 ([] : List ByteArray) 0 0) = some r := h
 clear h
 have H' := za.mk H
 clear H
 go_enter Tryz.func110, Tryz.ntmps110
 go_wp2
 (try simp only [Act.put, List.setIfInBounds_toArray, List.set_cons_zero, List.set_cons_succ])
 go_loopg [3, 4, 5] k (fun kq v3 v4 v5 w' => ∃ (x3_1 : List ByteArray) (x4_1 : Int) (x5_1 : Int), v4 = .int .i64 x4_1 ∧ v5 = .int .i64 x5_1 ∧ za (zx.l0 kq a0 x3_1 x4_1 x5_1 = some r) ∧ za (kq ≤ k) ∧ za (Kd.R Kd.string 9 w' w.heap.size (fun _ => True) v3 x3_1) ∧ za (Below w.heap.size w w'))
 case atStart => exact ⟨(([] : List ByteArray)), (0), (0), (by first | rfl | (simp; done) | (simp [*]; done) | (simp [zk]; done) | (simp [zk, *]; done)), (by first | rfl | (simp; done) | (simp [*]; done) | (simp [zk]; done) | (simp [zk, *]; done)), H', ⟨Nat.le_refl _⟩, ⟨by first | exact Kd.R_nil _ _ _ _ _ | exact Kd.N_nil _ _ _ _ _ | exact Kd.V_nil _ _ _ _ _ | exact Kd.Q_nil _ _ _ _ _ | exact Kd.S_nil _ _ _ _ _⟩, ⟨by repeat (first | (with_reducible first | exact HB.out | apply zm | apply zg | apply zu) | exact HB.out)⟩⟩
 case round =>
  clear H'
  try clear c1
  obtain ⟨x3_1, x4_1, x5_1, rfl, rfl, HA, HK1, HO_3, HB⟩ := hrel
  cases gk with
  | zero => exact absurd HA.out (by simp [zx.l0])
  | succ k1 =>
   have H := HA.out
   clear HA
   simp only [zx.l0] at H
   by_cases c2 : x5_1 < (a0.size : Int)
   ·rw [if_pos c2] at H
    have c2b0 : decide (x5_1 < (a0.size : Int)) = true := decide_eq_true c2
    clear c2
    by_cases c3 : 0 ≤ x5_1
    ·rw [if_pos c3] at H
     have c3b0 : decide (0 ≤ x5_1) = true := decide_eq_true c3
     clear c3
     by_cases c5 : (bt a0 x5_1) = 46
     ·rw [if_pos c5] at H
      have c5b0 : ((bt a0 x5_1) == 46) = true := beq_iff_eq.mpr c5
      have c5b1 : ((bt a0 x5_1) != 46) = false := bne_eq_false_iff_eq.mpr c5
      clear c5
      by_cases c6 : 0 ≤ x4_1
      ·rw [if_pos c6] at H
       have c6b0 := eq_true c6
       have c6b1 : decide (0 ≤ x4_1) = true := decide_eq_true c6
       clear c6
       by_cases c7 : x4_1 ≤ x5_1
       ·rw [if_pos c7] at H
        have c7b0 := eq_true c7
        have c7b1 : decide (x4_1 ≤ x5_1) = true := decide_eq_true c7
        clear c7
        by_cases c8 : x5_1 ≤ (a0.size : Int)
        ·rw [if_pos c8] at H
         have c8b0 := eq_true c8
         have c8b1 : decide (x5_1 ≤ (a0.size : Int)) = true := decide_eq_true c8
         clear c8
         by_cases c9 : x3_1.length < 8796093022208
         ·rw [if_pos c9] at H
          have LMc9 := za.mk c9
          clear c9
          obtain ⟨y186, hy186⟩ : ∃ y_ : List ByteArray, y_ = (x3_1 ++ [a0.extract (x4_1 : Int).toNat (x5_1 : Int).toNat]) := ⟨_, rfl⟩
          replace H : (zx.l0 k1 a0 y186 (wrap64 (x5_1 + 1)) (wrap64 (x5_1 + 1))) = some r := by first | (rw [hy186]; with_reducible exact H) | (have H2_ := (Option.bind_some _ _).symm.trans H; rw [hy186]; with_reducible exact H2_) | (have H2_ := (Option.bind_some _ _).symm.trans H; with_reducible exact H2_) | with_reducible exact H | (rw [hy186]; exact H) | exact H
          have Ny186 := za.mk hy186
          clear hy186
          have H' := za.mk H
          clear H
          have p4 : 0 ≤ (x5_1 : Int) := of_decide_eq_true (by first | (with_reducible assumption) | assumption)
          have q4 : x5_1 < (a0.size : Int) := of_decide_eq_true (by first | (with_reducible assumption) | assumption)
          have hx4 := bt_at a0 x5_1
          replace p4 := eq_true p4
          replace q4 := eq_true q4
          go_wp2_with (first | ((with_reducible refine zzb (b := .append) (xs := #[.tmp 28, .tmp 33]) rfl ?_); at_builtin; refine Kd.R_append Kd.string (w0 := w) w.heap.size rfl (.tmp 28) (.tmp 33) 24 9 (.string ⟨#[]⟩) 16 rfl Tryz.underlying24 info9 rfl (by decide) (by omega) u3 x3_1 (a0.extract (x4_1 : Int).toNat (x5_1 : Int).toNat) [.string (a0.extract (x4_1 : Int).toNat (x5_1 : Int).toNat)] (fun _ => True) (fun _ => False) rfl rfl ?aP (fun _ hk => hk.elim) ?aF ?aO ?aB ?aS ?aL ?_; (case aP => exact rfl); (case aB => exact (by repeat (first | (with_reducible first | exact HB.out | apply zm | apply zg | apply zu) | exact HB.out))); (case aF => exact (fun _ _ => trivial)); (case aO => exact (by (with_reducible repeat (first | apply Kd.R_alloc | apply Kd.R_drewN | apply Kd.R_drew)); exact HO_3.out)); (case aS => exact (zdb (by repeat (first | (with_reducible first | exact HB.out | apply zm | apply zg | apply zu) | exact HB.out)))); (case aL => have := LMc9.out; omega); intro v187 w10 ho hb hg hat; rw [← Ny186.out] at ho; have n0_ := za.mk (hb); have n1_ := za.mk (ho); clear HB; clear HO_3; have HB := n0_; have HO188 := n1_; clear n0_ n1_; clear ho hb hg hat))
          go_roundg k1
          case measure => have := HK1.out; omega
          case rel => exact ⟨(y186), (wrap64 (x5_1 + 1)), (wrap64 (x5_1 + 1)), (by first | rfl | (simp; done) | (simp [*]; done) | (simp [zk]; done) | (simp [zk, *]; done)), (by first | rfl | (simp; done) | (simp [*]; done) | (simp [zk]; done) | (simp [zk, *]; done)), H', ⟨by have := HK1.out; omega⟩, ⟨by (with_reducible repeat (first | apply Kd.R_alloc | apply Kd.R_drewN | apply Kd.R_drew)); exact HO188.out⟩, ⟨by repeat (first | (with_reducible first | exact HB.out | apply zm | apply zg | apply zu) | exact HB.out)⟩⟩
         ·rw [if_neg c9] at H
          exact absurd H (by simp)
        ·rw [if_neg c8] at H
         exact absurd H (by simp)
       ·rw [if_neg c7] at H
        exact absurd H (by simp)
      ·rw [if_neg c6] at H
       exact absurd H (by simp)
     ·rw [if_neg c5] at H
      have c5b0 : ((bt a0 x5_1) == 46) = false := beq_eq_false_iff_ne.mpr c5
      have c5b1 : ((bt a0 x5_1) != 46) = true := bne_iff_ne.mpr c5
      by_cases c12 : (bt a0 x5_1) = 95
      ·rw [if_pos c12] at H
       have c12b0 : ((bt a0 x5_1) == 95) = true := beq_iff_eq.mpr c12
       have c12b1 : ((bt a0 x5_1) != 95) = false := bne_eq_false_iff_eq.mpr c12
       clear c12
       by_cases c13 : 0 ≤ x4_1
       ·rw [if_pos c13] at H
        have c13b0 := eq_true c13
        have c13b1 : decide (0 ≤ x4_1) = true := decide_eq_true c13
        clear c13
        by_cases c14 : x4_1 ≤ x5_1
        ·rw [if_pos c14] at H
         have c14b0 := eq_true c14
         have c14b1 : decide (x4_1 ≤ x5_1) = true := decide_eq_true c14
         clear c14
         by_cases c15 : x5_1 ≤ (a0.size : Int)
         ·rw [if_pos c15] at H
          have c15b0 := eq_true c15
          have c15b1 : decide (x5_1 ≤ (a0.size : Int)) = true := decide_eq_true c15
          clear c15
          by_cases c16 : x3_1.length < 8796093022208
          ·rw [if_pos c16] at H
           have LMc16 := za.mk c16
           clear c16
           obtain ⟨y189, hy189⟩ : ∃ y_ : List ByteArray, y_ = (x3_1 ++ [a0.extract (x4_1 : Int).toNat (x5_1 : Int).toNat]) := ⟨_, rfl⟩
           replace H : (zx.l0 k1 a0 y189 (wrap64 (x5_1 + 1)) (wrap64 (x5_1 + 1))) = some r := by first | (rw [hy189]; with_reducible exact H) | (have H2_ := (Option.bind_some _ _).symm.trans H; rw [hy189]; with_reducible exact H2_) | (have H2_ := (Option.bind_some _ _).symm.trans H; with_reducible exact H2_) | with_reducible exact H | (rw [hy189]; exact H) | exact H
           have Ny189 := za.mk hy189
           clear hy189
           have H' := za.mk H
           clear H
           have p4 : 0 ≤ (x5_1 : Int) := of_decide_eq_true (by first | (with_reducible assumption) | assumption)
           have q4 : x5_1 < (a0.size : Int) := of_decide_eq_true (by first | (with_reducible assumption) | assumption)
           have hx4 := bt_at a0 x5_1
           replace p4 := eq_true p4
           replace q4 := eq_true q4
           have p11 : 0 ≤ (x5_1 : Int) := of_decide_eq_true (by first | (with_reducible assumption) | assumption)
           have q11 : x5_1 < (a0.size : Int) := of_decide_eq_true (by first | (with_reducible assumption) | assumption)
           have hx11 := bt_at a0 x5_1
           replace p11 := eq_true p11
           replace q11 := eq_true q11
           go_wp2_with (first | ((with_reducible refine zzb (b := .append) (xs := #[.tmp 28, .tmp 33]) rfl ?_); at_builtin; refine Kd.R_append Kd.string (w0 := w) w.heap.size rfl (.tmp 28) (.tmp 33) 24 9 (.string ⟨#[]⟩) 16 rfl Tryz.underlying24 info9 rfl (by decide) (by omega) u3 x3_1 (a0.extract (x4_1 : Int).toNat (x5_1 : Int).toNat) [.string (a0.extract (x4_1 : Int).toNat (x5_1 : Int).toNat)] (fun _ => True) (fun _ => False) rfl rfl ?aP (fun _ hk => hk.elim) ?aF ?aO ?aB ?aS ?aL ?_; (case aP => exact rfl); (case aB => exact (by repeat (first | (with_reducible first | exact HB.out | apply zm | apply zg | apply zu) | exact HB.out))); (case aF => exact (fun _ _ => trivial)); (case aO => exact (by (with_reducible repeat (first | apply Kd.R_alloc | apply Kd.R_drewN | apply Kd.R_drew)); exact HO_3.out)); (case aS => exact (zdb (by repeat (first | (with_reducible first | exact HB.out | apply zm | apply zg | apply zu) | exact HB.out)))); (case aL => have := LMc16.out; omega); intro v190 w17 ho hb hg hat; rw [← Ny189.out] at ho; have n0_ := za.mk (hb); have n1_ := za.mk (ho); clear HB; clear HO_3; have HB := n0_; have HO191 := n1_; clear n0_ n1_; clear ho hb hg hat))
           go_roundg k1
           case measure => have := HK1.out; omega
           case rel => exact ⟨(y189), (wrap64 (x5_1 + 1)), (wrap64 (x5_1 + 1)), (by first | rfl | (simp; done) | (simp [*]; done) | (simp [zk]; done) | (simp [zk, *]; done)), (by first | rfl | (simp; done) | (simp [*]; done) | (simp [zk]; done) | (simp [zk, *]; done)), H', ⟨by have := HK1.out; omega⟩, ⟨by (with_reducible repeat (first | apply Kd.R_alloc | apply Kd.R_drewN | apply Kd.R_drew)); exact HO191.out⟩, ⟨by repeat (first | (with_reducible first | exact HB.out | apply zm | apply zg | apply zu) | exact HB.out)⟩⟩
          ·rw [if_neg c16] at H
           exact absurd H (by simp)
         ·rw [if_neg c15] at H
          exact absurd H (by simp)
        ·rw [if_neg c14] at H
         exact absurd H (by simp)
       ·rw [if_neg c13] at H
        exact absurd H (by simp)
      ·rw [if_neg c12] at H
       have c12b0 : ((bt a0 x5_1) == 95) = false := beq_eq_false_iff_ne.mpr c12
       have c12b1 : ((bt a0 x5_1) != 95) = true := bne_iff_ne.mpr c12
       by_cases c19 : (bt a0 x5_1) = 45
       ·rw [if_pos c19] at H
        have c19b0 : ((bt a0 x5_1) == 45) = true := beq_iff_eq.mpr c19
        have c19b1 : ((bt a0 x5_1) != 45) = false := bne_eq_false_iff_eq.mpr c19
        clear c19
        by_cases c20 : 0 ≤ x4_1
        ·rw [if_pos c20] at H
         have c20b0 := eq_true c20
         have c20b1 : decide (0 ≤ x4_1) = true := decide_eq_true c20
         clear c20
         by_cases c21 : x4_1 ≤ x5_1
         ·rw [if_pos c21] at H
          have c21b0 := eq_true c21
          have c21b1 : decide (x4_1 ≤ x5_1) = true := decide_eq_true c21
          clear c21
          by_cases c22 : x5_1 ≤ (a0.size : Int)
          ·rw [if_pos c22] at H
           have c22b0 := eq_true c22
           have c22b1 : decide (x5_1 ≤ (a0.size : Int)) = true := decide_eq_true c22
           clear c22
           by_cases c23 : x3_1.length < 8796093022208
           ·rw [if_pos c23] at H
            have LMc23 := za.mk c23
            clear c23
            obtain ⟨y192, hy192⟩ : ∃ y_ : List ByteArray, y_ = (x3_1 ++ [a0.extract (x4_1 : Int).toNat (x5_1 : Int).toNat]) := ⟨_, rfl⟩
            replace H : (zx.l0 k1 a0 y192 (wrap64 (x5_1 + 1)) (wrap64 (x5_1 + 1))) = some r := by first | (rw [hy192]; with_reducible exact H) | (have H2_ := (Option.bind_some _ _).symm.trans H; rw [hy192]; with_reducible exact H2_) | (have H2_ := (Option.bind_some _ _).symm.trans H; with_reducible exact H2_) | with_reducible exact H | (rw [hy192]; exact H) | exact H
            have Ny192 := za.mk hy192
            clear hy192
            have H' := za.mk H
            clear H
            have p4 : 0 ≤ (x5_1 : Int) := of_decide_eq_true (by first | (with_reducible assumption) | assumption)
            have q4 : x5_1 < (a0.size : Int) := of_decide_eq_true (by first | (with_reducible assumption) | assumption)
            have hx4 := bt_at a0 x5_1
            replace p4 := eq_true p4
            replace q4 := eq_true q4
            have p11 : 0 ≤ (x5_1 : Int) := of_decide_eq_true (by first | (with_reducible assumption) | assumption)
            have q11 : x5_1 < (a0.size : Int) := of_decide_eq_true (by first | (with_reducible assumption) | assumption)
            have hx11 := bt_at a0 x5_1
            replace p11 := eq_true p11
            replace q11 := eq_true q11
            have p18 : 0 ≤ (x5_1 : Int) := of_decide_eq_true (by first | (with_reducible assumption) | assumption)
            have q18 : x5_1 < (a0.size : Int) := of_decide_eq_true (by first | (with_reducible assumption) | assumption)
            have hx18 := bt_at a0 x5_1
            replace p18 := eq_true p18
            replace q18 := eq_true q18
            go_wp2_with (first | ((with_reducible refine zzb (b := .append) (xs := #[.tmp 28, .tmp 33]) rfl ?_); at_builtin; refine Kd.R_append Kd.string (w0 := w) w.heap.size rfl (.tmp 28) (.tmp 33) 24 9 (.string ⟨#[]⟩) 16 rfl Tryz.underlying24 info9 rfl (by decide) (by omega) u3 x3_1 (a0.extract (x4_1 : Int).toNat (x5_1 : Int).toNat) [.string (a0.extract (x4_1 : Int).toNat (x5_1 : Int).toNat)] (fun _ => True) (fun _ => False) rfl rfl ?aP (fun _ hk => hk.elim) ?aF ?aO ?aB ?aS ?aL ?_; (case aP => exact rfl); (case aB => exact (by repeat (first | (with_reducible first | exact HB.out | apply zm | apply zg | apply zu) | exact HB.out))); (case aF => exact (fun _ _ => trivial)); (case aO => exact (by (with_reducible repeat (first | apply Kd.R_alloc | apply Kd.R_drewN | apply Kd.R_drew)); exact HO_3.out)); (case aS => exact (zdb (by repeat (first | (with_reducible first | exact HB.out | apply zm | apply zg | apply zu) | exact HB.out)))); (case aL => have := LMc23.out; omega); intro v193 w24 ho hb hg hat; rw [← Ny192.out] at ho; have n0_ := za.mk (hb); have n1_ := za.mk (ho); clear HB; clear HO_3; have HB := n0_; have HO194 := n1_; clear n0_ n1_; clear ho hb hg hat))
            go_roundg k1
            case measure => have := HK1.out; omega
            case rel => exact ⟨(y192), (wrap64 (x5_1 + 1)), (wrap64 (x5_1 + 1)), (by first | rfl | (simp; done) | (simp [*]; done) | (simp [zk]; done) | (simp [zk, *]; done)), (by first | rfl | (simp; done) | (simp [*]; done) | (simp [zk]; done) | (simp [zk, *]; done)), H', ⟨by have := HK1.out; omega⟩, ⟨by (with_reducible repeat (first | apply Kd.R_alloc | apply Kd.R_drewN | apply Kd.R_drew)); exact HO194.out⟩, ⟨by repeat (first | (with_reducible first | exact HB.out | apply zm | apply zg | apply zu) | exact HB.out)⟩⟩
           ·rw [if_neg c23] at H
            exact absurd H (by simp)
          ·rw [if_neg c22] at H
           exact absurd H (by simp)
         ·rw [if_neg c21] at H
          exact absurd H (by simp)
        ·rw [if_neg c20] at H
         exact absurd H (by simp)
       ·rw [if_neg c19] at H
        have c19b0 : ((bt a0 x5_1) == 45) = false := beq_eq_false_iff_ne.mpr c19
        have c19b1 : ((bt a0 x5_1) != 45) = true := bne_iff_ne.mpr c19
        have H' := za.mk H
        clear H
        have p4 : 0 ≤ (x5_1 : Int) := of_decide_eq_true (by first | (with_reducible assumption) | assumption)
        have q4 : x5_1 < (a0.size : Int) := of_decide_eq_true (by first | (with_reducible assumption) | assumption)
        have hx4 := bt_at a0 x5_1
        replace p4 := eq_true p4
        replace q4 := eq_true q4
        have p11 : 0 ≤ (x5_1 : Int) := of_decide_eq_true (by first | (with_reducible assumption) | assumption)
        have q11 : x5_1 < (a0.size : Int) := of_decide_eq_true (by first | (with_reducible assumption) | assumption)
        have hx11 := bt_at a0 x5_1
        replace p11 := eq_true p11
        replace q11 := eq_true q11
        have p18 : 0 ≤ (x5_1 : Int) := of_decide_eq_true (by first | (with_reducible assumption) | assumption)
        have q18 : x5_1 < (a0.size : Int) := of_decide_eq_true (by first | (with_reducible assumption) | assumption)
        have hx18 := bt_at a0 x5_1
        replace p18 := eq_true p18
        replace q18 := eq_true q18
        go_wp2
        go_roundg k1
        case measure => have := HK1.out; omega
        case rel => exact ⟨(x3_1), (x4_1), (wrap64 (x5_1 + 1)), (by first | rfl | (simp; done) | (simp [*]; done) | (simp [zk]; done) | (simp [zk, *]; done)), (by first | rfl | (simp; done) | (simp [*]; done) | (simp [zk]; done) | (simp [zk, *]; done)), H', ⟨by have := HK1.out; omega⟩, ⟨by (with_reducible repeat (first | apply Kd.R_alloc | apply Kd.R_drewN | apply Kd.R_drew)); exact HO_3.out⟩, ⟨by repeat (first | (with_reducible first | exact HB.out | apply zm | apply zg | apply zu) | exact HB.out)⟩⟩
    ·rw [if_neg c3] at H
     exact absurd H (by simp)
   ·rw [if_neg c2] at H
    have c2b0 : decide (x5_1 < (a0.size : Int)) = false := decide_eq_false c2
    clear c2
    by_cases c25 : 0 ≤ x4_1
    ·rw [if_pos c25] at H
     have c25b0 := eq_true c25
     have c25b1 : decide (0 ≤ x4_1) = true := decide_eq_true c25
     clear c25
     by_cases c26 : x4_1 ≤ (a0.size : Int)
     ·rw [if_pos c26] at H
      have c26b0 := eq_true c26
      have c26b1 : decide (x4_1 ≤ (a0.size : Int)) = true := decide_eq_true c26
      clear c26
      by_cases c27 : x3_1.length < 8796093022208
      ·rw [if_pos c27] at H
       have LMc27 := za.mk c27
       clear c27
       obtain ⟨y195, hy195⟩ : ∃ y_ : List ByteArray, y_ = (x3_1 ++ [a0.extract (x4_1 : Int).toNat a0.size]) := ⟨_, rfl⟩
       replace H : (some y195) = some r := by first | (rw [hy195]; with_reducible exact H) | (have H2_ := (Option.bind_some _ _).symm.trans H; rw [hy195]; with_reducible exact H2_) | (have H2_ := (Option.bind_some _ _).symm.trans H; with_reducible exact H2_) | with_reducible exact H | (rw [hy195]; exact H) | exact H
       have Ny195 := za.mk hy195
       clear hy195
       obtain rfl := Option.some.inj H
       go_wp2_with (first | ((with_reducible refine zzb (b := .append) (xs := #[.tmp 37, .tmp 41]) rfl ?_); at_builtin; refine Kd.R_append Kd.string (w0 := w) w.heap.size rfl (.tmp 37) (.tmp 41) 24 9 (.string ⟨#[]⟩) 16 rfl Tryz.underlying24 info9 rfl (by decide) (by omega) u3 x3_1 (a0.extract (x4_1 : Int).toNat a0.size) [.string (a0.extract (x4_1 : Int).toNat a0.size)] (fun _ => True) (fun _ => False) rfl rfl ?aP (fun _ hk => hk.elim) ?aF ?aO ?aB ?aS ?aL ?_; (case aP => exact rfl); (case aB => exact (by repeat (first | (with_reducible first | exact HB.out | apply zm | apply zg | apply zu) | exact HB.out))); (case aF => exact (fun _ _ => trivial)); (case aO => exact (by (with_reducible repeat (first | apply Kd.R_alloc | apply Kd.R_drewN | apply Kd.R_drew)); exact HO_3.out)); (case aS => exact (zdb (by repeat (first | (with_reducible first | exact HB.out | apply zm | apply zg | apply zu) | exact HB.out)))); (case aL => have := LMc27.out; omega); intro v196 w28 ho hb hg hat; rw [← Ny195.out] at ho; have n0_ := za.mk (hb); have n1_ := za.mk (ho); clear HB; clear HO_3; have HB := n0_; have HO197 := n1_; clear n0_ n1_; clear ho hb hg hat))
       go_ret
       exact ⟨_, by first | rfl | (simp [zyg, zvg] <;> rfl) | (simp [*, zyg, zvg] <;> rfl) | (simp [zk]; done), by (with_reducible repeat (first | apply Kd.R_alloc | apply Kd.R_drewN | apply Kd.R_drew)); exact HO197.out, by repeat (first | (with_reducible first | exact HB.out | apply zm | apply zg | apply zu) | exact HB.out)⟩
      ·rw [if_neg c27] at H
       exact absurd H (by simp)
     ·rw [if_neg c26] at H
      exact absurd H (by simp)
    ·rw [if_neg c25] at H
     exact absurd H (by simp)
def zt.l0 : Nat → List ByteArray → List ByteArray → Int → Int → Option (List ByteArray)
 | 0, _, _, _, _ => none
 | k + 1, x2, x6, x7, x8 => if x8 < x7 then (if 0 ≤ x8 then (if x8 < (x6.length : Int) then ((zrb.f (rdOf ByteArray.empty x6 x8)).bind fun t202 => (if x2.length < 8796093022208 then (zt.l0 k (x2 ++ [t202]) x6 x7 (wrap64 (x8 + 1))) else (none))) else (none)) else (none)) else (some x2)
def zt.f (k : Nat) (a0 : ByteArray) : Option (List ByteArray) := (zx.f k a0).bind fun t198 => (zt.l0 k ([] : List ByteArray) t198 (t198.length : Int) 0)
theorem zt.calls (k : Nat) (a0 : ByteArray) (r : List ByteArray) (w : World) (h : zt.f k a0 = some r) :
  Calls Tryz.prog 73 #[.string a0] w fun e w' => ∃ v0_ : Value, e = .returned (v0_) ∧ Kd.R Kd.string 9 w' w.heap.size (fun _ => True) v0_ r ∧ Below w.heap.size w w' := by
 have HB := za.mk (Below.refl w.heap.size w)
 have H : ((zx.f k a0).bind fun t198 => (zt.l0 k ([] : List ByteArray) t198 (t198.length : Int) 0)) = some r := h
 clear h
 replace H := Option.bind_eq_some_iff.mp H
 obtain ⟨t198, A20, H⟩ := H
 replace H : (zt.l0 k ([] : List ByteArray) t198 (t198.length : Int) 0) = some r := H
 have A2 := za.mk A20
 clear A20
 have H' := za.mk H
 clear H
 go_enter Tryz.func73, Tryz.ntmps73
 go_wp2_with (first | ((with_reducible refine zcb (f := 110) rfl ?_); refine zxb (some 6) rfl rfl Tryz.func110 (by kernel_rfl) rfl #[.string a0] rfl (by (try simp only [List.map_toArray, List.map_cons, List.map_nil]); first | done | rfl | (simp only [List.length_drop, List.length_take]; rfl)) ?_; (with_reducible refine (zx.calls k a0 t198 _ A2.out).mono ?_); rintro e w3 ⟨v199, rfl, ho0, hb⟩; refine ⟨_, rfl, ?_⟩; have n0_ := za.mk (Kd.R_lower ho0 (zdb (by repeat (first | (with_reducible first | exact HB.out | apply zm | apply zg | apply zu) | exact HB.out)))); have n1_ := za.mk (zeb (by repeat (first | (with_reducible first | exact HB.out | apply zm | apply zg | apply zu) | exact HB.out)) hb); clear HB; have HO200 := n0_; have HB := n1_; clear n0_ n1_; (try clear hb); (try clear hb2); (try clear hk); (try clear hi); (try clear ho0); obtain ⟨Ao4, co4, eo4⟩ := Kd.R_slice HO200.out; subst eo4))
 (try simp only [Act.put, List.setIfInBounds_toArray, List.set_cons_zero, List.set_cons_succ])
 go_loopg [2, 8] k (fun kq v2 v8 w' => ∃ (x2_1 : List ByteArray) (x8_1 : Int), v8 = .int .i64 x8_1 ∧ za (zt.l0 kq x2_1 t198 (t198.length : Int) x8_1 = some r) ∧ za (kq ≤ k) ∧ za (Kd.R Kd.string 9 w' w.heap.size (fun k_ => some k_ ≠ ((.slice Ao4 t198.length co4) : Value).ownBlock) v2 x2_1) ∧ za (Kd.R Kd.string 9 w' w.heap.size (fun k_ => some k_ ≠ (v2 : Value).ownBlock) (.slice Ao4 t198.length co4) t198) ∧ za (Below w.heap.size w w'))
 case atStart => exact ⟨(([] : List ByteArray)), (0), (by first | rfl | (simp; done) | (simp [*]; done) | (simp [zk]; done) | (simp [zk, *]; done)), H', ⟨Nat.le_refl _⟩, ⟨by first | exact Kd.R_nil _ _ _ _ _ | exact Kd.N_nil _ _ _ _ _ | exact Kd.V_nil _ _ _ _ _ | exact Kd.Q_nil _ _ _ _ _ | exact Kd.S_nil _ _ _ _ _⟩, ⟨by (with_reducible repeat (first | apply Kd.R_alloc | apply Kd.R_drewN | apply Kd.R_drew)); exact Kd.R_mono HO200.out (fun _ hk => (by simp [Value.ownBlock]))⟩, ⟨by repeat (first | (with_reducible first | exact HB.out | apply zm | apply zg | apply zu) | exact HB.out)⟩⟩
 case round =>
  clear H'
  try clear c1
  try clear p2
  obtain ⟨x2_1, x8_1, rfl, HA, HK1, HO_2, HO_6, HB⟩ := hrel
  cases gk with
  | zero => exact absurd HA.out (by simp [zt.l0])
  | succ k1 =>
   have H := HA.out
   clear HA
   simp only [zt.l0] at H
   by_cases c5 : x8_1 < (t198.length : Int)
   ·rw [if_pos c5] at H
    have c5b0 : decide (x8_1 < (t198.length : Int)) = true := decide_eq_true c5
    clear c5
    by_cases c6 : 0 ≤ x8_1
    ·rw [if_pos c6] at H
     have c6b0 : decide (0 ≤ x8_1) = true := decide_eq_true c6
     clear c6
     by_cases c7 : x8_1 < (t198.length : Int)
     ·rw [if_pos c7] at H
      have c7b0 : decide (x8_1 < (t198.length : Int)) = true := decide_eq_true c7
      clear c7
      replace H := Option.bind_eq_some_iff.mp H
      obtain ⟨t202, A80, H⟩ := H
      replace H : (if x2_1.length < 8796093022208 then (zt.l0 k1 (x2_1 ++ [t202]) t198 (t198.length : Int) (wrap64 (x8_1 + 1))) else (none)) = some r := H
      have A8 := za.mk A80
      clear A80
      by_cases c9 : x2_1.length < 8796093022208
      ·rw [if_pos c9] at H
       have LMc9 := za.mk c9
       clear c9
       obtain ⟨y203, hy203⟩ : ∃ y_ : List ByteArray, y_ = (x2_1 ++ [t202]) := ⟨_, rfl⟩
       replace H : (zt.l0 k1 y203 t198 (t198.length : Int) (wrap64 (x8_1 + 1))) = some r := by first | (rw [hy203]; with_reducible exact H) | (have H2_ := (Option.bind_some _ _).symm.trans H; rw [hy203]; with_reducible exact H2_) | (have H2_ := (Option.bind_some _ _).symm.trans H; with_reducible exact H2_) | with_reducible exact H | (rw [hy203]; exact H) | exact H
       have Ny203 := za.mk hy203
       clear hy203
       have H' := za.mk H
       clear H
       have p201 : 0 ≤ (x8_1 : Int) := of_decide_eq_true (by first | (with_reducible assumption) | assumption)
       have q201 : x8_1 < (t198.length : Int) := of_decide_eq_true (by first | (with_reducible assumption) | assumption)
       obtain ⟨ad201, e201, hx201_0⟩ := Kd.at_string (Kd.R_reads' HO_6.out).2.2 x8_1 p201 q201
       cases e201
       replace p201 := eq_true p201
       replace q201 := eq_true q201
       go_wp2_with (first | ((with_reducible refine zcb (f := 66) rfl ?_); refine zxb (some 14) rfl rfl Tryz.func66 (by kernel_rfl) rfl #[.string (rdOf ByteArray.empty t198 x8_1)] rfl (by (try simp only [List.map_toArray, List.map_cons, List.map_nil]); first | done | rfl | (simp only [List.length_drop, List.length_take]; rfl)) ?_; (with_reducible refine (zrb.calls (rdOf ByteArray.empty t198 x8_1) t202 _ A8.out).mono ?_); rintro e w10 ⟨rfl, hb⟩; refine ⟨_, rfl, ?_⟩; have n0_ := za.mk (Kd.R_below (by (with_reducible repeat (first | apply Kd.R_alloc | apply Kd.R_drewN | apply Kd.R_drew)); exact HO_2.out) hb); have n1_ := za.mk (Kd.R_below (by (with_reducible repeat (first | apply Kd.R_alloc | apply Kd.R_drewN | apply Kd.R_drew)); exact HO_6.out) hb); have n2_ := za.mk (zeb (by repeat (first | (with_reducible first | exact HB.out | apply zm | apply zg | apply zu) | exact HB.out)) hb); clear HO_2; clear HO_6; clear HB; have HO_2 := n0_; have HO_6 := n1_; have HB := n2_; clear n0_ n1_ n2_; (try clear hb); (try clear hb2); (try clear hk); (try clear hi)) | ((with_reducible refine zzb (b := .append) (xs := #[.tmp 12, .tmp 15]) rfl ?_); at_builtin; refine Kd.R_append Kd.string (w0 := w) w.heap.size rfl (.tmp 12) (.tmp 15) 24 9 (.string ⟨#[]⟩) 16 rfl Tryz.underlying24 info9 rfl (by decide) (by omega) u2 x2_1 t202 [.string t202] (fun k_ => some k_ ≠ (.slice (some ad201) t198.length co4 : Value).ownBlock) (fun _ => False) rfl rfl ?aP (fun _ hk => hk.elim) ?aF ?aO ?aB ?aS ?aL ?_; (case aP => exact rfl); (case aB => exact (by repeat (first | (with_reducible first | exact HB.out | apply zm | apply zg | apply zu) | exact HB.out))); (case aF => exact (fun k_ hk => Kd.fresh' (Kd.R_lt (by (with_reducible repeat (first | apply Kd.R_alloc | apply Kd.R_drewN | apply Kd.R_drew)); exact HO_6.out)) k_ hk)); (case aO => exact (by (with_reducible repeat (first | apply Kd.R_alloc | apply Kd.R_drewN | apply Kd.R_drew)); exact HO_2.out)); (case aS => exact (zdb (by repeat (first | (with_reducible first | exact HB.out | apply zm | apply zg | apply zu) | exact HB.out)))); (case aL => have := LMc9.out; omega); intro v204 w11 ho hb hg hat; rw [← Ny203.out] at ho; have n0_ := za.mk (Kd.R_after (ok := (fun _ => True)) (by (with_reducible repeat (first | apply Kd.R_alloc | apply Kd.R_drewN | apply Kd.R_drew)); exact Kd.R_mono HO_6.out (fun _ hk => ⟨trivial, hk⟩)) hg hat); have n1_ := za.mk (hb); have n2_ := za.mk (ho); clear HO_6; clear HB; clear HO_2; have HO_6 := n0_; have HB := n1_; have HO205 := n2_; clear n0_ n1_ n2_; clear ho hb hg hat))
       go_roundg k1
       case measure => have := HK1.out; omega
       case rel => exact ⟨(y203), (wrap64 (x8_1 + 1)), (by first | rfl | (simp; done) | (simp [*]; done) | (simp [zk]; done) | (simp [zk, *]; done)), H', ⟨by have := HK1.out; omega⟩, ⟨by (with_reducible repeat (first | apply Kd.R_alloc | apply Kd.R_drewN | apply Kd.R_drew)); exact HO205.out⟩, ⟨by (with_reducible repeat (first | apply Kd.R_alloc | apply Kd.R_drewN | apply Kd.R_drew)); exact Kd.R_mono HO_6.out (fun _ hk => hk.2)⟩, ⟨by repeat (first | (with_reducible first | exact HB.out | apply zm | apply zg | apply zu) | exact HB.out)⟩⟩
      ·rw [if_neg c9] at H
       exact absurd H (by simp)
     ·rw [if_neg c7] at H
      exact absurd H (by simp)
    ·rw [if_neg c6] at H
     exact absurd H (by simp)
   ·rw [if_neg c5] at H
    have c5b0 : decide (x8_1 < (t198.length : Int)) = false := decide_eq_false c5
    clear c5
    obtain rfl := Option.some.inj H
    go_wp2
    go_ret
    exact ⟨_, by first | rfl | (simp [zyg, zvg] <;> rfl) | (simp [*, zyg, zvg] <;> rfl) | (simp [zk]; done), by (with_reducible repeat (first | apply Kd.R_alloc | apply Kd.R_drewN | apply Kd.R_drew)); exact Kd.R_mono HO_2.out (fun _ hk => trivial), by repeat (first | (with_reducible first | exact HB.out | apply zm | apply zg | apply zu) | exact HB.out)⟩
end Go.Proofs.YtlijjnjpomnphaaGreatDoor.S
end
section
namespace Go.Proofs.YtlijjnjpomnphaaGreatDoorM
open Go.RowKit YtlijjnjpomnphaaGreatDoorB YtlijjnjpomnphaaGreatDoorW.PrintWords
def val : List Int → Nat
 | [] => 0
 | x :: m => x.toNat + 256 * val m
def Byt (m : List Int) : Prop := ∀ x ∈ m, 0 ≤ x ∧ x ≤ 255
theorem Byt.cons {x : Int} {m : List Int} (h : Byt (x :: m)) : (0 ≤ x ∧ x ≤ 255) ∧ Byt m := ⟨h x List.mem_cons_self, fun y hy => h y (List.mem_cons_of_mem _ hy)⟩
theorem Byt.mk_cons {x : Int} {m : List Int} (h : 0 ≤ x ∧ x ≤ 255) (k : Byt m) : Byt (x :: m) := fun y hy => (List.mem_cons.1 hy).elim (fun e => e ▸ h) (k y)
theorem Byt.append {l m : List Int} (h : Byt l) (k : Byt m) : Byt (l ++ m) := fun x hx => (List.mem_append.1 hx).elim (h x) (k x)
theorem val_lt : ∀ {m : List Int}, Byt m → val m < 256 ^ m.length
 | [], _ => by simp [val]
 | x :: m, h => by
  have h1 := h.cons.1
  have h2 := val_lt h.cons.2
  simp only [val, List.length_cons, Nat.pow_succ]
  generalize 256 ^ m.length = p at h2 ⊢
  omega
theorem val_snoc : ∀ (m : List Int) (x : Int), val (m ++ [x]) = val m + 256 ^ m.length * x.toNat
 | [], x => by simp [val]
 | y :: m, x => by
  simp only [List.cons_append, val, val_snoc m x, List.length_cons, Nat.pow_succ]
  rw [Nat.mul_add, Nat.mul_right_comm, Nat.mul_comm _ 256, Nat.add_assoc]
theorem val_inj : ∀ {m m' : List Int}, Byt m → Byt m' → m.length = m'.length → val m = val m' → m = m'
 | [], [], _, _, _, _ => rfl
 | [], _ :: _, _, _, h, _ => by simp at h
 | _ :: _, [], _, _, h, _ => by simp at h
 | x :: m, y :: m', h, h', hl, hv => by
  have h1 := h.cons.1
  have h2 := h'.cons.1
  simp only [val] at hv
  have e : x = y := by omega
  have e2 : val m = val m' := by omega
  rw [e, val_inj h.cons.2 h'.cons.2 (by simpa using hl) e2]
structure Tight (m : List Int) (n : Nat) : Prop where
 byt : Byt m
 eq : val m = n
 low : m ≠ [] → 256 ^ m.length ≤ 256 * n
theorem Tight.lt_len {m m' : List Int} {n n' : Nat} (h : Tight m n) (h' : Tight m' n') (hl : m.length < m'.length) : n < n' := by
 have h1 := val_lt h.byt
 rw [h.eq] at h1
 have h2 := h'.low (by intro e; rw [e] at hl; simp at hl)
 have h3 : 256 ^ (m.length + 1) ≤ 256 ^ m'.length := Nat.pow_le_pow_right (by omega) (by omega)
 rw [Nat.pow_succ] at h3
 generalize 256 ^ m.length = p at h1 h3
 generalize 256 ^ m'.length = q at h2 h3
 omega
theorem Tight.unique {m m' : List Int} {n : Nat} (h : Tight m n) (h' : Tight m' n) : m = m' := by
 refine val_inj h.byt h'.byt ?_ (h.eq.trans h'.eq.symm)
 rcases Nat.lt_trichotomy m.length m'.length with hl | hl | hl
 ·exact absurd (h.lt_len h' hl) (Nat.lt_irrefl n)
 ·exact hl
 ·exact absurd (h'.lt_len h hl) (Nat.lt_irrefl n)
def leB : Nat → Nat → List Int
 | 0, _ => []
 | k + 1, n => if n = 0 then [] else ((n % 256 : Nat) : Int) :: leB k (n / 256)
theorem leB_tight : ∀ (k n : Nat), n ≤ k → Tight (leB k n) n
 | 0, n, h => by
  have : n = 0 := by omega
  subst this
  exact ⟨fun x hx => by simp [leB] at hx, rfl, fun h => absurd rfl h⟩
 | k + 1, n, h => by
  simp only [leB]
  by_cases h0 : n = 0
  ·rw [if_pos h0]
   subst h0
   exact ⟨fun x hx => by simp at hx, rfl, fun h => absurd rfl h⟩
  ·rw [if_neg h0]
   have ih := leB_tight k (n / 256) (by omega)
   refine ⟨Byt.mk_cons (by omega) ih.byt, ?_, fun _ => ?_⟩
   ·simp only [val, ih.eq]; omega
   ·by_cases he : leB k (n / 256) = []
    ·rw [he]; simp; omega
    ·have := ih.low he
     rw [List.length_cons, Nat.pow_succ]
     generalize 256 ^ (leB k (n / 256)).length = p at this ⊢
     omega
def magL (n : Nat) : List Int := (leB n n).reverse
def magB (n : Nat) : ByteArray := strOfNums (magL n)
theorem Tight.mag {m : List Int} {n : Nat} (h : Tight m n) : m.reverse = magL n := by
 unfold magL
 rw [h.unique (leB_tight n n (Nat.le_refl n))]
def mul10 : List Int → Nat → List Int × Nat
 | [], c => ([], c)
 | x :: m, c => ((((c + 10 * x.toNat) % 256 : Nat) : Int) :: (mul10 m ((c + 10 * x.toNat) / 256)).1, (mul10 m ((c + 10 * x.toNat) / 256)).2)
theorem zwe : ∀ (m : List Int) (c : Nat), (mul10 m c).1.length = m.length
 | [], _ => rfl
 | x :: m, c => by simp only [mul10, List.length_cons, zwe m]
theorem mul10_byt : ∀ (m : List Int) (c : Nat), Byt (mul10 m c).1
 | [], _ => fun x hx => by simp [mul10] at hx
 | x :: m, c => by
  simp only [mul10]
  exact Byt.mk_cons (by omega) (mul10_byt m _)
theorem zmg : ∀ (m : List Int) (c : Nat), Byt m → c ≤ 9 → (mul10 m c).2 ≤ 9
 | [], c, _, h => h
 | x :: m, c, hb, h => by
  have := hb.cons.1
  simp only [mul10]
  exact zmg m _ hb.cons.2 (by omega)
theorem mul10_val : ∀ (m : List Int) (c : Nat), val (mul10 m c).1 + 256 ^ m.length * (mul10 m c).2 = 10 * val m + c
 | [], c => by simp [mul10, val]
 | x :: m, c => by
  have ih := mul10_val m ((c + 10 * x.toNat) / 256)
  simp only [mul10, val, List.length_cons, Nat.pow_succ, Int.toNat_natCast]
  rw [Nat.mul_comm (256 ^ m.length) 256, Nat.mul_assoc]
  generalize 256 ^ m.length * (mul10 m ((c + 10 * x.toNat) / 256)).2 = p at ih ⊢
  omega
def pushD (m : List Int) (d : Nat) : List Int := if (mul10 m d).2 > 0 then (mul10 m d).1 ++ [((mul10 m d).2 : Int)] else (mul10 m d).1
theorem push_tight {m : List Int} {n d : Nat} (h : Tight m n) (hd : d ≤ 9) : Tight (pushD m d) (10 * n + d) := by
 have h1 := zwe m d
 have h2 := mul10_byt m d
 have h3 := zmg m d h.byt hd
 have h4 := mul10_val m d
 rw [h.eq] at h4
 unfold pushD
 by_cases hc : (mul10 m d).2 > 0
 ·rw [if_pos hc]
  refine ⟨h2.append (fun x hx => ?_), ?_, fun _ => ?_⟩
  ·have : x = ((mul10 m d).2 : Int) := by simpa using hx
   omega
  ·rw [val_snoc, h1, Int.toNat_natCast]; exact h4
  ·rw [List.length_append, h1, List.length_cons, List.length_nil, Nat.pow_succ]
   have : 256 ^ m.length * 1 ≤ 256 ^ m.length * (mul10 m d).2 := Nat.mul_le_mul_left _ hc
   generalize 256 ^ m.length = p at this h4 ⊢
   omega
 ·rw [if_neg hc]
  have h0 : (mul10 m d).2 = 0 := by omega
  rw [h0] at h4
  refine ⟨h2, by simpa using h4, fun hne => ?_⟩
  have := h.low (fun e => hne (by subst e; rfl))
  rw [h1]
  omega
def decL (l : List Int) : Nat := l.foldl (fun n c => 10 * n + (c - 48).toNat) 0
theorem decL_snoc (l : List Int) (c : Int) : decL (l ++ [c]) = 10 * decL l + (c - 48).toNat := by simp [decL]
end Go.Proofs.YtlijjnjpomnphaaGreatDoorM
end
section
namespace Go.Proofs.YtlijjnjpomnphaaGreatDoorP
open Go.RowKit YtlijjnjpomnphaaGreatDoorB YtlijjnjpomnphaaGreatDoorM YtlijjnjpomnphaaGreatDoorW.PrintWords
theorem run_mem {p : Int → Bool} : ∀ {l : List Int} {c : Int}, c ∈ l.take (run p l) → p c = true
 | [], c, h => by simp at h
 | x :: l, c, h => by
  cases hx : p x with
  | false => rw [znc hx] at h; simp at h
  | true =>
   rw [zed hx, List.take_succ_cons] at h
   rcases List.mem_cons.1 h with rfl | h
   ·exact hx
   ·exact run_mem h
theorem run_stop {p : Int → Bool} : ∀ {l : List Int}, run p l < l.length → p (l.getD (run p l) 0) = false
 | [], h => by simp [zgf] at h
 | x :: l, h => by
  cases hx : p x with
  | false => rw [znc hx]; exact hx
  | true =>
   rw [zed hx] at h ⊢
   exact run_stop (l := l) (by simpa using h)
theorem zfh {p : Int → Bool} : ∀ {a b : List Int}, (∀ c ∈ a, p c = true) → run p (a ++ b) = a.length + run p b
 | [], b, _ => by simp
 | x :: a, b, h => by
  rw [List.cons_append, zed (h x List.mem_cons_self), zfh (fun c hc => h c (List.mem_cons_of_mem _ hc))]
  simp; omega
theorem run_all {p : Int → Bool} {a : List Int} (h : ∀ c ∈ a, p c = true) : run p a = a.length := by
 have := zfh (b := []) h
 simpa [zgf] using this
def isPt (c : Int) : Bool := decide (c = 46)
theorem splitP_pt (a b : List Int) : zsb isPt (a ++ 46 :: b) = zsb isPt a ++ zsb isPt b := by
 induction a with
 | nil => rfl
 | cons c a ih =>
  simp only [List.cons_append, zsb]
  split
  ·rw [ih]; rfl
  ·rw [ih]
   cases hs : zsb isPt a with
   | nil => exact absurd hs (zzd _ a)
   | cons x L => rfl
theorem splitP_one {l : List Int} (h : ∀ c ∈ l, c ≠ 46) : zsb isPt l = [l] := by
 induction l with
 | nil => rfl
 | cons c l ih =>
  simp only [zsb]
  rw [if_neg (by have := h c List.mem_cons_self; simp [isPt, this]), ih (fun x hx => h x (List.mem_cons_of_mem _ hx))]
  rfl
theorem take_run_ne {p : Int → Bool} {l : List Int} (h : run p l ≠ 0) : l.take (run p l) ≠ [] := by
 intro e
 have := congrArg List.length e
 have h1 := zce p l
 rw [List.length_take, List.length_nil] at this
 omega
theorem isD_pt {c : Int} (h : isD c = true) : c ≠ 46 := by
 unfold isD at h
 have := of_decide_eq_true h
 omega
end Go.Proofs.YtlijjnjpomnphaaGreatDoorP
end
section
namespace Go.Proofs.YtlijjnjpomnphaaGreatDoorY
open Go.RowKit YtlijjnjpomnphaaGreatDoorB YtlijjnjpomnphaaGreatDoorM YtlijjnjpomnphaaGreatDoorP YtlijjnjpomnphaaGreatDoorW.PrintWords
def isMk (c : Int) : Bool := decide (c = 46 ∨ c = 95 ∨ c = 45)
def isBl (c : Int) : Bool := decide (c = 32 ∨ c = 9 ∨ c = 10 ∨ c = 12 ∨ c = 13)
def isAn (c : Int) : Bool := isD c || isL c
def pref : List Int → List Int → Bool
 | [], _ => true
 | _ :: _, [] => false
 | x :: w, c :: a => decide (c = x) && pref w a
def unmk : List Int → List Int
 | [] => []
 | c :: r => if isMk c then r else c :: r
def dg (l : List Int) : List Int := l.take (run isD l)
def dr (l : List Int) : List Int := l.drop (run isD l)
def wAlpha : List Int := [97, 108, 112, 104, 97]
def wBeta : List Int := [98, 101, 116, 97]
def zdg : List Int := [112, 114, 101, 118, 105, 101, 119]
def wPre : List Int := [112, 114, 101]
def wRc : List Int := [114, 99]
def wPost : List Int := [112, 111, 115, 116]
def wRev : List Int := [114, 101, 118]
def wDev : List Int := [100, 101, 118]
def preC : List (List Int) := [wAlpha, wBeta, zdg, wPre, wRc, [97], [98], [99]]
def postC : List (List Int) := [wPost, wRev, [114]]
def devC : List (List Int) := [wDev]
def spell (w : List Int) : List Int := if w = wAlpha then [97] else if w = wBeta then [98] else if w = [99] ∨ w = wPre ∨ w = zdg then wRc else if w = wRev ∨ w = [114] then wPost else w
theorem pref_app : ∀ (w b : List Int), pref w (w ++ b) = true
 | [], _ => rfl
 | x :: w, b => by simp [pref, pref_app w b]
def zyc : List (List Int) → List Int → Option (List Int)
 | [], _ => none
 | w :: ws, l => if pref w l = true then some w else zyc ws l
theorem zog : ∀ {ws : List (List Int)} {l w : List Int}, zyc ws l = some w → w ∈ ws ∧ pref w l = true
 | [], _, _, h => by simp [zyc] at h
 | v :: ws, l, w, h => by
  simp only [zyc] at h
  by_cases hv : pref v l = true
  ·rw [if_pos hv] at h; cases h; exact ⟨List.mem_cons_self, hv⟩
  ·rw [if_neg hv] at h
   have := zog h
   exact ⟨List.mem_cons_of_mem _ this.1, this.2⟩
abbrev Way := Option (List Int × List Int) × List Int
def tail_ (w a : List Int) : Way := (some (w, dg (unmk (a.drop w.length))), dr (unmk (a.drop w.length)))
def zwc (ws : List (List Int)) (l : List Int) : Way := match zyc ws (unmk l) with
 | none => (none, l)
 | some w => tail_ w (unmk l)
def hyph : List Int → Option Way
 | c :: r => if c = 45 ∧ run isD r ≠ 0 then some (some (wPost, dg r), dr r) else none
 | [] => none
def gpre (l : List Int) : Way := zwc preC l
def gpost (l : List Int) : Way := match hyph l with
 | some x => x
 | none => zwc postC l
def gdev (l : List Int) : Way := zwc devC l
def localOK : List Int → Bool
 | [] => true
 | c :: r => decide (c = 43) && (zsb isMk r).all (fun w => decide (w ≠ []) && w.all isAn)
theorem zle {c : Int} {r : List Int} (h : isMk c = true) : unmk (c :: r) = r := by simp [unmk, h]
theorem zze {c : Int} {r : List Int} (h : isMk c = false) : unmk (c :: r) = c :: r := by simp [unmk, h]
theorem zdh {l : List Int} {x : Way} (h : hyph l = some x) : ∃ d r, l = 45 :: d :: r ∧ isD d = true ∧ x = (some (wPost, dg (d :: r)), dr (d :: r)) := by
 cases l with
 | nil => simp [hyph] at h
 | cons c r =>
  simp only [hyph] at h
  by_cases hc : c = 45 ∧ run isD r ≠ 0
  ·rw [if_pos hc] at h
   obtain ⟨rfl, hr⟩ := hc
   cases r with
   | nil => simp [zgf] at hr
   | cons d r =>
    cases hd : isD d with
    | false => rw [znc hd] at hr; exact absurd rfl hr
    | true => exact ⟨d, r, rfl, hd, (Option.some.inj h).symm⟩
  ·rw [if_neg hc] at h; cases h
theorem zng {d x : Int} (h : isD d = true) (hx : isD x = false) : d ≠ x := fun e => by rw [e, hx] at h; cases h
abbrev Three := Option (List Int × List Int) × Option (List Int × List Int) × Option (List Int × List Int) × List Int
def code3 (l : List Int) : Three := ((gpre l).1, (gpost (gpre l).2).1, (gdev (gpost (gpre l).2).2).1, (gdev (gpost (gpre l).2).2).2)
end Go.Proofs.YtlijjnjpomnphaaGreatDoorY
end
section
namespace Go.Proofs.YtlijjnjpomnphaaGreatDoorY
open Go.RowKit YtlijjnjpomnphaaGreatDoorB YtlijjnjpomnphaaGreatDoorM YtlijjnjpomnphaaGreatDoorP YtlijjnjpomnphaaGreatDoorW.PrintWords
def rels : Nat → List Int → List (List Int) × List Int
 | 0, l => ([dg l], dr l)
 | n + 1, l => match dr l with
  | [] => ([dg l], [])
  | c :: r => if c = 46 ∧ run isD r ≠ 0 then (dg l :: (rels n r).1, (rels n r).2) else ([dg l], c :: r)
def unV : List Int → List Int
 | [] => []
 | c :: r => if c = 118 then r else c :: r
def hasE (l : List Int) : Bool := decide (run isD l ≠ 0 ∧ (dr l).getD 0 0 = 33)
def epP (l : List Int) : List Int := if hasE l = true then dg l else []
def unE (l : List Int) : List Int := if hasE l = true then (dr l).drop 1 else l
def headP (l : List Int) : Option (List Int × List (List Int) × List Int) := if run isD (unE l) = 0 then none else some (epP l, (rels (unE l).length (unE l)).1, (rels (unE l).length (unE l)).2)
def zzc : Nat → List Int → Nat
 | 0, _ => 0
 | _ + 1, [] => 0
 | n + 1, c :: r => if isMk c = true ∧ run isAn r ≠ 0 then 1 + run isAn r + zzc n (r.drop (run isAn r)) else 0
def zbf (r : List Int) : Nat := run isAn r + zzc r.length (r.drop (run isAn r))
def locR : List Int → Option (List Int × List Int)
 | [] => some ([], [])
 | c :: r => if c = 43 then (if run isAn r = 0 then none else some (r.take (zbf r), r.drop (zbf r))) else some ([], c :: r)
structure PV where
 ep : List Int
 rel : List (List Int)
 pre : Option (List Int × List Int)
 post : Option (List Int × List Int)
 dev : Option (List Int × List Int)
 loc : List (List Int)
def codeV (t : List Int) : Option PV := (headP t).bind fun h => (locR (code3 h.2.2).2.2.2).bind fun r => if r.2.all isBl = true then some ⟨h.1, h.2.1, (code3 h.2.2).1, (code3 h.2.2).2.1, (code3 h.2.2).2.2.1, zsb isMk r.1⟩ else none
def Bls (bl : List Int) : Prop := ∀ c ∈ bl, isBl c = true
section
variable {bl : List Int} (h : Bls bl)
include h
end
theorem suf_dr (l : List Int) : dr l <:+ l := List.drop_suffix _ _
theorem suf_unmk (l : List Int) : unmk l <:+ l := by
 cases l with
 | nil => exact List.suffix_rfl
 | cons c r =>
  cases h : isMk c with
  | true => rw [zle h]; exact List.suffix_cons _ _
  | false => rw [zze h]; exact List.suffix_rfl
theorem zrf (ws : List (List Int)) (l : List Int) : (zwc ws l).2 <:+ l := by
 unfold zwc
 cases zyc ws (unmk l) with
 | none => exact List.suffix_rfl
 | some w => exact (suf_dr _).trans ((suf_unmk _).trans ((List.drop_suffix _ _).trans (suf_unmk l)))
theorem suf_gpost (l : List Int) : (gpost l).2 <:+ l := by
 unfold gpost
 cases e : hyph l with
 | some x =>
  obtain ⟨d, r, rfl, _, rfl⟩ := zdh e
  exact (suf_dr _).trans (List.suffix_cons _ _)
 | none => exact zrf _ _
theorem suf_code3 (l : List Int) : (code3 l).2.2.2 <:+ l := (zrf _ _).trans ((suf_gpost _).trans (zrf _ _))
theorem suf_rels : ∀ (n : Nat) (l : List Int), (rels n l).2 <:+ l
 | 0, l => suf_dr l
 | n + 1, l => by
  simp only [rels]
  have h := suf_dr l
  cases e : dr l with
  | nil => exact List.nil_suffix
  | cons c r =>
   rw [e] at h
   show (if c = 46 ∧ run isD r ≠ 0 then _ else _ : List (List Int) × List Int).2 <:+ l
   split
   ·exact (suf_rels n r).trans ((List.suffix_cons _ _).trans h)
   ·exact h
theorem suf_unE (l : List Int) : unE l <:+ l := by
 unfold unE
 split
 ·exact (List.drop_suffix _ _).trans (suf_dr l)
 ·exact List.suffix_rfl
theorem suf_head {t : List Int} {x : List Int × List (List Int) × List Int} (h : headP t = some x) : x.2.2 <:+ t := by
 unfold headP at h
 split at h
 ·cases h
 ·cases h
  exact (suf_rels _ _).trans (suf_unE t)
theorem isAn_mk {c : Int} (h : isMk c = true) : isAn c = false := by
 simp only [isMk, decide_eq_true_eq] at h
 simp only [isAn, isD, isL, Bool.or_eq_false_iff, decide_eq_false_iff_not]
 omega
def locOK : Nat → List Int → Bool
 | 0, _ => false
 | n + 1, l => decide (run isAn l ≠ 0) && (match l.drop (run isAn l) with
  | [] => true
  | c :: r => isMk c && locOK n r)
theorem split_an {l : List Int} (h : ∀ c ∈ l, isAn c = true) : zsb isMk l = [l] := by
 induction l with
 | nil => rfl
 | cons c l ih =>
  have hc : isMk c = false := by
   cases e : isMk c with
   | false => rfl
   | true => have := h c List.mem_cons_self; rw [isAn_mk e] at this; cases this
  simp only [zsb]
  rw [if_neg (by rw [hc]; simp), ih (fun x hx => h x (List.mem_cons_of_mem _ hx))]
  rfl
theorem split_mark {a : List Int} (h : ∀ c ∈ a, isAn c = true) {m : Int} (hm : isMk m = true) (r : List Int) : zsb isMk (a ++ m :: r) = a :: zsb isMk r := by
 induction a with
 | nil => simp [zsb, hm]
 | cons c a ih =>
  have hc : isMk c = false := by
   cases e : isMk c with
   | false => rfl
   | true => have := h c List.mem_cons_self; rw [isAn_mk e] at this; cases this
  simp only [List.cons_append, zsb]
  rw [if_neg (by rw [hc]; simp), ih (fun x hx => h x (List.mem_cons_of_mem _ hx))]
  rfl
def goodW (w : List Int) : Bool := decide (w ≠ []) && w.all isAn
theorem glue_bad {a : List Int} {L : List (List Int)} (hL : L ≠ []) {x : Int} (hx : x ∈ a) (h : isAn x = false) : (glue a L).all goodW = false := by
 cases L with
 | nil => exact absurd rfl hL
 | cons w L =>
  have : (a ++ w).all isAn = false := by
   rw [List.all_eq_false]
   exact ⟨x, List.mem_append_left _ hx, by simp [h]⟩
  simp [glue, goodW, this]
theorem zvf (p : Int → Bool) : ∀ (a b : List Int), (∀ c ∈ a, p c = false) → zsb p (a ++ b) = glue a (zsb p b)
 | [], b, _ => (glue_nil (zzd p b)).symm
 | c :: a, b, h => by
  simp only [List.cons_append, zsb]
  rw [if_neg (by rw [h c List.mem_cons_self]; simp), zvf p a b (fun x hx => h x (List.mem_cons_of_mem _ hx)), glue_glue]
  rfl
theorem take_run_mem {p : Int → Bool} (l : List Int) : ∀ c ∈ l.take (run p l), p c = true := fun c hc => run_mem hc
theorem split_good : ∀ (n : Nat) (l : List Int), l.length ≤ n → (zsb isMk l).all goodW = locOK (n + 1) l
 | n, l, hn => by
  have hmem := take_run_mem (p := isAn) l
  have hle := zce isAn l
  have hsplit : l = l.take (run isAn l) ++ l.drop (run isAn l) := (List.take_append_drop _ _).symm
  simp only [locOK]
  cases e : l.drop (run isAn l) with
  | nil =>
   have hall : l.take (run isAn l) = l := by rw [e, List.append_nil] at hsplit; exact hsplit.symm
   rw [hall] at hmem
   rw [split_an hmem]
   have h1 : run isAn l = l.length := run_all hmem
   have h2 : l.all isAn = true := List.all_eq_true.2 hmem
   simp only [List.all_cons, List.all_nil, Bool.and_true, goodW, h2, h1]
   rw [decide_eq_decide]
   exact ⟨fun h hz => h (List.length_eq_zero_iff.1 hz), fun h hz => h (by rw [hz]; rfl)⟩
  | cons c r =>
   have hc : isAn c = false := by
    have hlt : run isAn l < l.length := by
     have := congrArg List.length e
     rw [List.length_drop] at this
     simp at this
     omega
    have := run_stop hlt
    rw [zlc _ _ hlt] at e
    injection e with e1 _
    rw [← e1]; exact this
   have hr : r.length + 1 ≤ l.length := by
    have := congrArg List.length e
    rw [List.length_drop] at this
    simp at this
    omega
   cases hm : isMk c with
   | true =>
    conv => lhs; rw [hsplit, e, split_mark hmem hm]
    cases n with
    | zero => omega
    | succ n =>
     rw [List.all_cons, split_good n r (by omega)]
     have h2 : (l.take (run isAn l)).all isAn = true := List.all_eq_true.2 hmem
     simp only [goodW, h2, hm, Bool.and_true, Bool.true_and]
     congr 1
     rw [decide_eq_decide]
     refine ⟨fun h hz => h (by rw [hz]; rfl), fun h hz => ?_⟩
     have := congrArg List.length hz
     rw [List.length_take, List.length_nil] at this
     omega
   | false =>
    have e2 : zsb isMk l = glue (l.take (run isAn l) ++ [c]) (zsb isMk r) := by
     conv => lhs; rw [hsplit, e]
     rw [show l.take (run isAn l) ++ c :: r = (l.take (run isAn l) ++ [c]) ++ r by simp]
     refine zvf _ _ _ (fun x hx => ?_)
     rcases List.mem_append.1 hx with hx | hx
     ·cases e3 : isMk x with
      | false => rfl
      | true => have := hmem x hx; rw [isAn_mk e3] at this; cases this
     ·rw [List.mem_singleton.1 hx]; exact hm
    rw [e2, glue_bad (zzd _ _) (List.mem_append_right _ List.mem_cons_self) hc]
    simp [hm]
theorem locOK_len : ∀ (n m : Nat) (l : List Int), l.length ≤ n → l.length ≤ m → (locOK (n + 1) l = true ↔ run isAn l ≠ 0 ∧ run isAn l + zzc m (l.drop (run isAn l)) = l.length)
 | n, m, l, hn, hm => by
  have hle := zce isAn l
  simp only [locOK, Bool.and_eq_true, decide_eq_true_eq]
  refine and_congr_right (fun h0 => ?_)
  cases e : l.drop (run isAn l) with
  | nil =>
   have := congrArg List.length e
   rw [List.length_drop] at this
   have e2 : zzc m [] = 0 := by cases m <;> rfl
   simp only [e2, true_iff]
   simp at this
   omega
  | cons c r =>
   have hr : r.length + 1 + run isAn l = l.length := by
    have := congrArg List.length e
    rw [List.length_drop] at this
    simp at this
    omega
   have hrr := zce isAn r
   cases m with
   | zero => omega
   | succ m =>
    cases n with
    | zero => omega
    | succ n =>
     have ih := locOK_len n m r (by omega) (by omega)
     simp only [zzc]
     show (isMk c && locOK (n + 1) r) = true ↔ _
     rw [Bool.and_eq_true, ih]
     by_cases hc : isMk c = true ∧ run isAn r ≠ 0
     ·rw [if_pos hc]
      constructor
      ·rintro ⟨_, _, h2⟩; omega
      ·intro h2; exact ⟨hc.1, hc.2, by omega⟩
     ·rw [if_neg hc]
      constructor
      ·rintro ⟨h1, h2, _⟩; exact absurd ⟨h1, h2⟩ hc
      ·intro h2; omega
theorem localOK_iff (c : Int) (r : List Int) : localOK (c :: r) = true ↔ c = 43 ∧ run isAn r ≠ 0 ∧ zbf r = r.length := by
 simp only [localOK, Bool.and_eq_true, decide_eq_true_eq]
 refine and_congr_right (fun _ => ?_)
 have h := split_good r.length r (Nat.le_refl _)
 have h2 := locOK_len r.length r.length r (Nat.le_refl _) (Nat.le_refl _)
 unfold zbf
 rw [← h2, ← h]
 exact Iff.rfl
theorem unV_suf (l : List Int) : unV l <:+ l := by
 cases l with
 | nil => exact List.suffix_rfl
 | cons c r =>
  simp only [unV]
  split
  ·exact List.suffix_cons _ _
  ·exact List.suffix_rfl
end Go.Proofs.YtlijjnjpomnphaaGreatDoorY
end
section
namespace Go.Proofs.YtlijjnjpomnphaaGreatDoorY
open Go.RowKit YtlijjnjpomnphaaGreatDoorB YtlijjnjpomnphaaGreatDoorM YtlijjnjpomnphaaGreatDoorP YtlijjnjpomnphaaGreatDoorW.PrintWords
def Digs (d : List Int) : Prop := d ≠ [] ∧ ∀ c ∈ d, isD c = true
theorem Digs.cons {d : List Int} (h : Digs d) : ∃ c r, d = c :: r ∧ isD c = true := by
 cases d with
 | nil => exact absurd rfl h.1
 | cons c r => exact ⟨c, r, rfl, h.2 c List.mem_cons_self⟩
theorem run_digs {d r : List Int} (h : Digs d) (hr : run isD r = 0) : run isD (d ++ r) = d.length := by rw [zfh h.2, hr]; rfl
theorem dg_digs {d r : List Int} (h : Digs d) (hr : run isD r = 0) : dg (d ++ r) = d := by unfold dg; rw [run_digs h hr, List.take_left]
theorem zyf {d r : List Int} (h : Digs d) (hr : run isD r = 0) : dr (d ++ r) = r := by unfold dr; rw [run_digs h hr, List.drop_left]
theorem isD_mk {c : Int} (h : isD c = true) : isMk c = false := by simp only [isD, decide_eq_true_eq] at h; simp only [isMk, decide_eq_false_iff_not]; omega
theorem unmk_digs {d r : List Int} (h : Digs d) : unmk (d ++ r) = d ++ r := by
 obtain ⟨c, s, rfl, hc⟩ := h.cons
 exact zze (isD_mk hc)
theorem tail_digs (w : List Int) {d r : List Int} (h : Digs d) (hr : run isD r = 0) : tail_ w (w ++ (d ++ r)) = (some (w, d), r) := by
 unfold tail_
 rw [List.drop_left, unmk_digs h, dg_digs h hr, zyf h hr]
theorem tail_mdigs (w : List Int) {m : Int} (hm : isMk m = true) {d r : List Int} (h : Digs d) (hr : run isD r = 0) : tail_ w (w ++ m :: (d ++ r)) = (some (w, d), r) := by
 unfold tail_
 rw [List.drop_left, zle hm, dg_digs h hr, zyf h hr]
def relT : List (List Int) → List Int
 | [] => []
 | [d] => d
 | d :: e :: ds => d ++ 46 :: relT (e :: ds)
structure EndRel (r : List Int) : Prop where
 nd : run isD r = 0
 np : ∀ s, r = 46 :: s → run isD s = 0
 ne : r.getD 0 0 ≠ 33
theorem relT_head {d : List Int} {ds : List (List Int)} (h : Digs d) (r : List Int) : run isD (relT (d :: ds) ++ r) ≠ 0 := by
 obtain ⟨c, s, rfl, hc⟩ := h.cons
 cases ds with
 | nil => simp only [relT, List.cons_append]; rw [zed hc]; omega
 | cons e ds => simp only [relT, List.cons_append]; rw [zed hc]; omega
theorem zeh : ∀ (ds : List (List Int)) (n : Nat) (d : List Int), (∀ x ∈ d :: ds, Digs x) → ∀ r, EndRel r → (relT (d :: ds) ++ r).length ≤ n → rels n (relT (d :: ds) ++ r) = (d :: ds, r)
 | [], 0, d, h, r, hr, hn => by
  have := (h d List.mem_cons_self).1
  have h1 : 0 < d.length := List.length_pos_iff.2 this
  simp only [relT, List.length_append] at hn
  omega
 | [], n + 1, d, h, r, hr, hn => by
  have hd := h d List.mem_cons_self
  simp only [relT, rels]
  rw [dg_digs hd hr.nd, zyf hd hr.nd]
  cases r with
  | nil => rfl
  | cons c s =>
   show (if c = 46 ∧ run isD s ≠ 0 then _ else _) = _
   rw [if_neg]
   rintro ⟨rfl, h2⟩
   exact h2 (hr.np s rfl)
 | e :: ds, 0, d, h, r, hr, hn => by
  simp only [relT, List.length_append, List.length_cons] at hn
  omega
 | e :: ds, n + 1, d, h, r, hr, hn => by
  have hd := h d List.mem_cons_self
  have h0 : run isD (46 :: (relT (e :: ds) ++ r)) = 0 := znc (by decide)
  simp only [relT, rels]
  rw [List.append_assoc, List.cons_append, dg_digs hd h0, zyf hd h0]
  show (if 46 = 46 ∧ run isD (relT (e :: ds) ++ r) ≠ 0 then _ else _) = _
  rw [if_pos ⟨rfl, relT_head (h e (by simp)) r⟩, zeh ds n e (fun x hx => h x (List.mem_cons_of_mem _ hx)) r hr (by simp only [relT, List.length_append, List.length_cons] at hn; simp only [List.length_append]; omega)]
def epT : Option (List Int) → List Int
 | none => []
 | some e => e ++ [33]
theorem relT_dr {d : List Int} {ds : List (List Int)} (h : Digs d) {r : List Int} (hr : EndRel r) : (dr (relT (d :: ds) ++ r)).getD 0 0 ≠ 33 := by
 cases ds with
 | nil =>
  simp only [relT]
  rw [zyf h hr.nd]
  exact hr.ne
 | cons e ds =>
  simp only [relT]
  rw [List.append_assoc, List.cons_append, zyf h (znc (by decide))]
  show (46 : Int) ≠ 33
  decide
theorem headP_built (e : Option (List Int)) (he : ∀ x, e = some x → Digs x) {d : List Int} {ds : List (List Int)} (h : ∀ x ∈ d :: ds, Digs x) {r : List Int} (hr : EndRel r) :
  headP (epT e ++ (relT (d :: ds) ++ r)) = some (e.getD [], d :: ds, r) := by
 have hd := h d List.mem_cons_self
 have h1 := relT_head (ds := ds) hd r
 cases e with
 | none =>
  have e1 : hasE (relT (d :: ds) ++ r) = false := by
   unfold hasE
   rw [decide_eq_false_iff_not]
   rintro ⟨_, h2⟩
   exact relT_dr hd hr h2
  have e2 : unE (relT (d :: ds) ++ r) = relT (d :: ds) ++ r := by unfold unE; rw [e1]; rfl
  have e3 : epP (relT (d :: ds) ++ r) = [] := by unfold epP; rw [e1]; rfl
  show headP (relT (d :: ds) ++ r) = _
  unfold headP
  rw [e2, e3, if_neg h1, zeh ds _ d h r hr (Nat.le_refl _)]
  rfl
 | some x =>
  have hx := he x rfl
  have h0 : run isD (33 :: (relT (d :: ds) ++ r)) = 0 := znc (by decide)
  have ea : epT (some x) ++ (relT (d :: ds) ++ r) = x ++ 33 :: (relT (d :: ds) ++ r) := by simp [epT]
  rw [ea]
  have e1 : hasE (x ++ 33 :: (relT (d :: ds) ++ r)) = true := by
   unfold hasE
   rw [decide_eq_true_eq, run_digs hx h0, zyf hx h0]
   exact ⟨fun hz => hx.1 (List.length_eq_zero_iff.1 hz), rfl⟩
  have e2 : unE (x ++ 33 :: (relT (d :: ds) ++ r)) = relT (d :: ds) ++ r := by unfold unE; rw [e1, zyf hx h0]; rfl
  have e3 : epP (x ++ 33 :: (relT (d :: ds) ++ r)) = x := by unfold epP; rw [e1, dg_digs hx h0]; rfl
  unfold headP
  rw [e2, e3, if_neg h1, zeh ds _ d h r hr (Nat.le_refl _)]
  rfl
def EndDev (r : List Int) : Prop := r = [] ∨ ∃ s, r = 43 :: s
theorem EndDev.nd {r : List Int} (h : EndDev r) : run isD r = 0 := by
 rcases h with rfl | ⟨s, rfl⟩
 ·rfl
 ·exact znc (by decide)
theorem EndDev.mk {r : List Int} (h : EndDev r) : unmk r = r := by
 rcases h with rfl | ⟨s, rfl⟩
 ·rfl
 ·exact zze (by decide)
theorem gdev_none {r : List Int} (h : EndDev r) : gdev r = (none, r) := by
 unfold gdev zwc
 rw [h.mk]
 rcases h with rfl | ⟨s, rfl⟩
 ·rfl
 ·have e : zyc devC (43 :: s) = none := by simp [zyc, devC, pref, wDev]
  rw [e]
theorem zqg {ws : List (List Int)} {l w a : List Int} (h1 : unmk l = w ++ a) (h2 : zyc ws (w ++ a) = some w) : zwc ws l = tail_ w (w ++ a) := by
 unfold zwc
 rw [h1, h2]
theorem gdev_some {l d r : List Int} (hl : unmk l = wDev ++ (d ++ r)) (hd : Digs d) (hr : EndDev r) : gdev l = (some (wDev, d), r) := by
 have e := zqg hl (show zyc devC (wDev ++ (d ++ r)) = some wDev by simp [zyc, devC, pref_app])
 unfold gdev
 rw [e, tail_digs wDev hd hr.nd]
def zme (r : List Int) : Prop := EndDev r ∨ ∃ m s, isMk m = true ∧ r = m :: (wDev ++ s)
theorem zme.nd {r : List Int} (h : zme r) : run isD r = 0 := by
 rcases h with h | ⟨m, s, hm, rfl⟩
 ·exact h.nd
 ·exact znc (by cases e : isD m with
   | false => rfl
   | true => rw [isD_mk e] at hm; cases hm)
theorem zme.hy {r : List Int} (h : zme r) : hyph r = none := by
 rcases h with (rfl | ⟨s, rfl⟩) | ⟨m, s, hm, rfl⟩
 ·rfl
 ·simp [hyph]
 ·have : run isD (wDev ++ s) = 0 := znc (by decide)
  simp [hyph, this]
theorem zme.word {r : List Int} (h : zme r) {ws : List (List Int)} (h1 : ∀ w ∈ ws, ∃ x v, w = x :: v ∧ x ≠ 100 ∧ x ≠ 43) : zyc ws (unmk r) = none := by
 have key : ∀ (x : Int) (a : List Int), x = 100 ∨ x = 43 → zyc ws (x :: a) = none := by
  intro x a hx
  induction ws with
  | nil => rfl
  | cons w ws ih =>
   obtain ⟨y, v, rfl, h2, h3⟩ := h1 w List.mem_cons_self
   have : x ≠ y := by
    rcases hx with rfl | rfl
    ·exact fun e => h2 e.symm
    ·exact fun e => h3 e.symm
   simp only [zyc, pref, this, decide_false, Bool.false_and, Bool.false_eq_true, if_false]
   exact ih (fun w hw => h1 w (List.mem_cons_of_mem _ hw))
 rcases h with (rfl | ⟨s, rfl⟩) | ⟨m, s, hm, rfl⟩
 ·show zyc ws [] = none
  clear key
  induction ws with
  | nil => rfl
  | cons w ws ih =>
   obtain ⟨y, v, rfl, _⟩ := h1 w List.mem_cons_self
   simp only [zyc, pref, Bool.false_eq_true, if_false]
   exact ih (fun w hw => h1 w (List.mem_cons_of_mem _ hw))
 ·rw [zze (by decide)]; exact key _ _ (.inr rfl)
 ·rw [zle hm]; exact key _ _ (.inl rfl)
theorem gpost_none {r : List Int} (h : zme r) : gpost r = (none, r) := by
 unfold gpost
 rw [h.hy]
 show zwc postC r = _
 unfold zwc
 rw [h.word (by
  intro w hw
  simp only [postC, List.mem_cons, List.not_mem_nil, or_false] at hw
  rcases hw with rfl | rfl | rfl <;> exact ⟨_, _, rfl, by decide, by decide⟩)]
theorem gpost_some {l d r : List Int} (hh : hyph l = none) (hl : unmk l = wPost ++ (d ++ r)) (hd : Digs d) (hr : zme r) : gpost l = (some (wPost, d), r) := by
 have e := zqg hl (show zyc postC (wPost ++ (d ++ r)) = some wPost by simp [zyc, postC, pref_app])
 unfold gpost
 rw [hh]
 show zwc postC l = _
 rw [e, tail_digs wPost hd hr.nd]
def EndPre (r : List Int) : Prop := zme r ∨ (∃ m s, isMk m = true ∧ r = m :: (wPost ++ s)) ∨ ∃ d s, Digs d ∧ r = 45 :: (d ++ s)
theorem EndPre.nd {r : List Int} (h : EndPre r) : run isD r = 0 := by
 rcases h with h | ⟨m, s, hm, rfl⟩ | ⟨d, s, hd, rfl⟩
 ·exact h.nd
 ·exact znc (by cases e : isD m with
   | false => rfl
   | true => rw [isD_mk e] at hm; cases hm)
 ·exact znc (by decide)
theorem gpre_none {r : List Int} (h : EndPre r) : gpre r = (none, r) := by
 unfold gpre zwc
 have e : zyc preC (unmk r) = none := by
  rcases h with h | ⟨m, s, hm, rfl⟩ | ⟨d, s, hd, rfl⟩
  ·exact h.word (by
    intro w hw
    simp only [preC, List.mem_cons, List.not_mem_nil, or_false] at hw
    rcases hw with rfl | rfl | rfl | rfl | rfl | rfl | rfl | rfl <;> exact ⟨_, _, rfl, by decide, by decide⟩)
  ·rw [zle hm]
   simp [zyc, preC, pref, wAlpha, wBeta, zdg, wPre, wRc, wPost]
  ·rw [zle (by decide)]
   obtain ⟨c, t, rfl, hc⟩ := hd.cons
   have a1 := zng hc (show isD 97 = false by decide)
   have a2 := zng hc (show isD 98 = false by decide)
   have a3 := zng hc (show isD 99 = false by decide)
   have a4 := zng hc (show isD 112 = false by decide)
   have a5 := zng hc (show isD 114 = false by decide)
   simp [zyc, preC, pref, wAlpha, wBeta, zdg, wPre, wRc, a1, a2, a3, a4, a5]
 rw [e]
theorem gpre_some {l w d r : List Int} {m : List Int} (hm : m = [] ∨ ∃ x, m = [x] ∧ isMk x = true) (hw : w ∈ [[97], [98], wRc, wAlpha, wBeta, zdg]) (hl : unmk l = w ++ (m ++ (d ++ r))) (hd : Digs d) (hr : EndPre r) : gpre l = (some (w, d), r) := by
 have hx : ∀ v : List Int, (∃ c s, m ++ (d ++ r) = c :: s ∧ (isD c = true ∨ isMk c = true)) := by
  intro _
  rcases hm with rfl | ⟨x, rfl, hx⟩
  ·obtain ⟨c, s, rfl, hc⟩ := hd.cons
   exact ⟨c, s ++ r, rfl, .inl hc⟩
  ·exact ⟨x, d ++ r, rfl, .inr hx⟩
 obtain ⟨c, s, e, hc⟩ := hx []
 have ht : tail_ w (w ++ (m ++ (d ++ r))) = (some (w, d), r) := by
  rcases hm with rfl | ⟨x, rfl, hxm⟩
  ·exact tail_digs w hd hr.nd
  ·exact tail_mdigs w hxm hd hr.nd
 have a1 : c ≠ 108 ∧ c ≠ 101 := by
  rcases hc with hc | hc
  ·exact ⟨zng hc (by decide), zng hc (by decide)⟩
  ·constructor
   ·rintro rfl; exact absurd hc (by decide)
   ·rintro rfl; exact absurd hc (by decide)
 have hwd : zyc preC (w ++ (m ++ (d ++ r))) = some w := by
  rw [e]
  simp only [List.mem_cons, List.not_mem_nil, or_false] at hw
  rcases hw with rfl | rfl | rfl | rfl | rfl | rfl <;> simp [zyc, preC, pref, wAlpha, wBeta, zdg, wPre, wRc, a1.1, a1.2]
 unfold gpre
 rw [zqg hl hwd, ht]
def GoodW (w : List Int) : Prop := goodW w = true
theorem GoodW.an {w : List Int} (h : GoodW w) : ∀ c ∈ w, isAn c = true := by
 unfold GoodW goodW at h
 rw [Bool.and_eq_true] at h
 exact List.all_eq_true.1 h.2
def joinW : List (List Int) → List Int
 | [] => []
 | [w] => w
 | w :: v :: ws => w ++ 46 :: joinW (v :: ws)
theorem split_join : ∀ (ws : List (List Int)) (w : List Int), (∀ x ∈ w :: ws, GoodW x) → zsb isMk (joinW (w :: ws)) = w :: ws
 | [], w, h => split_an (h w List.mem_cons_self).an
 | v :: ws, w, h => by
  simp only [joinW]
  rw [split_mark (h w List.mem_cons_self).an (by decide), split_join ws v (fun x hx => h x (List.mem_cons_of_mem _ hx))]
def locT : List (List Int) → List Int
 | [] => []
 | w :: ws => 43 :: joinW (w :: ws)
theorem locT_end (ws : List (List Int)) : EndDev (locT ws) := by
 cases ws with
 | nil => exact .inl rfl
 | cons w ws => exact .inr ⟨_, rfl⟩
theorem locR_built (ws : List (List Int)) (h : ∀ x ∈ ws, GoodW x) : ∃ r, locR (locT ws) = some (r, []) ∧ zsb isMk r = if ws = [] then [[]] else ws := by
 cases ws with
 | nil => exact ⟨[], rfl, rfl⟩
 | cons w ws =>
  have hs := split_join ws w h
  have ho : localOK (43 :: joinW (w :: ws)) = true := by
   simp only [localOK, decide_true, Bool.true_and]
   rw [hs]
   exact List.all_eq_true.2 h
  obtain ⟨_, h1, h2⟩ := (localOK_iff _ _).1 ho
  refine ⟨joinW (w :: ws), ?_, by rw [hs, if_neg (by simp)]⟩
  simp only [locT, locR, if_true]
  rw [if_neg h1, h2, List.take_length, List.drop_length]
structure Parts where
 ep : Option (List Int)
 rel : List (List Int)
 pre : Option (List Int × List Int)
 post : Option (List Int)
 dev : Option (List Int)
 loc : List (List Int)
structure Parts.Ok (p : Parts) : Prop where
 ep : ∀ x, p.ep = some x → Digs x
 rel : p.rel ≠ [] ∧ ∀ x ∈ p.rel, Digs x
 pre : ∀ x, p.pre = some x → Digs x.2 ∧ x.1 ∈ [[97], [98], wRc]
 post : ∀ x, p.post = some x → Digs x
 dev : ∀ x, p.dev = some x → Digs x
 loc : ∀ x ∈ p.loc, GoodW x
def preT : Option (List Int × List Int) → List Int
 | none => []
 | some x => x.1 ++ x.2
def postT : Option (List Int) → List Int
 | none => []
 | some d => 46 :: (wPost ++ d)
def devT : Option (List Int) → List Int
 | none => []
 | some d => 46 :: (wDev ++ d)
def Parts.text (p : Parts) : List Int := epT p.ep ++ (relT p.rel ++ (preT p.pre ++ (postT p.post ++ (devT p.dev ++ locT p.loc))))
def Parts.told (p : Parts) : PV := ⟨p.ep.getD [], p.rel, p.pre, p.post.map fun d => (wPost, d), p.dev.map fun d => (wDev, d), if p.loc = [] then [[]] else p.loc⟩
theorem endPost_dev (dv : Option (List Int)) (ws : List (List Int)) : zme (devT dv ++ locT ws) := by
 cases dv with
 | none => exact .inl (locT_end ws)
 | some d => exact .inr ⟨46, d ++ locT ws, by decide, by simp [devT]⟩
theorem endPre_post (p : Option (List Int)) (dv : Option (List Int)) (ws : List (List Int)) : EndPre (postT p ++ (devT dv ++ locT ws)) := by
 cases p with
 | none => exact .inl (endPost_dev dv ws)
 | some d => exact .inr (.inl ⟨46, d ++ (devT dv ++ locT ws), by decide, by simp [postT]⟩)
theorem EndPre.endRel {r : List Int} (h : EndPre r) (h2 : ∀ d s, Digs d → r ≠ 45 :: (d ++ s)) : EndRel r := by
 refine ⟨h.nd, fun s e => ?_, ?_⟩
 ·rcases h with (((rfl | ⟨t, rfl⟩) | ⟨m, t, hm, rfl⟩)) | ⟨m, t, hm, rfl⟩ | ⟨d, t, hd, rfl⟩
  ·cases e
  ·simp at e
  ·cases e; exact znc (by decide)
  ·cases e; exact znc (by decide)
  ·simp at e
 ·rcases h with (((rfl | ⟨t, rfl⟩) | ⟨m, t, hm, rfl⟩)) | ⟨m, t, hm, rfl⟩ | ⟨d, t, hd, rfl⟩
  ·simp
  ·simp
  ·intro e; have : m = 33 := e; subst this; exact absurd hm (by decide)
  ·intro e; have : m = 33 := e; subst this; exact absurd hm (by decide)
  ·simp
theorem code3_of {l : List Int} {a b c : Option (List Int × List Int)} {l1 l2 l3 : List Int} (h1 : gpre l = (a, l1)) (h2 : gpost l1 = (b, l2)) (h3 : gdev l2 = (c, l3)) : code3 l = (a, b, c, l3) := by
 unfold code3
 rw [h1]
 show (a, (gpost l1).1, (gdev (gpost l1).2).1, (gdev (gpost l1).2).2) = _
 rw [h2]
 show (a, b, (gdev l2).1, (gdev l2).2) = _
 rw [h3]
theorem gdev_T (dv : Option (List Int)) (hd : ∀ x, dv = some x → Digs x) {r : List Int} (hr : EndDev r) : gdev (devT dv ++ r) = (dv.map fun d => (wDev, d), r) := by
 cases dv with
 | none => exact gdev_none hr
 | some d => exact gdev_some (by rw [show devT (some d) ++ r = 46 :: (wDev ++ (d ++ r)) by simp [devT]]; exact zle (by decide)) (hd d rfl) hr
theorem gpost_T (p : Option (List Int)) (hd : ∀ x, p = some x → Digs x) {r : List Int} (hr : zme r) : gpost (postT p ++ r) = (p.map fun d => (wPost, d), r) := by
 cases p with
 | none => exact gpost_none hr
 | some d =>
  have e : postT (some d) ++ r = 46 :: (wPost ++ (d ++ r)) := by simp [postT]
  rw [e]
  exact gpost_some (by simp [hyph]) (zle (by decide)) (hd d rfl) hr
theorem gpre_T (p : Option (List Int × List Int)) (hd : ∀ x, p = some x → Digs x.2 ∧ x.1 ∈ [[97], [98], wRc]) {r : List Int} (hr : EndPre r) : gpre (preT p ++ r) = (p, r) := by
 cases p with
 | none => exact gpre_none hr
 | some x =>
  obtain ⟨w, d⟩ := x
  obtain ⟨h1, h2⟩ := hd _ rfl
  have h1' : Digs d := h1
  have h2' : w ∈ [[97], [98], wRc] := h2
  have e : preT (some (w, d)) ++ r = w ++ ([] ++ (d ++ r)) := by simp [preT]
  rw [e]
  refine gpre_some (m := []) (.inl rfl) ?_ ?_ h1' hr
  ·simp only [List.mem_cons, List.not_mem_nil, or_false] at h2' ⊢
   rcases h2' with rfl | rfl | rfl <;> simp
  ·simp only [List.mem_cons, List.not_mem_nil, or_false] at h2'
   rcases h2' with rfl | rfl | rfl <;> exact zze (by decide)
theorem endRel_pre (p : Option (List Int × List Int)) (hd : ∀ x, p = some x → Digs x.2 ∧ x.1 ∈ [[97], [98], wRc]) {r : List Int} (hr : EndRel r) : EndRel (preT p ++ r) := by
 cases p with
 | none => exact hr
 | some x =>
  obtain ⟨w, d⟩ := x
  have h2' : w ∈ [[97], [98], wRc] := (hd _ rfl).2
  simp only [List.mem_cons, List.not_mem_nil, or_false] at h2'
  rcases h2' with rfl | rfl | rfl
  all_goals exact ⟨znc (by decide), fun s e => by simp [preT, wRc] at e, by simp [preT, wRc]⟩
theorem post_hyph (p : Option (List Int)) (dv : Option (List Int)) (ws : List (List Int)) (d s : List Int) : postT p ++ (devT dv ++ locT ws) ≠ 45 :: (d ++ s) := by
 cases p with
 | none =>
  cases dv with
  | none =>
   cases ws with
   | nil => simp [postT, devT, locT]
   | cons w ws => simp [postT, devT, locT]
  | some x => simp [postT, devT]
 | some x => simp [postT]
theorem codeV_built {p : Parts} (h : p.Ok) : codeV p.text = some p.told := by
 obtain ⟨d, ds, e⟩ : ∃ d ds, p.rel = d :: ds := by
  cases e : p.rel with
  | nil => exact absurd e h.rel.1
  | cons d ds => exact ⟨d, ds, rfl⟩
 have hrel : ∀ x ∈ d :: ds, Digs x := fun x hx => h.rel.2 x (by rw [e]; exact hx)
 have he2 := endPre_post p.post p.dev p.loc
 have hr := endRel_pre p.pre h.pre (he2.endRel (fun d s _ => post_hyph _ _ _ d s))
 have hh : headP p.text = some (p.ep.getD [], d :: ds, preT p.pre ++ (postT p.post ++ (devT p.dev ++ locT p.loc))) := by
  unfold Parts.text
  rw [e]
  exact headP_built p.ep h.ep hrel hr
 obtain ⟨r, hr1, hr2⟩ := locR_built p.loc h.loc
 have h3 := code3_of (gpre_T p.pre h.pre he2) (gpost_T p.post h.post (endPost_dev p.dev p.loc)) (gdev_T p.dev h.dev (locT_end p.loc))
 unfold codeV Parts.told
 rw [hh]
 simp only [Option.bind_some]
 rw [h3]
 simp only
 rw [hr1]
 simp only [Option.bind_some, List.all_nil, if_true, hr2, e]
end Go.Proofs.YtlijjnjpomnphaaGreatDoorY
end
section
namespace Go.Proofs.YtlijjnjpomnphaaGreatDoorY
open Go.RowKit YtlijjnjpomnphaaGreatDoorH YtlijjnjpomnphaaGreatDoorB YtlijjnjpomnphaaGreatDoorM YtlijjnjpomnphaaGreatDoorP YtlijjnjpomnphaaGreatDoor.S YtlijjnjpomnphaaGreatDoorW.PrintWords YtlijjnjpomnphaaGreatDoorW.PrintLast
theorem zee (c : Int) : zhb.f c = some (isD c) := by
 unfold zhb.f isD
 by_cases h : c ≥ 48
 ·rw [if_pos h]; simp; omega
 ·rw [if_neg h]; simp; omega
theorem zrg (s : ByteArray) (hs : s.size ≤ 2000000000) : ∀ (n i : Nat), s.size - i = n → i ≤ s.size →
  Ev (fun k => zv.l0 k s (i : Int)) ((i + run isD ((bytesOf s).drop i) : Nat) : Int) := by
 intro n
 induction n with
 | zero =>
  intro i hn hi
  refine Ev.succ ?_
  simp only [zv.l0]
  refine Ev.neg (fun _ => by omega) ?_
  refine Ev.eq (Ev.now _) ?_
  rw [List.drop_of_length_le (by rw [bytesOf_length]; omega), zgf]
  rfl
 | succ n ih =>
  intro i hn hi
  have hl : i < (bytesOf s).length := by rw [bytesOf_length]; omega
  refine Ev.succ ?_
  simp only [zv.l0, zad, zee, Option.bind_some]
  refine Ev.pos (fun _ => by omega) ?_
  refine Ev.pos (fun _ => by omega) ?_
  rw [zlc _ _ hl]
  cases hd : isD ((bytesOf s).getD i 0)
  ·refine Ev.neg (fun _ => Bool.false_ne_true) ?_
   refine Ev.eq (Ev.now _) ?_
   rw [znc hd]
   rfl
  ·refine Ev.pos (fun _ => rfl) ?_
   rw [w64 (by omega) (by omega), zed hd]
   refine Ev.eq (ih (i + 1) (by omega) (by omega)) ?_
   have : i + 1 + run isD ((bytesOf s).drop (i + 1)) = i + (run isD ((bytesOf s).drop (i + 1)) + 1) := by omega
   rw [this]
theorem zbe (s : ByteArray) (hs : s.size ≤ 2000000000) (i : Nat) (hi : i ≤ s.size) : Ev (fun k => zv.f k s (i : Int)) ((i + run isD ((bytesOf s).drop i) : Nat) : Int) := zrg s hs _ i rfl hi
theorem if_an {α : Type} (c : Int) (X Y : α) : (if isD c = true then X else if c ≥ 97 then (if c ≤ 122 then X else Y) else Y) = if isAn c = true then X else Y := by
 unfold isAn isL
 cases isD c
 ·by_cases h1 : c ≥ 97
  ·by_cases h2 : c ≤ 122
   ·simp [h1, h2]
   ·simp [h1, h2]
  ·simp [h1]
 ·simp
theorem alnum_from (s : ByteArray) (hs : s.size ≤ 2000000000) : ∀ (n i : Nat), s.size - i = n → i ≤ s.size →
  Ev (fun k => zy.l0 k s (i : Int)) ((i + run isAn ((bytesOf s).drop i) : Nat) : Int) := by
 intro n
 induction n with
 | zero =>
  intro i hn hi
  refine Ev.succ ?_
  simp only [zy.l0]
  refine Ev.neg (fun _ => by omega) ?_
  refine Ev.eq (Ev.now _) ?_
  rw [List.drop_of_length_le (by rw [bytesOf_length]; omega), zgf]
  rfl
 | succ n ih =>
  intro i hn hi
  have hl : i < (bytesOf s).length := by rw [bytesOf_length]; omega
  refine Ev.succ ?_
  simp only [zy.l0, zad, zee, Option.bind_some, if_an]
  refine Ev.pos (fun _ => by omega) ?_
  refine Ev.pos (fun _ => by omega) ?_
  rw [zlc _ _ hl]
  cases hd : isAn ((bytesOf s).getD i 0)
  ·refine Ev.neg (fun _ => Bool.false_ne_true) ?_
   refine Ev.eq (Ev.now _) ?_
   rw [znc hd]
   rfl
  ·refine Ev.pos (fun _ => rfl) ?_
   rw [w64 (by omega) (by omega), zed hd]
   refine Ev.eq (ih (i + 1) (by omega) (by omega)) ?_
   have : i + 1 + run isAn ((bytesOf s).drop (i + 1)) = i + (run isAn ((bytesOf s).drop (i + 1)) + 1) := by omega
   rw [this]
theorem alnum_ev (s : ByteArray) (hs : s.size ≤ 2000000000) (i : Nat) (hi : i ≤ s.size) : Ev (fun k => zy.f k s (i : Int)) ((i + run isAn ((bytesOf s).drop i) : Nat) : Int) := alnum_from s hs _ i rfl hi
theorem if_bl {α : Type} (c : Int) (X Y : α) : (if c = 32 then X else if c = 9 then X else if c = 10 then X else if c = 12 then X else if c = 13 then X else Y) = if isBl c = true then X else Y := by
 unfold isBl
 by_cases h1 : c = 32
 ·simp [h1]
 by_cases h2 : c = 9
 ·simp [h2]
 by_cases h3 : c = 10
 ·simp [h3]
 by_cases h4 : c = 12
 ·simp [h4]
 by_cases h5 : c = 13
 ·simp [h5]
 simp [h1, h2, h3, h4, h5]
theorem blanks_from (s : ByteArray) (hs : s.size ≤ 2000000000) : ∀ (n i : Nat), s.size - i = n → i ≤ s.size →
  Ev (fun k => zr.l0 k s (i : Int)) ((i + run isBl ((bytesOf s).drop i) : Nat) : Int) := by
 intro n
 induction n with
 | zero =>
  intro i hn hi
  refine Ev.succ ?_
  simp only [zr.l0]
  refine Ev.neg (fun _ => by omega) ?_
  refine Ev.eq (Ev.now _) ?_
  rw [List.drop_of_length_le (by rw [bytesOf_length]; omega), zgf]
  rfl
 | succ n ih =>
  intro i hn hi
  have hl : i < (bytesOf s).length := by rw [bytesOf_length]; omega
  refine Ev.succ ?_
  simp only [zr.l0, zad, if_bl]
  refine Ev.pos (fun _ => by omega) ?_
  refine Ev.pos (fun _ => by omega) ?_
  rw [zlc _ _ hl]
  cases hd : isBl ((bytesOf s).getD i 0)
  ·refine Ev.neg (fun _ => Bool.false_ne_true) ?_
   refine Ev.eq (Ev.now _) ?_
   rw [znc hd]
   rfl
  ·refine Ev.pos (fun _ => rfl) ?_
   rw [w64 (by omega) (by omega), zed hd]
   refine Ev.eq (ih (i + 1) (by omega) (by omega)) ?_
   have : i + 1 + run isBl ((bytesOf s).drop (i + 1)) = i + (run isBl ((bytesOf s).drop (i + 1)) + 1) := by omega
   rw [this]
theorem blanks_ev (s : ByteArray) (hs : s.size ≤ 2000000000) (i : Nat) (hi : i ≤ s.size) : Ev (fun k => zr.f k s (i : Int)) ((i + run isBl ((bytesOf s).drop i) : Nat) : Int) := blanks_from s hs _ i rfl hi
def mkN : List Int → Nat
 | [] => 0
 | c :: _ => if isMk c = true then 1 else 0
theorem unmk_drop (l : List Int) : unmk l = l.drop (mkN l) := by
 cases l with
 | nil => rfl
 | cons c r =>
  show (if isMk c = true then r else c :: r) = (c :: r).drop (if isMk c = true then 1 else 0)
  cases isMk c <;> rfl
theorem mkN_le (l : List Int) : mkN l ≤ l.length := by
 cases l with
 | nil => exact Nat.le_refl _
 | cons c r =>
  show (if isMk c = true then 1 else 0) ≤ r.length + 1
  cases isMk c <;> simp
theorem mark_eq (s : ByteArray) (hs : s.size ≤ 2000000000) (i : Nat) (hi : i ≤ s.size) : zpb.f s (i : Int) = some ((i + mkN ((bytesOf s).drop i) : Nat) : Int) := by
 unfold zpb.f
 by_cases h : i < s.size
 ·have hl : i < (bytesOf s).length := by rw [bytesOf_length]; omega
  rw [if_pos (by omega), if_pos (by omega), zad, zlc _ _ hl, w64 (by omega) (by omega)]
  generalize (bytesOf s).getD i 0 = c
  show (if c = 45 then some ((i : Int) + 1) else if c = 95 then some ((i : Int) + 1) else if c = 46 then some ((i : Int) + 1) else some (i : Int)) = some ((i + (if isMk c = true then 1 else 0) : Nat) : Int)
  by_cases hm : isMk c = true
  ·rw [if_pos hm]
   have h2 : c = 46 ∨ c = 95 ∨ c = 45 := by simpa [isMk] using hm
   rcases h2 with rfl | rfl | rfl <;> simp
  ·rw [if_neg hm]
   have h2 : ¬ (c = 46 ∨ c = 95 ∨ c = 45) := by simpa [isMk] using hm
   rw [if_neg (fun e => h2 (.inr (.inr e))), if_neg (fun e => h2 (.inr (.inl e))), if_neg (fun e => h2 (.inl e))]
   rfl
 ·rw [if_neg (by omega), List.drop_of_length_le (by rw [bytesOf_length]; omega)]
  rfl
theorem pref_take : ∀ (w l : List Int), pref w l = decide (w.length ≤ l.length ∧ l.take w.length = w)
 | [], l => by simp [pref]
 | x :: w, [] => by simp [pref]
 | x :: w, c :: l => by
  simp only [pref, pref_take w l, List.length_cons, List.take_succ_cons, List.cons.injEq, Nat.add_le_add_iff_right]
  by_cases h : x = c
  ·simp [h]
  ·have : ¬ c = x := fun e => h e.symm
   simp [h, this]
theorem has_eq (s : ByteArray) (hs : s.size ≤ 2000000000) (i : Nat) (hi : i ≤ s.size) (w : ByteArray) (hw : w.size ≤ 1000) : zbd.f s (i : Int) w = some (pref (bytesOf w) ((bytesOf s).drop i)) := by
 unfold zbd.f
 rw [pref_take, List.length_drop, bytesOf_length, bytesOf_length]
 by_cases h : w.size ≤ s.size - i
 ·rw [w64 (by omega) (by omega), w64 (by omega) (by omega), if_pos (by omega), if_pos (by omega), if_pos (by omega), if_pos (by omega)]
  congr 1
  rw [show ((i : Int) + (w.size : Int)).toNat = i + w.size by omega, Int.toNat_natCast]
  have e : ((s.extract i (i + w.size)).toList == w.toList) = decide (bytesOf (s.extract i (i + w.size)) = bytesOf w) := by
   rw [Bool.eq_iff_iff, beq_iff_eq, decide_eq_true_iff, zyd]
  rw [e, zoc, show i + w.size - i = w.size by omega]
  simp [h]
 ·rw [w64 (by omega) (by omega), if_neg (by omega)]
  simp [h]
def optW (a b : List Int) : Option (List Int × List Int) := if a = [] then none else some (a, b)
theorem sz_B (w : ByteArray) : w.size = (bytesOf w).length := (bytesOf_length w).symm
theorem lettered_done (s : ByteArray) (hs : s.size ≤ 2000000000) (i m : Nat) (ws : List ByteArray) (hn : ws.length ≤ 100) (x : ByteArray) (hx : bytesOf x ≠ []) (hm : m + x.size ≤ s.size) : ∀ (n j : Nat), ws.length - j = n → j ≤ ws.length →
  ∀ d e : Nat, d = m + x.size + mkN ((bytesOf s).drop (m + x.size)) → e = d + run isD ((bytesOf s).drop d) → Ev (fun k => zp.l0 k s (i : Int) x (m : Int) ws (ws.length : Int) (j : Int)) (x, s.extract d e, (e : Int)) := by
 have hx2 : ¬ x.toList = ([] : List UInt8) := fun e => hx ((zgc x).1 e)
 intro n
 induction n with
 | zero =>
  intro j hj hjl d e hd he
  have hd1 : d ≤ s.size := by
   have hmk := mkN_le ((bytesOf s).drop (m + x.size))
   rw [List.length_drop, bytesOf_length] at hmk
   generalize mkN ((bytesOf s).drop (m + x.size)) = g at hd hmk
   omega
  have he1 : d ≤ e ∧ e ≤ s.size := by
   have hr := zce isD ((bytesOf s).drop d)
   rw [List.length_drop, bytesOf_length] at hr
   generalize run isD ((bytesOf s).drop d) = g at he hr
   omega
  refine Ev.succ ?_
  simp only [zp.l0]
  refine Ev.neg (fun _ => by omega) ?_
  refine Ev.neg (fun _ => hx2) ?_
  have e1 : wrap64 ((m : Int) + (x.size : Int)) = ((m + x.size : Nat) : Int) := by rw [w64 (by omega) (by omega)]; omega
  rw [e1]
  refine Ev.bind0 (mark_eq s hs (m + x.size) hm) ?_
  rw [← hd]
  have D := zbe s hs d hd1
  rw [← he] at D
  clear hd he
  refine Ev.bind D ?_
  refine Ev.pos (fun _ => by omega) ?_
  refine Ev.pos (fun _ => by omega) ?_
  refine Ev.pos (fun _ => by omega) ?_
  refine Ev.eq (Ev.now _) ?_
  rw [Int.toNat_natCast, Int.toNat_natCast]
 | succ n ih =>
  intro j hj hjl d e hd he
  refine Ev.succ ?_
  simp only [zp.l0]
  refine Ev.pos (fun _ => by omega) ?_
  refine Ev.pos (fun _ => by omega) ?_
  refine Ev.pos (fun _ => by omega) ?_
  refine Ev.neg (fun _ => hx2) ?_
  rw [w64 (by omega) (by omega)]
  exact ih (j + 1) (by omega) (by omega) d e hd he
theorem lettered_find (s : ByteArray) (hs : s.size ≤ 2000000000) (i m : Nat) (hi : i ≤ s.size) (hm : m ≤ s.size) (ws : List ByteArray) (hn : ws.length ≤ 100) (hw : ∀ w ∈ ws, bytesOf w ≠ [] ∧ w.size ≤ 1000) : ∀ (n j : Nat), ws.length - j = n → j ≤ ws.length →
  ∃ (a b : ByteArray) (e : Nat), Ev (fun k => zp.l0 k s (i : Int) (⟨#[]⟩ : ByteArray) (m : Int) ws (ws.length : Int) (j : Int)) (a, b, (e : Int)) ∧ e ≤ s.size ∧ b.size ≤ s.size ∧ (bytesOf a = [] → bytesOf b = []) ∧ (bytesOf a = [] ∨ a ∈ ws) ∧
   (match zyc ((ws.drop j).map bytesOf) ((bytesOf s).drop m) with
    | none => a = ⟨#[]⟩ ∧ b = ⟨#[]⟩ ∧ e = i
    | some w => bytesOf a = w ∧ (some (bytesOf a, bytesOf b), (bytesOf s).drop e) = tail_ w ((bytesOf s).drop m)) := by
 intro n
 induction n with
 | zero =>
  intro j hj hjl
  refine ⟨⟨#[]⟩, ⟨#[]⟩, i, ?_, hi, Nat.zero_le _, fun h => h, .inl rfl, ?_⟩
  ·refine Ev.succ ?_
   simp only [zp.l0]
   refine Ev.neg (fun _ => by omega) ?_
   refine Ev.pos (fun _ => (zgc _).2 rfl) ?_
   exact Ev.now _
  ·rw [List.drop_of_length_le (by omega)]
   exact ⟨rfl, rfl, rfl⟩
 | succ n ih =>
  intro j hj hjl
  obtain ⟨w, hwj⟩ : ∃ w, ws[j]? = some w := ⟨_, List.getElem?_eq_getElem (by omega)⟩
  have hwm : w ∈ ws := List.mem_of_getElem? hwj
  have hrd : rdOf ByteArray.empty ws (j : Int) = w := by
   unfold rdOf
   rw [Int.toNat_natCast, List.getD_eq_getElem?_getD, hwj]; rfl
  have hdj : ws.drop j = w :: ws.drop (j + 1) := by
   have hlt : j < ws.length := by omega
   rw [List.drop_eq_getElem_cons hlt]
   congr 1
   have := List.getElem?_eq_getElem hlt
   rw [hwj] at this
   exact (Option.some.inj this).symm
  rw [hdj, List.map_cons]
  simp only [zyc]
  by_cases hp : pref (bytesOf w) ((bytesOf s).drop m) = true
  ·rw [if_pos hp]
   have hlen : (bytesOf w).length ≤ s.size - m := by
    rw [pref_take, decide_eq_true_eq, List.length_drop, ← sz_B s] at hp
    exact hp.1
   rw [bytesOf_length] at hlen
   obtain ⟨d, hd⟩ : ∃ d, d = m + w.size + mkN ((bytesOf s).drop (m + w.size)) := ⟨_, rfl⟩
   obtain ⟨e, he⟩ : ∃ e, e = d + run isD ((bytesOf s).drop d) := ⟨_, rfl⟩
   have hd1 : d ≤ s.size := by
    have hmk := mkN_le ((bytesOf s).drop (m + w.size))
    rw [List.length_drop, bytesOf_length] at hmk
    generalize mkN ((bytesOf s).drop (m + w.size)) = g at hd hmk
    omega
   have he1 : d ≤ e ∧ e ≤ s.size := by
    have hr := zce isD ((bytesOf s).drop d)
    rw [List.length_drop, bytesOf_length] at hr
    generalize run isD ((bytesOf s).drop d) = g at he hr
    omega
   refine ⟨w, s.extract d e, e, ?_, he1.2, ?_, fun h => absurd h (hw w hwm).1, .inr hwm, rfl, ?_⟩
   ·refine Ev.succ ?_
    simp only [zp.l0]
    refine Ev.pos (fun _ => by omega) ?_
    refine Ev.pos (fun _ => by omega) ?_
    refine Ev.pos (fun _ => by omega) ?_
    refine Ev.pos (fun _ => (zgc _).2 rfl) ?_
    rw [hrd]
    refine Ev.bind0 (has_eq s hs m hm w (hw w hwm).2) ?_
    refine Ev.pos (fun _ => hp) ?_
    rw [w64 (by omega) (by omega)]
    exact lettered_done s hs i m ws hn w (hw w hwm).1 (by omega) _ (j + 1) rfl (by omega) d e hd he
   ·rw [sz_B, zoc, List.length_take, List.length_drop, bytesOf_length]; omega
   ·unfold tail_ dg dr
    have hu : unmk (((bytesOf s).drop m).drop (bytesOf w).length) = (bytesOf s).drop d := by rw [List.drop_drop, bytesOf_length, unmk_drop, List.drop_drop, ← hd]
    rw [hu, List.drop_drop, zoc, he, show d + run isD ((bytesOf s).drop d) - d = run isD ((bytesOf s).drop d) by omega]
  ·rw [if_neg hp]
   obtain ⟨a, b, e, h1, h2⟩ := ih (j + 1) (by omega) (by omega)
   refine ⟨a, b, e, ?_, h2⟩
   refine Ev.succ ?_
   simp only [zp.l0]
   refine Ev.pos (fun _ => by omega) ?_
   refine Ev.pos (fun _ => by omega) ?_
   refine Ev.pos (fun _ => by omega) ?_
   refine Ev.pos (fun _ => (zgc _).2 rfl) ?_
   rw [hrd]
   refine Ev.bind0 (has_eq s hs m hm w (hw w hwm).2) ?_
   refine Ev.neg (fun _ => hp) ?_
   rw [w64 (by omega) (by omega)]
   exact h1
theorem zig (s : ByteArray) (hs : s.size ≤ 2000000000) (i : Nat) (hi : i ≤ s.size) (ws : List ByteArray) (hn : ws.length ≤ 100) (hw : ∀ w ∈ ws, bytesOf w ≠ [] ∧ w.size ≤ 1000) :
  ∃ (a b : ByteArray) (e : Nat), Ev (fun k => zp.f k s (i : Int) ws) (a, b, (e : Int)) ∧ e ≤ s.size ∧ b.size ≤ s.size ∧ (bytesOf a = [] → bytesOf b = []) ∧ (bytesOf a = [] ∨ a ∈ ws) ∧ (optW (bytesOf a) (bytesOf b), (bytesOf s).drop e) = zwc (ws.map bytesOf) ((bytesOf s).drop i) := by
 have hmk := mkN_le ((bytesOf s).drop i)
 rw [List.length_drop, bytesOf_length] at hmk
 obtain ⟨a, b, e, h1, h2, h3, h4, h5, h6⟩ := lettered_find s hs i (i + mkN ((bytesOf s).drop i)) hi (by omega) ws hn hw _ 0 rfl (Nat.zero_le _)
 refine ⟨a, b, e, ?_, h2, h3, h4, h5, ?_⟩
 ·simp only [zp.f]
  exact Ev.bind0 (mark_eq s hs i hi) h1
 ·unfold zwc
  rw [unmk_drop, List.drop_drop]
  rw [List.drop_zero] at h6
  cases hq : zyc (ws.map bytesOf) ((bytesOf s).drop (i + mkN ((bytesOf s).drop i))) with
  | none =>
   rw [hq] at h6
   obtain ⟨rfl, rfl, rfl⟩ := h6
   rfl
  | some w =>
   rw [hq] at h6
   obtain ⟨h7, h8⟩ := h6
   have hne : bytesOf a ≠ [] := by
    rcases zog hq with ⟨hm, _⟩
    obtain ⟨v, hv, rfl⟩ := List.mem_map.1 hm
    rw [h7]; exact (hw v hv).1
   show (optW (bytesOf a) (bytesOf b), (bytesOf s).drop e) = tail_ w _
   unfold optW
   rw [if_neg hne]
   exact h8
end Go.Proofs.YtlijjnjpomnphaaGreatDoorY
end
section
namespace Go.Proofs.YtlijjnjpomnphaaGreatDoorY
open Go.RowKit YtlijjnjpomnphaaGreatDoorH YtlijjnjpomnphaaGreatDoorB YtlijjnjpomnphaaGreatDoorM YtlijjnjpomnphaaGreatDoorP YtlijjnjpomnphaaGreatDoor.S YtlijjnjpomnphaaGreatDoorW.PrintWords YtlijjnjpomnphaaGreatDoorW.PrintLast
theorem ltZ {m z : Nat} (h : m < z) : ((m : Nat) : Int) < (z : Int) := by omega
theorem zeZ (m : Nat) : (0 : Int) ≤ ((m : Nat) : Int) := by omega
theorem w64s {m z : Nat} (hz : z ≤ 2000000000) (hm : m ≤ z) : wrap64 ((m : Int) + 1) = ((m + 1 : Nat) : Int) := by rw [w64 (by omega) (by omega)]; omega
theorem dg_ne {l : List Int} (h : run isD l ≠ 0) : dg l ≠ [] := by
 unfold dg
 exact take_run_ne h
theorem dg_split (l : List Int) : zsb isPt (dg l) = [dg l] := splitP_one (fun c hc => isD_pt (run_mem hc))
theorem rel_ev (s : ByteArray) (hs : s.size ≤ 2000000000) (x4 : Int) : ∀ (n p : Nat), p ≤ s.size → s.size - p ≤ n →
  ∃ q : Nat, q ≤ s.size ∧ p + run isD ((bytesOf s).drop p) ≤ q ∧ (bytesOf s).drop q = (rels n ((bytesOf s).drop p)).2 ∧ zsb isPt (((bytesOf s).drop p).take (q - p)) = (rels n ((bytesOf s).drop p)).1 ∧
   ∀ (y0 : Bool) (y1 y2 y3 y4 y5 y6 y7 y8 y9 y10 : ByteArray) R, Ev (fun k => zb.j5 k s x4 (q : Int) y0 y1 y2 y3 y4 y5 y6 y7 y8 y9 y10) R →
    Ev (fun k => zb.l0 k s x4 ((p + run isD ((bytesOf s).drop p) : Nat) : Int) y0 y1 y2 y3 y4 y5 y6 y7 y8 y9 y10) R := by
 intro n
 induction n with
 | zero =>
  intro p hp hn
  have e : (bytesOf s).drop p = [] := List.drop_of_length_le (by rw [bytesOf_length]; omega)
  refine ⟨p, hp, ?_, ?_, ?_, ?_⟩
  ·rw [e]; exact Nat.le_refl _
  ·rw [e]; rfl
  ·rw [e, Nat.sub_self]; rfl
  ·intro y0 y1 y2 y3 y4 y5 y6 y7 y8 y9 y10 R h
   rw [e, zgf, Nat.add_zero]
   refine Ev.succ ?_
   simp only [zb.l0]
   refine Ev.neg (fun _ => by rw [w64 (by omega) (by omega)]; omega) ?_
   exact h
 | succ n ih =>
  intro p hp hn
  have hr := zce isD ((bytesOf s).drop p)
  rw [List.length_drop, bytesOf_length] at hr
  obtain ⟨m, hm⟩ : ∃ m, m = p + run isD ((bytesOf s).drop p) := ⟨_, rfl⟩
  rw [← hm]
  have hms : m ≤ s.size := by omega
  have hdr : dr ((bytesOf s).drop p) = (bytesOf s).drop m := by unfold dr; rw [List.drop_drop, ← hm]
  have hdg : ((bytesOf s).drop p).take (m - p) = dg ((bytesOf s).drop p) := by unfold dg; rw [hm, Nat.add_sub_cancel_left]
  have hE : rels (n + 1) ((bytesOf s).drop p) = (match (bytesOf s).drop m with
    | [] => ([dg ((bytesOf s).drop p)], [])
    | c :: r => if c = 46 ∧ run isD r ≠ 0 then (dg ((bytesOf s).drop p) :: (rels n r).1, (rels n r).2) else ([dg ((bytesOf s).drop p)], c :: r)) := by rw [← hdr]; rfl
  have stop : (¬ ∃ r, (bytesOf s).drop m = 46 :: r ∧ run isD r ≠ 0) → rels (n + 1) ((bytesOf s).drop p) = ([dg ((bytesOf s).drop p)], (bytesOf s).drop m) := by
   intro hno
   rw [hE]
   cases hq : (bytesOf s).drop m with
   | nil => rfl
   | cons c r =>
    have : ¬ (c = 46 ∧ run isD r ≠ 0) := fun h => hno ⟨r, by rw [hq, h.1], h.2⟩
    show (if c = 46 ∧ run isD r ≠ 0 then _ else _) = _
    rw [if_neg this]
  by_cases hc : ∃ r, (bytesOf s).drop m = 46 :: r ∧ run isD r ≠ 0
  ·obtain ⟨r, hq, hrn⟩ := hc
   have hlt : m < s.size := by
    rcases Nat.lt_or_ge m s.size with h | h
    ·exact h
    ·rw [List.drop_of_length_le (by rw [bytesOf_length]; omega)] at hq; cases hq
   have hl : m < (bytesOf s).length := by rw [bytesOf_length]; omega
   have hq2 := zlc _ _ hl
   rw [hq] at hq2
   injection hq2 with hc1 hr1
   have hlt2 : m + 1 < s.size := by
    rcases Nat.lt_or_ge (m + 1) s.size with h | h
    ·exact h
    ·rw [List.drop_of_length_le (by rw [bytesOf_length]; omega)] at hr1; rw [hr1] at hrn; exact absurd rfl hrn
   have hl2 : m + 1 < (bytesOf s).length := by rw [bytesOf_length]; omega
   have hd1 : isD ((bytesOf s).getD (m + 1) 0) = true := by
    cases hx : isD ((bytesOf s).getD (m + 1) 0) with
    | true => rfl
    | false => rw [hr1, zlc _ _ hl2, znc hx] at hrn; exact absurd rfl hrn
   obtain ⟨q, h1, h2, h3, h4, h5⟩ := ih (m + 1) (by omega) (by omega)
   have hrels : rels (n + 1) ((bytesOf s).drop p) = (dg ((bytesOf s).drop p) :: (rels n ((bytesOf s).drop (m + 1))).1, (rels n ((bytesOf s).drop (m + 1))).2) := by
    rw [hE, hq]
    show (if (46 : Int) = 46 ∧ run isD r ≠ 0 then _ else _) = _
    rw [if_pos ⟨rfl, hrn⟩, ← hr1]
   refine ⟨q, h1, by omega, by rw [hrels]; exact h3, ?_, ?_⟩
   ·rw [hrels]
    have e : ((bytesOf s).drop p).take (q - p) = dg ((bytesOf s).drop p) ++ 46 :: (((bytesOf s).drop (m + 1)).take (q - (m + 1))) := by
     rw [← hdg]
     rw [show q - p = (m - p) + (q - m) by omega, List.take_add, List.drop_drop, show p + (m - p) = m by omega, hq, show q - m = (q - (m + 1)) + 1 by omega, List.take_succ_cons, hr1]
    rw [e, splitP_pt, dg_split, h4]
    rfl
   ·intro y0 y1 y2 y3 y4 y5 y6 y7 y8 y9 y10 R h
    have a1 : ((m + 1 : Nat) : Int) < (s.size : Int) := ltZ hlt2
    have a2 : (0 : Int) ≤ ((m : Nat) : Int) := zeZ m
    have a3 : ((m : Nat) : Int) < (s.size : Int) := ltZ (Nat.lt_of_succ_lt hlt2)
    have a4 : (0 : Int) ≤ ((m + 1 : Nat) : Int) := zeZ _
    have e1 : wrap64 ((m : Int) + 1) = ((m + 1 : Nat) : Int) := w64s hs hms
    have h6 := h5 y0 y1 y2 y3 y4 y5 y6 y7 y8 y9 y10 R h
    have D := zbe s hs (m + 1) (Nat.le_of_lt hlt2)
    refine Ev.succ ?_
    simp only [zb.l0]
    rw [e1, zad, zad, zee, hd1, ← hc1]
    refine Ev.pos (fun _ => a1) ?_
    refine Ev.pos (fun _ => a2) ?_
    refine Ev.pos (fun _ => a3) ?_
    refine Ev.pos (fun _ => by first | rfl | trivial) ?_
    refine Ev.pos (fun _ => a4) ?_
    simp only [Option.bind_some]
    refine Ev.pos (fun _ => by first | rfl | trivial) ?_
    exact Ev.bind D h6
  ·have s1 := stop hc
   refine ⟨m, hms, Nat.le_refl _, by rw [s1], ?_, ?_⟩
   ·rw [s1, hdg, dg_split]
   ·intro y0 y1 y2 y3 y4 y5 y6 y7 y8 y9 y10 R h
    refine Ev.succ ?_
    simp only [zb.l0]
    by_cases hlt2 : m + 1 < s.size
    ·have hl : m < (bytesOf s).length := by rw [bytesOf_length]; omega
     have hl2 : m + 1 < (bytesOf s).length := by rw [bytesOf_length]; omega
     have a1 : ((m + 1 : Nat) : Int) < (s.size : Int) := ltZ hlt2
     have a2 : (0 : Int) ≤ ((m : Nat) : Int) := zeZ m
     have a3 : ((m : Nat) : Int) < (s.size : Int) := ltZ (Nat.lt_of_succ_lt hlt2)
     have a4 : (0 : Int) ≤ ((m + 1 : Nat) : Int) := zeZ _
     have e1 : wrap64 ((m : Int) + 1) = ((m + 1 : Nat) : Int) := w64s hs hms
     rw [e1, zad, zad, zee]
     refine Ev.pos (fun _ => a1) ?_
     refine Ev.pos (fun _ => a2) ?_
     refine Ev.pos (fun _ => a3) ?_
     by_cases h46 : (bytesOf s).getD m 0 = 46
     ·refine Ev.pos (fun _ => h46) ?_
      refine Ev.pos (fun _ => by omega) ?_
      simp only [Option.bind_some]
      have hd1 : isD ((bytesOf s).getD (m + 1) 0) = false := by
       cases hx : isD ((bytesOf s).getD (m + 1) 0) with
       | false => rfl
       | true => exact absurd ⟨(bytesOf s).drop (m + 1), by rw [zlc _ _ hl, h46], by rw [zlc _ _ hl2, zed hx]; omega⟩ hc
      rw [hd1]
      refine Ev.neg (fun _ => Bool.false_ne_true) ?_
      exact h
     ·refine Ev.neg (fun _ => h46) ?_
      exact h
    ·refine Ev.neg (fun _ => by rw [w64 (by omega) (by omega)]; omega) ?_
     exact h
abbrev M11 := Bool × ByteArray × ByteArray × ByteArray × ByteArray × ByteArray × ByteArray × ByteArray × ByteArray × ByteArray × ByteArray
def noM : M11 := (false, ⟨#[]⟩, ⟨#[]⟩, ⟨#[]⟩, ⟨#[]⟩, ⟨#[]⟩, ⟨#[]⟩, ⟨#[]⟩, ⟨#[]⟩, ⟨#[]⟩, ⟨#[]⟩)
def finM (s : ByteArray) (q : Nat) (m : M11) : M11 := if q + run isBl ((bytesOf s).drop q) < s.size then noM else m
theorem fin_ev (s : ByteArray) (hs : s.size ≤ 2000000000) (q : Nat) (hq : q ≤ s.size) (m : M11) : Ev (fun k => (zr.f k s (q : Int)).bind fun t => if t < (s.size : Int) then some noM else some m) (finM s q m) := by
 refine Ev.bind (blanks_ev s hs q hq) ?_
 unfold finM
 generalize q + run isBl ((bytesOf s).drop q) = g
 by_cases h : g < s.size
 ·rw [if_pos h]
  refine Ev.pos (fun _ => by omega) ?_
  exact Ev.now _
 ·rw [if_neg h]
  refine Ev.neg (fun _ => by omega) ?_
  exact Ev.now _
theorem gtZ {a b : Nat} (h : b < a) : ((a : Nat) : Int) > ((b : Nat) : Int) := by omega
theorem ngtZ {a b : Nat} (h : a ≤ b) : ¬ ((a : Nat) : Int) > ((b : Nat) : Int) := by omega
theorem leZ {a b : Nat} (h : a ≤ b) : ((a : Nat) : Int) ≤ ((b : Nat) : Int) := by omega
theorem loc_ev (s : ByteArray) (hs : s.size ≤ 2000000000) : ∀ (n p : Nat), p ≤ s.size → s.size - p ≤ n →
  p + zzc n ((bytesOf s).drop p) ≤ s.size ∧ ∀ (x6 : Nat), x6 ≤ p → ∀ (y0 : Bool) (y1 y2 y3 y4 y5 y6 y7 y8 y9 y10 : ByteArray),
   Ev (fun k => zb.l1 k s (p : Int) (x6 : Int) y0 y1 y2 y3 y4 y5 y6 y7 y8 y9 y10) (finM s (p + zzc n ((bytesOf s).drop p)) (true, y1, y2, y3, y4, y5, y6, y7, y8, y9, s.extract x6 (p + zzc n ((bytesOf s).drop p)))) := by
 intro n
 induction n with
 | zero =>
  intro p hp hn
  refine ⟨by simp only [zzc]; omega, fun x6 hx y0 y1 y2 y3 y4 y5 y6 y7 y8 y9 y10 => ?_⟩
  have e : (bytesOf s).drop p = [] := List.drop_of_length_le (by rw [bytesOf_length]; omega)
  have hm := mark_eq s hs p hp
  rw [e] at hm
  simp only [zzc, Nat.add_zero]
  refine Ev.succ ?_
  simp only [zb.l1]
  refine Ev.bind0 hm ?_
  refine Ev.neg (fun _ => by simp [mkN]) ?_
  refine Ev.pos (fun _ => zeZ _) ?_
  refine Ev.pos (fun _ => leZ hx) ?_
  refine Ev.pos (fun _ => leZ hp) ?_
  rw [Int.toNat_natCast, Int.toNat_natCast]
  exact fin_ev s hs p hp _
 | succ n ih =>
  intro p hp hn
  have hm := mark_eq s hs p hp
  have stop : zzc (n + 1) ((bytesOf s).drop p) = 0 → (∀ (x6 : Nat), x6 ≤ p → ∀ (y0 : Bool) (y1 y2 y3 y4 y5 y6 y7 y8 y9 y10 : ByteArray),
   Ev (fun k => zb.l1 k s (p : Int) (x6 : Int) y0 y1 y2 y3 y4 y5 y6 y7 y8 y9 y10) (finM s p (true, y1, y2, y3, y4, y5, y6, y7, y8, y9, s.extract x6 p))) → p + zzc (n + 1) ((bytesOf s).drop p) ≤ s.size ∧ ∀ (x6 : Nat), x6 ≤ p → ∀ (y0 : Bool) (y1 y2 y3 y4 y5 y6 y7 y8 y9 y10 : ByteArray),
   Ev (fun k => zb.l1 k s (p : Int) (x6 : Int) y0 y1 y2 y3 y4 y5 y6 y7 y8 y9 y10) (finM s (p + zzc (n + 1) ((bytesOf s).drop p)) (true, y1, y2, y3, y4, y5, y6, y7, y8, y9, s.extract x6 (p + zzc (n + 1) ((bytesOf s).drop p)))) := fun h k => by
   rw [h, Nat.add_zero]
   exact ⟨hp, k⟩
  cases hq : (bytesOf s).drop p with
  | nil =>
   rw [hq] at stop hm
   refine stop rfl (fun x6 hx y0 y1 y2 y3 y4 y5 y6 y7 y8 y9 y10 => ?_)
   refine Ev.succ ?_
   simp only [zb.l1]
   refine Ev.bind0 hm ?_
   refine Ev.neg (fun _ => by simp [mkN]) ?_
   refine Ev.pos (fun _ => zeZ _) ?_
   refine Ev.pos (fun _ => leZ hx) ?_
   refine Ev.pos (fun _ => leZ hp) ?_
   rw [Int.toNat_natCast, Int.toNat_natCast]
   exact fin_ev s hs p hp _
  | cons c r =>
   rw [hq] at stop hm
   have hlt : p < s.size := by
    rcases Nat.lt_or_ge p s.size with h | h
    ·exact h
    ·rw [List.drop_of_length_le (by rw [bytesOf_length]; omega)] at hq; cases hq
   have hr1 : r = (bytesOf s).drop (p + 1) := by
    have h2 := zlc (bytesOf s) p (by rw [bytesOf_length]; exact hlt)
    rw [hq] at h2
    injection h2
   by_cases hmk : isMk c = true
   ·have hm2 : mkN (c :: r) = 1 := if_pos hmk
    rw [hm2] at hm
    have hA := alnum_ev s hs (p + 1) hlt
    rw [← hr1] at hA
    have e1 := w64s hs hp
    by_cases hrn : run isAn r = 0
    ·refine stop ?_ (fun x6 hx y0 y1 y2 y3 y4 y5 y6 y7 y8 y9 y10 => ?_)
     ·simp only [zzc]
      rw [if_neg (fun h => h.2 hrn)]
     ·rw [hrn, Nat.add_zero] at hA
      refine Ev.succ ?_
      simp only [zb.l1]
      refine Ev.bind0 hm ?_
      refine Ev.pos (fun _ => gtZ (Nat.lt_succ_self p)) ?_
      rw [e1]
      refine Ev.bind hA ?_
      refine Ev.neg (fun _ => ngtZ (Nat.le_refl _)) ?_
      refine Ev.pos (fun _ => zeZ _) ?_
      refine Ev.pos (fun _ => leZ hx) ?_
      refine Ev.pos (fun _ => leZ hp) ?_
      rw [Int.toNat_natCast, Int.toNat_natCast]
      exact fin_ev s hs p hp _
    ·have hle : p + 1 + run isAn r ≤ s.size := by
      have h3 := zce isAn r
      rw [hr1, List.length_drop, bytesOf_length] at h3
      rw [hr1]
      generalize run isAn ((bytesOf s).drop (p + 1)) = g at h3
      omega
     have hdr : r.drop (run isAn r) = (bytesOf s).drop (p + 1 + run isAn r) := by
      generalize run isAn r = g
      rw [hr1, List.drop_drop]
     obtain ⟨k1, k2⟩ := ih (p + 1 + run isAn r) hle (by generalize run isAn r = g at hle; omega)
     have hA2 : zzc (n + 1) (c :: r) = 1 + run isAn r + zzc n ((bytesOf s).drop (p + 1 + run isAn r)) := by
      simp only [zzc]
      rw [if_pos ⟨hmk, hrn⟩, hdr]
     rw [hA2, show p + (1 + run isAn r + zzc n ((bytesOf s).drop (p + 1 + run isAn r))) = p + 1 + run isAn r + zzc n ((bytesOf s).drop (p + 1 + run isAn r)) by rw [← Nat.add_assoc, ← Nat.add_assoc]]
     refine ⟨k1, fun x6 hx y0 y1 y2 y3 y4 y5 y6 y7 y8 y9 y10 => ?_⟩
     have k3 := k2 x6 (Nat.le_trans hx (Nat.le_trans (Nat.le_succ p) (Nat.le_add_right _ _))) y0 y1 y2 y3 y4 y5 y6 y7 y8 y9 y10
     refine Ev.succ ?_
     simp only [zb.l1]
     refine Ev.bind0 hm ?_
     refine Ev.pos (fun _ => gtZ (Nat.lt_succ_self p)) ?_
     rw [e1]
     refine Ev.bind hA ?_
     refine Ev.pos (fun _ => gtZ (Nat.lt_add_of_pos_right (Nat.pos_of_ne_zero hrn))) ?_
     refine Ev.bind hA ?_
     exact k3
   ·have hm2 : mkN (c :: r) = 0 := if_neg hmk
    rw [hm2] at hm
    refine stop ?_ (fun x6 hx y0 y1 y2 y3 y4 y5 y6 y7 y8 y9 y10 => ?_)
    ·simp only [zzc]
     rw [if_neg (fun h => hmk h.1)]
    ·refine Ev.succ ?_
     simp only [zb.l1]
     refine Ev.bind0 hm ?_
     refine Ev.neg (fun _ => ngtZ (Nat.le_refl _)) ?_
     refine Ev.pos (fun _ => zeZ _) ?_
     refine Ev.pos (fun _ => leZ hx) ?_
     refine Ev.pos (fun _ => leZ hp) ?_
     rw [Int.toNat_natCast, Int.toNat_natCast]
     exact fin_ev s hs p hp _
end Go.Proofs.YtlijjnjpomnphaaGreatDoorY
end
section
namespace Go.Proofs.YtlijjnjpomnphaaGreatDoorY
open Go.RowKit YtlijjnjpomnphaaGreatDoorH YtlijjnjpomnphaaGreatDoorB YtlijjnjpomnphaaGreatDoorM YtlijjnjpomnphaaGreatDoorP YtlijjnjpomnphaaGreatDoor.S YtlijjnjpomnphaaGreatDoorW.PrintWords YtlijjnjpomnphaaGreatDoorW.PrintLast
theorem all_run {p : Int → Bool} : ∀ l : List Int, l.all p = true ↔ run p l = l.length
 | [] => by simp [zgf]
 | x :: l => by
  cases hx : p x with
  | true => rw [zed hx, List.length_cons, List.all_cons, hx, Bool.true_and, all_run l]; omega
  | false => rw [znc hx, List.length_cons, List.all_cons, hx, Bool.false_and]; simp
theorem finM_eq (s : ByteArray) (q : Nat) (hq : q ≤ s.size) (m : M11) : finM s q m = if ((bytesOf s).drop q).all isBl = true then m else noM := by
 unfold finM
 have h := zce isBl ((bytesOf s).drop q)
 have h2 := all_run (p := isBl) ((bytesOf s).drop q)
 rw [List.length_drop, bytesOf_length] at h h2
 by_cases hc : ((bytesOf s).drop q).all isBl = true
 ·rw [if_pos hc, if_neg (by have := h2.1 hc; omega)]
 ·rw [if_neg hc, if_pos (by
   rcases Nat.lt_or_ge (q + run isBl ((bytesOf s).drop q)) s.size with h3 | h3
   ·exact h3
   ·exact absurd (h2.2 (by omega)) hc)]
theorem locR_43 (r : List Int) : locR (43 :: r) = if run isAn r = 0 then none else some (r.take (zbf r), r.drop (zbf r)) := by
 simp only [locR]
 rfl
theorem locR_ne (c : Int) (r : List Int) (h : c ≠ 43) : locR (c :: r) = some ([], c :: r) := by
 simp only [locR]
 rw [if_neg h]
def LocM (s : ByteArray) (p : Nat) (y1 y2 y3 y4 y5 y6 y7 y8 y9 : ByteArray) (M : M11) : Prop := match locR ((bytesOf s).drop p) with
 | none => M = noM
 | some r => if r.2.all isBl = true then ∃ lo, bytesOf lo = r.1 ∧ M = (true, y1, y2, y3, y4, y5, y6, y7, y8, y9, lo) else M = noM
theorem j8_ev (s : ByteArray) (hs : s.size ≤ 2000000000) (p : Nat) (hp : p ≤ s.size) (b : Bool) (hb : b = true ↔ ∃ r, (bytesOf s).drop p = 43 :: r) (y0 : Bool) (y1 y2 y3 y4 y5 y6 y7 y8 y9 : ByteArray) :
  ∃ M, Ev (fun k => zb.j8 k s (p : Int) b y0 y1 y2 y3 y4 y5 y6 y7 y8 y9 ⟨#[]⟩) M ∧ LocM s p y1 y2 y3 y4 y5 y6 y7 y8 y9 M := by
 by_cases h : b = true
 ·obtain ⟨r, hr⟩ := hb.1 h
  have hlt : p < s.size := by
   rcases Nat.lt_or_ge p s.size with h | h
   ·exact h
   ·rw [List.drop_of_length_le (by rw [bytesOf_length]; omega)] at hr; cases hr
  have hr1 : r = (bytesOf s).drop (p + 1) := by
   have h2 := zlc (bytesOf s) p (by rw [bytesOf_length]; exact hlt)
   rw [hr] at h2
   injection h2
  have hA := alnum_ev s hs (p + 1) hlt
  rw [← hr1] at hA
  have e1 := w64s hs hp
  by_cases hrn : run isAn r = 0
  ·refine ⟨noM, ?_, ?_⟩
   ·refine Ev.succ ?_
    simp only [zb.j8]
    refine Ev.pos (fun _ => h) ?_
    rw [e1]
    refine Ev.bind hA ?_
    refine Ev.pos (fun _ => by rw [hrn, Nat.add_zero]) ?_
    exact Ev.now _
   ·unfold LocM
    rw [hr]
    rw [locR_43, if_pos hrn]
  ·have hle : p + 1 + run isAn r ≤ s.size := by
    have h3 := zce isAn r
    rw [hr1, List.length_drop, bytesOf_length] at h3
    rw [hr1]
    generalize run isAn ((bytesOf s).drop (p + 1)) = g at h3
    omega
   have hdr : r.drop (run isAn r) = (bytesOf s).drop (p + 1 + run isAn r) := by
    generalize run isAn r = g
    rw [hr1, List.drop_drop]
   have hrl : r.length = s.size - (p + 1) := by rw [hr1, List.length_drop, bytesOf_length]
   obtain ⟨k1, k2⟩ := loc_ev s hs r.length (p + 1 + run isAn r) hle (by rw [hrl]; generalize run isAn r = g at hle; omega)
   have k3 := k2 (p + 1) (Nat.le_add_right _ _) y0 y1 y2 y3 y4 y5 y6 y7 y8 y9 ⟨#[]⟩
   have hLL : zbf r = run isAn r + zzc r.length ((bytesOf s).drop (p + 1 + run isAn r)) := by unfold zbf; rw [hdr]
   obtain ⟨q, hq⟩ : ∃ q, q = p + 1 + run isAn r + zzc r.length ((bytesOf s).drop (p + 1 + run isAn r)) := ⟨_, rfl⟩
   have hq2 : q = p + 1 + zbf r := by rw [hq, hLL]; generalize run isAn r = g; generalize zzc r.length ((bytesOf s).drop (p + 1 + g)) = g2; omega
   rw [← hq] at k1 k3
   refine ⟨finM s q (true, y1, y2, y3, y4, y5, y6, y7, y8, y9, s.extract (p + 1) q), ?_, ?_⟩
   ·refine Ev.succ ?_
    simp only [zb.j8]
    refine Ev.pos (fun _ => h) ?_
    rw [e1]
    refine Ev.bind hA ?_
    refine Ev.neg (fun _ e => hrn (by generalize run isAn r = g at e; omega)) ?_
    exact k3
   ·unfold LocM
    rw [hr]
    rw [locR_43, if_neg hrn, finM_eq s q k1]
    have e2 : r.drop (zbf r) = (bytesOf s).drop q := by rw [hr1, List.drop_drop, ← hr1, hq2]
    simp only [e2]
    by_cases hc : ((bytesOf s).drop q).all isBl = true
    ·rw [if_pos hc, if_pos hc]
     refine ⟨_, ?_, rfl⟩
     rw [zoc, ← hr1, show q - (p + 1) = zbf r by omega]
    ·rw [if_neg hc, if_neg hc]
 ·refine ⟨finM s p (true, y1, y2, y3, y4, y5, y6, y7, y8, y9, ⟨#[]⟩), ?_, ?_⟩
  ·refine Ev.succ ?_
   simp only [zb.j8]
   refine Ev.neg (fun _ => h) ?_
   exact fin_ev s hs p hp _
  ·unfold LocM
   rw [finM_eq s p hp]
   have : locR ((bytesOf s).drop p) = some ([], (bytesOf s).drop p) := by
    cases hq : (bytesOf s).drop p with
    | nil => rfl
    | cons c r =>
     exact locR_ne c r (fun e => h (hb.2 ⟨r, by rw [hq, e]⟩))
   simp only [this]
   by_cases hc : ((bytesOf s).drop p).all isBl = true
   ·rw [if_pos hc, if_pos hc]
    exact ⟨⟨#[]⟩, rfl, rfl⟩
   ·rw [if_neg hc, if_neg hc]
theorem drop43 (s : ByteArray) (p : Nat) (hp : p < s.size) : ((bytesOf s).getD p 0 == 43) = true ↔ ∃ r, (bytesOf s).drop p = 43 :: r := by
 rw [zlc _ _ (by rw [bytesOf_length]; exact hp), beq_iff_eq]
 constructor
 ·intro h; exact ⟨_, by rw [h]⟩
 ·rintro ⟨r, h⟩; injection h
def wsDev : List ByteArray := [(⟨#[100, 101, 118]⟩ : ByteArray)]
def wsPost : List ByteArray := [(⟨#[112, 111, 115, 116]⟩ : ByteArray), (⟨#[114, 101, 118]⟩ : ByteArray), (⟨#[114]⟩ : ByteArray)]
def wsPre : List ByteArray := [(⟨#[97, 108, 112, 104, 97]⟩ : ByteArray), (⟨#[98, 101, 116, 97]⟩ : ByteArray), (⟨#[112, 114, 101, 118, 105, 101, 119]⟩ : ByteArray), (⟨#[112, 114, 101]⟩ : ByteArray), (⟨#[114, 99]⟩ : ByteArray), (⟨#[97]⟩ : ByteArray), (⟨#[98]⟩ : ByteArray), (⟨#[99]⟩ : ByteArray)]
theorem wsDev_B : wsDev.map bytesOf = devC := by rfl
theorem wsPost_B : wsPost.map bytesOf = postC := by rfl
theorem wsPre_B : wsPre.map bytesOf = preC := by rfl
theorem wsDev_ok : ∀ w ∈ wsDev, bytesOf w ≠ [] ∧ w.size ≤ 1000 := by
 intro w hw
 simp only [wsDev, List.mem_cons, List.not_mem_nil, or_false] at hw
 subst hw
 exact ⟨by decide, by decide⟩
theorem wsPost_ok : ∀ w ∈ wsPost, bytesOf w ≠ [] ∧ w.size ≤ 1000 := by
 intro w hw
 simp only [wsPost, List.mem_cons, List.not_mem_nil, or_false] at hw
 rcases hw with rfl | rfl | rfl <;> exact ⟨by decide, by decide⟩
theorem wsPre_ok : ∀ w ∈ wsPre, bytesOf w ≠ [] ∧ w.size ≤ 1000 := by
 intro w hw
 simp only [wsPre, List.mem_cons, List.not_mem_nil, or_false] at hw
 rcases hw with rfl | rfl | rfl | rfl | rfl | rfl | rfl | rfl <;> exact ⟨by decide, by decide⟩
def WordM (s : ByteArray) (ws : List ByteArray) (a b : ByteArray) : Prop := b.size ≤ s.size ∧ (bytesOf a = [] → bytesOf b = []) ∧ (bytesOf a = [] ∨ a ∈ ws)
theorem nltZ {a b : Nat} (h : b ≤ a) : ¬ ((a : Nat) : Int) < ((b : Nat) : Int) := by omega
theorem j7_ev (s : ByteArray) (hs : s.size ≤ 2000000000) (p : Nat) (hp : p ≤ s.size) (y0 : Bool) (y1 y2 y3 y4 y5 y6 y7 : ByteArray) :
  ∃ (a b : ByteArray) (e : Nat) (M : M11), Ev (fun k => zb.j7 k s (p : Int) y0 y1 y2 y3 y4 y5 y6 y7 ⟨#[]⟩ ⟨#[]⟩ ⟨#[]⟩) M ∧ (optW (bytesOf a) (bytesOf b), (bytesOf s).drop e) = gdev ((bytesOf s).drop p) ∧ WordM s wsDev a b ∧ LocM s e y1 y2 y3 y4 y5 y6 y7 a b M := by
 obtain ⟨a, b, e, h1, h2, h3, h4, h5, h6⟩ := zig s hs p hp wsDev (by decide) wsDev_ok
 rw [wsDev_B] at h6
 by_cases hlt : e < s.size
 ·obtain ⟨M, k1, k2⟩ := j8_ev s hs e h2 ((bytesOf s).getD e 0 == 43) (drop43 s e hlt) y0 y1 y2 y3 y4 y5 y6 y7 a b
  refine ⟨a, b, e, M, ?_, h6, ⟨h3, h4, h5⟩, k2⟩
  refine Ev.succ ?_
  simp only [zb.j7]
  refine Ev.bind h1 ?_
  refine Ev.pos (fun _ => ltZ hlt) ?_
  refine Ev.pos (fun _ => zeZ e) ?_
  simp only [zad]
  exact k1
 ·obtain ⟨M, k1, k2⟩ := j8_ev s hs e h2 false (by
   constructor
   ·intro h; cases h
   ·rintro ⟨r, hr⟩
    rw [List.drop_of_length_le (by rw [bytesOf_length]; omega)] at hr; cases hr) y0 y1 y2 y3 y4 y5 y6 y7 a b
  refine ⟨a, b, e, M, ?_, h6, ⟨h3, h4, h5⟩, k2⟩
  refine Ev.succ ?_
  simp only [zb.j7]
  refine Ev.bind h1 ?_
  refine Ev.neg (fun _ => nltZ (Nat.le_of_not_lt hlt)) ?_
  exact k1
def postW (n1 n2 l : List Int) : Option (List Int × List Int) := if n1 ≠ [] then some (wPost, n1) else optW l n2
def PostM (s n1 n2 l : ByteArray) : Prop := (bytesOf n1 ≠ [] ∧ n1.size ≤ s.size ∧ n2 = ⟨#[]⟩ ∧ l = ⟨#[]⟩) ∨ (n1 = ⟨#[]⟩ ∧ WordM s wsPost l n2)
theorem j6_ev (s : ByteArray) (hs : s.size ≤ 2000000000) (p : Nat) (hp : p ≤ s.size) (b : Bool) (hb : b = true ↔ ∃ x, hyph ((bytesOf s).drop p) = some x) (y0 : Bool) (y1 y2 y3 y4 : ByteArray) :
  ∃ (n1 n2 l dl dn : ByteArray) (e1 e : Nat) (M : M11), Ev (fun k => zb.j6 k s (p : Int) b y0 y1 y2 y3 y4 ⟨#[]⟩ ⟨#[]⟩ ⟨#[]⟩ ⟨#[]⟩ ⟨#[]⟩ ⟨#[]⟩) M ∧
   (postW (bytesOf n1) (bytesOf n2) (bytesOf l), (bytesOf s).drop e1) = gpost ((bytesOf s).drop p) ∧ PostM s n1 n2 l ∧ (optW (bytesOf dl) (bytesOf dn), (bytesOf s).drop e) = gdev ((bytesOf s).drop e1) ∧ WordM s wsDev dl dn ∧ LocM s e y1 y2 y3 y4 n1 n2 l dl dn M := by
 by_cases h : b = true
 ·obtain ⟨x, hx⟩ := hb.1 h
  obtain ⟨d, r, hr, hd, rfl⟩ := zdh hx
  have hlt : p < s.size := by
   rcases Nat.lt_or_ge p s.size with h | h
   ·exact h
   ·rw [List.drop_of_length_le (by rw [bytesOf_length]; omega)] at hr; cases hr
  have hr1 : d :: r = (bytesOf s).drop (p + 1) := by
   have h2 := zlc (bytesOf s) p (by rw [bytesOf_length]; exact hlt)
   rw [hr] at h2
   injection h2
  have hD := zbe s hs (p + 1) hlt
  rw [← hr1] at hD
  obtain ⟨g, hg⟩ : ∃ g, g = run isD (d :: r) := ⟨_, rfl⟩
  have hgp : g ≠ 0 := by rw [hg, zed hd]; omega
  have hle : p + 1 + g ≤ s.size := by
   have h3 := zce isD (d :: r)
   rw [← hg, hr1, List.length_drop, bytesOf_length] at h3
   omega
  rw [← hg] at hD
  have e1 := w64s hs hp
  have hex : bytesOf (s.extract (p + 1) (p + 1 + g)) = dg (d :: r) := by
   rw [zoc, ← hr1, Nat.add_sub_cancel_left, hg]; rfl
  obtain ⟨dl, dn, e, M, k1, k2, k3, k4⟩ := j7_ev s hs (p + 1 + g) hle y0 y1 y2 y3 y4 (s.extract (p + 1) (p + 1 + g)) ⟨#[]⟩ ⟨#[]⟩
  refine ⟨s.extract (p + 1) (p + 1 + g), ⟨#[]⟩, ⟨#[]⟩, dl, dn, p + 1 + g, e, M, ?_, ?_, .inl ⟨?_, ?_, rfl, rfl⟩, k2, k3, k4⟩
  ·refine Ev.succ ?_
   simp only [zb.j6]
   refine Ev.pos (fun _ => h) ?_
   rw [e1]
   refine Ev.bind hD ?_
   refine Ev.pos (fun _ => zeZ _) ?_
   refine Ev.pos (fun _ => leZ (Nat.le_add_right _ _)) ?_
   refine Ev.pos (fun _ => leZ hle) ?_
   rw [Int.toNat_natCast, Int.toNat_natCast]
   exact k1
  ·unfold gpost postW
   rw [hx, hex, if_pos (dg_ne (by rw [← hg]; exact hgp))]
   have : dr (d :: r) = (bytesOf s).drop (p + 1 + g) := by unfold dr; rw [← hg, hr1, List.drop_drop]
   show _ = (some (wPost, dg (d :: r)), dr (d :: r))
   rw [this]
  ·rw [hex]; exact dg_ne (by rw [← hg]; exact hgp)
  ·rw [sz_B, zoc, List.length_take, List.length_drop, bytesOf_length]; omega
 ·have hh : hyph ((bytesOf s).drop p) = none := by
   cases hq : hyph ((bytesOf s).drop p) with
   | none => rfl
   | some x => exact absurd (hb.2 ⟨x, hq⟩) h
  obtain ⟨a, b2, e1, h1, h2, h3, h4, h5, h6⟩ := zig s hs p hp wsPost (by decide) wsPost_ok
  rw [wsPost_B] at h6
  obtain ⟨dl, dn, e, M, k1, k2, k3, k4⟩ := j7_ev s hs e1 h2 y0 y1 y2 y3 y4 ⟨#[]⟩ b2 a
  refine ⟨⟨#[]⟩, b2, a, dl, dn, e1, e, M, ?_, ?_, .inr ⟨rfl, h3, h4, h5⟩, k2, k3, k4⟩
  ·refine Ev.succ ?_
   simp only [zb.j6]
   refine Ev.neg (fun _ => h) ?_
   refine Ev.bind h1 ?_
   exact k1
  ·unfold gpost postW
   rw [hh, if_neg (fun h => h rfl)]
   exact h6
end Go.Proofs.YtlijjnjpomnphaaGreatDoorY
end
section
namespace Go.Proofs.YtlijjnjpomnphaaGreatDoorY
open Go.RowKit YtlijjnjpomnphaaGreatDoorH YtlijjnjpomnphaaGreatDoorB YtlijjnjpomnphaaGreatDoorM YtlijjnjpomnphaaGreatDoorP YtlijjnjpomnphaaGreatDoor.S YtlijjnjpomnphaaGreatDoorW.PrintWords YtlijjnjpomnphaaGreatDoorW.PrintLast
theorem hyph_iff (s : ByteArray) (p : Nat) : (∃ x, hyph ((bytesOf s).drop p) = some x) ↔ ∃ r, (bytesOf s).drop p = 45 :: r ∧ run isD r ≠ 0 := by
 cases hq : (bytesOf s).drop p with
 | nil =>
  constructor
  ·rintro ⟨x, h⟩; cases h
  ·rintro ⟨r, h, _⟩; cases h
 | cons c r =>
  simp only [hyph]
  by_cases h : c = 45 ∧ run isD r ≠ 0
  ·rw [if_pos h]
   exact ⟨fun _ => ⟨r, by rw [h.1], h.2⟩, fun _ => ⟨_, rfl⟩⟩
  ·rw [if_neg h]
   constructor
   ·rintro ⟨x, h⟩; cases h
   ·rintro ⟨r2, h2, h3⟩
    injection h2 with e1 e2
    exact absurd ⟨e1, by rw [e2]; exact h3⟩ h
def RestM (s : ByteArray) (t : List Int) (y1 y2 : ByteArray) (M : M11) : Prop := ∃ (pl pn n1 n2 l dl dn : ByteArray) (e : Nat), code3 t = (optW (bytesOf pl) (bytesOf pn), postW (bytesOf n1) (bytesOf n2) (bytesOf l), optW (bytesOf dl) (bytesOf dn), (bytesOf s).drop e) ∧
 WordM s wsPre pl pn ∧ PostM s n1 n2 l ∧ WordM s wsDev dl dn ∧ LocM s e y1 y2 pl pn n1 n2 l dl dn M
theorem j5_ev (s : ByteArray) (hs : s.size ≤ 2000000000) (p q : Nat) (hpq : p ≤ q) (hq : q ≤ s.size) (y0 : Bool) (y1 : ByteArray) :
  ∃ M, Ev (fun k => zb.j5 k s (p : Int) (q : Int) y0 y1 ⟨#[]⟩ ⟨#[]⟩ ⟨#[]⟩ ⟨#[]⟩ ⟨#[]⟩ ⟨#[]⟩ ⟨#[]⟩ ⟨#[]⟩ ⟨#[]⟩) M ∧ RestM s ((bytesOf s).drop q) y1 (s.extract p q) M := by
 obtain ⟨a, b, e, h1, h2, h3, h4, h5, h6⟩ := zig s hs q hq wsPre (by decide) wsPre_ok
 rw [wsPre_B] at h6
 have key : ∀ (bb : Bool), (bb = true ↔ ∃ x, hyph ((bytesOf s).drop e) = some x) → (∀ R, Ev (fun k => zb.j6 k s (e : Int) bb y0 y1 (s.extract p q) a b ⟨#[]⟩ ⟨#[]⟩ ⟨#[]⟩ ⟨#[]⟩ ⟨#[]⟩ ⟨#[]⟩) R → Ev (fun k => zb.j5 k s (p : Int) (q : Int) y0 y1 ⟨#[]⟩ ⟨#[]⟩ ⟨#[]⟩ ⟨#[]⟩ ⟨#[]⟩ ⟨#[]⟩ ⟨#[]⟩ ⟨#[]⟩ ⟨#[]⟩) R) →
   ∃ M, Ev (fun k => zb.j5 k s (p : Int) (q : Int) y0 y1 ⟨#[]⟩ ⟨#[]⟩ ⟨#[]⟩ ⟨#[]⟩ ⟨#[]⟩ ⟨#[]⟩ ⟨#[]⟩ ⟨#[]⟩ ⟨#[]⟩) M ∧ RestM s ((bytesOf s).drop q) y1 (s.extract p q) M := by
  intro bb hbb hgo
  obtain ⟨n1, n2, l, dl, dn, e1, e2, M, k1, k2, k3, k4, k5, k6⟩ := j6_ev s hs e h2 bb hbb y0 y1 (s.extract p q) a b
  exact ⟨M, hgo M k1, a, b, n1, n2, l, dl, dn, e2, code3_of h6.symm k2.symm k4.symm, ⟨h3, h4, h5⟩, k3, k5, k6⟩
 have c1 := zeZ p
 have c2 := leZ hpq
 have c3 := leZ hq
 have e1 := w64s hs h2
 by_cases hlt : e + 1 < s.size
 ·have hl : e < (bytesOf s).length := by rw [bytesOf_length]; omega
  have hl2 : e + 1 < (bytesOf s).length := by rw [bytesOf_length]; omega
  have d1 := zlc _ _ hl
  have d2 := zlc _ _ hl2
  have a1 := ltZ hlt
  have a2 := zeZ e
  have a3 := ltZ (Nat.lt_of_succ_lt hlt)
  have a4 := zeZ (e + 1)
  by_cases h45 : (bytesOf s).getD e 0 = 45
  ·refine key (isD ((bytesOf s).getD (e + 1) 0)) ?_ ?_
   ·rw [hyph_iff]
    constructor
    ·intro h
     exact ⟨(bytesOf s).drop (e + 1), by rw [d1, h45], by rw [d2, zed h]; exact Nat.succ_ne_zero _⟩
    ·rintro ⟨r, hr, hn⟩
     rw [d1] at hr
     injection hr with _ hr
     cases hx : isD ((bytesOf s).getD (e + 1) 0) with
     | true => rfl
     | false => rw [← hr, d2, znc hx] at hn; exact absurd rfl hn
   ·intro R hR
    refine Ev.succ ?_
    simp only [zb.j5]
    refine Ev.pos (fun _ => c1) ?_
    refine Ev.pos (fun _ => c2) ?_
    refine Ev.pos (fun _ => c3) ?_
    refine Ev.bind h1 ?_
    simp only [e1, zad, zee, Option.bind_some]
    refine Ev.pos (fun _ => a1) ?_
    refine Ev.pos (fun _ => a2) ?_
    refine Ev.pos (fun _ => a3) ?_
    refine Ev.pos (fun _ => h45) ?_
    refine Ev.pos (fun _ => a4) ?_
    rw [Int.toNat_natCast, Int.toNat_natCast]
    exact hR
  ·refine key false ?_ ?_
   ·rw [hyph_iff]
    constructor
    ·intro h; cases h
    ·rintro ⟨r, hr, hn⟩
     rw [d1] at hr
     injection hr with hr _
     exact absurd hr h45
   ·intro R hR
    refine Ev.succ ?_
    simp only [zb.j5]
    refine Ev.pos (fun _ => c1) ?_
    refine Ev.pos (fun _ => c2) ?_
    refine Ev.pos (fun _ => c3) ?_
    refine Ev.bind h1 ?_
    simp only [e1, zad, zee, Option.bind_some]
    refine Ev.pos (fun _ => a1) ?_
    refine Ev.pos (fun _ => a2) ?_
    refine Ev.pos (fun _ => a3) ?_
    refine Ev.neg (fun _ => h45) ?_
    rw [Int.toNat_natCast, Int.toNat_natCast]
    exact hR
 ·have a1 := nltZ (Nat.le_of_not_lt hlt)
  refine key false ?_ ?_
  ·rw [hyph_iff]
   constructor
   ·intro h; cases h
   ·rintro ⟨r, hr, hn⟩
    have h9 := congrArg List.length hr
    rw [List.length_drop, bytesOf_length, List.length_cons] at h9
    have : r = [] := List.eq_nil_of_length_eq_zero (by omega)
    rw [this] at hn
    exact absurd rfl hn
  ·intro R hR
   refine Ev.succ ?_
   simp only [zb.j5]
   refine Ev.pos (fun _ => c1) ?_
   refine Ev.pos (fun _ => c2) ?_
   refine Ev.pos (fun _ => c3) ?_
   refine Ev.bind h1 ?_
   simp only [e1, zad, zee, Option.bind_some]
   refine Ev.neg (fun _ => a1) ?_
   rw [Int.toNat_natCast, Int.toNat_natCast]
   exact hR
def RelM (s : ByteArray) (t : List Int) (y1 : ByteArray) (M : M11) : Prop := if run isD t = 0 then M = noM else ∃ rel : ByteArray, rel.size ≤ s.size ∧ zsb isPt (bytesOf rel) = (rels t.length t).1 ∧ RestM s (rels t.length t).2 y1 rel M
theorem j3_ev (s : ByteArray) (hs : s.size ≤ 2000000000) (p : Nat) (hp : p ≤ s.size) (y0 : Bool) (y1 : ByteArray) :
  ∃ M, Ev (fun k => zb.j3 k s (p : Int) ((p + run isD ((bytesOf s).drop p) : Nat) : Int) y0 y1 ⟨#[]⟩ ⟨#[]⟩ ⟨#[]⟩ ⟨#[]⟩ ⟨#[]⟩ ⟨#[]⟩ ⟨#[]⟩ ⟨#[]⟩ ⟨#[]⟩) M ∧ RelM s ((bytesOf s).drop p) y1 M := by
 by_cases h0 : run isD ((bytesOf s).drop p) = 0
 ·refine ⟨noM, ?_, ?_⟩
  ·refine Ev.succ ?_
   simp only [zb.j3]
   refine Ev.pos (fun _ => by rw [h0, Nat.add_zero]) ?_
   exact Ev.now _
  ·unfold RelM
   rw [if_pos h0]
 ·obtain ⟨q, h1, h2, h3, h4, h5⟩ := rel_ev s hs (p : Int) ((bytesOf s).drop p).length p hp (by rw [List.length_drop, bytesOf_length]; exact Nat.le_refl _)
  obtain ⟨M, k1, k2⟩ := j5_ev s hs p q (Nat.le_trans (Nat.le_add_right _ _) h2) h1 y0 y1
  refine ⟨M, ?_, ?_⟩
  ·refine Ev.succ ?_
   simp only [zb.j3]
   refine Ev.neg (fun _ e => h0 (by generalize run isD ((bytesOf s).drop p) = g at e; omega)) ?_
   exact h5 _ _ _ _ _ _ _ _ _ _ _ M k1
  ·unfold RelM
   rw [if_neg h0]
   refine ⟨s.extract p q, ?_, ?_, ?_⟩
   ·rw [sz_B, zoc, List.length_take, List.length_drop, bytesOf_length]; omega
   ·rw [zoc, h4]
   ·rw [← h3]; exact k2
def HeadM (s : ByteArray) (t : List Int) (M : M11) : Prop := ∃ ep : ByteArray, bytesOf ep = epP t ∧ ep.size ≤ s.size ∧ RelM s (unE t) ep M
theorem j2_ev (s : ByteArray) (hs : s.size ≤ 2000000000) (p : Nat) (hp : p ≤ s.size) (b : Bool) (hb : b = hasE ((bytesOf s).drop p)) (y0 : Bool) :
  ∃ M, Ev (fun k => zb.j2 k s (p : Int) ((p + run isD ((bytesOf s).drop p) : Nat) : Int) b y0 ⟨#[]⟩ ⟨#[]⟩ ⟨#[]⟩ ⟨#[]⟩ ⟨#[]⟩ ⟨#[]⟩ ⟨#[]⟩ ⟨#[]⟩ ⟨#[]⟩ ⟨#[]⟩) M ∧ HeadM s ((bytesOf s).drop p) M := by
 cases b with
 | true =>
  have hE := hb.symm
  unfold hasE at hE
  rw [decide_eq_true_iff] at hE
  have hr := zce isD ((bytesOf s).drop p)
  rw [List.length_drop, bytesOf_length] at hr
  obtain ⟨m, hm⟩ : ∃ m, m = p + run isD ((bytesOf s).drop p) := ⟨_, rfl⟩
  have hms : m ≤ s.size := by
   generalize run isD ((bytesOf s).drop p) = g at hr hm
   omega
  have hpm : p ≤ m := by rw [hm]; exact Nat.le_add_right _ _
  have hdr : dr ((bytesOf s).drop p) = (bytesOf s).drop m := by unfold dr; rw [List.drop_drop, ← hm]
  have hdg : bytesOf (s.extract p m) = dg ((bytesOf s).drop p) := by unfold dg; rw [zoc, hm, Nat.add_sub_cancel_left]
  have hlt : m < s.size := by
   rcases Nat.lt_or_ge m s.size with h | h
   ·exact h
   ·have e : (bytesOf s).drop m = [] := List.drop_of_length_le (by rw [bytesOf_length]; exact h)
    rw [hdr, e] at hE
    exact absurd hE.2 (by decide)
  have hU : unE ((bytesOf s).drop p) = (bytesOf s).drop (m + 1) := by
   unfold unE
   rw [← hb, if_pos rfl, hdr, List.drop_drop]
  have hP : epP ((bytesOf s).drop p) = dg ((bytesOf s).drop p) := by
   unfold epP
   rw [← hb, if_pos rfl]
  obtain ⟨M, k1, k2⟩ := j3_ev s hs (m + 1) hlt y0 (s.extract p m)
  have D := zbe s hs (m + 1) hlt
  have c1 := zeZ p
  have c2 := leZ hpm
  have c3 := leZ hms
  have e1 := w64s hs hms
  rw [← hm]
  refine ⟨M, ?_, s.extract p m, by rw [hP, hdg], ?_, by rw [hU]; exact k2⟩
  ·refine Ev.succ ?_
   simp only [zb.j2]
   refine Ev.pos (fun _ => by trivial) ?_
   refine Ev.pos (fun _ => c1) ?_
   refine Ev.pos (fun _ => c2) ?_
   refine Ev.pos (fun _ => c3) ?_
   rw [e1, Int.toNat_natCast, Int.toNat_natCast]
   exact Ev.bind D k1
  ·rw [sz_B, zoc, List.length_take, List.length_drop, bytesOf_length]; omega
 | false =>
  obtain ⟨M, k1, k2⟩ := j3_ev s hs p hp y0 ⟨#[]⟩
  refine ⟨M, ?_, ⟨#[]⟩, ?_, Nat.zero_le _, ?_⟩
  ·refine Ev.succ ?_
   simp only [zb.j2]
   refine Ev.neg (fun _ => Bool.false_ne_true) ?_
   exact k1
  ·unfold epP
   rw [← hb, if_neg Bool.false_ne_true]
   rfl
  ·unfold unE
   rw [← hb, if_neg Bool.false_ne_true]
   exact k2
theorem j1_ev (s : ByteArray) (hs : s.size ≤ 2000000000) (p : Nat) (hp : p ≤ s.size) (y0 : Bool) :
  ∃ M, Ev (fun k => zb.j1 k s (p : Int) y0 ⟨#[]⟩ ⟨#[]⟩ ⟨#[]⟩ ⟨#[]⟩ ⟨#[]⟩ ⟨#[]⟩ ⟨#[]⟩ ⟨#[]⟩ ⟨#[]⟩ ⟨#[]⟩) M ∧ HeadM s ((bytesOf s).drop p) M := by
 have D := zbe s hs p hp
 obtain ⟨M, k1, k2⟩ := j2_ev s hs p hp _ rfl y0
 refine ⟨M, ?_, k2⟩
 have hr := zce isD ((bytesOf s).drop p)
 rw [List.length_drop, bytesOf_length] at hr
 obtain ⟨m, hm⟩ : ∃ m, m = p + run isD ((bytesOf s).drop p) := ⟨_, rfl⟩
 have hdr : dr ((bytesOf s).drop p) = (bytesOf s).drop m := by unfold dr; rw [List.drop_drop, ← hm]
 have hE : hasE ((bytesOf s).drop p) = decide (p < m ∧ m < s.size ∧ (bytesOf s).getD m 0 = 33) := by
  unfold hasE
  rw [hdr]
  apply decide_eq_decide.2
  have hz : run isD ((bytesOf s).drop p) ≠ 0 ↔ p < m := by generalize run isD ((bytesOf s).drop p) = g at hm; omega
  rw [hz]
  have hg : ((bytesOf s).drop m).getD 0 0 = (bytesOf s).getD m 0 := by
   rw [List.getD_eq_getElem?_getD, List.getD_eq_getElem?_getD, List.getElem?_drop, Nat.add_zero]
  rw [hg]
  constructor
  ·rintro ⟨h1, h2⟩
   refine ⟨h1, ?_, h2⟩
   rcases Nat.lt_or_ge m s.size with h | h
   ·exact h
   ·rw [List.getD_eq_getElem?_getD, List.getElem?_eq_none (by rw [bytesOf_length]; omega)] at h2
    exact absurd h2 (by decide)
  ·rintro ⟨h1, _, h2⟩
   exact ⟨h1, h2⟩
 rw [hE, ← hm] at k1
 rw [← hm] at D
 refine Ev.succ ?_
 simp only [zb.j1]
 refine Ev.bind D ?_
 by_cases h1 : p < m
 ·refine Ev.pos (fun _ => gtZ h1) ?_
  by_cases h2 : m < s.size
  ·refine Ev.pos (fun _ => ltZ h2) ?_
   refine Ev.pos (fun _ => zeZ m) ?_
   have : (bt s (m : Int) == 33) = decide (p < m ∧ m < s.size ∧ (bytesOf s).getD m 0 = 33) := by
    rw [zad, Bool.eq_iff_iff, beq_iff_eq, decide_eq_true_iff]
    exact ⟨fun h => ⟨h1, h2, h⟩, fun h => h.2.2⟩
   rw [this]
   exact k1
  ·rw [decide_eq_false (fun h => h2 h.2.1)] at k1
   refine Ev.neg (fun _ => nltZ (Nat.le_of_not_lt h2)) ?_
   exact k1
 ·rw [decide_eq_false (fun h => h1 h.1)] at k1
  refine Ev.neg (fun _ => ngtZ (Nat.le_of_not_lt h1)) ?_
  exact k1
theorem unV_at (s : ByteArray) (p : Nat) (hp : p < s.size) : unV ((bytesOf s).drop p) = if (bytesOf s).getD p 0 = 118 then (bytesOf s).drop (p + 1) else (bytesOf s).drop p := by
 have d := zlc (bytesOf s) p (by rw [bytesOf_length]; exact hp)
 rw [d]
 simp only [unV]
theorem matchH_ev (s : ByteArray) (hs : s.size ≤ 2000000000) : ∃ M, Ev (fun k => zb.f k s) M ∧ HeadM s (unV ((bytesOf s).drop (run isBl (bytesOf s)))) M := by
 have B := blanks_ev s hs 0 (Nat.zero_le _)
 rw [List.drop_zero, Nat.zero_add] at B
 have hr := zce isBl (bytesOf s)
 rw [bytesOf_length] at hr
 obtain ⟨p, hp⟩ : ∃ p, p = run isBl (bytesOf s) := ⟨_, rfl⟩
 rw [← hp] at B hr ⊢
 by_cases h1 : p < s.size
 ·rw [unV_at s p h1]
  by_cases h2 : (bytesOf s).getD p 0 = 118
  ·obtain ⟨M, k1, k2⟩ := j1_ev s hs (p + 1) h1 false
   rw [if_pos h2]
   refine ⟨M, ?_, k2⟩
   simp only [zb.f]
   refine Ev.bind B ?_
   refine Ev.pos (fun _ => ltZ h1) ?_
   refine Ev.pos (fun _ => zeZ p) ?_
   refine Ev.succ ?_
   simp only [zb.j0]
   refine Ev.pos (fun _ => by rw [zad, h2]; rfl) ?_
   rw [w64s hs hr]
   exact k1
  ·obtain ⟨M, k1, k2⟩ := j1_ev s hs p hr false
   rw [if_neg h2]
   refine ⟨M, ?_, k2⟩
   simp only [zb.f]
   refine Ev.bind B ?_
   refine Ev.pos (fun _ => ltZ h1) ?_
   refine Ev.pos (fun _ => zeZ p) ?_
   refine Ev.succ ?_
   simp only [zb.j0]
   refine Ev.neg (fun _ => by rw [zad, beq_iff_eq]; exact h2) ?_
   exact k1
 ·obtain ⟨M, k1, k2⟩ := j1_ev s hs p hr false
  have e : (bytesOf s).drop p = [] := List.drop_of_length_le (by rw [bytesOf_length]; omega)
  refine ⟨M, ?_, ?_⟩
  ·simp only [zb.f]
   refine Ev.bind B ?_
   refine Ev.neg (fun _ => nltZ (Nat.le_of_not_lt h1)) ?_
   refine Ev.succ ?_
   simp only [zb.j0]
   refine Ev.neg (fun _ => Bool.false_ne_true) ?_
   exact k1
  ·rw [e] at k2 ⊢
   exact k2
theorem locR_len {x : List Int} {r : List Int × List Int} (h : locR x = some r) : r.1.length ≤ x.length := by
 cases x with
 | nil => cases h; exact Nat.le_refl _
 | cons c y =>
  by_cases h43 : c = 43
  ·subst h43
   rw [locR_43] at h
   by_cases h0 : run isAn y = 0
   ·rw [if_pos h0] at h; cases h
   ·rw [if_neg h0] at h
    cases h
    show (y.take _).length ≤ y.length + 1
    rw [List.length_take]
    omega
  ·rw [locR_ne c y h43] at h
   cases h
   exact Nat.zero_le _
theorem locR_sub {x : List Int} {r : List Int × List Int} (h : locR x = some r) : ∀ c ∈ r.1, c ∈ x := by
 cases x with
 | nil => cases h; intro c hc; cases hc
 | cons a y =>
  by_cases h43 : a = 43
  ·subst h43
   rw [locR_43] at h
   by_cases h0 : run isAn y = 0
   ·rw [if_pos h0] at h; cases h
   ·rw [if_neg h0] at h
    cases h
    intro c hc
    exact List.mem_cons_of_mem _ (List.mem_of_mem_take hc)
  ·rw [locR_ne a y h43] at h
   cases h
   intro c hc
   cases hc
structure Told (s : ByteArray) (v : PV) (ep rel pl pn n1 n2 l dl dn lo : ByteArray) : Prop where
 hep : bytesOf ep = v.ep
 hrel : zsb isPt (bytesOf rel) = v.rel
 hpre : optW (bytesOf pl) (bytesOf pn) = v.pre
 hpost : postW (bytesOf n1) (bytesOf n2) (bytesOf l) = v.post
 hdev : optW (bytesOf dl) (bytesOf dn) = v.dev
 hloc : zsb isMk (bytesOf lo) = v.loc
 wpre : WordM s wsPre pl pn
 wpost : PostM s n1 n2 l
 wdev : WordM s wsDev dl dn
 sep : ep.size ≤ s.size
 srel : rel.size ≤ s.size
 sloc : lo.size ≤ s.size
 slo : ∀ x ∈ bytesOf lo, x ∈ bytesOf s
theorem match_ev (s : ByteArray) (hs : s.size ≤ 2000000000) : ∃ M, Ev (fun k => zb.f k s) M ∧ (match codeV (unV ((bytesOf s).drop (run isBl (bytesOf s)))) with
  | none => M = noM
  | some v => ∃ ep rel pl pn n1 n2 l dl dn lo, M = (true, ep, rel, pl, pn, n1, n2, l, dl, dn, lo) ∧ Told s v ep rel pl pn n1 n2 l dl dn lo) := by
 obtain ⟨M, h1, ep, h2, h3, h4⟩ := matchH_ev s hs
 refine ⟨M, h1, ?_⟩
 clear h1
 generalize unV ((bytesOf s).drop (run isBl (bytesOf s))) = t at h2 h4
 unfold RelM at h4
 unfold codeV headP
 by_cases h0 : run isD (unE t) = 0
 ·rw [if_pos h0] at h4 ⊢
  exact h4
 ·rw [if_neg h0] at h4 ⊢
  obtain ⟨rel, h5, h6, pl, pn, n1, n2, l, dl, dn, e, h7, h8, h9, h10, h11⟩ := h4
  simp only [Option.bind_some, h7]
  unfold LocM at h11
  cases hl : locR ((bytesOf s).drop e) with
  | none =>
   rw [hl] at h11
   exact h11
  | some r =>
   rw [hl] at h11
   simp only [Option.bind_some]
   by_cases hb : r.2.all isBl = true
   ·simp only [hb, if_true] at h11 ⊢
    obtain ⟨lo, h12, rfl⟩ := h11
    refine ⟨ep, rel, pl, pn, n1, n2, l, dl, dn, lo, rfl, h2, h6, rfl, rfl, rfl, by rw [h12], h8, h9, h10, h3, h5, ?_, fun x hx => List.mem_of_mem_drop (locR_sub hl x (by rw [← h12]; exact hx))⟩
    have := locR_len hl
    rw [sz_B, h12]
    rw [List.length_drop, bytesOf_length] at this
    omega
   ·simp only [hb] at h11 ⊢
    exact h11
end Go.Proofs.YtlijjnjpomnphaaGreatDoorY
end
section
namespace Go.Proofs.YtlijjnjpomnphaaGreatDoorY
open Go.RowKit YtlijjnjpomnphaaGreatDoorH YtlijjnjpomnphaaGreatDoorB YtlijjnjpomnphaaGreatDoorM YtlijjnjpomnphaaGreatDoorP YtlijjnjpomnphaaGreatDoor.S YtlijjnjpomnphaaGreatDoorW.PrintWords YtlijjnjpomnphaaGreatDoorW.PrintLast
def nPt (c : Int) : Bool := !isPt c
theorem index_from (s : ByteArray) (hs : s.size ≤ 1000000) : ∀ (n i : Nat), s.size - i = n → i ≤ s.size →
  Ev (fun k => zlb.l0 k s (⟨#[46]⟩ : ByteArray) i) (if i + run nPt ((bytesOf s).drop i) < s.size then ((i + run nPt ((bytesOf s).drop i) : Nat) : Int) else -1) := by
 have e1 : ((⟨#[46]⟩ : ByteArray).size : Int) = 1 := rfl
 intro n
 induction n with
 | zero =>
  intro i hn hi
  refine Ev.succ ?_
  simp only [zlb.l0]
  rw [e1, w64 (by omega) (by omega)]
  refine Ev.neg (fun _ => by first | omega | assumption | nofun) ?_
  refine Ev.eq (Ev.now _) ?_
  rw [if_neg (by omega)]
 | succ n ih =>
  intro i hn hi
  have hl : i < (bytesOf s).length := by rw [bytesOf_length]; omega
  have hg := zlc _ _ hl
  have hone : bytesOf (s.extract i (i + 1)) = [(bytesOf s).getD i 0] := by rw [zoc, hg]; simp
  refine Ev.succ ?_
  simp only [zlb.l0]
  rw [e1, w64 (by omega) (by omega)]
  have e2 : ((i : Int) + 1).toNat = i + 1 := by omega
  rw [e2, Int.toNat_natCast]
  refine Ev.pos (fun _ => by first | omega | trivial | assumption) ?_
  refine Ev.pos (fun _ => by first | omega | trivial | assumption) ?_
  refine Ev.pos (fun _ => by first | omega | trivial | assumption) ?_
  cases hp : isPt ((bytesOf s).getD i 0)
  ·refine Ev.neg (fun _ h => ?_) ?_
   ·rw [zyd, hone] at h
    have h2 : [(bytesOf s).getD i 0] = [46] := h
    injection h2 with h2 _
    rw [h2] at hp
    cases hp
   ·refine Ev.eq (ih (i + 1) (by omega) (by omega)) ?_
    rw [hg, zed (show nPt ((bytesOf s).getD i 0) = true by unfold nPt; rw [hp]; rfl)]
    have e3 : i + 1 + run nPt ((bytesOf s).drop (i + 1)) = i + (run nPt ((bytesOf s).drop (i + 1)) + 1) := by omega
    rw [e3]
  ·refine Ev.pos (fun _ => ?_) ?_
   ·rw [zyd, hone]
    have : (bytesOf s).getD i 0 = 46 := by simpa [isPt] using hp
    rw [this]
    rfl
   ·refine Ev.eq (Ev.now _) ?_
    rw [hg, znc (show nPt ((bytesOf s).getD i 0) = false by unfold nPt; rw [hp]; rfl), if_pos (by omega)]
    rfl
theorem split_from : ∀ (n : Nat) (s : ByteArray) (out : List ByteArray), s.size ≤ n → n ≤ 1000000 → out.length + n ≤ 2000000 →
  ∃ r, Ev (fun k => zib.l1 k s (⟨#[46]⟩ : ByteArray) out) r ∧ r.map bytesOf = out.map bytesOf ++ zsb isPt (bytesOf s) := by
 have e1 : ((⟨#[46]⟩ : ByteArray).size : Int) = 1 := rfl
 intro n
 induction n using Nat.strongRecOn with
 | _ n ih =>
  intro s out hs hn ho
  have hix := index_from s (by omega) _ 0 rfl (by omega)
  have hix2 : Ev (fun k => zlb.f k s (⟨#[46]⟩ : ByteArray)) (if run nPt (bytesOf s) < s.size then ((run nPt (bytesOf s) : Nat) : Int) else -1) := by simpa [zlb.f] using hix
  have hsp := splitP_run isPt (bytesOf s)
  rw [bytesOf_length] at hsp
  have hrun : run (fun c => !isPt c) (bytesOf s) = run nPt (bytesOf s) := rfl
  rw [hrun] at hsp
  by_cases hlt : run nPt (bytesOf s) < s.size
  ·rw [if_pos hlt] at hix2 hsp
   obtain ⟨m, hm⟩ : ∃ m, m = run nPt (bytesOf s) := ⟨_, rfl⟩
   rw [← hm] at hix2 hsp hlt
   have hb : bytesOf (s.extract (m + 1) s.size) = (bytesOf s).drop (m + 1) := B_drop _ _
   have hsz : (s.extract (m + 1) s.size).size = s.size - (m + 1) := by rw [zxe, hb, List.length_drop, bytesOf_length]
   obtain ⟨r, hr, h1⟩ := ih (s.size - (m + 1)) (by omega) (s.extract (m + 1) s.size) (out ++ [s.extract 0 m]) (by omega) (by omega) (by simp; omega)
   refine ⟨r, Ev.succ ?_, ?_⟩
   ·simp only [zib.l1]
    refine Ev.bind hix2 ?_
    rw [e1, w64 (i := (m : Int) + 1) (by omega) (by omega)]
    have e2 : ((m : Int) + 1).toNat = m + 1 := by omega
    rw [e2, Int.toNat_natCast]
    refine Ev.neg (fun _ => by first | omega | assumption | nofun) ?_
    refine Ev.pos (fun _ => by first | omega | trivial | assumption) ?_
    refine Ev.pos (fun _ => by first | omega | trivial | assumption) ?_
    refine Ev.pos (fun _ => by first | omega | trivial | assumption) ?_
    refine Ev.pos (fun _ => by first | omega | trivial | assumption) ?_
    refine Ev.pos (fun _ => by first | omega | trivial | assumption) ?_
    exact hr
   ·rw [h1, hb, hsp, List.map_append, List.map_cons, List.map_nil, B_take]
    simp
  ·rw [if_neg hlt] at hix2 hsp
   refine ⟨out ++ [s], Ev.succ ?_, ?_⟩
   ·simp only [zib.l1]
    refine Ev.bind hix2 ?_
    refine Ev.pos (fun _ => by first | omega | trivial | assumption) ?_
    refine Ev.pos (fun _ => by first | omega | trivial | assumption) ?_
    exact Ev.now _
   ·rw [hsp]; simp
theorem split_ev (s : ByteArray) (hs : s.size ≤ 1000000) : ∃ r, Ev (fun k => zib.f k s (⟨#[46]⟩ : ByteArray)) r ∧ r.map bytesOf = zsb isPt (bytesOf s) := by
 obtain ⟨r, h, h1⟩ := split_from s.size s [] (Nat.le_refl _) hs (by simp; omega)
 refine ⟨r, ?_, by simpa using h1⟩
 simp only [zib.f]
 refine Ev.neg (fun _ h => by cases h) ?_
 exact h
def seg (l : List Int) (a b : Nat) : List Int := (l.drop a).take (b - a)
theorem seg_succ (l : List Int) (a b : Nat) (h : a ≤ b) (hb : b < l.length) : seg l a (b + 1) = seg l a b ++ [l.getD b 0] := by
 unfold seg
 have e : b + 1 - a = (b - a) + 1 := by omega
 have hlen : b - a < (l.drop a).length := by rw [List.length_drop]; omega
 rw [e, List.take_succ_eq_append_getElem hlen]
 congr 2
 simp only [List.getElem_drop]
 have : a + (b - a) = b := by omega
 simp [this, List.getD_eq_getElem?_getD, hb]
theorem seg_nil (l : List Int) (a : Nat) : seg l a a = [] := by unfold seg; rw [Nat.sub_self]; rfl
theorem B_seg (s : ByteArray) (a b : Nat) : bytesOf (s.extract a b) = seg (bytesOf s) a b := zoc s a b
theorem low_le {c : Int} (h : 0 ≤ c ∧ c ≤ 127) : 0 ≤ low c ∧ low c ≤ 127 := by unfold low; split <;> omega
theorem splitP_mem (p : Int → Bool) : ∀ (l : List Int), ∀ w ∈ zsb p l, ∀ x ∈ w, x ∈ l := by
 intro l
 induction l with
 | nil => intro w hw x hx; simp [zsb] at hw; subst hw; cases hx
 | cons c r ih =>
  intro w hw x hx
  simp only [zsb] at hw
  split at hw
  ·rcases List.mem_cons.1 hw with rfl | hw
   ·cases hx
   ·exact List.mem_cons_of_mem _ (ih w hw x hx)
  ·cases hL : zsb p r with
   | nil => exact absurd hL (zzd p r)
   | cons y L =>
    rw [hL] at hw
    simp only [glue, List.mem_cons] at hw
    rcases hw with rfl | hw
    ·rcases List.mem_append.1 hx with hx | hx
     ·rw [List.mem_singleton.1 hx]; exact List.mem_cons_self
     ·exact List.mem_cons_of_mem _ (ih y (by rw [hL]; exact List.mem_cons_self) x hx)
    ·exact List.mem_cons_of_mem _ (ih w (by rw [hL]; exact List.mem_cons_of_mem _ hw) x hx)
theorem zlg (p : Int → Bool) : ∀ (l : List Int), ∀ w ∈ zsb p l, w.length ≤ l.length := by
 intro l
 induction l with
 | nil => intro w hw; simp [zsb] at hw; subst hw; simp
 | cons c r ih =>
  intro w hw
  simp only [zsb] at hw
  split at hw
  ·rcases List.mem_cons.1 hw with rfl | hw
   ·simp
   ·have := ih w hw; simp; omega
  ·cases hL : zsb p r with
   | nil => exact absurd hL (zzd p r)
   | cons y L =>
    rw [hL] at hw
    simp only [glue, List.mem_cons] at hw
    rcases hw with rfl | hw
    ·have := ih y (by rw [hL]; exact List.mem_cons_self)
     simp; omega
    ·have := ih w (by rw [hL]; exact List.mem_cons_of_mem _ hw)
     simp; omega
theorem lparts_from (s : ByteArray) (hs : s.size ≤ 1000000) : ∀ (n from_ i : Nat) (out : List ByteArray), s.size - i = n → i ≤ s.size → from_ ≤ i → out.length ≤ i →
  ∃ r, Ev (fun k => zx.l0 k s out from_ i) r ∧ r.map bytesOf = out.map bytesOf ++ glue (seg (bytesOf s) from_ i) (zsb isMk ((bytesOf s).drop i)) := by
 intro n
 induction n with
 | zero =>
  intro f i out hn hi hf ho
  have hi2 : i = s.size := by omega
  refine ⟨out ++ [s.extract f s.size], Ev.succ ?_, ?_⟩
  ·simp only [zx.l0, Int.toNat_natCast]
   refine Ev.neg (fun _ => by first | omega | assumption | nofun) ?_
   refine Ev.pos (fun _ => by first | omega | trivial | assumption) ?_
   refine Ev.pos (fun _ => by first | omega | trivial | assumption) ?_
   refine Ev.pos (fun _ => by first | omega | trivial | assumption) ?_
   exact Ev.now _
  ·rw [List.drop_of_length_le (by rw [bytesOf_length]; omega), List.map_append, List.map_cons, List.map_nil, B_seg, ← hi2]
   simp [zsb, glue]
 | succ n ih =>
  intro f i out hn hi hf ho
  have hl : i < (bytesOf s).length := by rw [bytesOf_length]; omega
  rw [zlc _ _ hl]
  simp only [zsb]
  cases hp : isMk ((bytesOf s).getD i 0)
  ·obtain ⟨r, hr, h1⟩ := ih f (i + 1) out (by omega) (by omega) (by omega) (by omega)
   have hp2 : ¬ ((bytesOf s).getD i 0 = 46 ∨ (bytesOf s).getD i 0 = 95 ∨ (bytesOf s).getD i 0 = 45) := of_decide_eq_false hp
   refine ⟨r, Ev.succ ?_, ?_⟩
   ·simp only [zx.l0, zad]
    refine Ev.pos (fun _ => by first | omega | trivial | assumption) ?_
    refine Ev.pos (fun _ => by first | omega | trivial | assumption) ?_
    refine Ev.neg (fun _ => by first | omega | assumption | nofun) ?_
    refine Ev.neg (fun _ => by first | omega | assumption | nofun) ?_
    refine Ev.neg (fun _ => by first | omega | assumption | nofun) ?_
    rw [w64 (by omega) (by omega)]
    exact hr
   ·rw [h1, if_neg (by simp), glue_glue, seg_succ _ _ _ hf hl]
  ·obtain ⟨r, hr, h1⟩ := ih (i + 1) (i + 1) (out ++ [s.extract f i]) (by omega) (by omega) (by omega) (by simp; omega)
   have hp2 : (bytesOf s).getD i 0 = 46 ∨ (bytesOf s).getD i 0 = 95 ∨ (bytesOf s).getD i 0 = 45 := of_decide_eq_true hp
   refine ⟨r, Ev.succ ?_, ?_⟩
   ·simp only [zx.l0, zad, Int.toNat_natCast]
    refine Ev.pos (fun _ => by first | omega | trivial | assumption) ?_
    refine Ev.pos (fun _ => by first | omega | trivial | assumption) ?_
    rcases hp2 with h | h | h
    ·(repeat (first | refine Ev.pos (fun _ => by first | omega | trivial | assumption) ?_ | refine Ev.neg (fun _ => by first | omega | assumption | nofun) ?_))
     rw [w64 (by omega) (by omega)]
     exact hr
    ·(repeat (first | refine Ev.pos (fun _ => by first | omega | trivial | assumption) ?_ | refine Ev.neg (fun _ => by first | omega | assumption | nofun) ?_))
     rw [w64 (by omega) (by omega)]
     exact hr
    ·(repeat (first | refine Ev.pos (fun _ => by first | omega | trivial | assumption) ?_ | refine Ev.neg (fun _ => by first | omega | assumption | nofun) ?_))
     rw [w64 (by omega) (by omega)]
     exact hr
   ·rw [h1, if_pos rfl, seg_nil, glue_nil (zzd _ _), List.map_append, List.map_cons, List.map_nil, B_seg]
    simp [glue]
theorem lparts_ev (s : ByteArray) (hs : s.size ≤ 1000000) : ∃ r, Ev (fun k => zx.f k s) r ∧ r.map bytesOf = zsb isMk (bytesOf s) := by
 obtain ⟨r, h, h1⟩ := lparts_from s hs _ 0 0 [] rfl (by omega) (by omega) (by simp)
 refine ⟨r, h, ?_⟩
 rw [h1, seg_nil, List.drop_zero, glue_nil (zzd _ _)]
 rfl
theorem toLower_eq (s : ByteArray) (hs : s.size ≤ 2000000000) (ha : ∀ x ∈ bytesOf s, x ≤ 127) : ∃ r, zrb.f s = some r ∧ bytesOf r = (bytesOf s).map low := by
 refine ⟨_, ?_, toLower_B s⟩
 unfold zrb.f
 rw [if_pos ⟨by omega, ha⟩]
theorem rdOf_mem {l : List ByteArray} {i : Nat} (h : i < l.length) : rdOf ByteArray.empty l i ∈ l := by
 simp only [rdOf, Int.toNat_natCast, List.getD_eq_getElem?_getD, List.getElem?_eq_getElem h, Option.getD_some]
 exact List.getElem_mem h
theorem drop_rd {l : List ByteArray} {i : Nat} (h : i < l.length) : l.drop i = rdOf ByteArray.empty l i :: l.drop (i + 1) := by
 rw [List.drop_eq_getElem_cons h]
 simp [rdOf, List.getD_eq_getElem?_getD, h]
theorem lows_from (l : List ByteArray) (hl : l.length ≤ 2000000) (ha : ∀ w ∈ l, w.size ≤ 2000000000 ∧ ∀ x ∈ bytesOf w, x ≤ 127) : ∀ (n i : Nat) (out : List ByteArray), l.length - i = n → i ≤ l.length → out.length ≤ i →
  ∃ r, Ev (fun k => zt.l0 k out l l.length i) r ∧ r.map bytesOf = out.map bytesOf ++ ((l.drop i).map bytesOf).map (List.map low) := by
 intro n
 induction n with
 | zero =>
  intro i out hn hi ho
  refine ⟨out, Ev.succ ?_, by rw [List.drop_of_length_le (by omega)]; simp⟩
  simp only [zt.l0]
  refine Ev.neg (fun _ => by first | omega | assumption | nofun) ?_
  exact Ev.now _
 | succ n ih =>
  intro i out hn hi ho
  have hil : i < l.length := by omega
  obtain ⟨h1, h2⟩ := ha _ (rdOf_mem hil)
  obtain ⟨t, ht, htb⟩ := toLower_eq _ h1 h2
  obtain ⟨r, hr, hb⟩ := ih (i + 1) (out ++ [t]) (by omega) (by omega) (by simp; omega)
  refine ⟨r, Ev.succ ?_, ?_⟩
  ·simp only [zt.l0]
   refine Ev.pos (fun _ => by first | omega | trivial | assumption) ?_
   refine Ev.pos (fun _ => by first | omega | trivial | assumption) ?_
   refine Ev.pos (fun _ => by first | omega | trivial | assumption) ?_
   refine Ev.bind0 ht ?_
   refine Ev.pos (fun _ => by first | omega | trivial | assumption) ?_
   rw [w64 (by omega) (by omega)]
   exact hr
  ·rw [hb, drop_rd hil, List.map_append, List.map_cons, List.map_nil, htb]
   simp
theorem local_ev (s : ByteArray) (hs : s.size ≤ 1000000) (ha : ∀ x ∈ bytesOf s, x ≤ 127) : ∃ r, Ev (fun k => zt.f k s) r ∧ r.map bytesOf = (zsb isMk (bytesOf s)).map (List.map low) := by
 obtain ⟨p, hp, hb⟩ := lparts_ev s hs
 have hpl : p.length ≤ 1000001 := by
  have h := congrArg List.length hb
  rw [List.length_map] at h
  have := zlf isMk (bytesOf s)
  rw [bytesOf_length] at this
  omega
 have hall : ∀ w ∈ p, w.size ≤ 2000000000 ∧ ∀ x ∈ bytesOf w, x ≤ 127 := by
  intro w hw
  have hm : bytesOf w ∈ zsb isMk (bytesOf s) := by rw [← hb]; exact List.mem_map_of_mem hw
  refine ⟨?_, fun x hx => ha x (splitP_mem _ _ _ hm x hx)⟩
  have h := zlg isMk (bytesOf s) _ hm
  rw [bytesOf_length, bytesOf_length] at h
  omega
 obtain ⟨r, hr, hrb⟩ := lows_from p (by omega) hall _ 0 [] rfl (by omega) (by simp)
 have hrl : r.length = p.length := by
  have h := congrArg List.length hrb
  simpa using h
 refine ⟨r, ?_, by rw [hrb, List.drop_zero, hb]; simp⟩
 simp only [zt.f]
 exact Ev.bind hp hr
end Go.Proofs.YtlijjnjpomnphaaGreatDoorY
end
section
namespace Go.Proofs.YtlijjnjpomnphaaGreatDoorY
open Go.RowKit YtlijjnjpomnphaaGreatDoorH YtlijjnjpomnphaaGreatDoorB YtlijjnjpomnphaaGreatDoorM YtlijjnjpomnphaaGreatDoorP YtlijjnjpomnphaaGreatDoor.S YtlijjnjpomnphaaGreatDoorW.PrintWords YtlijjnjpomnphaaGreatDoorW.PrintLast
theorem zuf (c : Int) : zyb.f c = some (isD c) := by
 unfold zyb.f isD
 by_cases h : c ≥ 48
 ·rw [if_pos h]; simp; omega
 ·rw [if_neg h]; simp; omega
def toks : Nat → List Int → List (List Int)
 | 0, _ => []
 | _ + 1, [] => []
 | n + 1, c :: r =>
  if isD c then (c :: r).take (run isD (c :: r)) :: toks n ((c :: r).drop (run isD (c :: r)))
  else if isL c then (c :: r).take (run isL (c :: r)) :: toks n ((c :: r).drop (run isL (c :: r)))
  else if c = 46 ∨ c = 45 then [c] :: toks n r
  else toks n r
theorem legacy_l1 (s : ByteArray) (hs : s.size ≤ 2000000000) (out : List ByteArray) (i : Nat) (r : List ByteArray) : ∀ (n j : Nat), s.size - j = n → j ≤ s.size →
  Ev (fun k => zf.j2 k s out i ((j + run isL ((bytesOf s).drop j) : Nat) : Int)) r → Ev (fun k => zf.l1 k s out i j) r := by
 intro n
 induction n with
 | zero =>
  intro j hn hj h
  rw [List.drop_of_length_le (by rw [bytesOf_length]; omega)] at h
  refine Ev.succ ?_
  simp only [zf.l1]
  refine Ev.neg (fun _ => by omega) ?_
  simpa [zgf] using h
 | succ n ih =>
  intro j hn hj h
  have hl : j < (bytesOf s).length := by rw [bytesOf_length]; omega
  rw [zlc _ _ hl] at h
  refine Ev.succ ?_
  simp only [zf.l1]
  refine Ev.pos (fun _ => by omega) ?_
  refine Ev.pos (fun _ => by omega) ?_
  rw [zad]
  cases hc : isL ((bytesOf s).getD j 0)
  ·rw [znc hc] at h
   simp only [isL, decide_eq_false_iff_not] at hc
   by_cases h1 : (bytesOf s).getD j 0 ≥ 97
   ·refine Ev.pos (fun _ => h1) ?_
    refine Ev.neg (fun _ => by omega) ?_
    simpa using h
   ·refine Ev.neg (fun _ => h1) ?_
    simpa using h
  ·rw [zed hc] at h
   simp only [isL, decide_eq_true_eq] at hc
   refine Ev.pos (fun _ => by omega) ?_
   refine Ev.pos (fun _ => by omega) ?_
   rw [w64 (by omega) (by omega)]
   refine ih (j + 1) (by omega) (by omega) ?_
   rw [show j + 1 + run isL ((bytesOf s).drop (j + 1)) = j + (run isL ((bytesOf s).drop (j + 1)) + 1) by omega]
   exact h
theorem legacy_from (s : ByteArray) (hs : s.size ≤ 2000000000) : ∀ (n i : Nat) (out : List ByteArray), s.size - i ≤ n → i ≤ s.size → out.length ≤ i →
  ∃ r, Ev (fun k => zf.l0 k s out i) r ∧ r.map bytesOf = out.map bytesOf ++ toks n ((bytesOf s).drop i) ∧ r.length ≤ s.size := by
 intro n
 induction n with
 | zero =>
  intro i out hn hi ho
  refine ⟨out, Ev.succ ?_, by simp [toks], by omega⟩
  simp only [zf.l0]
  refine Ev.neg (fun _ => by omega) ?_
  exact Ev.now _
 | succ n ih =>
  intro i out hn hi ho
  by_cases hlt : i < s.size
  ·have hl : i < (bytesOf s).length := by rw [bytesOf_length]; omega
   have hd := zbe s hs i hi
   have hle := zce isD ((bytesOf s).drop i)
   have hleL := zce isL ((bytesOf s).drop i)
   rw [List.length_drop, bytesOf_length] at hle hleL
   have hg := zlc _ _ hl
   cases hc : isD ((bytesOf s).getD i 0)
   ·rw [hg, znc hc] at hd
    have hj2 : ∀ (j : Nat) (r : List ByteArray), j = i + run isL ((bytesOf s).drop i) → Ev (fun k => zf.j2 k s out i j) r → Ev (fun k => zf.l0 k s out i) r := by
     intro j r hj hr
     refine Ev.succ ?_
     simp only [zf.l0]
     refine Ev.pos (fun _ => by omega) ?_
     refine Ev.bind hd ?_
     refine Ev.pos (fun _ => by omega) ?_
     refine legacy_l1 s hs out i r _ i rfl hi ?_
     rw [← hj]
     exact hr
    cases hL : isL ((bytesOf s).getD i 0)
    ·have h0 : run isL ((bytesOf s).drop i) = 0 := by rw [hg]; exact znc hL
     rw [h0, Nat.add_zero] at hj2
     by_cases hp : (bytesOf s).getD i 0 = 46 ∨ (bytesOf s).getD i 0 = 45
     ·obtain ⟨r, hr, h1, h2⟩ := ih (i + 1) (out ++ [s.extract i (i + 1)]) (by omega) (by omega) (by simp; omega)
      refine ⟨r, hj2 i r rfl ?_, ?_, h2⟩
      ·have hj3 : Ev (fun k => zf.j3 k s out i i true) r := by
        refine Ev.succ ?_
        simp only [zf.j3]
        refine Ev.pos (fun _ => trivial) ?_
        rw [w64 (i := (i : Int) + 1) (by omega) (by omega)]
        refine Ev.neg (fun _ => by omega) ?_
        refine Ev.pos (fun _ => by omega) ?_
        refine Ev.pos (fun _ => by omega) ?_
        refine Ev.pos (fun _ => by omega) ?_
        refine Ev.pos (fun _ => by omega) ?_
        exact hr
       refine Ev.succ ?_
       simp only [zf.j2]
       refine Ev.pos (fun _ => trivial) ?_
       refine Ev.pos (fun _ => by omega) ?_
       refine Ev.pos (fun _ => by omega) ?_
       rw [zad]
       by_cases h46 : (bytesOf s).getD i 0 = 46
       ·refine Ev.pos (fun _ => h46) ?_
        exact hj3
       ·refine Ev.neg (fun _ => h46) ?_
        have h45 : (bytesOf s).getD i 0 = 45 := by omega
        rw [h45]
        exact hj3
      ·rw [h1, hg, List.map_append]
       simp only [toks, hc, hL, Bool.false_eq_true, if_false]
       rw [if_pos hp]
       simp [zoc, hg]
     ·obtain ⟨r, hr, h1, h2⟩ := ih (i + 1) out (by omega) (by omega) (by omega)
      refine ⟨r, hj2 i r rfl ?_, ?_, h2⟩
      ·have hj3 : Ev (fun k => zf.j3 k s out i i false) r := by
        refine Ev.succ ?_
        simp only [zf.j3]
        refine Ev.neg (fun _ => by simp) ?_
        refine Ev.pos (fun _ => trivial) ?_
        rw [w64 (by omega) (by omega)]
        exact hr
       refine Ev.succ ?_
       simp only [zf.j2]
       refine Ev.pos (fun _ => trivial) ?_
       refine Ev.pos (fun _ => by omega) ?_
       refine Ev.pos (fun _ => by omega) ?_
       rw [zad]
       refine Ev.neg (fun _ => by omega) ?_
       have : ((bytesOf s).getD i 0 == 45) = false := by simp only [beq_eq_false_iff_ne, ne_eq]; intro h; exact hp (Or.inr h)
       rw [this]
       exact hj3
      ·rw [h1, hg]
       simp only [toks, hc, hL, Bool.false_eq_true, if_false]
       rw [if_neg hp]
    ·have h0 : 0 < run isL ((bytesOf s).drop i) := by rw [hg, zed hL]; omega
     obtain ⟨j, hj⟩ : ∃ j, j = i + run isL ((bytesOf s).drop i) := ⟨_, rfl⟩
     obtain ⟨r, hr, h1, h2⟩ := ih j (out ++ [s.extract i j]) (by omega) (by omega) (by simp; omega)
     refine ⟨r, hj2 j r hj ?_, ?_, h2⟩
     ·have hj3 : Ev (fun k => zf.j3 k s out i j false) r := by
       refine Ev.succ ?_
       simp only [zf.j3]
       refine Ev.neg (fun _ => by simp) ?_
       refine Ev.neg (fun _ => by omega) ?_
       refine Ev.pos (fun _ => by omega) ?_
       refine Ev.pos (fun _ => by omega) ?_
       refine Ev.pos (fun _ => by omega) ?_
       refine Ev.pos (fun _ => by omega) ?_
       exact hr
      refine Ev.succ ?_
      simp only [zf.j2]
      refine Ev.neg (fun _ => by omega) ?_
      exact hj3
     ·rw [h1, List.map_append, hj, ← List.drop_drop]
      rw [hg]
      simp only [toks, hc, hL, Bool.false_eq_true, if_false, if_true]
      simp [zoc, hg]
   ·have h0 : 0 < run isD ((bytesOf s).drop i) := by rw [hg, zed hc]; omega
    obtain ⟨j, hj⟩ : ∃ j, j = i + run isD ((bytesOf s).drop i) := ⟨_, rfl⟩
    rw [← hj] at hd
    obtain ⟨r, hr, h1, h2⟩ := ih j (out ++ [s.extract i j]) (by omega) (by omega) (by simp; omega)
    refine ⟨r, ?_, ?_, h2⟩
    ·have hj3 : Ev (fun k => zf.j3 k s out i j false) r := by
      refine Ev.succ ?_
      simp only [zf.j3]
      refine Ev.neg (fun _ => by simp) ?_
      refine Ev.neg (fun _ => by omega) ?_
      refine Ev.pos (fun _ => by omega) ?_
      refine Ev.pos (fun _ => by omega) ?_
      refine Ev.pos (fun _ => by omega) ?_
      refine Ev.pos (fun _ => by omega) ?_
      exact hr
     refine Ev.succ ?_
     simp only [zf.l0]
     refine Ev.pos (fun _ => by omega) ?_
     refine Ev.bind hd ?_
     refine Ev.neg (fun _ => by omega) ?_
     refine Ev.succ ?_
     simp only [zf.j2]
     refine Ev.neg (fun _ => by omega) ?_
     exact hj3
    ·rw [h1, List.map_append, hj, ← List.drop_drop]
     rw [hg]
     simp only [toks, hc, if_true]
     simp [zoc, hg]
  ·refine ⟨out, Ev.succ ?_, ?_, by omega⟩
   ·simp only [zf.l0]
    refine Ev.neg (fun _ => by omega) ?_
    exact Ev.now _
   ·rw [List.drop_of_length_le (by rw [bytesOf_length]; omega)]
    simp [toks]
theorem legacy_ev (s : ByteArray) (hs : s.size ≤ 2000000000) :
  ∃ r, Ev (fun k => zf.f k s) r ∧ r.map bytesOf = toks s.size (bytesOf s) ∧ r.length ≤ s.size := by
 obtain ⟨r, h, h1, h2⟩ := legacy_from s hs s.size 0 [] (by omega) (by omega) (by simp)
 exact ⟨r, h, by simpa using h1, h2⟩
theorem run_head {p : Int → Bool} {c : Int} {r : List Int} (h : p c = true) : (c :: r).take (run p (c :: r)) = c :: r.take (run p r) := by rw [zed h]; rfl
def Tok (t : List Int) : Prop := t = [46] ∨ t = [45] ∨ (t ≠ [] ∧ ∀ x ∈ t, isD x = true) ∨ (t ≠ [] ∧ ∀ x ∈ t, isL x = true)
theorem znh (p : Int → Bool) (l : List Int) : ∀ x ∈ l.take (run p l), p x = true := by
 rw [take_run]
 induction l with
 | nil => intro x hx; simp at hx
 | cons c l ih =>
  intro x hx
  cases h : p c
  ·simp [h] at hx
  ·simp only [List.takeWhile_cons, h, if_true, List.mem_cons] at hx
   rcases hx with rfl | hx
   ·exact h
   ·exact ih x hx
theorem toks_tok : ∀ (n : Nat) (l : List Int), ∀ t ∈ toks n l, Tok t ∧ t.length ≤ l.length := by
 intro n
 induction n with
 | zero => intro l t ht; simp [toks] at ht
 | succ n ih =>
  intro l t ht
  cases l with
  | nil => simp [toks] at ht
  | cons c r =>
   simp only [toks] at ht
   by_cases hc : isD c = true
   ·rw [if_pos hc, List.mem_cons] at ht
    rcases ht with rfl | ht
    ·exact ⟨.inr (.inr (.inl ⟨by rw [run_head hc]; simp, znh _ _⟩)), by rw [List.length_take]; exact Nat.min_le_right _ _⟩
    ·have h := ih _ _ ht
     exact ⟨h.1, Nat.le_trans h.2 (by rw [List.length_drop]; omega)⟩
   ·rw [if_neg hc] at ht
    by_cases hL : isL c = true
    ·rw [if_pos hL, List.mem_cons] at ht
     rcases ht with rfl | ht
     ·exact ⟨.inr (.inr (.inr ⟨by rw [run_head hL]; simp, znh _ _⟩)), by rw [List.length_take]; exact Nat.min_le_right _ _⟩
     ·have h := ih _ _ ht
      exact ⟨h.1, Nat.le_trans h.2 (by rw [List.length_drop]; omega)⟩
    ·rw [if_neg hL] at ht
     by_cases hp : c = 46 ∨ c = 45
     ·rw [if_pos hp, List.mem_cons] at ht
      rcases ht with rfl | ht
      ·exact ⟨by rcases hp with rfl | rfl <;> simp [Tok], by simp⟩
      ·have h := ih _ _ ht
       exact ⟨h.1, Nat.le_trans h.2 (by simp)⟩
     ·rw [if_neg hp] at ht
      have h := ih _ _ ht
      exact ⟨h.1, Nat.le_trans h.2 (by simp)⟩
def pad : Nat → List Int → List Int
 | 0, l => l
 | n + 1, l => pad n (48 :: l)
def norm (t : List Int) : List Int :=
 if t = [112, 114, 101] ∨ t = [112, 114, 101, 118, 105, 101, 119] ∨ t = [114, 99] then [42, 99]
 else if t = [45] then [42, 102, 105, 110, 97, 108, 45]
 else if t = [100, 101, 118] then [42, 64]
 else if isD (t.getD 0 0) = true then pad (8 - t.length) t
 else 42 :: t
theorem B_zero (x : ByteArray) : bytesOf ((⟨#[48]⟩ : ByteArray) ++ x) = 48 :: bytesOf x := by rw [zwb]; rfl
theorem B_star (x : ByteArray) : bytesOf ((⟨#[42]⟩ : ByteArray) ++ x) = 42 :: bytesOf x := by rw [zwb]; rfl
theorem size_zero (x : ByteArray) : ((⟨#[48]⟩ : ByteArray) ++ x).size = x.size + 1 := by rw [zxe, B_zero, zxe]; rfl
theorem padded_from : ∀ (n : Nat) (x : ByteArray), x.size ≤ 2000000000 → n = 8 - x.size → ∀ (j : Nat), j = x.size →
  ∃ r, Ev (fun k => zjb.l0 k x j) r ∧ bytesOf r = pad n (bytesOf x) := by
 intro n
 induction n with
 | zero =>
  intro x hx hn j hj
  refine ⟨x, Ev.succ ?_, rfl⟩
  simp only [zjb.l0]
  (repeat (first | refine Ev.pos (fun _ => by first | omega | trivial | assumption) ?_ | refine Ev.neg (fun _ => by first | omega | assumption | nofun) ?_))
  exact Ev.now _
 | succ n ih =>
  intro x hx hn j hj
  obtain ⟨r, hr, h⟩ := ih ((⟨#[48]⟩ : ByteArray) ++ x) (by rw [size_zero]; omega) (by rw [size_zero]; omega) (j + 1) (by rw [size_zero]; omega)
  refine ⟨r, Ev.succ ?_, by rw [h, B_zero]; rfl⟩
  simp only [zjb.l0]
  (repeat (first | refine Ev.pos (fun _ => by first | omega | trivial | assumption) ?_ | refine Ev.neg (fun _ => by first | omega | assumption | nofun) ?_))
  rw [w64 (by omega) (by omega)]
  exact hr
theorem padded_ev (x : ByteArray) (hx : x.size ≤ 2000000000) : ∃ r, Ev (fun k => zjb.f k x) r ∧ bytesOf r = pad (8 - (bytesOf x).length) (bytesOf x) := by
 rw [bytesOf_length]
 exact padded_from _ x hx rfl _ rfl
theorem norm_j0 (x : ByteArray) (hx : x.size ≤ 2000000000) (h0 : bytesOf x ≠ []) :
  ∃ r, Ev (fun k => zi.j0 k x) r ∧ bytesOf r = (if isD ((bytesOf x).getD 0 0) = true then pad (8 - (bytesOf x).length) (bytesOf x) else 42 :: bytesOf x) := by
 have hpos : 0 < (bytesOf x).length := List.length_pos_iff.2 h0
 rw [bytesOf_length] at hpos
 have hr := bt_range x 0
 obtain ⟨p, hp, hpb⟩ := padded_ev x hx
 cases hc : isD ((bytesOf x).getD 0 0)
 ·refine ⟨(⟨#[42]⟩ : ByteArray) ++ x, Ev.succ ?_, by rw [B_star]; simp⟩
  simp only [zi.j0]
  rw [w32 (by omega) (by omega), bt_zero, zuf, hc]
  simp only [Option.bind_some]
  (repeat (first | refine Ev.pos (fun _ => by first | omega | trivial | assumption) ?_ | refine Ev.neg (fun _ => by first | omega | assumption | nofun) ?_))
  exact Ev.now _
 ·refine ⟨p, Ev.succ ?_, by rw [hpb, bytesOf_length]; simp⟩
  simp only [zi.j0]
  rw [w32 (by omega) (by omega), bt_zero, zuf, hc]
  simp only [Option.bind_some]
  refine Ev.pos (fun _ => by first | omega | trivial | assumption) ?_
  refine Ev.pos (fun _ => by first | omega | trivial | assumption) ?_
  exact Ev.bind hp (Ev.now _)
theorem norm_ev (x : ByteArray) (hx : x.size ≤ 2000000000) (h0 : bytesOf x ≠ []) :
  ∃ r, Ev (fun k => zi.f k x) r ∧ bytesOf r = norm (bytesOf x) := by
 simp only [zi.f, zxd]
 simp only [List.map_cons, List.map_nil, UInt8.reduceToNat]
 obtain ⟨r, hr, hb⟩ := norm_j0 x hx h0
 obtain ⟨r1, hr1, hb1⟩ := norm_j0 ⟨#[99]⟩ (by decide) (by decide)
 obtain ⟨r2, hr2, hb2⟩ := norm_j0 ⟨#[102, 105, 110, 97, 108, 45]⟩ (by decide) (by decide)
 obtain ⟨r3, hr3, hb3⟩ := norm_j0 ⟨#[64]⟩ (by decide) (by decide)
 have e1 : bytesOf r1 = [42, 99] := hb1.trans (by decide)
 have e2 : bytesOf r2 = [42, 102, 105, 110, 97, 108, 45] := hb2.trans (by decide)
 have e3 : bytesOf r3 = [42, 64] := hb3.trans (by decide)
 unfold norm
 by_cases h1 : bytesOf x = [112, 114, 101]
 ·rw [if_pos (.inl h1)]
  exact ⟨r1, Ev.pos (fun _ => h1) hr1, e1⟩
 ·by_cases h2 : bytesOf x = [112, 114, 101, 118, 105, 101, 119]
  ·rw [if_pos (.inr (.inl h2))]
   exact ⟨r1, Ev.neg (fun _ => h1) (Ev.pos (fun _ => h2) hr1), e1⟩
  ·by_cases h3 : bytesOf x = [45]
   ·rw [if_neg (by rw [h3]; decide), if_pos h3]
    exact ⟨r2, Ev.neg (fun _ => h1) (Ev.neg (fun _ => h2) (Ev.pos (fun _ => h3) hr2)), e2⟩
   ·by_cases h4 : bytesOf x = [114, 99]
    ·rw [if_pos (.inr (.inr h4))]
     exact ⟨r1, Ev.neg (fun _ => h1) (Ev.neg (fun _ => h2) (Ev.neg (fun _ => h3) (Ev.pos (fun _ => h4) hr1))), e1⟩
    ·rw [if_neg (by simp [h1, h2, h4]), if_neg h3]
     by_cases h5 : bytesOf x = [100, 101, 118]
     ·rw [if_pos h5]
      exact ⟨r3, Ev.neg (fun _ => h1) (Ev.neg (fun _ => h2) (Ev.neg (fun _ => h3) (Ev.neg (fun _ => h4) (Ev.pos (fun _ => h5) hr3)))), e3⟩
     ·rw [if_neg h5]
      exact ⟨r, Ev.neg (fun _ => h1) (Ev.neg (fun _ => h2) (Ev.neg (fun _ => h3) (Ev.neg (fun _ => h4) (Ev.neg (fun _ => h5) hr)))), hb⟩
def fm : List Int := [42, 102, 105, 110, 97, 108, 45]
def zz : List Int := [48, 48, 48, 48, 48, 48, 48, 48]
def fin : List Int := [42, 102, 105, 110, 97, 108]
def pop (x : List Int) : Nat → List (List Int) → List (List Int)
 | 0, l => l
 | n + 1, l => if l.getD (l.length - 1) [] = x then pop x n (l.take (l.length - 1)) else l
theorem zkh (x : List Int) : ∀ (n : Nat) (l : List (List Int)), (pop x n l).length ≤ l.length := by
 intro n
 induction n with
 | zero => intro l; exact Nat.le_refl _
 | succ n ih =>
  intro l
  simp only [pop]
  split
  ·exact Nat.le_trans (ih _) (by rw [List.length_take]; omega)
  ·exact Nat.le_refl _
def step (out : List (List Int)) (t : List Int) : List (List Int) :=
 if (norm t).getD 0 0 = 42 then
  pop zz (if lt_ (norm t) fin = true then pop fm out.length out else out).length (if lt_ (norm t) fin = true then pop fm out.length out else out) ++ [norm t]
 else out ++ [norm t]
theorem step_length (out : List (List Int)) (t : List Int) : (step out t).length ≤ out.length + 1 := by
 unfold step
 have h1 := zkh fm out.length out
 split
 ·rw [List.length_append]
  have h2 := zkh zz (if lt_ (norm t) fin = true then pop fm out.length out else out).length (if lt_ (norm t) fin = true then pop fm out.length out else out)
  have h3 : (if lt_ (norm t) fin = true then pop fm out.length out else out).length ≤ out.length := by split <;> omega
  simp only [List.length_cons, List.length_nil]
  omega
 ·simp
theorem impl_l2 (x5 : ByteArray) (x11 : List ByteArray) (x12 x13 : Int) (h13 : 0 ≤ x13) (hb : x13 ≤ 2000000000) : ∀ (n : Nat) (x2 : List ByteArray), x2.length = n → n ≤ 2000000000 →
  ∃ y, y.map bytesOf = pop zz n (x2.map bytesOf) ∧ ∀ r, Ev (fun k => zc.l0 k (y ++ [x5]) x11 x12 (x13 + 1)) r → Ev (fun k => zc.l2 k x2 x5 x11 x12 x13) r := by
 intro n
 induction n with
 | zero =>
  intro x2 h2 hn
  refine ⟨x2, rfl, fun r hr => Ev.succ ?_⟩
  simp only [zc.l2]
  rw [w64 (i := x13 + 1) (by omega) (by omega)]
  (repeat (first | refine Ev.pos (fun _ => by first | omega | trivial | assumption) ?_ | refine Ev.neg (fun _ => by first | omega | assumption | nofun) ?_))
  exact hr
 | succ n ih =>
  intro x2 h2 hn
  have hw : wrap64 ((x2.length : Int) - 1) = (n : Nat) := by rw [w64 (by omega) (by omega)]; omega
  have hlen : (x2.map bytesOf).length = n + 1 := by rw [List.length_map]; exact h2
  by_cases hz : (x2.map bytesOf).getD n [] = zz
  ·obtain ⟨y, hy, hc⟩ := ih (x2.take n) (by rw [List.length_take]; omega) (by omega)
   refine ⟨y, ?_, fun r hr => Ev.succ ?_⟩
   ·simp only [pop]
    rw [hlen, Nat.add_sub_cancel, if_pos hz, hy, List.map_take]
   ·simp only [zc.l2]
    rw [hw]
    have ht : (rdOf ByteArray.empty x2 (n : Nat)).toList = ([48, 48, 48, 48, 48, 48, 48, 48] : List UInt8) := (zxd _ _).2 (by rw [rdOf_B]; exact hz)
    refine Ev.pos (fun _ => by first | omega | trivial | assumption) ?_
    refine Ev.pos (fun _ => by first | omega | trivial | assumption) ?_
    refine Ev.pos (fun _ => by first | omega | trivial | assumption) ?_
    refine Ev.pos (fun _ => by first | omega | trivial | assumption) ?_
    refine Ev.pos (fun _ => by first | omega | trivial | assumption) ?_
    exact hc r hr
  ·refine ⟨x2, ?_, fun r hr => Ev.succ ?_⟩
   ·simp only [pop]
    rw [hlen, Nat.add_sub_cancel, if_neg hz]
   ·simp only [zc.l2]
    rw [hw, w64 (i := x13 + 1) (by omega) (by omega)]
    have ht : ¬ (rdOf ByteArray.empty x2 (n : Nat)).toList = ([48, 48, 48, 48, 48, 48, 48, 48] : List UInt8) := fun h => hz (by rw [← rdOf_B]; exact (zxd _ _).1 h)
    refine Ev.pos (fun _ => by first | omega | trivial | assumption) ?_
    refine Ev.pos (fun _ => by first | omega | trivial | assumption) ?_
    refine Ev.pos (fun _ => by first | omega | trivial | assumption) ?_
    refine Ev.neg (fun _ => by first | omega | assumption | nofun) ?_
    refine Ev.pos (fun _ => by first | omega | trivial | assumption) ?_
    exact hr
theorem impl_l1 (x5 : ByteArray) (x11 : List ByteArray) (x12 x13 : Int) (h13 : 0 ≤ x13) (hb : x13 ≤ 2000000000) : ∀ (n : Nat) (x2 : List ByteArray), x2.length = n → n ≤ 2000000000 →
  ∃ y, y.map bytesOf = pop fm n (x2.map bytesOf) ∧ ∀ r, Ev (fun k => zc.j3 k y x5 x11 x12 x13) r → Ev (fun k => zc.l1 k x2 x5 x11 x12 x13) r := by
 intro n
 induction n with
 | zero =>
  intro x2 h2 hn
  refine ⟨x2, rfl, fun r hr => Ev.succ ?_⟩
  simp only [zc.l1]
  (repeat (first | refine Ev.pos (fun _ => by first | omega | trivial | assumption) ?_ | refine Ev.neg (fun _ => by first | omega | assumption | nofun) ?_))
  exact hr
 | succ n ih =>
  intro x2 h2 hn
  have hw : wrap64 ((x2.length : Int) - 1) = (n : Nat) := by rw [w64 (by omega) (by omega)]; omega
  have hlen : (x2.map bytesOf).length = n + 1 := by rw [List.length_map]; exact h2
  by_cases hz : (x2.map bytesOf).getD n [] = fm
  ·obtain ⟨y, hy, hc⟩ := ih (x2.take n) (by rw [List.length_take]; omega) (by omega)
   refine ⟨y, ?_, fun r hr => Ev.succ ?_⟩
   ·simp only [pop]
    rw [hlen, Nat.add_sub_cancel, if_pos hz, hy, List.map_take]
   ·simp only [zc.l1]
    rw [hw]
    have ht : (rdOf ByteArray.empty x2 (n : Nat)).toList = ([42, 102, 105, 110, 97, 108, 45] : List UInt8) := (zxd _ _).2 (by rw [rdOf_B]; exact hz)
    refine Ev.pos (fun _ => by first | omega | trivial | assumption) ?_
    refine Ev.pos (fun _ => by first | omega | trivial | assumption) ?_
    refine Ev.pos (fun _ => by first | omega | trivial | assumption) ?_
    refine Ev.pos (fun _ => by first | omega | trivial | assumption) ?_
    refine Ev.pos (fun _ => by first | omega | trivial | assumption) ?_
    exact hc r hr
  ·refine ⟨x2, ?_, fun r hr => Ev.succ ?_⟩
   ·simp only [pop]
    rw [hlen, Nat.add_sub_cancel, if_neg hz]
   ·simp only [zc.l1]
    rw [hw]
    have ht : ¬ (rdOf ByteArray.empty x2 (n : Nat)).toList = ([42, 102, 105, 110, 97, 108, 45] : List UInt8) := fun h => hz (by rw [← rdOf_B]; exact (zxd _ _).1 h)
    refine Ev.pos (fun _ => by first | omega | trivial | assumption) ?_
    refine Ev.pos (fun _ => by first | omega | trivial | assumption) ?_
    refine Ev.pos (fun _ => by first | omega | trivial | assumption) ?_
    refine Ev.neg (fun _ => by first | omega | assumption | nofun) ?_
    exact hr
theorem hasPrefix_star (x : ByteArray) (hx : x.size ≤ 2000000000) (h0 : bytesOf x ≠ []) : zac.f x (⟨#[42]⟩ : ByteArray) = some (decide ((bytesOf x).getD 0 0 = 42)) := by
 have hpos : 0 < (bytesOf x).length := List.length_pos_iff.2 h0
 have hpos2 := hpos
 rw [bytesOf_length] at hpos2
 have e1 : ((⟨#[42]⟩ : ByteArray).size : Int) = 1 := rfl
 unfold zac.f zec.f
 rw [e1, if_pos (by omega), if_pos (by omega), if_pos (by omega)]
 simp only [Option.bind_some, Option.some.injEq]
 rw [Bool.eq_iff_iff, beq_iff_eq, zyd, decide_eq_true_iff, B_take]
 have : bytesOf (⟨#[42]⟩ : ByteArray) = [42] := rfl
 rw [this]
 obtain ⟨c, l, hcl⟩ := List.exists_cons_of_ne_nil h0
 rw [hcl]
 simp
theorem norm_ne (t : List Int) (h : t ≠ []) : norm t ≠ [] := by
 unfold norm
 have hp : ∀ n (l : List Int), l ≠ [] → pad n l ≠ [] := by
  intro n
  induction n with
  | zero => intro l hl; exact hl
  | succ n ih => intro l hl; exact ih _ (by simp)
 split
 ·simp
 ·split
  ·simp
  ·split
   ·simp
   ·split
    ·exact hp _ _ h
    ·simp
theorem pad_length : ∀ (n : Nat) (l : List Int), (pad n l).length = n + l.length := by
 intro n
 induction n with
 | zero => intro l; simp [pad]
 | succ n ih => intro l; simp only [pad]; rw [ih]; simp; omega
theorem norm_length (t : List Int) : (norm t).length ≤ t.length + 8 := by
 unfold norm
 split
 ·simp
 ·split
  ·simp
  ·split
   ·simp
   ·split
    ·rw [pad_length]; omega
    ·simp
theorem impl_step (x11 : List ByteArray) (i : Nat) (hi : i ≤ 1000000000) (hlt : i < x11.length) (x2 : List ByteArray) (h2 : x2.length ≤ 1000000000) (ht : Tok ((x11.map bytesOf).getD i [])) (hs : ((x11.map bytesOf).getD i []).length ≤ 1000000000) :
  ∃ y, y.map bytesOf = (if (x11.map bytesOf).getD i [] = [46] then x2.map bytesOf else step (x2.map bytesOf) ((x11.map bytesOf).getD i [])) ∧
   ∀ r, Ev (fun k => zc.l0 k y x11 x11.length ((i + 1 : Nat) : Int)) r → Ev (fun k => zc.l0 k x2 x11 x11.length i) r := by
 have hrd := rdOf_B x11 i
 generalize hx : rdOf ByteArray.empty x11 (i : Nat) = x at hrd
 rw [← hrd] at ht hs ⊢
 have hxs : x.size ≤ 1000000000 := by rw [zxe]; exact hs
 have hne : bytesOf x ≠ [] := by rcases ht with h | h | h | h <;> (first | (rw [h]; decide) | exact h.1)
 have start : ∀ (y : List ByteArray) r, (bytesOf x = [46] → Ev (fun k => zc.j1 k x2 x x11 x11.length i true) r) → (bytesOf x ≠ [46] → Ev (fun k => zc.j1 k x2 x x11 x11.length i false) r) → Ev (fun k => zc.l0 k x2 x11 x11.length i) r := by
  intro y r h1 h3
  refine Ev.succ ?_
  simp only [zc.l0]
  refine Ev.pos (fun _ => by first | omega | trivial | assumption) ?_
  refine Ev.pos (fun _ => by first | omega | trivial | assumption) ?_
  refine Ev.pos (fun _ => by first | omega | trivial | assumption) ?_
  rw [hx]
  refine Ev.neg (fun _ h => hne ((zgc _).1 h)) ?_
  by_cases h46 : bytesOf x = [46]
  ·have : (x.toList == ([46] : List UInt8)) = true := by rw [beq_iff_eq]; exact (zxd _ _).2 h46
   rw [this]
   exact h1 h46
  ·have : (x.toList == ([46] : List UInt8)) = false := by rw [beq_eq_false_iff_ne]; exact fun h => h46 ((zxd _ _).1 h)
   rw [this]
   exact h3 h46
 by_cases h46 : bytesOf x = [46]
 ·rw [if_pos h46]
  refine ⟨x2, rfl, fun r hr => start x2 r (fun _ => Ev.succ ?_) (fun h => absurd h46 h)⟩
  simp only [zc.j1]
  refine Ev.pos (fun _ => by first | omega | trivial | assumption) ?_
  rw [w64 (by omega) (by omega)]
  exact hr
 ·rw [if_neg h46]
  obtain ⟨p, hp, hpb⟩ := norm_ev x (by omega) hne
  have hpne : bytesOf p ≠ [] := by rw [hpb]; exact norm_ne _ hne
  have hps : p.size ≤ 2000000000 := by rw [zxe, hpb]; have := norm_length (bytesOf x); omega
  have hpre := hasPrefix_star p hps hpne
  rw [hpb] at hpre
  by_cases hstar : (norm (bytesOf x)).getD 0 0 = 42
  ·rw [decide_eq_true hstar] at hpre
   by_cases hlt2 : lt_ (norm (bytesOf x)) fin = true
   ·obtain ⟨y1, hy1, hc1⟩ := impl_l1 p x11 x11.length i (by omega) (by omega) x2.length x2 rfl (by omega)
    have hl1 : y1.length ≤ x2.length := by
     have := congrArg List.length hy1
     rw [List.length_map] at this
     rw [this]
     exact Nat.le_trans (zkh _ _ _) (by rw [List.length_map]; exact Nat.le_refl _)
    obtain ⟨y, hy, hc⟩ := impl_l2 p x11 x11.length i (by omega) (by omega) y1.length y1 rfl (by omega)
    refine ⟨y ++ [p], ?_, fun r hr => start x2 r (fun h => absurd h h46) (fun _ => Ev.succ ?_)⟩
    ·rw [List.map_append, hy, hy1]
     unfold step
     rw [if_pos hstar, if_pos hlt2]
     have : y1.length = (pop fm (x2.map bytesOf).length (x2.map bytesOf)).length := by rw [← List.length_map (f := bytesOf), hy1, List.length_map]
     rw [this]
     simp [hpb]
    ·simp only [zc.j1]
     refine Ev.neg (fun _ => by first | omega | assumption | nofun) ?_
     refine Ev.bind hp ?_
     refine Ev.bind0 hpre ?_
     refine Ev.pos (fun _ => by first | omega | trivial | assumption) ?_
     refine Ev.bind0 (a := Lib.compareBytes p.data.toList ([42, 102, 105, 110, 97, 108] : List UInt8)) rfl ?_
     have hcmp : Lib.compareBytes p.data.toList ([42, 102, 105, 110, 97, 108] : List UInt8) < 0 := by
      have := compare_B p ⟨#[42, 102, 105, 110, 97, 108]⟩
      rw [this, cmp_lt, hpb]
      exact hlt2
     refine Ev.pos (fun _ => by first | omega | trivial | assumption) ?_
     refine hc1 r (Ev.succ ?_)
     simp only [zc.j3]
     exact hc r hr
   ·obtain ⟨y, hy, hc⟩ := impl_l2 p x11 x11.length i (by omega) (by omega) x2.length x2 rfl (by omega)
    refine ⟨y ++ [p], ?_, fun r hr => start x2 r (fun h => absurd h h46) (fun _ => Ev.succ ?_)⟩
    ·rw [List.map_append, hy]
     unfold step
     rw [if_pos hstar, if_neg hlt2]
     simp [hpb]
    ·simp only [zc.j1]
     refine Ev.neg (fun _ => by first | omega | assumption | nofun) ?_
     refine Ev.bind hp ?_
     refine Ev.bind0 hpre ?_
     refine Ev.pos (fun _ => by first | omega | trivial | assumption) ?_
     refine Ev.bind0 (a := Lib.compareBytes p.data.toList ([42, 102, 105, 110, 97, 108] : List UInt8)) rfl ?_
     have hcmp : ¬ Lib.compareBytes p.data.toList ([42, 102, 105, 110, 97, 108] : List UInt8) < 0 := by
      have := compare_B p ⟨#[42, 102, 105, 110, 97, 108]⟩
      rw [this, cmp_lt, hpb]
      exact hlt2
     refine Ev.neg (fun _ => by first | omega | assumption | nofun) ?_
     refine Ev.succ ?_
     simp only [zc.j3]
     exact hc r hr
  ·rw [decide_eq_false hstar] at hpre
   refine ⟨x2 ++ [p], ?_, fun r hr => start x2 r (fun h => absurd h h46) (fun _ => Ev.succ ?_)⟩
   ·rw [List.map_append]
    unfold step
    rw [if_neg hstar]
    simp [hpb]
   ·simp only [zc.j1]
    refine Ev.neg (fun _ => by first | omega | assumption | nofun) ?_
    refine Ev.bind hp ?_
    refine Ev.bind0 hpre ?_
    refine Ev.neg (fun _ => by first | omega | assumption | nofun) ?_
    refine Ev.pos (fun _ => by first | omega | trivial | assumption) ?_
    rw [w64 (by omega) (by omega)]
    exact hr
def steps (out : List (List Int)) (ts : List (List Int)) : List (List Int) := (ts.filter (fun t => decide (t ≠ [46]))).foldl step out
theorem impl_from (x11 : List ByteArray) (hb : x11.length ≤ 400000000) (ht : ∀ t ∈ x11.map bytesOf, Tok t ∧ t.length ≤ 1000000000) : ∀ (n i : Nat) (x2 : List ByteArray), x11.length - i = n → i ≤ x11.length → x2.length ≤ i →
  ∃ r, Ev (fun k => zc.l0 k x2 x11 x11.length i) r ∧ r.map bytesOf = steps (x2.map bytesOf) ((x11.map bytesOf).drop i) ∧ r.length ≤ x11.length := by
 intro n
 induction n with
 | zero =>
  intro i x2 hn hi h2
  refine ⟨x2, Ev.succ ?_, ?_, by omega⟩
  ·simp only [zc.l0]
   (repeat (first | refine Ev.pos (fun _ => by first | omega | trivial | assumption) ?_ | refine Ev.neg (fun _ => by first | omega | assumption | nofun) ?_))
   exact Ev.now _
  ·rw [List.drop_of_length_le (by rw [List.length_map]; omega)]
   rfl
 | succ n ih =>
  intro i x2 hn hi h2
  have hl : i < (x11.map bytesOf).length := by rw [List.length_map]; omega
  have hmem : (x11.map bytesOf).getD i [] ∈ x11.map bytesOf := by
   rw [List.getD_eq_getElem?_getD, List.getElem?_eq_getElem hl]
   exact List.getElem_mem hl
  obtain ⟨y, hy, hc⟩ := impl_step x11 i (by omega) (by omega) x2 (by omega) (ht _ hmem).1 (ht _ hmem).2
  have hyl : y.length ≤ i + 1 := by
   have := congrArg List.length hy
   rw [List.length_map] at this
   rw [this]
   split
   ·rw [List.length_map]; omega
   ·exact Nat.le_trans (step_length _ _) (by rw [List.length_map]; omega)
  obtain ⟨r, hr, h1, h3⟩ := ih (i + 1) y (by omega) (by omega) hyl
  refine ⟨r, hc r hr, ?_, h3⟩
  rw [h1, hy, drop_get_list _ _ hl]
  unfold steps
  by_cases h46 : (x11.map bytesOf).getD i [] = [46]
  ·rw [if_pos h46, h46]
   simp
  ·rw [if_neg h46, List.filter_cons, if_pos (by simpa using h46)]
   rfl
def final_ : List Int := [102, 105, 110, 97, 108]
def parts (l : List Int) : List (List Int) := steps [] (toks l.length l ++ [final_])
theorem parts_ev (s : ByteArray) (hs : s.size ≤ 100000000) :
  ∃ r, Ev (fun k => zc.f k s) r ∧ r.map bytesOf = parts (bytesOf s) ∧ r.length ≤ s.size + 1 := by
 obtain ⟨t, ht, h1, h2⟩ := legacy_ev s (by omega)
 have hmap : (t ++ [(⟨#[102, 105, 110, 97, 108]⟩ : ByteArray)]).map bytesOf = toks s.size (bytesOf s) ++ [final_] := by
  rw [List.map_append, h1]; rfl
 have hall : ∀ u ∈ (t ++ [(⟨#[102, 105, 110, 97, 108]⟩ : ByteArray)]).map bytesOf, Tok u ∧ u.length ≤ 1000000000 := by
  rw [hmap]
  intro u hu
  rcases List.mem_append.1 hu with hu | hu
  ·have := toks_tok _ _ u hu
   exact ⟨this.1, by have := this.2; rw [bytesOf_length] at this; omega⟩
  ·rw [List.mem_singleton.1 hu]
   exact ⟨.inr (.inr (.inr ⟨by decide, by decide⟩)), by decide⟩
 have hlen : (t ++ [(⟨#[102, 105, 110, 97, 108]⟩ : ByteArray)]).length = t.length + 1 := by simp
 obtain ⟨r, hr, h3, h4⟩ := impl_from _ (by rw [hlen]; omega) hall _ 0 [] rfl (by omega) (by simp)
 have hp : Ev (fun k => zc.f k s) r := by
  simp only [zc.f]
  refine Ev.bind ht ?_
  refine Ev.pos (fun _ => by first | omega | trivial | assumption) ?_
  exact hr
 refine ⟨r, ?_, ?_, by omega⟩
 ·exact hp
 ·rw [h3, hmap]
  unfold parts
  rw [bytesOf_length]
  rfl
end Go.Proofs.YtlijjnjpomnphaaGreatDoorY
end
section
namespace Go.Proofs
open Go.Shelf
def Tryz.lays212_ren : Go.Shelf.Ren := ⟨fun | 212 => 191 | 263 => 193 | 264 => 194 | n => n, fun | 46 => 131 | 51 => 199 | 146 => 237 | 53 => 130 | 148 => 239 | n => n, fun | n => n⟩
theorem Tryz.lays212 : Go.Proofs.Lays.n212 Tryz.prog Tryz.lays212_ren := {
 mixed := by kernel_rfl
 f212 := Tryz.func191.trans (congrArg some (by kernel_rfl))
 f263 := Tryz.func193.trans (congrArg some (by kernel_rfl))
 f264 := Tryz.func194.trans (congrArg some (by kernel_rfl))
 t46 := Tryz.underlying131
 a46 := Tryz.isAgg131
 z46 := Tryz.sizeOf131
 v46 := Tryz.zeroValue131
 t51 := Tryz.underlying199
 a51 := Tryz.isAgg199
 z51 := Tryz.sizeOf199
 v51 := Tryz.zeroValue199
 t53 := Tryz.underlying130
 a53 := Tryz.isAgg130
 z53 := Tryz.sizeOf130
 v53 := Tryz.zeroValue130
 t146 := Tryz.underlying237
 a146 := Tryz.isAgg237
 z146 := Tryz.sizeOf237
 v146 := Tryz.zeroValue237
 t148 := Tryz.underlying239
 a148 := Tryz.isAgg239
 z148 := Tryz.sizeOf239
 v148 := Tryz.zeroValue239 }
open Go.RowKit Go.Lib in
theorem Tryz.bits_Mul (x y : Nat) (hx : x < 18446744073709551616) (hy : y < 18446744073709551616) (w : World) :
 Calls Tryz.prog 191 #[.int .u64 x, .int .u64 y] w fun e w' => e = .returned (.tuple #[.int .u64 ((x * y / 18446744073709551616 : Nat) : Int), .int .u64 ((x * y % 18446744073709551616 : Nat) : Int)]) ∧ w' = w := Any.bits_Mul Tryz.lays212 x y hx hy w
end Go.Proofs
namespace Go.Proofs.YtlijjnjpomnphaaGreatDoorG
open Go.RowKit YtlijjnjpomnphaaGreatDoorW.PrintWords YtlijjnjpomnphaaGreatDoorW.PrintLast
def W64 : Nat := 18446744073709551616
def loW (n : Nat) : Nat := n % W64
def hiW (n : Nat) : Nat := n / W64
def IsW (n : Nat) : Prop := n < W64
theorem hiW_loW (n : Nat) : hiW n * W64 + loW n = n := by unfold hiW loW W64; omega
theorem loW_lt (n : Nat) : loW n < W64 := by unfold loW W64; omega
theorem wrap_W {n : Nat} (h : n < W64) : IntKind.u64.wrap (n : Int) = n := by
 unfold W64 at h
 simp [IntKind.wrap, IntKind.signed, IntKind.bits]
 omega
theorem bits_Mul_ (x y : Nat) (hx : IsW x) (hy : IsW y) (w : World) :
 Calls Tryz.prog 191 #[.int .u64 x, .int .u64 y] w fun e w' => e = .returned (.tuple #[.int .u64 (hiW (x * y) : Nat), .int .u64 (loW (x * y) : Nat)]) ∧ w' = w := Tryz.bits_Mul x y hx hy w
theorem add64_call (x y : Nat) (w : World) :
  (callFunc 196 #[.int .u64 x, .int .u64 y, .int .u64 0]).run Tryz.prog w = .ok (.value (.tuple #[.int .u64 (loW (x + y) : Nat), .int .u64 (hiW (x + y) : Nat)])) w := by
 rw [run_callFunc_extern Tryz.func196 (by kernel_rfl) (by kernel_rfl) (by kernel_rfl) (e := add64Entry) (by kernel_rfl)]
 have h := run_add64 (P := Tryz.prog) x y 0 (by omega) (by omega) (by omega) (by omega) w
 rw [h]
 simp only [Result.andThen, loW, hiW, W64]
 congr 5 <;> omega
theorem bits_Add_ (x y : Nat) (w : World) :
  Calls Tryz.prog 192 #[.int .u64 x, .int .u64 y, .int .u64 0] w fun e w' => e = .returned (.tuple #[.int .u64 (loW (x + y) : Nat), .int .u64 (hiW (x + y) : Nat)]) ∧ w' = w := by
 have h := fun W => add64_call x y W
 go_enter Tryz.func192, Tryz.ntmps192
 go_wp2
 go_ret2
 exact ⟨rfl, rfl⟩
theorem mulAddWWW_ (x y c : Nat) (hx : IsW x) (hy : IsW y) (hc : IsW c) (w : World) :
  Calls Tryz.prog 190 #[.int .u64 x, .int .u64 y, .int .u64 c] w fun e w' => e = .returned (.tuple #[.int .u64 (hiW (x * y + c) : Nat), .int .u64 (loW (x * y + c) : Nat)]) ∧ w' = w := by
 have HX := za.mk hx
 have HY := za.mk hy
 have key : IntKind.u64.wrap ((hiW (x * y) : Int) + (hiW (loW (x * y) + c) : Int)) = (hiW (x * y + c) : Int) ∧ loW (loW (x * y) + c) = loW (x * y + c) := by
  have h1 : x * y ≤ (W64 - 1) * (W64 - 1) := Nat.mul_le_mul (by unfold IsW at hx; omega) (by unfold IsW at hy; omega)
  unfold IsW at hc
  have e : hiW (x * y) + hiW (loW (x * y) + c) = hiW (x * y + c) ∧ hiW (x * y + c) < W64 := by
   simp only [hiW, loW, W64] at *
   generalize x * y = p at *
   omega
  refine ⟨?_, by simp only [loW, W64]; omega⟩
  have e2 : (hiW (x * y) : Int) + (hiW (loW (x * y) + c) : Int) = (hiW (x * y + c) : Int) := by omega
  rw [e2]
  exact wrap_W e.2
 clear hx hy hc
 obtain ⟨k1, k2⟩ := key
 have K1 := za.mk k1
 have K2 := za.mk k2
 clear k1 k2
 go_enter Tryz.func190, Tryz.ntmps190
 go_wp2_with (first
  | (go_at_call 191; refine (bits_Mul_ x y HX.out HY.out _).mono ?_; rintro e w' ⟨rfl, rfl⟩)
  | (go_at_call 192; refine (bits_Add_ (loW (x * y)) c _).mono ?_; rintro e w' ⟨rfl, rfl⟩))
 go_ret2
 refine ⟨?_, rfl⟩
 simp only [K1.out, K2.out]
 rfl
def NumC (n : Nat) : Value := .int .u64 (n : Int)
def Ws (w : World) (g : Nat) (e : TypeId) (l : List Nat) : Prop := w.heap[g]? = some (.cells (l.map NumC).toArray e (0, 0))
theorem Ws.cell {w : World} {g : Nat} {e : TypeId} {l : List Nat} (h : Ws w g e l) (i : Nat) (hi : i < l.length) : w.cell? ⟨g, i, none⟩ = some (.int .u64 (l.getD i 0 : Nat)) := by
 unfold Ws at h
 simp [World.cell?, h, hi, NumC, List.getD_eq_getElem?_getD]
theorem Ws.free {w : World} {g : Nat} {e : TypeId} {l : List Nat} (h : Ws w g e l) (i : Nat) : w.frozen? ⟨g, i, none⟩ = false := by
 unfold Ws at h
 simp [World.frozen?, h]
theorem Ws.set {w : World} {g : Nat} {e : TypeId} {l : List Nat} (h : Ws w g e l) (i v : Nat) : Ws (w.setCell ⟨g, i, none⟩ (.int .u64 (v : Int))) g e (l.set i v) := by
 unfold Ws at h ⊢
 have e1 : (w.setCell ⟨g, i, none⟩ (.int .u64 (v : Int))).heap[g]? = some (.cells ((l.map NumC).toArray.setIfInBounds i (NumC v)) e (0, 0)) := by
  simp [World.setCell, Array.getElem?_modify, h, NumC]
 rw [e1]
 congr 2
 apply Array.toList_inj.1
 simp [List.map_set]
theorem Ws.same {w w' : World} {g : Nat} {e : TypeId} {l : List Nat} (h : Ws w g e l) (hb : w'.heap[g]? = w.heap[g]?) : Ws w' g e l := by unfold Ws at h ⊢; rw [hb]; exact h
theorem Ws.lt {w : World} {g : Nat} {e : TypeId} {l : List Nat} (h : Ws w g e l) : g < w.heap.size := (Array.getElem?_eq_some_iff.1 h).1
theorem zne (w wr : World) (g i : Nat) (v : Value) (h : w.grownBy wr (some g)) : w.grownBy (wr.setCell ⟨g, i, none⟩ v) (some g) := by
 refine h.trans ?_
 refine ⟨rfl, rfl, rfl, by simp, fun k hk hne => ?_⟩
 have : g ≠ k := fun e => hne (by rw [e])
 simp [World.setCell, Array.getElem?_modify, this]
def mva : List Nat → Nat → Nat → List Nat × Nat
 | [], _, c => ([], c)
 | x :: l, y, c => (loW (x * y + c) :: (mva l y (hiW (x * y + c))).1, (mva l y (hiW (x * y + c))).2)
theorem zcg : ∀ (l : List Nat) (y c : Nat), (mva l y c).1.length = l.length := by
 intro l
 induction l with
 | nil => intro y c; rfl
 | cons x l ih => intro y c; simp [mva, ih]
theorem mva_snoc : ∀ (l : List Nat) (x y c : Nat), mva (l ++ [x]) y c = ((mva l y c).1 ++ [loW (x * y + (mva l y c).2)], hiW (x * y + (mva l y c).2)) := by
 intro l
 induction l with
 | nil => intro x y c; rfl
 | cons z l ih => intro x y c; simp [mva, ih]
theorem hiW_lt {x y c : Nat} (hx : IsW x) (hy : IsW y) (hc : IsW c) : IsW (hiW (x * y + c)) := by
 have h1 : x * y ≤ (W64 - 1) * (W64 - 1) := Nat.mul_le_mul (by unfold IsW at hx; omega) (by unfold IsW at hy; omega)
 unfold IsW at *
 simp only [hiW, W64] at *
 generalize x * y = p at *
 omega
theorem mva_words : ∀ (l : List Nat) (y c : Nat), (∀ x ∈ l, IsW x) → IsW y → IsW c → (∀ x ∈ (mva l y c).1, IsW x) ∧ IsW (mva l y c).2 := by
 intro l
 induction l with
 | nil => intro y c _ _ hc; exact ⟨(by intro x hx; cases hx), hc⟩
 | cons z l ih =>
  intro y c hl hy hc
  have hz := hl z List.mem_cons_self
  have h := ih y (hiW (z * y + c)) (fun x hx => hl x (List.mem_cons_of_mem _ hx)) hy (hiW_lt hz hy hc)
  refine ⟨fun x hx => ?_, h.2⟩
  rcases List.mem_cons.1 hx with rfl | hx
  ·exact loW_lt _
  ·exact h.1 x hx
def num : List Nat → Nat
 | [] => 0
 | x :: l => x + W64 * num l
theorem mva_num : ∀ (l : List Nat) (y c : Nat), num ((mva l y c).1 ++ [(mva l y c).2]) = num l * y + c := by
 intro l
 induction l with
 | nil => intro y c; simp [mva, num]
 | cons z l ih =>
  intro y c
  have h := ih y (hiW (z * y + c))
  have h2 := hiW_loW (z * y + c)
  simp only [mva, num, List.cons_append]
  rw [h, Nat.mul_add, Nat.add_mul]
  have e : W64 * num l * y = W64 * (num l * y) := Nat.mul_assoc _ _ _
  rw [e]
  have e2 : W64 * hiW (z * y + c) = hiW (z * y + c) * W64 := Nat.mul_comm _ _
  omega
theorem set_at (a b : List Nat) (k v : Nat) (ha : a.length = k) (hb : k < (a ++ b).length) : (a ++ b).set k v = a ++ [v] ++ b.drop 1 := by
 subst ha
 rw [List.set_append_right _ _ (Nat.le_refl _), Nat.sub_self]
 cases b with
 | nil => simp at hb
 | cons x b => simp
theorem mulAddVWW_g_ (w : World) (g gx n cz cx y r : Nat) (e : TypeId) (full xs : List Nat) (hz : Ws w g e full) (hx : Ws w gx e xs) (hn : n ≤ full.length) (hxn : n ≤ xs.length) (hsame : gx = g → xs = full) (hxs : ∀ x ∈ xs, IsW x) (hy : IsW y) (hr : IsW r) (hbig : n ≤ 4611686018427387904) :
  Calls Tryz.prog 188 #[.slice (some ⟨g, 0, none⟩) n cz, .slice (some ⟨gx, 0, none⟩) n cx, .int .u64 y, .int .u64 r] w fun e' w' =>
   e' = .returned (.int .u64 ((mva (xs.take n) y r).2 : Nat)) ∧ Ws w' g e ((mva (xs.take n) y r).1 ++ full.drop n) ∧ w.grownBy w' (some g) := by
 have HZ := za.mk hz
 have HX := za.mk hx
 have HXS := za.mk hxs
 have HY := za.mk hy
 have HR := za.mk hr
 have HS := za.mk hsame
 have HN := za.mk hn
 have HXN := za.mk hxn
 clear hz hx hxs hy hr hsame hn hxn
 go_enter Tryz.func188, Tryz.ntmps188
 go_wp2
 go_loopw [8, 19] (fun c i wr => ∃ k : Nat, k ≤ n ∧ i = .int .i64 k ∧ c = .int .u64 ((mva (xs.take k) y r).2 : Nat) ∧ za (Ws wr g e ((mva (xs.take k) y r).1 ++ full.drop k)) ∧ za (w.grownBy wr (some g))) (fun _ i _ => n - (intOf i).toNat)
 case atStart => exact ⟨0, Nat.zero_le _, rfl, rfl, ⟨by simpa [mva] using HZ.out⟩, ⟨World.grownBy.refl w _⟩⟩
 case round =>
  obtain ⟨k, hk, rfl, rfl, hw, hg⟩ := hrel
  by_cases hlt : k < n
  ·have hml : (mva (xs.take k) y r).1.length = k := by rw [zcg, List.length_take]; have := HXN.out; omega
   have hc : wr.cell? ⟨gx, k, none⟩ = some (.int .u64 (xs.getD k 0 : Nat)) := by
    by_cases hgg : gx = g
    ·have h1 := hw.out.cell k (by rw [List.length_append, hml, List.length_drop]; have := HN.out; omega)
     rw [hgg, HS.out hgg]
     rw [h1]
     congr 3
     rw [List.getD_eq_getElem?_getD, List.getElem?_append_right (by omega), hml, Nat.sub_self, List.getD_eq_getElem?_getD]
     simp
    ·have h1 := HX.out.cell k (by have := HXN.out; omega)
     rw [← h1]
     exact World.cell?_of_block (hg.out.block gx HX.out.lt (fun e => hgg (Option.some.inj e)))
   obtain ⟨xk, hxk⟩ : ∃ xk, xk = xs.getD k 0 := ⟨_, rfl⟩
   rw [← hxk] at hc
   have hW : IsW xk := by
    rw [hxk, List.getD_eq_getElem?_getD, List.getElem?_eq_getElem (by have := HXN.out; omega)]
    exact HXS.out _ (List.getElem_mem _)
   have hf := hw.out.free k
   have hd := hw.out.cell k (by rw [List.length_append, hml, List.length_drop]; have := HN.out; omega)
   obtain ⟨dk, hdk⟩ : ∃ dk, dk = ((mva (xs.take k) y r).1 ++ full.drop k).getD k 0 := ⟨_, rfl⟩
   rw [← hdk] at hd
   obtain ⟨c, hcc⟩ : ∃ c, c = (mva (xs.take k) y r).2 := ⟨_, rfl⟩
   rw [← hcc]
   have hCW : IsW c := by
    rw [hcc]
    exact (mva_words _ _ _ (fun x hx => HXS.out x (List.mem_of_mem_take hx)) HY.out HR.out).2
   have hset := hw.out.set k (loW (xk * y + c))
   have hst : ((mva (xs.take k) y r).1 ++ full.drop k).set k (loW (xk * y + c)) = (mva (xs.take (k + 1)) y r).1 ++ full.drop (k + 1) ∧ hiW (xk * y + c) = (mva (xs.take (k + 1)) y r).2 := by
    have e1 : xs.take (k + 1) = xs.take k ++ [xk] := by
     rw [List.take_succ_eq_append_getElem (by have := HXN.out; omega), hxk]
     simp [List.getD_eq_getElem?_getD, show k < xs.length by have := HXN.out; omega]
    rw [e1, mva_snoc, ← hcc]
    refine ⟨?_, rfl⟩
    rw [set_at _ _ _ _ hml (by rw [List.length_append, hml, List.length_drop]; have := HN.out; omega), List.drop_drop]
   rw [hst.1] at hset
   have HSET := za.mk hset
   have HST := za.mk hst.2
   have HG2 := za.mk (zne w wr g k (.int .u64 (loW (xk * y + c) : Nat)) hg.out)
   have HW1 := za.mk hW
   have HW2 := za.mk hCW
   clear hset hst hW hCW hw hg hml hxk hdk hcc
   go_wp2_with (first | (go_at_call 190; refine (mulAddWWW_ xk y c HW1.out HY.out HW2.out _).mono ?_; rintro e' w' ⟨rfl, rfl⟩))
   go_roundw
   case rel => exact ⟨k + 1, by omega, by go_num, by rw [HST.out], HSET, HG2⟩
   case measure => simp [intOf]; omega
  ·obtain rfl : k = n := by omega
   go_wp2
   go_ret
   exact ⟨rfl, hw.out, hg.out⟩
end Go.Proofs.YtlijjnjpomnphaaGreatDoorG
end
section
namespace Go.Proofs.YtlijjnjpomnphaaGreatDoorG
open Go.RowKit YtlijjnjpomnphaaGreatDoorW.PrintWords YtlijjnjpomnphaaGreatDoorW.PrintLast
theorem infoWord : (Tryz.prog.info? 147).map (fun i => (i.zero, i.size, i.bytes)) = some (some (.int .u64 0), 1, 8) := by kernel_rfl
theorem make_run (n c : Nat) (hnc : n ≤ c) (hc : c ≤ 1099511627776) : ∀ W : World, (Instr.makeSlice 148 (.int .i64 (n : Int)) (.int .i64 (c : Int))).run Tryz.prog W = .ok (.slice (some ⟨W.heap.size, 0, none⟩) n c) (W.alloc (.cells (List.replicate c (NumC 0)).toArray 147)) := by
 intro W
 obtain ⟨i, hi, hzz⟩ := Option.map_eq_some_iff.1 infoWord
 simp only [Prod.mk.injEq] at hzz
 obtain ⟨hz0, hz1, hz2⟩ := hzz
 have h := run_make (P := Tryz.prog) W 148 147 i _ Tryz.underlying148 hi hz0 .i64 .i64 (n : Int) (c : Int) (by omega) (by omega) (by rw [hz2]; omega) (by omega)
 rw [h]
 simp only [Int.toNat_natCast, hz1, Nat.mul_one]
 congr 3
 apply Array.toList_inj.1
 apply List.ext_getElem
 ·simp [madeCells]
 ·intro i h1 h2
  simp [madeCells, Nat.mod_one, Value.cells, NumC]
theorem make_reuse (w : World) (g len cap n : Nat) (hn : n ≤ cap) :
  Calls Tryz.prog 172 #[.slice (some ⟨g, 0, none⟩) len cap, .int .i64 (n : Int)] w fun e w' => e = .returned (.slice (some ⟨g, 0, none⟩) n cap) ∧ w' = w := by
 have b1 : decide ((n : Int) ≤ (cap : Int)) = true := decide_eq_true (by omega)
 go_enter Tryz.func172, Tryz.ntmps172
 go_wp2
 go_ret
 exact ⟨rfl, rfl⟩
theorem make_fresh (w : World) (p : Option Addr) (len cap n : Nat) (hn : cap < n) (hb : n ≤ 1000000000) :
  Calls Tryz.prog 172 #[.slice p len cap, .int .i64 (n : Int)] w fun e w' => ∃ c, n ≤ c ∧ c ≤ n + 4 ∧ e = .returned (.slice (some ⟨w.heap.size, 0, none⟩) n c) ∧ w' = w.alloc (.cells (List.replicate c (NumC 0)).toArray 147) := by
 have b1 : decide ((n : Int) ≤ (cap : Int)) = false := decide_eq_false (by omega)
 by_cases h1 : n = 1
 ·subst h1
  have hm := make_run 1 1 (by omega) (by omega)
  have e1 : ((1 : Nat) : Int) = 1 := rfl
  rw [e1] at hm b1 ⊢
  go_enter Tryz.func172, Tryz.ntmps172
  go_wp2
  go_ret
  exact ⟨1, by omega, by omega, rfl, rfl⟩
 ·have hm := make_run n (n + 4) (by omega) (by omega)
  have e1 : ((n + 4 : Nat) : Int) = (n : Int) + 4 := by omega
  rw [e1] at hm
  have b2 : ((n : Int) == 1) = false := by rw [beq_eq_false_iff_ne]; omega
  have b3 : ¬ ((n : Int) = 1) := by omega
  go_enter Tryz.func172, Tryz.ntmps172
  go_wp2
  go_ret
  exact ⟨n + 4, by omega, by omega, rfl, rfl⟩
def NatS (w : World) (B : Nat) (v : Value) (l : List Nat) : Prop :=
 (v = .slice none 0 0 ∧ l = []) ∨
 ∃ g full, v = .slice (some ⟨g, 0, none⟩) l.length full.length ∧ B ≤ g ∧ Ws w g 147 full ∧ full.take l.length = l ∧ l.length ≤ full.length ∧ full.length ≤ 1000000000 ∧ ∀ x ∈ full, IsW x
def trimW (l : List Nat) : List Nat := (l.reverse.dropWhile (fun x => decide (x = 0))).reverse
theorem zde (l : List Nat) : trimW (l ++ [0]) = trimW l := by simp [trimW]
theorem zcf (l : List Nat) (x : Nat) (h : x ≠ 0) : trimW (l ++ [x]) = l ++ [x] := by simp [trimW, h]
theorem num_snoc_zero (l : List Nat) : num (l ++ [0]) = num l := by
 induction l with
 | nil => simp [num]
 | cons x l ih => simp [num, ih]
theorem num_trimW (l : List Nat) : num (trimW l) = num l := by
 have : ∀ (n : Nat) (l : List Nat), l.length = n → num (trimW l) = num l := by
  intro n
  induction n with
  | zero => intro l h; rw [List.length_eq_zero_iff.1 h]; rfl
  | succ n ih =>
   intro l h
   have hne : l ≠ [] := by intro e; subst e; simp at h
   obtain ⟨m, x, rfl⟩ : ∃ m x, l = m ++ [x] := ⟨l.dropLast, l.getLast hne, (List.dropLast_concat_getLast hne).symm⟩
   by_cases hx : x = 0
   ·subst hx
    rw [zde, num_snoc_zero]
    exact ih m (by simpa using h)
   ·rw [zcf _ _ hx]
 exact this _ l rfl
theorem trimW_at (l : List Nat) (k : Nat) (hk : k ≤ l.length) (hz : ∀ j, k ≤ j → j < l.length → l.getD j 0 = 0) (hl : k = 0 ∨ l.getD (k - 1) 0 ≠ 0) : trimW l = l.take k := by
 have : ∀ (n : Nat) (l : List Nat), l.length - k = n → k ≤ l.length → (∀ j, k ≤ j → j < l.length → l.getD j 0 = 0) → (k = 0 ∨ l.getD (k - 1) 0 ≠ 0) → trimW l = l.take k := by
  intro n
  induction n with
  | zero =>
   intro l hn hk hz hl
   have e : k = l.length := by omega
   rw [List.take_of_length_le (by omega)]
   by_cases h0 : l = []
   ·subst h0; rfl
   ·obtain ⟨m, x, rfl⟩ : ∃ m x, l = m ++ [x] := ⟨l.dropLast, l.getLast h0, (List.dropLast_concat_getLast h0).symm⟩
    refine zcf _ _ ?_
    rcases hl with hl | hl
    ·rw [hl] at e; simp at e
    ·rw [e] at hl
     simpa [List.getD_eq_getElem?_getD] using hl
  | succ n ih =>
   intro l hn hk hz hl
   have h0 : l ≠ [] := by intro e; subst e; simp at hn
   obtain ⟨m, x, rfl⟩ : ∃ m x, l = m ++ [x] := ⟨l.dropLast, l.getLast h0, (List.dropLast_concat_getLast h0).symm⟩
   have hlen : (m ++ [x]).length = m.length + 1 := by simp
   have hx : x = 0 := by
    have := hz m.length (by omega) (by omega)
    simpa [List.getD_eq_getElem?_getD] using this
   subst hx
   rw [zde, List.take_append_of_le_length (by omega)]
   refine ih m (by omega) (by omega) (fun j h1 h2 => ?_) ?_
   ·have := hz j h1 (by omega)
    rw [List.getD_eq_getElem?_getD, List.getElem?_append_left h2, ← List.getD_eq_getElem?_getD] at this
    exact this
   ·rcases hl with hl | hl
    ·exact .inl hl
    ·by_cases hk0 : k = 0
     ·exact .inl hk0
     ·right
      rw [List.getD_eq_getElem?_getD, List.getElem?_append_left (by omega), ← List.getD_eq_getElem?_getD] at hl
      exact hl
 exact this _ l rfl hk hz hl
theorem norm_ (w : World) (g n cap : Nat) (full : List Nat) (hw : Ws w g 147 full) (hn : n ≤ full.length) (hcap : n ≤ cap) (hbig : n ≤ 1000000000) :
  Calls Tryz.prog 174 #[.slice (some ⟨g, 0, none⟩) n cap] w fun e w' => ∃ k, k ≤ n ∧ trimW (full.take n) = full.take k ∧ e = .returned (.slice (some ⟨g, 0, none⟩) k cap) ∧ w' = w := by
 have HW := za.mk hw
 have HN := za.mk hn
 clear hw hn
 go_enter Tryz.func174, Tryz.ntmps174
 go_wp2
 go_loopw [3] (fun i wr => ∃ k : Nat, k ≤ n ∧ i = .int .i64 k ∧ za (∀ j, k ≤ j → j < n → full.getD j 0 = 0) ∧ wr = w) (fun i _ => (intOf i).toNat)
 case atStart => exact ⟨n, Nat.le_refl _, rfl, ⟨fun j h1 h2 => by omega⟩, rfl⟩
 case round =>
  obtain ⟨k, hk, rfl, hz, rfl⟩ := hrel
  by_cases hk0 : k = 0
  ·subst hk0
   go_wp2
   go_ret
   refine ⟨0, Nat.zero_le _, ?_, rfl, rfl⟩
   refine (trimW_at _ 0 (Nat.zero_le _) (fun j h1 h2 => ?_) (.inl rfl)).trans (by simp)
   rw [List.length_take] at h2
   have := hz.out j h1 (by omega)
   rw [List.getD_eq_getElem?_getD] at this ⊢
   rwa [List.getElem?_take_of_lt (by omega)]
  ·obtain ⟨m, rfl⟩ : ∃ m, k = m + 1 := ⟨k - 1, by omega⟩
   have hm : m < full.length := by have := HN.out; omega
   have hc := HW.out.cell m hm
   obtain ⟨x, hx⟩ : ∃ x, x = full.getD m 0 := ⟨_, rfl⟩
   rw [← hx] at hc
   have HX := za.mk hx
   clear hx
   have e0 : ((m + 1 : Nat) : Int) - 1 = (m : Int) := by omega
   have e1 : wrap64 (((m + 1 : Nat) : Int) - 1) = (m : Int) := by unfold wrap64; omega
   have b0 : decide (0 < ((m + 1 : Nat) : Int)) = true := decide_eq_true (by omega)
   by_cases hx0 : x = 0
   ·subst hx0
    go_wp2
    go_roundw
    case rel =>
     refine ⟨m, by omega, by first | rfl | go_num | (congr 1; omega), ⟨fun j h1 h2 => ?_⟩, by first | rfl | trivial⟩
     by_cases hj : j = m
     ·rw [hj]; exact HX.out.symm
     ·exact hz.out j (by omega) h2
    case measure => first | (simp [intOf]; done) | (simp [intOf]; omega)
   ·have b2 : ((x : Int) == 0) = false := by rw [beq_eq_false_iff_ne]; omega
    have b3 : ¬ ((x : Int) = 0) := by omega
    have HX0 := za.mk hx0
    clear hx0
    go_wp2
    go_ret
    refine ⟨m + 1, hk, ?_, by first | rfl | (congr 2), rfl⟩
    have HNo := HN.out
    refine (trimW_at _ (m + 1) (by rw [List.length_take]; omega) (fun j h1 h2 => ?_) (.inr ?_)).trans (by rw [List.take_take]; congr 1; omega)
    ·rw [List.length_take] at h2
     have := hz.out j h1 (by omega)
     rw [List.getD_eq_getElem?_getD] at this ⊢
     rwa [List.getElem?_take_of_lt (by omega)]
    ·rw [Nat.add_sub_cancel, List.getD_eq_getElem?_getD, List.getElem?_take_of_lt (by omega), ← List.getD_eq_getElem?_getD, ← HX.out]
     exact HX0.out
end Go.Proofs.YtlijjnjpomnphaaGreatDoorG
end
section
namespace Go.Proofs.YtlijjnjpomnphaaGreatDoorG
open Go.RowKit YtlijjnjpomnphaaGreatDoorW.PrintWords YtlijjnjpomnphaaGreatDoorW.PrintLast
theorem maxPow_ (w : World) : Calls Tryz.prog 176 #[.int .u64 10] w fun e w' => e = .returned (.tuple #[.int .u64 10000000000000000000, .int .i64 19]) ∧ w' = w := by
 go_enter Tryz.func176, Tryz.ntmps176
 go_wp2
 go_loopw [2, 3] (fun p n wr => wr = w ∧ ((p = .int .u64 10 ∧ n = .int .i64 1) ∨ (p = .int .u64 100 ∧ n = .int .i64 2) ∨ (p = .int .u64 1000 ∧ n = .int .i64 3) ∨ (p = .int .u64 10000 ∧ n = .int .i64 4) ∨ (p = .int .u64 100000 ∧ n = .int .i64 5) ∨ (p = .int .u64 1000000 ∧ n = .int .i64 6) ∨ (p = .int .u64 10000000 ∧ n = .int .i64 7) ∨ (p = .int .u64 100000000 ∧ n = .int .i64 8) ∨ (p = .int .u64 1000000000 ∧ n = .int .i64 9) ∨ (p = .int .u64 10000000000 ∧ n = .int .i64 10) ∨ (p = .int .u64 100000000000 ∧ n = .int .i64 11) ∨ (p = .int .u64 1000000000000 ∧ n = .int .i64 12) ∨ (p = .int .u64 10000000000000 ∧ n = .int .i64 13) ∨ (p = .int .u64 100000000000000 ∧ n = .int .i64 14) ∨ (p = .int .u64 1000000000000000 ∧ n = .int .i64 15) ∨ (p = .int .u64 10000000000000000 ∧ n = .int .i64 16) ∨ (p = .int .u64 100000000000000000 ∧ n = .int .i64 17) ∨ (p = .int .u64 1000000000000000000 ∧ n = .int .i64 18) ∨ (p = .int .u64 10000000000000000000 ∧ n = .int .i64 19))) (fun _ n _ => 19 - (intOf n).toNat)
 case atStart => exact ⟨rfl, .inl ⟨rfl, rfl⟩⟩
 case round =>
  obtain ⟨rfl, hrel⟩ := hrel
  rcases hrel with ⟨rfl, rfl⟩ | ⟨rfl, rfl⟩ | ⟨rfl, rfl⟩ | ⟨rfl, rfl⟩ | ⟨rfl, rfl⟩ | ⟨rfl, rfl⟩ | ⟨rfl, rfl⟩ | ⟨rfl, rfl⟩ | ⟨rfl, rfl⟩ | ⟨rfl, rfl⟩ | ⟨rfl, rfl⟩ | ⟨rfl, rfl⟩ | ⟨rfl, rfl⟩ | ⟨rfl, rfl⟩ | ⟨rfl, rfl⟩ | ⟨rfl, rfl⟩ | ⟨rfl, rfl⟩ | ⟨rfl, rfl⟩ | ⟨rfl, rfl⟩
  ·go_wp2
   go_roundw
   case rel => first | exact ⟨rfl, .inr (.inl ⟨rfl, rfl⟩)⟩ | exact ⟨trivial, .inr (.inl ⟨rfl, rfl⟩)⟩ | (simp; done)
   case measure => simp [intOf]
  ·go_wp2
   go_roundw
   case rel => first | exact ⟨rfl, .inr (.inr (.inl ⟨rfl, rfl⟩))⟩ | exact ⟨trivial, .inr (.inr (.inl ⟨rfl, rfl⟩))⟩ | (simp; done)
   case measure => simp [intOf]
  ·go_wp2
   go_roundw
   case rel => first | exact ⟨rfl, .inr (.inr (.inr (.inl ⟨rfl, rfl⟩)))⟩ | exact ⟨trivial, .inr (.inr (.inr (.inl ⟨rfl, rfl⟩)))⟩ | (simp; done)
   case measure => simp [intOf]
  ·go_wp2
   go_roundw
   case rel => first | exact ⟨rfl, .inr (.inr (.inr (.inr (.inl ⟨rfl, rfl⟩))))⟩ | exact ⟨trivial, .inr (.inr (.inr (.inr (.inl ⟨rfl, rfl⟩))))⟩ | (simp; done)
   case measure => simp [intOf]
  ·go_wp2
   go_roundw
   case rel => first | exact ⟨rfl, .inr (.inr (.inr (.inr (.inr (.inl ⟨rfl, rfl⟩)))))⟩ | exact ⟨trivial, .inr (.inr (.inr (.inr (.inr (.inl ⟨rfl, rfl⟩)))))⟩ | (simp; done)
   case measure => simp [intOf]
  ·go_wp2
   go_roundw
   case rel => first | exact ⟨rfl, .inr (.inr (.inr (.inr (.inr (.inr (.inl ⟨rfl, rfl⟩))))))⟩ | exact ⟨trivial, .inr (.inr (.inr (.inr (.inr (.inr (.inl ⟨rfl, rfl⟩))))))⟩ | (simp; done)
   case measure => simp [intOf]
  ·go_wp2
   go_roundw
   case rel => first | exact ⟨rfl, .inr (.inr (.inr (.inr (.inr (.inr (.inr (.inl ⟨rfl, rfl⟩)))))))⟩ | exact ⟨trivial, .inr (.inr (.inr (.inr (.inr (.inr (.inr (.inl ⟨rfl, rfl⟩)))))))⟩ | (simp; done)
   case measure => simp [intOf]
  ·go_wp2
   go_roundw
   case rel => first | exact ⟨rfl, .inr (.inr (.inr (.inr (.inr (.inr (.inr (.inr (.inl ⟨rfl, rfl⟩))))))))⟩ | exact ⟨trivial, .inr (.inr (.inr (.inr (.inr (.inr (.inr (.inr (.inl ⟨rfl, rfl⟩))))))))⟩ | (simp; done)
   case measure => simp [intOf]
  ·go_wp2
   go_roundw
   case rel => first | exact ⟨rfl, .inr (.inr (.inr (.inr (.inr (.inr (.inr (.inr (.inr (.inl ⟨rfl, rfl⟩)))))))))⟩ | exact ⟨trivial, .inr (.inr (.inr (.inr (.inr (.inr (.inr (.inr (.inr (.inl ⟨rfl, rfl⟩)))))))))⟩ | (simp; done)
   case measure => simp [intOf]
  ·go_wp2
   go_roundw
   case rel => first | exact ⟨rfl, .inr (.inr (.inr (.inr (.inr (.inr (.inr (.inr (.inr (.inr (.inl ⟨rfl, rfl⟩))))))))))⟩ | exact ⟨trivial, .inr (.inr (.inr (.inr (.inr (.inr (.inr (.inr (.inr (.inr (.inl ⟨rfl, rfl⟩))))))))))⟩ | (simp; done)
   case measure => simp [intOf]
  ·go_wp2
   go_roundw
   case rel => first | exact ⟨rfl, .inr (.inr (.inr (.inr (.inr (.inr (.inr (.inr (.inr (.inr (.inr (.inl ⟨rfl, rfl⟩)))))))))))⟩ | exact ⟨trivial, .inr (.inr (.inr (.inr (.inr (.inr (.inr (.inr (.inr (.inr (.inr (.inl ⟨rfl, rfl⟩)))))))))))⟩ | (simp; done)
   case measure => simp [intOf]
  ·go_wp2
   go_roundw
   case rel => first | exact ⟨rfl, .inr (.inr (.inr (.inr (.inr (.inr (.inr (.inr (.inr (.inr (.inr (.inr (.inl ⟨rfl, rfl⟩))))))))))))⟩ | exact ⟨trivial, .inr (.inr (.inr (.inr (.inr (.inr (.inr (.inr (.inr (.inr (.inr (.inr (.inl ⟨rfl, rfl⟩))))))))))))⟩ | (simp; done)
   case measure => simp [intOf]
  ·go_wp2
   go_roundw
   case rel => first | exact ⟨rfl, .inr (.inr (.inr (.inr (.inr (.inr (.inr (.inr (.inr (.inr (.inr (.inr (.inr (.inl ⟨rfl, rfl⟩)))))))))))))⟩ | exact ⟨trivial, .inr (.inr (.inr (.inr (.inr (.inr (.inr (.inr (.inr (.inr (.inr (.inr (.inr (.inl ⟨rfl, rfl⟩)))))))))))))⟩ | (simp; done)
   case measure => simp [intOf]
  ·go_wp2
   go_roundw
   case rel => first | exact ⟨rfl, .inr (.inr (.inr (.inr (.inr (.inr (.inr (.inr (.inr (.inr (.inr (.inr (.inr (.inr (.inl ⟨rfl, rfl⟩))))))))))))))⟩ | exact ⟨trivial, .inr (.inr (.inr (.inr (.inr (.inr (.inr (.inr (.inr (.inr (.inr (.inr (.inr (.inr (.inl ⟨rfl, rfl⟩))))))))))))))⟩ | (simp; done)
   case measure => simp [intOf]
  ·go_wp2
   go_roundw
   case rel => first | exact ⟨rfl, .inr (.inr (.inr (.inr (.inr (.inr (.inr (.inr (.inr (.inr (.inr (.inr (.inr (.inr (.inr (.inl ⟨rfl, rfl⟩)))))))))))))))⟩ | exact ⟨trivial, .inr (.inr (.inr (.inr (.inr (.inr (.inr (.inr (.inr (.inr (.inr (.inr (.inr (.inr (.inr (.inl ⟨rfl, rfl⟩)))))))))))))))⟩ | (simp; done)
   case measure => simp [intOf]
  ·go_wp2
   go_roundw
   case rel => first | exact ⟨rfl, .inr (.inr (.inr (.inr (.inr (.inr (.inr (.inr (.inr (.inr (.inr (.inr (.inr (.inr (.inr (.inr (.inl ⟨rfl, rfl⟩))))))))))))))))⟩ | exact ⟨trivial, .inr (.inr (.inr (.inr (.inr (.inr (.inr (.inr (.inr (.inr (.inr (.inr (.inr (.inr (.inr (.inr (.inl ⟨rfl, rfl⟩))))))))))))))))⟩ | (simp; done)
   case measure => simp [intOf]
  ·go_wp2
   go_roundw
   case rel => first | exact ⟨rfl, .inr (.inr (.inr (.inr (.inr (.inr (.inr (.inr (.inr (.inr (.inr (.inr (.inr (.inr (.inr (.inr (.inr (.inl ⟨rfl, rfl⟩)))))))))))))))))⟩ | exact ⟨trivial, .inr (.inr (.inr (.inr (.inr (.inr (.inr (.inr (.inr (.inr (.inr (.inr (.inr (.inr (.inr (.inr (.inr (.inl ⟨rfl, rfl⟩)))))))))))))))))⟩ | (simp; done)
   case measure => simp [intOf]
  ·go_wp2
   go_roundw
   case rel => first | exact ⟨rfl, .inr (.inr (.inr (.inr (.inr (.inr (.inr (.inr (.inr (.inr (.inr (.inr (.inr (.inr (.inr (.inr (.inr (.inr (⟨rfl, rfl⟩))))))))))))))))))⟩ | exact ⟨trivial, .inr (.inr (.inr (.inr (.inr (.inr (.inr (.inr (.inr (.inr (.inr (.inr (.inr (.inr (.inr (.inr (.inr (.inr (⟨rfl, rfl⟩))))))))))))))))))⟩ | (simp; done)
   case measure => simp [intOf]
  ·go_wp2
   go_ret2
   exact ⟨rfl, rfl⟩
theorem pow_1 (w : World) : Calls Tryz.prog 178 #[.int .u64 10, .int .i64 1] w fun e w' => e = .returned (.int .u64 10) ∧ w' = w := by
 go_enter Tryz.func178, Tryz.ntmps178
 go_wp2
 go_loopw [0, 1, 4] (fun x n p wr => wr = w ∧ ((x = .int .u64 10 ∧ n = .int .i64 1 ∧ p = .int .u64 1) ∨ (x = .int .u64 100 ∧ n = .int .i64 0 ∧ p = .int .u64 10))) (fun _ n _ _ => (intOf n).toNat)
 case atStart => exact ⟨rfl, .inl ⟨rfl, rfl, rfl⟩⟩
 case round =>
  obtain ⟨rfl, hrel⟩ := hrel
  rcases hrel with ⟨rfl, rfl, rfl⟩ | ⟨rfl, rfl, rfl⟩
  ·go_wp2
   go_roundw
   case rel => first | exact ⟨rfl, .inr (⟨rfl, rfl, rfl⟩)⟩ | exact ⟨trivial, .inr (⟨rfl, rfl, rfl⟩)⟩ | (simp; done)
   case measure => simp [intOf]
  ·go_wp2
   go_ret
   exact ⟨rfl, rfl⟩
theorem pow_2 (w : World) : Calls Tryz.prog 178 #[.int .u64 10, .int .i64 2] w fun e w' => e = .returned (.int .u64 100) ∧ w' = w := by
 go_enter Tryz.func178, Tryz.ntmps178
 go_wp2
 go_loopw [0, 1, 4] (fun x n p wr => wr = w ∧ ((x = .int .u64 10 ∧ n = .int .i64 2 ∧ p = .int .u64 1) ∨ (x = .int .u64 100 ∧ n = .int .i64 1 ∧ p = .int .u64 1) ∨ (x = .int .u64 10000 ∧ n = .int .i64 0 ∧ p = .int .u64 100))) (fun _ n _ _ => (intOf n).toNat)
 case atStart => exact ⟨rfl, .inl ⟨rfl, rfl, rfl⟩⟩
 case round =>
  obtain ⟨rfl, hrel⟩ := hrel
  rcases hrel with ⟨rfl, rfl, rfl⟩ | ⟨rfl, rfl, rfl⟩ | ⟨rfl, rfl, rfl⟩
  ·go_wp2
   go_roundw
   case rel => first | exact ⟨rfl, .inr (.inl ⟨rfl, rfl, rfl⟩)⟩ | exact ⟨trivial, .inr (.inl ⟨rfl, rfl, rfl⟩)⟩ | (simp; done)
   case measure => simp [intOf]
  ·go_wp2
   go_roundw
   case rel => first | exact ⟨rfl, .inr (.inr (⟨rfl, rfl, rfl⟩))⟩ | exact ⟨trivial, .inr (.inr (⟨rfl, rfl, rfl⟩))⟩ | (simp; done)
   case measure => simp [intOf]
  ·go_wp2
   go_ret
   exact ⟨rfl, rfl⟩
theorem pow_3 (w : World) : Calls Tryz.prog 178 #[.int .u64 10, .int .i64 3] w fun e w' => e = .returned (.int .u64 1000) ∧ w' = w := by
 go_enter Tryz.func178, Tryz.ntmps178
 go_wp2
 go_loopw [0, 1, 4] (fun x n p wr => wr = w ∧ ((x = .int .u64 10 ∧ n = .int .i64 3 ∧ p = .int .u64 1) ∨ (x = .int .u64 100 ∧ n = .int .i64 1 ∧ p = .int .u64 10) ∨ (x = .int .u64 10000 ∧ n = .int .i64 0 ∧ p = .int .u64 1000))) (fun _ n _ _ => (intOf n).toNat)
 case atStart => exact ⟨rfl, .inl ⟨rfl, rfl, rfl⟩⟩
 case round =>
  obtain ⟨rfl, hrel⟩ := hrel
  rcases hrel with ⟨rfl, rfl, rfl⟩ | ⟨rfl, rfl, rfl⟩ | ⟨rfl, rfl, rfl⟩
  ·go_wp2
   go_roundw
   case rel => first | exact ⟨rfl, .inr (.inl ⟨rfl, rfl, rfl⟩)⟩ | exact ⟨trivial, .inr (.inl ⟨rfl, rfl, rfl⟩)⟩ | (simp; done)
   case measure => simp [intOf]
  ·go_wp2
   go_roundw
   case rel => first | exact ⟨rfl, .inr (.inr (⟨rfl, rfl, rfl⟩))⟩ | exact ⟨trivial, .inr (.inr (⟨rfl, rfl, rfl⟩))⟩ | (simp; done)
   case measure => simp [intOf]
  ·go_wp2
   go_ret
   exact ⟨rfl, rfl⟩
theorem pow_4 (w : World) : Calls Tryz.prog 178 #[.int .u64 10, .int .i64 4] w fun e w' => e = .returned (.int .u64 10000) ∧ w' = w := by
 go_enter Tryz.func178, Tryz.ntmps178
 go_wp2
 go_loopw [0, 1, 4] (fun x n p wr => wr = w ∧ ((x = .int .u64 10 ∧ n = .int .i64 4 ∧ p = .int .u64 1) ∨ (x = .int .u64 100 ∧ n = .int .i64 2 ∧ p = .int .u64 1) ∨ (x = .int .u64 10000 ∧ n = .int .i64 1 ∧ p = .int .u64 1) ∨ (x = .int .u64 100000000 ∧ n = .int .i64 0 ∧ p = .int .u64 10000))) (fun _ n _ _ => (intOf n).toNat)
 case atStart => exact ⟨rfl, .inl ⟨rfl, rfl, rfl⟩⟩
 case round =>
  obtain ⟨rfl, hrel⟩ := hrel
  rcases hrel with ⟨rfl, rfl, rfl⟩ | ⟨rfl, rfl, rfl⟩ | ⟨rfl, rfl, rfl⟩ | ⟨rfl, rfl, rfl⟩
  ·go_wp2
   go_roundw
   case rel => first | exact ⟨rfl, .inr (.inl ⟨rfl, rfl, rfl⟩)⟩ | exact ⟨trivial, .inr (.inl ⟨rfl, rfl, rfl⟩)⟩ | (simp; done)
   case measure => simp [intOf]
  ·go_wp2
   go_roundw
   case rel => first | exact ⟨rfl, .inr (.inr (.inl ⟨rfl, rfl, rfl⟩))⟩ | exact ⟨trivial, .inr (.inr (.inl ⟨rfl, rfl, rfl⟩))⟩ | (simp; done)
   case measure => simp [intOf]
  ·go_wp2
   go_roundw
   case rel => first | exact ⟨rfl, .inr (.inr (.inr (⟨rfl, rfl, rfl⟩)))⟩ | exact ⟨trivial, .inr (.inr (.inr (⟨rfl, rfl, rfl⟩)))⟩ | (simp; done)
   case measure => simp [intOf]
  ·go_wp2
   go_ret
   exact ⟨rfl, rfl⟩
theorem pow_5 (w : World) : Calls Tryz.prog 178 #[.int .u64 10, .int .i64 5] w fun e w' => e = .returned (.int .u64 100000) ∧ w' = w := by
 go_enter Tryz.func178, Tryz.ntmps178
 go_wp2
 go_loopw [0, 1, 4] (fun x n p wr => wr = w ∧ ((x = .int .u64 10 ∧ n = .int .i64 5 ∧ p = .int .u64 1) ∨ (x = .int .u64 100 ∧ n = .int .i64 2 ∧ p = .int .u64 10) ∨ (x = .int .u64 10000 ∧ n = .int .i64 1 ∧ p = .int .u64 10) ∨ (x = .int .u64 100000000 ∧ n = .int .i64 0 ∧ p = .int .u64 100000))) (fun _ n _ _ => (intOf n).toNat)
 case atStart => exact ⟨rfl, .inl ⟨rfl, rfl, rfl⟩⟩
 case round =>
  obtain ⟨rfl, hrel⟩ := hrel
  rcases hrel with ⟨rfl, rfl, rfl⟩ | ⟨rfl, rfl, rfl⟩ | ⟨rfl, rfl, rfl⟩ | ⟨rfl, rfl, rfl⟩
  ·go_wp2
   go_roundw
   case rel => first | exact ⟨rfl, .inr (.inl ⟨rfl, rfl, rfl⟩)⟩ | exact ⟨trivial, .inr (.inl ⟨rfl, rfl, rfl⟩)⟩ | (simp; done)
   case measure => simp [intOf]
  ·go_wp2
   go_roundw
   case rel => first | exact ⟨rfl, .inr (.inr (.inl ⟨rfl, rfl, rfl⟩))⟩ | exact ⟨trivial, .inr (.inr (.inl ⟨rfl, rfl, rfl⟩))⟩ | (simp; done)
   case measure => simp [intOf]
  ·go_wp2
   go_roundw
   case rel => first | exact ⟨rfl, .inr (.inr (.inr (⟨rfl, rfl, rfl⟩)))⟩ | exact ⟨trivial, .inr (.inr (.inr (⟨rfl, rfl, rfl⟩)))⟩ | (simp; done)
   case measure => simp [intOf]
  ·go_wp2
   go_ret
   exact ⟨rfl, rfl⟩
theorem pow_6 (w : World) : Calls Tryz.prog 178 #[.int .u64 10, .int .i64 6] w fun e w' => e = .returned (.int .u64 1000000) ∧ w' = w := by
 go_enter Tryz.func178, Tryz.ntmps178
 go_wp2
 go_loopw [0, 1, 4] (fun x n p wr => wr = w ∧ ((x = .int .u64 10 ∧ n = .int .i64 6 ∧ p = .int .u64 1) ∨ (x = .int .u64 100 ∧ n = .int .i64 3 ∧ p = .int .u64 1) ∨ (x = .int .u64 10000 ∧ n = .int .i64 1 ∧ p = .int .u64 100) ∨ (x = .int .u64 100000000 ∧ n = .int .i64 0 ∧ p = .int .u64 1000000))) (fun _ n _ _ => (intOf n).toNat)
 case atStart => exact ⟨rfl, .inl ⟨rfl, rfl, rfl⟩⟩
 case round =>
  obtain ⟨rfl, hrel⟩ := hrel
  rcases hrel with ⟨rfl, rfl, rfl⟩ | ⟨rfl, rfl, rfl⟩ | ⟨rfl, rfl, rfl⟩ | ⟨rfl, rfl, rfl⟩
  ·go_wp2
   go_roundw
   case rel => first | exact ⟨rfl, .inr (.inl ⟨rfl, rfl, rfl⟩)⟩ | exact ⟨trivial, .inr (.inl ⟨rfl, rfl, rfl⟩)⟩ | (simp; done)
   case measure => simp [intOf]
  ·go_wp2
   go_roundw
   case rel => first | exact ⟨rfl, .inr (.inr (.inl ⟨rfl, rfl, rfl⟩))⟩ | exact ⟨trivial, .inr (.inr (.inl ⟨rfl, rfl, rfl⟩))⟩ | (simp; done)
   case measure => simp [intOf]
  ·go_wp2
   go_roundw
   case rel => first | exact ⟨rfl, .inr (.inr (.inr (⟨rfl, rfl, rfl⟩)))⟩ | exact ⟨trivial, .inr (.inr (.inr (⟨rfl, rfl, rfl⟩)))⟩ | (simp; done)
   case measure => simp [intOf]
  ·go_wp2
   go_ret
   exact ⟨rfl, rfl⟩
theorem pow_7 (w : World) : Calls Tryz.prog 178 #[.int .u64 10, .int .i64 7] w fun e w' => e = .returned (.int .u64 10000000) ∧ w' = w := by
 go_enter Tryz.func178, Tryz.ntmps178
 go_wp2
 go_loopw [0, 1, 4] (fun x n p wr => wr = w ∧ ((x = .int .u64 10 ∧ n = .int .i64 7 ∧ p = .int .u64 1) ∨ (x = .int .u64 100 ∧ n = .int .i64 3 ∧ p = .int .u64 10) ∨ (x = .int .u64 10000 ∧ n = .int .i64 1 ∧ p = .int .u64 1000) ∨ (x = .int .u64 100000000 ∧ n = .int .i64 0 ∧ p = .int .u64 10000000))) (fun _ n _ _ => (intOf n).toNat)
 case atStart => exact ⟨rfl, .inl ⟨rfl, rfl, rfl⟩⟩
 case round =>
  obtain ⟨rfl, hrel⟩ := hrel
  rcases hrel with ⟨rfl, rfl, rfl⟩ | ⟨rfl, rfl, rfl⟩ | ⟨rfl, rfl, rfl⟩ | ⟨rfl, rfl, rfl⟩
  ·go_wp2
   go_roundw
   case rel => first | exact ⟨rfl, .inr (.inl ⟨rfl, rfl, rfl⟩)⟩ | exact ⟨trivial, .inr (.inl ⟨rfl, rfl, rfl⟩)⟩ | (simp; done)
   case measure => simp [intOf]
  ·go_wp2
   go_roundw
   case rel => first | exact ⟨rfl, .inr (.inr (.inl ⟨rfl, rfl, rfl⟩))⟩ | exact ⟨trivial, .inr (.inr (.inl ⟨rfl, rfl, rfl⟩))⟩ | (simp; done)
   case measure => simp [intOf]
  ·go_wp2
   go_roundw
   case rel => first | exact ⟨rfl, .inr (.inr (.inr (⟨rfl, rfl, rfl⟩)))⟩ | exact ⟨trivial, .inr (.inr (.inr (⟨rfl, rfl, rfl⟩)))⟩ | (simp; done)
   case measure => simp [intOf]
  ·go_wp2
   go_ret
   exact ⟨rfl, rfl⟩
theorem pow_8 (w : World) : Calls Tryz.prog 178 #[.int .u64 10, .int .i64 8] w fun e w' => e = .returned (.int .u64 100000000) ∧ w' = w := by
 go_enter Tryz.func178, Tryz.ntmps178
 go_wp2
 go_loopw [0, 1, 4] (fun x n p wr => wr = w ∧ ((x = .int .u64 10 ∧ n = .int .i64 8 ∧ p = .int .u64 1) ∨ (x = .int .u64 100 ∧ n = .int .i64 4 ∧ p = .int .u64 1) ∨ (x = .int .u64 10000 ∧ n = .int .i64 2 ∧ p = .int .u64 1) ∨ (x = .int .u64 100000000 ∧ n = .int .i64 1 ∧ p = .int .u64 1) ∨ (x = .int .u64 10000000000000000 ∧ n = .int .i64 0 ∧ p = .int .u64 100000000))) (fun _ n _ _ => (intOf n).toNat)
 case atStart => exact ⟨rfl, .inl ⟨rfl, rfl, rfl⟩⟩
 case round =>
  obtain ⟨rfl, hrel⟩ := hrel
  rcases hrel with ⟨rfl, rfl, rfl⟩ | ⟨rfl, rfl, rfl⟩ | ⟨rfl, rfl, rfl⟩ | ⟨rfl, rfl, rfl⟩ | ⟨rfl, rfl, rfl⟩
  ·go_wp2
   go_roundw
   case rel => first | exact ⟨rfl, .inr (.inl ⟨rfl, rfl, rfl⟩)⟩ | exact ⟨trivial, .inr (.inl ⟨rfl, rfl, rfl⟩)⟩ | (simp; done)
   case measure => simp [intOf]
  ·go_wp2
   go_roundw
   case rel => first | exact ⟨rfl, .inr (.inr (.inl ⟨rfl, rfl, rfl⟩))⟩ | exact ⟨trivial, .inr (.inr (.inl ⟨rfl, rfl, rfl⟩))⟩ | (simp; done)
   case measure => simp [intOf]
  ·go_wp2
   go_roundw
   case rel => first | exact ⟨rfl, .inr (.inr (.inr (.inl ⟨rfl, rfl, rfl⟩)))⟩ | exact ⟨trivial, .inr (.inr (.inr (.inl ⟨rfl, rfl, rfl⟩)))⟩ | (simp; done)
   case measure => simp [intOf]
  ·go_wp2
   go_roundw
   case rel => first | exact ⟨rfl, .inr (.inr (.inr (.inr (⟨rfl, rfl, rfl⟩))))⟩ | exact ⟨trivial, .inr (.inr (.inr (.inr (⟨rfl, rfl, rfl⟩))))⟩ | (simp; done)
   case measure => simp [intOf]
  ·go_wp2
   go_ret
   exact ⟨rfl, rfl⟩
theorem pow_9 (w : World) : Calls Tryz.prog 178 #[.int .u64 10, .int .i64 9] w fun e w' => e = .returned (.int .u64 1000000000) ∧ w' = w := by
 go_enter Tryz.func178, Tryz.ntmps178
 go_wp2
 go_loopw [0, 1, 4] (fun x n p wr => wr = w ∧ ((x = .int .u64 10 ∧ n = .int .i64 9 ∧ p = .int .u64 1) ∨ (x = .int .u64 100 ∧ n = .int .i64 4 ∧ p = .int .u64 10) ∨ (x = .int .u64 10000 ∧ n = .int .i64 2 ∧ p = .int .u64 10) ∨ (x = .int .u64 100000000 ∧ n = .int .i64 1 ∧ p = .int .u64 10) ∨ (x = .int .u64 10000000000000000 ∧ n = .int .i64 0 ∧ p = .int .u64 1000000000))) (fun _ n _ _ => (intOf n).toNat)
 case atStart => exact ⟨rfl, .inl ⟨rfl, rfl, rfl⟩⟩
 case round =>
  obtain ⟨rfl, hrel⟩ := hrel
  rcases hrel with ⟨rfl, rfl, rfl⟩ | ⟨rfl, rfl, rfl⟩ | ⟨rfl, rfl, rfl⟩ | ⟨rfl, rfl, rfl⟩ | ⟨rfl, rfl, rfl⟩
  ·go_wp2
   go_roundw
   case rel => first | exact ⟨rfl, .inr (.inl ⟨rfl, rfl, rfl⟩)⟩ | exact ⟨trivial, .inr (.inl ⟨rfl, rfl, rfl⟩)⟩ | (simp; done)
   case measure => simp [intOf]
  ·go_wp2
   go_roundw
   case rel => first | exact ⟨rfl, .inr (.inr (.inl ⟨rfl, rfl, rfl⟩))⟩ | exact ⟨trivial, .inr (.inr (.inl ⟨rfl, rfl, rfl⟩))⟩ | (simp; done)
   case measure => simp [intOf]
  ·go_wp2
   go_roundw
   case rel => first | exact ⟨rfl, .inr (.inr (.inr (.inl ⟨rfl, rfl, rfl⟩)))⟩ | exact ⟨trivial, .inr (.inr (.inr (.inl ⟨rfl, rfl, rfl⟩)))⟩ | (simp; done)
   case measure => simp [intOf]
  ·go_wp2
   go_roundw
   case rel => first | exact ⟨rfl, .inr (.inr (.inr (.inr (⟨rfl, rfl, rfl⟩))))⟩ | exact ⟨trivial, .inr (.inr (.inr (.inr (⟨rfl, rfl, rfl⟩))))⟩ | (simp; done)
   case measure => simp [intOf]
  ·go_wp2
   go_ret
   exact ⟨rfl, rfl⟩
theorem pow_10 (w : World) : Calls Tryz.prog 178 #[.int .u64 10, .int .i64 10] w fun e w' => e = .returned (.int .u64 10000000000) ∧ w' = w := by
 go_enter Tryz.func178, Tryz.ntmps178
 go_wp2
 go_loopw [0, 1, 4] (fun x n p wr => wr = w ∧ ((x = .int .u64 10 ∧ n = .int .i64 10 ∧ p = .int .u64 1) ∨ (x = .int .u64 100 ∧ n = .int .i64 5 ∧ p = .int .u64 1) ∨ (x = .int .u64 10000 ∧ n = .int .i64 2 ∧ p = .int .u64 100) ∨ (x = .int .u64 100000000 ∧ n = .int .i64 1 ∧ p = .int .u64 100) ∨ (x = .int .u64 10000000000000000 ∧ n = .int .i64 0 ∧ p = .int .u64 10000000000))) (fun _ n _ _ => (intOf n).toNat)
 case atStart => exact ⟨rfl, .inl ⟨rfl, rfl, rfl⟩⟩
 case round =>
  obtain ⟨rfl, hrel⟩ := hrel
  rcases hrel with ⟨rfl, rfl, rfl⟩ | ⟨rfl, rfl, rfl⟩ | ⟨rfl, rfl, rfl⟩ | ⟨rfl, rfl, rfl⟩ | ⟨rfl, rfl, rfl⟩
  ·go_wp2
   go_roundw
   case rel => first | exact ⟨rfl, .inr (.inl ⟨rfl, rfl, rfl⟩)⟩ | exact ⟨trivial, .inr (.inl ⟨rfl, rfl, rfl⟩)⟩ | (simp; done)
   case measure => simp [intOf]
  ·go_wp2
   go_roundw
   case rel => first | exact ⟨rfl, .inr (.inr (.inl ⟨rfl, rfl, rfl⟩))⟩ | exact ⟨trivial, .inr (.inr (.inl ⟨rfl, rfl, rfl⟩))⟩ | (simp; done)
   case measure => simp [intOf]
  ·go_wp2
   go_roundw
   case rel => first | exact ⟨rfl, .inr (.inr (.inr (.inl ⟨rfl, rfl, rfl⟩)))⟩ | exact ⟨trivial, .inr (.inr (.inr (.inl ⟨rfl, rfl, rfl⟩)))⟩ | (simp; done)
   case measure => simp [intOf]
  ·go_wp2
   go_roundw
   case rel => first | exact ⟨rfl, .inr (.inr (.inr (.inr (⟨rfl, rfl, rfl⟩))))⟩ | exact ⟨trivial, .inr (.inr (.inr (.inr (⟨rfl, rfl, rfl⟩))))⟩ | (simp; done)
   case measure => simp [intOf]
  ·go_wp2
   go_ret
   exact ⟨rfl, rfl⟩
theorem pow_11 (w : World) : Calls Tryz.prog 178 #[.int .u64 10, .int .i64 11] w fun e w' => e = .returned (.int .u64 100000000000) ∧ w' = w := by
 go_enter Tryz.func178, Tryz.ntmps178
 go_wp2
 go_loopw [0, 1, 4] (fun x n p wr => wr = w ∧ ((x = .int .u64 10 ∧ n = .int .i64 11 ∧ p = .int .u64 1) ∨ (x = .int .u64 100 ∧ n = .int .i64 5 ∧ p = .int .u64 10) ∨ (x = .int .u64 10000 ∧ n = .int .i64 2 ∧ p = .int .u64 1000) ∨ (x = .int .u64 100000000 ∧ n = .int .i64 1 ∧ p = .int .u64 1000) ∨ (x = .int .u64 10000000000000000 ∧ n = .int .i64 0 ∧ p = .int .u64 100000000000))) (fun _ n _ _ => (intOf n).toNat)
 case atStart => exact ⟨rfl, .inl ⟨rfl, rfl, rfl⟩⟩
 case round =>
  obtain ⟨rfl, hrel⟩ := hrel
  rcases hrel with ⟨rfl, rfl, rfl⟩ | ⟨rfl, rfl, rfl⟩ | ⟨rfl, rfl, rfl⟩ | ⟨rfl, rfl, rfl⟩ | ⟨rfl, rfl, rfl⟩
  ·go_wp2
   go_roundw
   case rel => first | exact ⟨rfl, .inr (.inl ⟨rfl, rfl, rfl⟩)⟩ | exact ⟨trivial, .inr (.inl ⟨rfl, rfl, rfl⟩)⟩ | (simp; done)
   case measure => simp [intOf]
  ·go_wp2
   go_roundw
   case rel => first | exact ⟨rfl, .inr (.inr (.inl ⟨rfl, rfl, rfl⟩))⟩ | exact ⟨trivial, .inr (.inr (.inl ⟨rfl, rfl, rfl⟩))⟩ | (simp; done)
   case measure => simp [intOf]
  ·go_wp2
   go_roundw
   case rel => first | exact ⟨rfl, .inr (.inr (.inr (.inl ⟨rfl, rfl, rfl⟩)))⟩ | exact ⟨trivial, .inr (.inr (.inr (.inl ⟨rfl, rfl, rfl⟩)))⟩ | (simp; done)
   case measure => simp [intOf]
  ·go_wp2
   go_roundw
   case rel => first | exact ⟨rfl, .inr (.inr (.inr (.inr (⟨rfl, rfl, rfl⟩))))⟩ | exact ⟨trivial, .inr (.inr (.inr (.inr (⟨rfl, rfl, rfl⟩))))⟩ | (simp; done)
   case measure => simp [intOf]
  ·go_wp2
   go_ret
   exact ⟨rfl, rfl⟩
theorem pow_12 (w : World) : Calls Tryz.prog 178 #[.int .u64 10, .int .i64 12] w fun e w' => e = .returned (.int .u64 1000000000000) ∧ w' = w := by
 go_enter Tryz.func178, Tryz.ntmps178
 go_wp2
 go_loopw [0, 1, 4] (fun x n p wr => wr = w ∧ ((x = .int .u64 10 ∧ n = .int .i64 12 ∧ p = .int .u64 1) ∨ (x = .int .u64 100 ∧ n = .int .i64 6 ∧ p = .int .u64 1) ∨ (x = .int .u64 10000 ∧ n = .int .i64 3 ∧ p = .int .u64 1) ∨ (x = .int .u64 100000000 ∧ n = .int .i64 1 ∧ p = .int .u64 10000) ∨ (x = .int .u64 10000000000000000 ∧ n = .int .i64 0 ∧ p = .int .u64 1000000000000))) (fun _ n _ _ => (intOf n).toNat)
 case atStart => exact ⟨rfl, .inl ⟨rfl, rfl, rfl⟩⟩
 case round =>
  obtain ⟨rfl, hrel⟩ := hrel
  rcases hrel with ⟨rfl, rfl, rfl⟩ | ⟨rfl, rfl, rfl⟩ | ⟨rfl, rfl, rfl⟩ | ⟨rfl, rfl, rfl⟩ | ⟨rfl, rfl, rfl⟩
  ·go_wp2
   go_roundw
   case rel => first | exact ⟨rfl, .inr (.inl ⟨rfl, rfl, rfl⟩)⟩ | exact ⟨trivial, .inr (.inl ⟨rfl, rfl, rfl⟩)⟩ | (simp; done)
   case measure => simp [intOf]
  ·go_wp2
   go_roundw
   case rel => first | exact ⟨rfl, .inr (.inr (.inl ⟨rfl, rfl, rfl⟩))⟩ | exact ⟨trivial, .inr (.inr (.inl ⟨rfl, rfl, rfl⟩))⟩ | (simp; done)
   case measure => simp [intOf]
  ·go_wp2
   go_roundw
   case rel => first | exact ⟨rfl, .inr (.inr (.inr (.inl ⟨rfl, rfl, rfl⟩)))⟩ | exact ⟨trivial, .inr (.inr (.inr (.inl ⟨rfl, rfl, rfl⟩)))⟩ | (simp; done)
   case measure => simp [intOf]
  ·go_wp2
   go_roundw
   case rel => first | exact ⟨rfl, .inr (.inr (.inr (.inr (⟨rfl, rfl, rfl⟩))))⟩ | exact ⟨trivial, .inr (.inr (.inr (.inr (⟨rfl, rfl, rfl⟩))))⟩ | (simp; done)
   case measure => simp [intOf]
  ·go_wp2
   go_ret
   exact ⟨rfl, rfl⟩
theorem pow_13 (w : World) : Calls Tryz.prog 178 #[.int .u64 10, .int .i64 13] w fun e w' => e = .returned (.int .u64 10000000000000) ∧ w' = w := by
 go_enter Tryz.func178, Tryz.ntmps178
 go_wp2
 go_loopw [0, 1, 4] (fun x n p wr => wr = w ∧ ((x = .int .u64 10 ∧ n = .int .i64 13 ∧ p = .int .u64 1) ∨ (x = .int .u64 100 ∧ n = .int .i64 6 ∧ p = .int .u64 10) ∨ (x = .int .u64 10000 ∧ n = .int .i64 3 ∧ p = .int .u64 10) ∨ (x = .int .u64 100000000 ∧ n = .int .i64 1 ∧ p = .int .u64 100000) ∨ (x = .int .u64 10000000000000000 ∧ n = .int .i64 0 ∧ p = .int .u64 10000000000000))) (fun _ n _ _ => (intOf n).toNat)
 case atStart => exact ⟨rfl, .inl ⟨rfl, rfl, rfl⟩⟩
 case round =>
  obtain ⟨rfl, hrel⟩ := hrel
  rcases hrel with ⟨rfl, rfl, rfl⟩ | ⟨rfl, rfl, rfl⟩ | ⟨rfl, rfl, rfl⟩ | ⟨rfl, rfl, rfl⟩ | ⟨rfl, rfl, rfl⟩
  ·go_wp2
   go_roundw
   case rel => first | exact ⟨rfl, .inr (.inl ⟨rfl, rfl, rfl⟩)⟩ | exact ⟨trivial, .inr (.inl ⟨rfl, rfl, rfl⟩)⟩ | (simp; done)
   case measure => simp [intOf]
  ·go_wp2
   go_roundw
   case rel => first | exact ⟨rfl, .inr (.inr (.inl ⟨rfl, rfl, rfl⟩))⟩ | exact ⟨trivial, .inr (.inr (.inl ⟨rfl, rfl, rfl⟩))⟩ | (simp; done)
   case measure => simp [intOf]
  ·go_wp2
   go_roundw
   case rel => first | exact ⟨rfl, .inr (.inr (.inr (.inl ⟨rfl, rfl, rfl⟩)))⟩ | exact ⟨trivial, .inr (.inr (.inr (.inl ⟨rfl, rfl, rfl⟩)))⟩ | (simp; done)
   case measure => simp [intOf]
  ·go_wp2
   go_roundw
   case rel => first | exact ⟨rfl, .inr (.inr (.inr (.inr (⟨rfl, rfl, rfl⟩))))⟩ | exact ⟨trivial, .inr (.inr (.inr (.inr (⟨rfl, rfl, rfl⟩))))⟩ | (simp; done)
   case measure => simp [intOf]
  ·go_wp2
   go_ret
   exact ⟨rfl, rfl⟩
theorem pow_14 (w : World) : Calls Tryz.prog 178 #[.int .u64 10, .int .i64 14] w fun e w' => e = .returned (.int .u64 100000000000000) ∧ w' = w := by
 go_enter Tryz.func178, Tryz.ntmps178
 go_wp2
 go_loopw [0, 1, 4] (fun x n p wr => wr = w ∧ ((x = .int .u64 10 ∧ n = .int .i64 14 ∧ p = .int .u64 1) ∨ (x = .int .u64 100 ∧ n = .int .i64 7 ∧ p = .int .u64 1) ∨ (x = .int .u64 10000 ∧ n = .int .i64 3 ∧ p = .int .u64 100) ∨ (x = .int .u64 100000000 ∧ n = .int .i64 1 ∧ p = .int .u64 1000000) ∨ (x = .int .u64 10000000000000000 ∧ n = .int .i64 0 ∧ p = .int .u64 100000000000000))) (fun _ n _ _ => (intOf n).toNat)
 case atStart => exact ⟨rfl, .inl ⟨rfl, rfl, rfl⟩⟩
 case round =>
  obtain ⟨rfl, hrel⟩ := hrel
  rcases hrel with ⟨rfl, rfl, rfl⟩ | ⟨rfl, rfl, rfl⟩ | ⟨rfl, rfl, rfl⟩ | ⟨rfl, rfl, rfl⟩ | ⟨rfl, rfl, rfl⟩
  ·go_wp2
   go_roundw
   case rel => first | exact ⟨rfl, .inr (.inl ⟨rfl, rfl, rfl⟩)⟩ | exact ⟨trivial, .inr (.inl ⟨rfl, rfl, rfl⟩)⟩ | (simp; done)
   case measure => simp [intOf]
  ·go_wp2
   go_roundw
   case rel => first | exact ⟨rfl, .inr (.inr (.inl ⟨rfl, rfl, rfl⟩))⟩ | exact ⟨trivial, .inr (.inr (.inl ⟨rfl, rfl, rfl⟩))⟩ | (simp; done)
   case measure => simp [intOf]
  ·go_wp2
   go_roundw
   case rel => first | exact ⟨rfl, .inr (.inr (.inr (.inl ⟨rfl, rfl, rfl⟩)))⟩ | exact ⟨trivial, .inr (.inr (.inr (.inl ⟨rfl, rfl, rfl⟩)))⟩ | (simp; done)
   case measure => simp [intOf]
  ·go_wp2
   go_roundw
   case rel => first | exact ⟨rfl, .inr (.inr (.inr (.inr (⟨rfl, rfl, rfl⟩))))⟩ | exact ⟨trivial, .inr (.inr (.inr (.inr (⟨rfl, rfl, rfl⟩))))⟩ | (simp; done)
   case measure => simp [intOf]
  ·go_wp2
   go_ret
   exact ⟨rfl, rfl⟩
theorem pow_15 (w : World) : Calls Tryz.prog 178 #[.int .u64 10, .int .i64 15] w fun e w' => e = .returned (.int .u64 1000000000000000) ∧ w' = w := by
 go_enter Tryz.func178, Tryz.ntmps178
 go_wp2
 go_loopw [0, 1, 4] (fun x n p wr => wr = w ∧ ((x = .int .u64 10 ∧ n = .int .i64 15 ∧ p = .int .u64 1) ∨ (x = .int .u64 100 ∧ n = .int .i64 7 ∧ p = .int .u64 10) ∨ (x = .int .u64 10000 ∧ n = .int .i64 3 ∧ p = .int .u64 1000) ∨ (x = .int .u64 100000000 ∧ n = .int .i64 1 ∧ p = .int .u64 10000000) ∨ (x = .int .u64 10000000000000000 ∧ n = .int .i64 0 ∧ p = .int .u64 1000000000000000))) (fun _ n _ _ => (intOf n).toNat)
 case atStart => exact ⟨rfl, .inl ⟨rfl, rfl, rfl⟩⟩
 case round =>
  obtain ⟨rfl, hrel⟩ := hrel
  rcases hrel with ⟨rfl, rfl, rfl⟩ | ⟨rfl, rfl, rfl⟩ | ⟨rfl, rfl, rfl⟩ | ⟨rfl, rfl, rfl⟩ | ⟨rfl, rfl, rfl⟩
  ·go_wp2
   go_roundw
   case rel => first | exact ⟨rfl, .inr (.inl ⟨rfl, rfl, rfl⟩)⟩ | exact ⟨trivial, .inr (.inl ⟨rfl, rfl, rfl⟩)⟩ | (simp; done)
   case measure => simp [intOf]
  ·go_wp2
   go_roundw
   case rel => first | exact ⟨rfl, .inr (.inr (.inl ⟨rfl, rfl, rfl⟩))⟩ | exact ⟨trivial, .inr (.inr (.inl ⟨rfl, rfl, rfl⟩))⟩ | (simp; done)
   case measure => simp [intOf]
  ·go_wp2
   go_roundw
   case rel => first | exact ⟨rfl, .inr (.inr (.inr (.inl ⟨rfl, rfl, rfl⟩)))⟩ | exact ⟨trivial, .inr (.inr (.inr (.inl ⟨rfl, rfl, rfl⟩)))⟩ | (simp; done)
   case measure => simp [intOf]
  ·go_wp2
   go_roundw
   case rel => first | exact ⟨rfl, .inr (.inr (.inr (.inr (⟨rfl, rfl, rfl⟩))))⟩ | exact ⟨trivial, .inr (.inr (.inr (.inr (⟨rfl, rfl, rfl⟩))))⟩ | (simp; done)
   case measure => simp [intOf]
  ·go_wp2
   go_ret
   exact ⟨rfl, rfl⟩
theorem pow_16 (w : World) : Calls Tryz.prog 178 #[.int .u64 10, .int .i64 16] w fun e w' => e = .returned (.int .u64 10000000000000000) ∧ w' = w := by
 go_enter Tryz.func178, Tryz.ntmps178
 go_wp2
 go_loopw [0, 1, 4] (fun x n p wr => wr = w ∧ ((x = .int .u64 10 ∧ n = .int .i64 16 ∧ p = .int .u64 1) ∨ (x = .int .u64 100 ∧ n = .int .i64 8 ∧ p = .int .u64 1) ∨ (x = .int .u64 10000 ∧ n = .int .i64 4 ∧ p = .int .u64 1) ∨ (x = .int .u64 100000000 ∧ n = .int .i64 2 ∧ p = .int .u64 1) ∨ (x = .int .u64 10000000000000000 ∧ n = .int .i64 1 ∧ p = .int .u64 1) ∨ (x = .int .u64 9632337040368467968 ∧ n = .int .i64 0 ∧ p = .int .u64 10000000000000000))) (fun _ n _ _ => (intOf n).toNat)
 case atStart => exact ⟨rfl, .inl ⟨rfl, rfl, rfl⟩⟩
 case round =>
  obtain ⟨rfl, hrel⟩ := hrel
  rcases hrel with ⟨rfl, rfl, rfl⟩ | ⟨rfl, rfl, rfl⟩ | ⟨rfl, rfl, rfl⟩ | ⟨rfl, rfl, rfl⟩ | ⟨rfl, rfl, rfl⟩ | ⟨rfl, rfl, rfl⟩
  ·go_wp2
   go_roundw
   case rel => first | exact ⟨rfl, .inr (.inl ⟨rfl, rfl, rfl⟩)⟩ | exact ⟨trivial, .inr (.inl ⟨rfl, rfl, rfl⟩)⟩ | (simp; done)
   case measure => simp [intOf]
  ·go_wp2
   go_roundw
   case rel => first | exact ⟨rfl, .inr (.inr (.inl ⟨rfl, rfl, rfl⟩))⟩ | exact ⟨trivial, .inr (.inr (.inl ⟨rfl, rfl, rfl⟩))⟩ | (simp; done)
   case measure => simp [intOf]
  ·go_wp2
   go_roundw
   case rel => first | exact ⟨rfl, .inr (.inr (.inr (.inl ⟨rfl, rfl, rfl⟩)))⟩ | exact ⟨trivial, .inr (.inr (.inr (.inl ⟨rfl, rfl, rfl⟩)))⟩ | (simp; done)
   case measure => simp [intOf]
  ·go_wp2
   go_roundw
   case rel => first | exact ⟨rfl, .inr (.inr (.inr (.inr (.inl ⟨rfl, rfl, rfl⟩))))⟩ | exact ⟨trivial, .inr (.inr (.inr (.inr (.inl ⟨rfl, rfl, rfl⟩))))⟩ | (simp; done)
   case measure => simp [intOf]
  ·go_wp2
   go_roundw
   case rel => first | exact ⟨rfl, .inr (.inr (.inr (.inr (.inr (⟨rfl, rfl, rfl⟩)))))⟩ | exact ⟨trivial, .inr (.inr (.inr (.inr (.inr (⟨rfl, rfl, rfl⟩)))))⟩ | (simp; done)
   case measure => simp [intOf]
  ·go_wp2
   go_ret
   exact ⟨rfl, rfl⟩
theorem pow_17 (w : World) : Calls Tryz.prog 178 #[.int .u64 10, .int .i64 17] w fun e w' => e = .returned (.int .u64 100000000000000000) ∧ w' = w := by
 go_enter Tryz.func178, Tryz.ntmps178
 go_wp2
 go_loopw [0, 1, 4] (fun x n p wr => wr = w ∧ ((x = .int .u64 10 ∧ n = .int .i64 17 ∧ p = .int .u64 1) ∨ (x = .int .u64 100 ∧ n = .int .i64 8 ∧ p = .int .u64 10) ∨ (x = .int .u64 10000 ∧ n = .int .i64 4 ∧ p = .int .u64 10) ∨ (x = .int .u64 100000000 ∧ n = .int .i64 2 ∧ p = .int .u64 10) ∨ (x = .int .u64 10000000000000000 ∧ n = .int .i64 1 ∧ p = .int .u64 10) ∨ (x = .int .u64 9632337040368467968 ∧ n = .int .i64 0 ∧ p = .int .u64 100000000000000000))) (fun _ n _ _ => (intOf n).toNat)
 case atStart => exact ⟨rfl, .inl ⟨rfl, rfl, rfl⟩⟩
 case round =>
  obtain ⟨rfl, hrel⟩ := hrel
  rcases hrel with ⟨rfl, rfl, rfl⟩ | ⟨rfl, rfl, rfl⟩ | ⟨rfl, rfl, rfl⟩ | ⟨rfl, rfl, rfl⟩ | ⟨rfl, rfl, rfl⟩ | ⟨rfl, rfl, rfl⟩
  ·go_wp2
   go_roundw
   case rel => first | exact ⟨rfl, .inr (.inl ⟨rfl, rfl, rfl⟩)⟩ | exact ⟨trivial, .inr (.inl ⟨rfl, rfl, rfl⟩)⟩ | (simp; done)
   case measure => simp [intOf]
  ·go_wp2
   go_roundw
   case rel => first | exact ⟨rfl, .inr (.inr (.inl ⟨rfl, rfl, rfl⟩))⟩ | exact ⟨trivial, .inr (.inr (.inl ⟨rfl, rfl, rfl⟩))⟩ | (simp; done)
   case measure => simp [intOf]
  ·go_wp2
   go_roundw
   case rel => first | exact ⟨rfl, .inr (.inr (.inr (.inl ⟨rfl, rfl, rfl⟩)))⟩ | exact ⟨trivial, .inr (.inr (.inr (.inl ⟨rfl, rfl, rfl⟩)))⟩ | (simp; done)
   case measure => simp [intOf]
  ·go_wp2
   go_roundw
   case rel => first | exact ⟨rfl, .inr (.inr (.inr (.inr (.inl ⟨rfl, rfl, rfl⟩))))⟩ | exact ⟨trivial, .inr (.inr (.inr (.inr (.inl ⟨rfl, rfl, rfl⟩))))⟩ | (simp; done)
   case measure => simp [intOf]
  ·go_wp2
   go_roundw
   case rel => first | exact ⟨rfl, .inr (.inr (.inr (.inr (.inr (⟨rfl, rfl, rfl⟩)))))⟩ | exact ⟨trivial, .inr (.inr (.inr (.inr (.inr (⟨rfl, rfl, rfl⟩)))))⟩ | (simp; done)
   case measure => simp [intOf]
  ·go_wp2
   go_ret
   exact ⟨rfl, rfl⟩
theorem pow_18 (w : World) : Calls Tryz.prog 178 #[.int .u64 10, .int .i64 18] w fun e w' => e = .returned (.int .u64 1000000000000000000) ∧ w' = w := by
 go_enter Tryz.func178, Tryz.ntmps178
 go_wp2
 go_loopw [0, 1, 4] (fun x n p wr => wr = w ∧ ((x = .int .u64 10 ∧ n = .int .i64 18 ∧ p = .int .u64 1) ∨ (x = .int .u64 100 ∧ n = .int .i64 9 ∧ p = .int .u64 1) ∨ (x = .int .u64 10000 ∧ n = .int .i64 4 ∧ p = .int .u64 100) ∨ (x = .int .u64 100000000 ∧ n = .int .i64 2 ∧ p = .int .u64 100) ∨ (x = .int .u64 10000000000000000 ∧ n = .int .i64 1 ∧ p = .int .u64 100) ∨ (x = .int .u64 9632337040368467968 ∧ n = .int .i64 0 ∧ p = .int .u64 1000000000000000000))) (fun _ n _ _ => (intOf n).toNat)
 case atStart => exact ⟨rfl, .inl ⟨rfl, rfl, rfl⟩⟩
 case round =>
  obtain ⟨rfl, hrel⟩ := hrel
  rcases hrel with ⟨rfl, rfl, rfl⟩ | ⟨rfl, rfl, rfl⟩ | ⟨rfl, rfl, rfl⟩ | ⟨rfl, rfl, rfl⟩ | ⟨rfl, rfl, rfl⟩ | ⟨rfl, rfl, rfl⟩
  ·go_wp2
   go_roundw
   case rel => first | exact ⟨rfl, .inr (.inl ⟨rfl, rfl, rfl⟩)⟩ | exact ⟨trivial, .inr (.inl ⟨rfl, rfl, rfl⟩)⟩ | (simp; done)
   case measure => simp [intOf]
  ·go_wp2
   go_roundw
   case rel => first | exact ⟨rfl, .inr (.inr (.inl ⟨rfl, rfl, rfl⟩))⟩ | exact ⟨trivial, .inr (.inr (.inl ⟨rfl, rfl, rfl⟩))⟩ | (simp; done)
   case measure => simp [intOf]
  ·go_wp2
   go_roundw
   case rel => first | exact ⟨rfl, .inr (.inr (.inr (.inl ⟨rfl, rfl, rfl⟩)))⟩ | exact ⟨trivial, .inr (.inr (.inr (.inl ⟨rfl, rfl, rfl⟩)))⟩ | (simp; done)
   case measure => simp [intOf]
  ·go_wp2
   go_roundw
   case rel => first | exact ⟨rfl, .inr (.inr (.inr (.inr (.inl ⟨rfl, rfl, rfl⟩))))⟩ | exact ⟨trivial, .inr (.inr (.inr (.inr (.inl ⟨rfl, rfl, rfl⟩))))⟩ | (simp; done)
   case measure => simp [intOf]
  ·go_wp2
   go_roundw
   case rel => first | exact ⟨rfl, .inr (.inr (.inr (.inr (.inr (⟨rfl, rfl, rfl⟩)))))⟩ | exact ⟨trivial, .inr (.inr (.inr (.inr (.inr (⟨rfl, rfl, rfl⟩)))))⟩ | (simp; done)
   case measure => simp [intOf]
  ·go_wp2
   go_ret
   exact ⟨rfl, rfl⟩
theorem pow_ (n : Nat) (h1 : 1 ≤ n) (h2 : n ≤ 18) (w : World) : Calls Tryz.prog 178 #[.int .u64 10, .int .i64 n] w fun e w' => e = .returned (.int .u64 (10 ^ n : Nat)) ∧ w' = w := by
 have h : n = 1 ∨ n = 2 ∨ n = 3 ∨ n = 4 ∨ n = 5 ∨ n = 6 ∨ n = 7 ∨ n = 8 ∨ n = 9 ∨ n = 10 ∨ n = 11 ∨ n = 12 ∨ n = 13 ∨ n = 14 ∨ n = 15 ∨ n = 16 ∨ n = 17 ∨ n = 18 := by omega
 rcases h with rfl | rfl | rfl | rfl | rfl | rfl | rfl | rfl | rfl | rfl | rfl | rfl | rfl | rfl | rfl | rfl | rfl | rfl
 ·exact pow_1 w
 ·exact pow_2 w
 ·exact pow_3 w
 ·exact pow_4 w
 ·exact pow_5 w
 ·exact pow_6 w
 ·exact pow_7 w
 ·exact pow_8 w
 ·exact pow_9 w
 ·exact pow_10 w
 ·exact pow_11 w
 ·exact pow_12 w
 ·exact pow_13 w
 ·exact pow_14 w
 ·exact pow_15 w
 ·exact pow_16 w
 ·exact pow_17 w
 ·exact pow_18 w
end Go.Proofs.YtlijjnjpomnphaaGreatDoorG
end
section
namespace Go.Proofs.YtlijjnjpomnphaaGreatDoorG
open Go.RowKit YtlijjnjpomnphaaGreatDoorW.PrintWords YtlijjnjpomnphaaGreatDoorW.PrintLast
theorem mulAddVWW_ (w : World) (g gx n cz cx y r : Nat) (e : TypeId) (full xs : List Nat) (hz : Ws w g e full) (hx : Ws w gx e xs) (hn : n ≤ full.length) (hxn : n ≤ xs.length) (hsame : gx = g → xs = full) (hxs : ∀ x ∈ xs, IsW x) (hy : IsW y) (hr : IsW r) (hbig : n ≤ 4611686018427387904) :
  Calls Tryz.prog 184 #[.slice (some ⟨g, 0, none⟩) n cz, .slice (some ⟨gx, 0, none⟩) n cx, .int .u64 y, .int .u64 r] w fun e' w' =>
   e' = .returned (.int .u64 ((mva (xs.take n) y r).2 : Nat)) ∧ Ws w' g e ((mva (xs.take n) y r).1 ++ full.drop n) ∧ w.grownBy w' (some g) := by
 have H := za.mk (mulAddVWW_g_ w g gx n cz cx y r e full xs hz hx hn hxn hsame hxs hy hr hbig)
 clear hz hx hn hxn hsame hxs hy hr hbig
 go_enter Tryz.func184, Tryz.ntmps184
 go_wp2_with (first | (go_at_call 188; refine H.out.mono ?_; rintro e' w' ⟨rfl, h1, h2⟩))
 go_ret
 exact ⟨rfl, h1, h2⟩
theorem Ws.alloc {w : World} {e : TypeId} (l : List Nat) : Ws (w.alloc (.cells (l.map NumC).toArray e)) w.heap.size e l := by
 have h : (w.alloc (.cells (l.map NumC).toArray e)).heap = w.heap.push (.cells (l.map NumC).toArray e) := rfl
 unfold Ws
 rw [h]
 simp
theorem zvd {B : Nat} {w : World} (o : Obj) (h : B ≤ w.heap.size) : Below B w (w.alloc o) := (Below.refl B w).alloc h o
theorem below_grown_ {B g : Nat} {a w w' : World} (h : Below B a w) (hg : w.grownBy w' (some g)) (hB : B ≤ w.heap.size) (hr : B ≤ g) : Below B a w' := h.grown hg hB (fun k hk => by cases hk; exact hr)
theorem zjf {B g i : Nat} {a w : World} {v : Value} (h : Below B a w) (hr : B ≤ g) : Below B a (w.setCell ⟨g, i, none⟩ v) := h.setCell hr _
theorem setWord_zero (w : World) (p : Option Addr) (len cap : Nat) :
  Calls Tryz.prog 183 #[.slice p len cap, .int .u64 0] w fun e w' => e = .returned (.slice p 0 cap) ∧ w' = w := by
 cases p with
 | none =>
  go_enter Tryz.func183, Tryz.ntmps183
  go_wp2
  go_ret
  exact ⟨rfl, rfl⟩
 | some a =>
  go_enter Tryz.func183, Tryz.ntmps183
  go_wp2
  go_ret
  exact ⟨rfl, rfl⟩
theorem setWord_reuse (w : World) (g len cap r : Nat) (full : List Nat) (hw : Ws w g 147 full) (hc : 1 ≤ cap) (hcf : full.length = cap) (hr : r ≠ 0) :
  Calls Tryz.prog 183 #[.slice (some ⟨g, 0, none⟩) len cap, .int .u64 (r : Int)] w fun e w' => e = .returned (.slice (some ⟨g, 0, none⟩) 1 cap) ∧ Ws w' g 147 (full.set 0 r) ∧ w' = w.setCell ⟨g, 0, none⟩ (.int .u64 (r : Int)) := by
 have b1 : ((r : Int) == 0) = false := by rw [beq_eq_false_iff_ne]; omega
 have b2 : ¬ ((r : Int) = 0) := by omega
 have hd := hw.cell 0 (by omega)
 obtain ⟨d, hdd⟩ : ∃ d, d = full.getD 0 0 := ⟨_, rfl⟩
 rw [← hdd] at hd
 have hf := hw.free 0
 have HS := za.mk (hw.set 0 r)
 have HM := za.mk (make_reuse w g len cap 1 hc)
 clear hw hdd
 go_enter Tryz.func183, Tryz.ntmps183
 go_wp2_with (first | (go_at_call 172; refine HM.out.mono ?_; rintro e' w' ⟨rfl, rfl⟩))
 go_ret
 exact ⟨rfl, HS.out, rfl⟩
theorem setWord_fresh (w : World) (p : Option Addr) (len r : Nat) (hr : r ≠ 0) :
  Calls Tryz.prog 183 #[.slice p len 0, .int .u64 (r : Int)] w fun e w' => ∃ c, 1 ≤ c ∧ c ≤ 5 ∧ e = .returned (.slice (some ⟨w.heap.size, 0, none⟩) 1 c) ∧ Ws w' w.heap.size 147 ((List.replicate c 0).set 0 r) ∧ (∀ B, B ≤ w.heap.size → Below B w w') := by
 have b1 : ((r : Int) == 0) = false := by rw [beq_eq_false_iff_ne]; omega
 have b2 : ¬ ((r : Int) = 0) := by omega
 have HM := za.mk (make_fresh w p len 0 1 (by omega) (by omega))
 go_enter Tryz.func183, Tryz.ntmps183
 go_upto_region 4 with (first | (go_at_call 172; refine HM.out.mono ?_; rintro e' w' ⟨c, hc1, hc2, rfl, hw'⟩; have HW' := za.mk hw'; clear hw'))
 have hw' := HW'.out
 have hw0 : Ws w' w.heap.size 147 (List.replicate c 0) := by
  rw [hw']
  have := Ws.alloc (w := w) (e := 147) (List.replicate c 0)
  rwa [List.map_replicate] at this
 have hd := hw0.cell 0 (by simp; omega)
 obtain ⟨d, hdd⟩ : ∃ d, d = (List.replicate c 0).getD 0 0 := ⟨_, rfl⟩
 rw [← hdd] at hd
 have hf := hw0.free 0
 have HS := za.mk (hw0.set 0 r)
 have HB : za (∀ B, B ≤ w.heap.size → Below B w (w'.setCell ⟨w.heap.size, 0, none⟩ (.int .u64 (r : Int)))) := ⟨fun B hB => zjf (by rw [hw']; exact zvd _ hB) hB⟩
 obtain ⟨G, hG⟩ : ∃ G, G = w.heap.size := ⟨_, rfl⟩
 rw [← hG] at hd hf HS HB ⊢
 have HG := za.mk hG
 have HC := za.mk (And.intro hc1 hc2)
 have b3 : ((0 : Int) < (1 : Int)) := by omega
 clear hw0 hdd hw' HW' hG hc1 hc2
 go_wp2
 go_ret
 refine ⟨c, HC.out.1, HC.out.2, ?_, ?_, ?_⟩
 ·rw [← HG.out]; rfl
 ·rw [← HG.out]; exact HS.out
 ·rw [← HG.out]; exact HB.out
theorem trimW_idem (l : List Nat) : trimW (trimW l) = trimW l := by
 have : ∀ (n : Nat) (l : List Nat), l.length = n → trimW (trimW l) = trimW l := by
  intro n
  induction n with
  | zero => intro l h; rw [List.length_eq_zero_iff.1 h]; rfl
  | succ n ih =>
   intro l h
   have hne : l ≠ [] := by intro e; subst e; simp at h
   obtain ⟨m, x, rfl⟩ : ∃ m x, l = m ++ [x] := ⟨l.dropLast, l.getLast hne, (List.dropLast_concat_getLast hne).symm⟩
   by_cases hx : x = 0
   ·subst hx
    rw [zde]
    exact ih m (by simpa using h)
   ·rw [zcf _ _ hx, zcf _ _ hx]
 exact this _ l rfl
theorem zzf (c : Nat) : ∀ x ∈ List.replicate c 0, IsW x := by
 intro x hx
 rw [List.mem_replicate] at hx
 rw [hx.2]
 unfold IsW W64
 omega
theorem set_words {l : List Nat} (h : ∀ x ∈ l, IsW x) {v : Nat} (hv : IsW v) (i : Nat) : ∀ x ∈ l.set i v, IsW x := by
 intro x hx
 rcases List.mem_or_eq_of_mem_set hx with h2 | h2
 ·exact h x h2
 ·rw [h2]; exact hv
theorem mulAdd_tail (w wm : World) (B g gx n cap cx y r : Nat) (full xs : List Nat) (hz : Ws wm g 147 full) (hx : Ws wm gx 147 xs) (hn : n + 1 ≤ full.length) (hcap : full.length = cap) (hxn : n ≤ xs.length) (hsame : gx = g → xs = full) (hxs : ∀ x ∈ xs, IsW x) (hfs : ∀ x ∈ full, IsW x)
  (hy : IsW y) (hy0 : y ≠ 0) (hr : IsW r) (hn0 : n ≠ 0) (hbig : cap ≤ 1000000000) (hBg : B ≤ g) (hB : Below B w wm) (hBs : B ≤ wm.heap.size)
  (hm : ∀ len, Calls Tryz.prog 172 #[.slice (some ⟨gx, 0, none⟩) len cx, .int .i64 ((n + 1 : Nat) : Int)] w fun e w' => e = .returned (.slice (some ⟨g, 0, none⟩) (n + 1) cap) ∧ w' = wm) :
  Calls Tryz.prog 177 #[.slice (some ⟨gx, 0, none⟩) n cx, .slice (some ⟨gx, 0, none⟩) n cx, .int .u64 (y : Int), .int .u64 (r : Int)] w fun e w' => ∃ v' l', e = .returned v' ∧ NatS w' B v' l' ∧ num l' = num (xs.take n) * y + r ∧ l' = trimW l' ∧ l'.length ≤ n + 1 ∧ Below B w w' := by
 have b1 : ((n : Int) == 0) = false := by rw [beq_eq_false_iff_ne]; omega
 have b2 : ¬ ((n : Int) = 0) := by omega
 have b3 : ((y : Int) == 0) = false := by rw [beq_eq_false_iff_ne]; omega
 have b4 : ¬ ((y : Int) = 0) := by omega
 have e1 : ((n + 1 : Nat) : Int) = (n : Int) + 1 := by omega
 have e2 : wrap64 ((n : Int) + 1) = (n : Int) + 1 := by unfold wrap64; omega
 have b7 : n ≤ cap := by omega
 have b8 : ((n : Int) ≤ (cap : Int)) := by omega
 have HM := za.mk hm
 have HV := za.mk (mulAddVWW_ wm g gx n cap cx y r 147 full xs hz hx (by omega) hxn hsame hxs hy hr (by omega))
 have F := za.mk (And.intro hz (And.intro hn (And.intro hcap (And.intro hxs (And.intro hfs (And.intro hy (And.intro hr (And.intro hbig (And.intro hBg (And.intro hB (And.intro hBs hxn)))))))))))
 clear hz hx hn hxn hsame hxs hfs hy hr hy0 hn0 hbig hBg hB hBs hm hcap
 go_enter Tryz.func177, Tryz.ntmps177
 obtain ⟨m, hmv⟩ : ∃ m, m = mva (xs.take n) y r := ⟨_, rfl⟩
 rw [← hmv] at HV
 have HMV := za.mk hmv
 clear hmv
 have hcell : ∀ w2, Ws w2 g 147 (m.1 ++ full.drop n) → (∃ d : Nat, w2.cell? ⟨g, n, none⟩ = some (.int .u64 d)) ∧ w2.frozen? ⟨g, n, none⟩ = false ∧ Ws (w2.setCell ⟨g, n, none⟩ (.int .u64 (m.2 : Int))) g 147 ((m.1 ++ full.drop n).set n m.2) := by
  intro w2 h
  have hl : n < (m.1 ++ full.drop n).length := by
   rw [HMV.out, List.length_append, zcg, List.length_take, List.length_drop]
   have := F.out.2.1
   have := F.out.2.2.2.2.2.2.2.2.2.2.2
   omega
  exact ⟨⟨_, h.cell n hl⟩, h.free n, h.set n m.2⟩
 have HCELL := za.mk hcell
 clear hcell
 have b6 : ((n : Int) < (n : Int) + 1) := by omega
 have hnorm : ∀ w3, Ws w3 g 147 ((m.1 ++ full.drop n).set n m.2) → Calls Tryz.prog 174 #[.slice (some ⟨g, 0, none⟩) (n + 1) cap] w3 fun e w' => ∃ k, k ≤ n + 1 ∧ trimW (((m.1 ++ full.drop n).set n m.2).take (n + 1)) = ((m.1 ++ full.drop n).set n m.2).take k ∧ e = .returned (.slice (some ⟨g, 0, none⟩) k cap) ∧ w' = w3 := by
  intro w3 h
  have h2 := F.out.2.1
  have h3 := F.out.2.2.2.2.2.2.2.2.2.2.2
  have h4 := F.out.2.2.1
  have h5 := F.out.2.2.2.2.2.2.2.1
  exact norm_ w3 g (n + 1) cap _ h (by rw [List.length_set, HMV.out, List.length_append, zcg, List.length_take, List.length_drop]; omega) (by omega) (by omega)
 have HNORM := za.mk hnorm
 clear hnorm
 go_wp2_with (first
  | (go_at_call 172; rw [← e1]; refine (HM.out _).mono ?_; rintro e' w' ⟨rfl, rfl⟩)
  | (go_at_call 184; refine HV.out.mono ?_; rintro e' w2 ⟨rfl, h1, h2⟩; obtain ⟨⟨d, hd⟩, hf, hs⟩ := HCELL.out w2 h1; have HS := za.mk hs; have HG2 := za.mk h2; clear h1 h2 hs)
  | (go_at_call 174; refine (HNORM.out _ HS.out).mono ?_; rintro e' w3 ⟨k, hk, ht, rfl, rfl⟩; have HT := za.mk (And.intro hk ht); clear hk ht))
 go_ret
 obtain ⟨f1, f2, f3, f4, f5, f6, f7, f8, f9, f10, f11, f12⟩ := F.out
 obtain ⟨hk, ht⟩ := HT.out
 have hml : m.1.length = n := by rw [HMV.out, zcg, List.length_take]; omega
 have hfull2 : ((m.1 ++ full.drop n).set n m.2) = m.1 ++ [m.2] ++ (full.drop n).drop 1 := set_at _ _ _ _ hml (by rw [List.length_append, hml, List.length_drop]; omega)
 have hlen2 : ((m.1 ++ full.drop n).set n m.2).length = full.length := by rw [List.length_set, List.length_append, hml, List.length_drop]; omega
 have htk : ((m.1 ++ full.drop n).set n m.2).take (n + 1) = m.1 ++ [m.2] := by
  rw [hfull2, List.take_append_of_le_length (by rw [List.length_append, hml]; simp), List.take_of_length_le (by rw [List.length_append, hml]; simp)]
 have hkl : (((m.1 ++ full.drop n).set n m.2).take k).length = k := by rw [List.length_take]; omega
 rw [htk] at ht
 have hwords := mva_words (xs.take n) y r (fun x hx => f4 x (List.mem_of_mem_take hx)) f6 f7
 rw [← HMV.out] at hwords
 refine ⟨_, ((m.1 ++ full.drop n).set n m.2).take k, rfl, .inr ⟨g, _, ?_, f9, HS.out, ?_, ?_, ?_, ?_⟩, ?_, ?_, ?_, ?_⟩
 ·rw [hkl, hlen2, f3]
  rfl
 ·rw [hkl]
 ·rw [hkl, hlen2]; omega
 ·rw [hlen2, f3]; exact f8
 ·intro x hx
  rw [hfull2] at hx
  rcases List.mem_append.1 hx with hx | hx
  ·rcases List.mem_append.1 hx with hx | hx
   ·exact hwords.1 x hx
   ·rw [List.mem_singleton.1 hx]; exact hwords.2
  ·exact f5 x (List.mem_of_mem_drop (List.mem_of_mem_drop hx))
 ·rw [← ht, num_trimW, HMV.out, mva_num]
 ·rw [← ht]
  exact (trimW_idem _).symm
 ·rw [hkl]; exact hk
 ·exact zjf (below_grown_ f10 HG2.out f11 f9) f9
theorem make_many (w : World) (p : Option Addr) (len cap n : Nat) (hn : cap < n) (hn1 : n ≠ 1) (hb : n ≤ 100000000) :
  Calls Tryz.prog 172 #[.slice p len cap, .int .i64 (n : Int)] w fun e w' => e = .returned (.slice (some ⟨w.heap.size, 0, none⟩) n (n + 4)) ∧ w' = w.alloc (.cells (List.replicate (n + 4) (NumC 0)).toArray 147) := by
 have b1 : decide ((n : Int) ≤ (cap : Int)) = false := decide_eq_false (by omega)
 have hm := make_run n (n + 4) (by omega) (by omega)
 have e1 : ((n + 4 : Nat) : Int) = (n : Int) + 4 := by omega
 rw [e1] at hm
 have b2 : ((n : Int) == 1) = false := by rw [beq_eq_false_iff_ne]; omega
 have b3 : ¬ ((n : Int) = 1) := by omega
 go_enter Tryz.func172, Tryz.ntmps172
 go_wp2
 go_ret
 exact ⟨rfl, rfl⟩
theorem mulAdd_zero (w : World) (p : Option Addr) (cap y r : Nat) (Q : Value → World → Prop)
  (h : Calls Tryz.prog 183 #[.slice p 0 cap, .int .u64 (r : Int)] w fun e w' => ∃ v, e = .returned v ∧ Q v w') :
  Calls Tryz.prog 177 #[.slice p 0 cap, .slice p 0 cap, .int .u64 (y : Int), .int .u64 (r : Int)] w fun e w' => ∃ v, e = .returned v ∧ Q v w' := by
 have H := za.mk h
 clear h
 have e0 : ((0 : Nat) : Int) = 0 := rfl
 go_enter Tryz.func177, Tryz.ntmps177
 go_wp2_with (first | (go_at_call 183; refine H.out.mono ?_; rintro e' w' ⟨v, rfl, hq⟩; have HQ := za.mk hq; clear hq))
 go_ret
 exact ⟨v, rfl, HQ.out⟩
theorem zsd (w : World) (B : Nat) (v : Value) (l : List Nat) (y r : Nat) (h : NatS w B v l) (hBs : B ≤ w.heap.size) (hy : IsW y) (hy0 : y ≠ 0) (hr : IsW r) (hl : l.length ≤ 1000000) :
  Calls Tryz.prog 177 #[v, v, .int .u64 (y : Int), .int .u64 (r : Int)] w fun e w' => ∃ v' l', e = .returned v' ∧ NatS w' B v' l' ∧ num l' = num l * y + r ∧ l' = trimW l' ∧ l'.length ≤ l.length + 1 ∧ Below B w w' := by
 have fresh_words : ∀ c, ∀ x ∈ (List.replicate c 0).set 0 r, IsW x := fun c => set_words (zzf c) hr 0
 have one : r ≠ 0 → trimW [r] = [r] := fun h => zcf [] r h
 by_cases hl0 : l = []
 ·subst hl0
  have hnum : num ([] : List Nat) * y + r = r := by simp [num]
  have fin : ∀ (p : Option Addr) (cap : Nat), v = .slice p 0 cap → (p = none → cap = 0) → (∀ a, p = some a → ∃ g full, a = ⟨g, 0, none⟩ ∧ B ≤ g ∧ Ws w g 147 full ∧ full.length = cap ∧ cap ≤ 1000000000 ∧ ∀ x ∈ full, IsW x) →
    Calls Tryz.prog 183 #[v, .int .u64 (r : Int)] w fun e w' => ∃ v', e = .returned v' ∧ ∃ l', NatS w' B v' l' ∧ num l' = r ∧ l' = trimW l' ∧ l'.length ≤ 1 ∧ Below B w w' := by
   intro p cap hv hnone hsome
   subst hv
   by_cases hr0 : r = 0
   ·subst hr0
    refine (setWord_zero w p 0 cap).mono ?_
    rintro e w' ⟨rfl, rfl⟩
    refine ⟨_, rfl, [], ?_, rfl, rfl, by simp, Below.refl _ _⟩
    cases p with
    | none => rw [hnone rfl]; exact .inl ⟨rfl, rfl⟩
    | some a =>
     obtain ⟨g, full, rfl, h1, h2, h3, h4, h5⟩ := hsome a rfl
     subst h3
     exact .inr ⟨g, full, rfl, h1, h2, rfl, by simp, h4, h5⟩
   ·by_cases hc : 1 ≤ cap
    ·cases p with
     | none => rw [hnone rfl] at hc; omega
     | some a =>
      obtain ⟨g, full, rfl, h1, h2, h3, h4, h5⟩ := hsome a rfl
      refine (setWord_reuse w g 0 cap r full h2 hc h3 hr0).mono ?_
      rintro e w' ⟨rfl, hw, rfl⟩
      refine ⟨_, rfl, [r], .inr ⟨g, full.set 0 r, ?_, h1, hw, ?_, by simp; omega, by simpa [h3] using h4, set_words h5 hr 0⟩, by simp [num], (one hr0).symm, by simp, zjf (Below.refl _ _) h1⟩
      ·rw [List.length_set, h3]; rfl
      ·cases full with
       | nil => simp at h3; omega
       | cons x t => rfl
    ·have hc0 : cap = 0 := by omega
     subst hc0
     refine (setWord_fresh w p 0 r hr0).mono ?_
     rintro e w' ⟨c, hc1, hc2, rfl, hw, hb⟩
     refine ⟨_, rfl, [r], .inr ⟨w.heap.size, (List.replicate c 0).set 0 r, ?_, hBs, hw, ?_, by simp; omega, by simp; omega, fresh_words c⟩, by simp [num], (one hr0).symm, by simp, hb B hBs⟩
     ·simp
     ·cases c with
      | zero => omega
      | succ c => rfl
  rw [hnum]
  have shape : ∃ (p : Option Addr) (cap : Nat), v = .slice p 0 cap ∧ (p = none → cap = 0) ∧ (∀ a, p = some a → ∃ g full, a = ⟨g, 0, none⟩ ∧ B ≤ g ∧ Ws w g 147 full ∧ full.length = cap ∧ cap ≤ 1000000000 ∧ ∀ x ∈ full, IsW x) := by
   rcases h with ⟨rfl, _⟩ | ⟨g, full, rfl, h1, h2, h3, h4, h5, h6⟩
   ·exact ⟨none, 0, rfl, (fun _ => rfl), (fun a ha => by cases ha)⟩
   ·exact ⟨some ⟨g, 0, none⟩, full.length, rfl, (fun h => by cases h), (fun a ha => by cases ha; exact ⟨g, full, rfl, h1, h2, rfl, h5, h6⟩)⟩
  obtain ⟨p, cap, rfl, hp1, hp2⟩ := shape
  refine (mulAdd_zero w p cap y r _ (fin p cap rfl hp1 hp2)).mono ?_
  rintro e w' ⟨v', rfl, l', q⟩
  exact ⟨v', l', rfl, by simpa using q⟩
 ·have hn0 : l.length ≠ 0 := fun e => hl0 (List.length_eq_zero_iff.1 e)
  rcases h with ⟨_, h0⟩ | ⟨g, full, rfl, h1, h2, h3, h4, h5, h6⟩
  ·exact absurd h0 hl0
  ·by_cases hc : l.length + 1 ≤ full.length
   ·have t := mulAdd_tail w w B g g l.length full.length full.length y r full full h2 h2 hc rfl h4 (fun _ => rfl) h6 h6 hy hy0 hr hn0 h5 h1 (Below.refl _ _) hBs (fun len => make_reuse w g len full.length (l.length + 1) hc)
    rw [h3] at t
    exact t
   ·have hws : Ws (w.alloc (.cells (List.replicate (l.length + 1 + 4) (NumC 0)).toArray 147)) w.heap.size 147 (List.replicate (l.length + 1 + 4) 0) := by
     have := Ws.alloc (w := w) (e := 147) (List.replicate (l.length + 1 + 4) 0)
     rwa [List.map_replicate] at this
    have hold : Ws (w.alloc (.cells (List.replicate (l.length + 1 + 4) (NumC 0)).toArray 147)) g 147 full := h2.same (by
     have e : (w.alloc (.cells (List.replicate (l.length + 1 + 4) (NumC 0)).toArray 147)).heap = w.heap.push (.cells (List.replicate (l.length + 1 + 4) (NumC 0)).toArray 147) := rfl
     have := h2.lt
     rw [e, Array.getElem?_push, if_neg (by omega)])
    have hsz : B ≤ (w.alloc (.cells (List.replicate (l.length + 1 + 4) (NumC 0)).toArray 147)).heap.size := by
     have e : (w.alloc (.cells (List.replicate (l.length + 1 + 4) (NumC 0)).toArray 147)).heap = w.heap.push (.cells (List.replicate (l.length + 1 + 4) (NumC 0)).toArray 147) := rfl
     rw [e, Array.size_push]
     omega
    have t := mulAdd_tail w _ B w.heap.size g l.length (l.length + 1 + 4) full.length y r _ full hws hold (by simp) (by simp) h4 (fun e => by have := h2.lt; omega) h6 (zzf _) hy hy0 hr hn0 (by omega) hBs (zvd _ hBs) hsz (fun len => make_many w _ len full.length (l.length + 1) (by omega) (by omega) (by omega))
    rw [h3] at t
    exact t
end Go.Proofs.YtlijjnjpomnphaaGreatDoorG
end
section
namespace Go.Proofs.YtlijjnjpomnphaaGreatDoorG
open Go.RowKit YtlijjnjpomnphaaGreatDoorW.PrintWords YtlijjnjpomnphaaGreatDoorW.PrintLast
def Rd (w : World) (b : Nat) (s : ByteArray) (i : Nat) (p : Int) : Prop := w.heap[b]? = some (.cells #[.string s, .int .i64 (i : Int), .int .i64 p] 189 (0, 0))
theorem Rd.c0 {w : World} {b : Nat} {s : ByteArray} {i : Nat} {p : Int} (h : Rd w b s i p) : w.cell? ⟨b, 0, none⟩ = some (.string s) := by unfold Rd at h; simp [World.cell?, h]
theorem Rd.c1 {w : World} {b : Nat} {s : ByteArray} {i : Nat} {p : Int} (h : Rd w b s i p) : w.cell? ⟨b, 1, none⟩ = some (.int .i64 (i : Int)) := by unfold Rd at h; simp [World.cell?, h]
theorem Rd.c2 {w : World} {b : Nat} {s : ByteArray} {i : Nat} {p : Int} (h : Rd w b s i p) : w.cell? ⟨b, 2, none⟩ = some (.int .i64 p) := by unfold Rd at h; simp [World.cell?, h]
theorem Rd.free {w : World} {b : Nat} {s : ByteArray} {i : Nat} {p : Int} (h : Rd w b s i p) (j : Nat) : w.frozen? ⟨b, j, none⟩ = false := by unfold Rd at h; simp [World.frozen?, h]
theorem Rd.set2 {w : World} {b : Nat} {s : ByteArray} {i : Nat} {p : Int} (h : Rd w b s i p) (q : Int) : Rd (w.setCell ⟨b, 2, none⟩ (.int .i64 q)) b s i q := by
 unfold Rd at h ⊢
 simp [World.setCell, Array.getElem?_modify, h]
theorem Rd.set1 {w : World} {b : Nat} {s : ByteArray} {i : Nat} {p : Int} (h : Rd w b s i p) (j : Nat) : Rd (w.setCell ⟨b, 1, none⟩ (.int .i64 (j : Int))) b s j p := by
 unfold Rd at h ⊢
 simp [World.setCell, Array.getElem?_modify, h]
theorem Rd.same {w w' : World} {b : Nat} {s : ByteArray} {i : Nat} {p : Int} (h : Rd w b s i p) (hb : w'.heap[b]? = w.heap[b]?) : Rd w' b s i p := by unfold Rd at h ⊢; rw [hb]; exact h
theorem Rd.lt {w : World} {b : Nat} {s : ByteArray} {i : Nat} {p : Int} (h : Rd w b s i p) : b < w.heap.size := (Array.getElem?_eq_some_iff.1 h).1
theorem cell_set_other {w : World} {g i : Nat} {v : Value} {a : Addr} (h : a.block ≠ g) : (w.setCell ⟨g, i, none⟩ v).cell? a = w.cell? a := by
 refine World.cell?_of_block ?_
 have : g ≠ a.block := fun e => h e.symm
 simp [World.setCell, Array.getElem?_modify, this]
theorem zpf {w wr : World} {r : Option Nat} (n : Nat) (h : w.grownBy wr r) : w.grownBy (wr.drewN n) r := h.trans ⟨rfl, rfl, rfl, Nat.le_refl _, fun _ _ _ => rfl⟩
theorem readByte_ (w : World) (b i : Nat) (s : ByteArray) (p : Int) (h : Rd w b s i p) (hi : i < s.size) (hs : s.size ≤ 140737488355328) :
  Calls Tryz.prog 217 #[.pointer (some ⟨b, 0, none⟩)] w fun e w' => e = .returned (.tuple #[.int .u8 (bt s i), .nilIface]) ∧ Rd w' b s (i + 1) (-1) ∧ w.grownBy w' (some b) := by
 have h2 := h.set2 (-1)
 have a2 := h.c2
 have f2 := h.free 2
 have b0 := h2.c0
 have b1 := h2.c1
 have g1 := h2.free 1
 have HE := za.mk (h2.set1 (i + 1))
 have e1 : ((i + 1 : Nat) : Int) = (i : Int) + 1 := by omega
 rw [e1] at HE
 have hb : ((s[i]'hi).toNat : Int) = bt s i := bt_at s i hi
 have HBT := za.mk hb
 clear hb
 have t1 : decide ((i : Int) ≥ (s.size : Int)) = false := decide_eq_false (by omega)
 have t2 : ((s.size : Int) ≤ (i : Int)) = False := eq_false (by omega)
 have t3 : (0 ≤ (i : Int)) = True := eq_true (by omega)
 have t4 : ((i : Int) < (s.size : Int)) = True := eq_true (by omega)
 clear h h2
 go_enter Tryz.func217, Tryz.ntmps217
 go_wp2
 go_quiet (fail)
 go_wp2
 go_quiet (fail)
 go_wp2
 go_ret2
 refine ⟨?_, HE.out, zne _ _ _ _ _ (zpf _ (zne w w b 2 _ (World.grownBy.refl w _)))⟩
 rw [← HBT.out]
 rfl
theorem zqh (w : World) (b : Nat) (s : ByteArray) (p : Int) (E : Value) (h : Rd w b s s.size p) (hE : w.cell? ⟨2, 0, none⟩ = some E) (hEb : b ≠ 2) (hs : s.size ≤ 140737488355328) :
  Calls Tryz.prog 217 #[.pointer (some ⟨b, 0, none⟩)] w fun e w' => e = .returned (.tuple #[.int .u8 0, E]) ∧ Rd w' b s s.size (-1) ∧ w.grownBy w' (some b) := by
 have h2 := h.set2 (-1)
 have a2 := h.c2
 have f2 := h.free 2
 have b0 := h2.c0
 have b1 := h2.c1
 have g1 := h2.free 1
 have c1 : (w.setCell ⟨b, 2, none⟩ (.int .i64 (-1))).cell? ⟨2, 0, none⟩ = some E := by rw [cell_set_other (fun e => hEb e.symm)]; exact hE
 have HE := za.mk h2
 have t1 : decide ((s.size : Int) ≥ (s.size : Int)) = true := decide_eq_true (by omega)
 have t2 : ((s.size : Int) ≤ (s.size : Int)) = True := eq_true (by omega)
 clear h h2 hE hEb
 go_enter Tryz.func217, Tryz.ntmps217
 go_wp2
 go_quiet (fail)
 go_wp2
 go_quiet (fail)
 go_wp2
 go_ret2
 exact ⟨rfl, HE.out, by first | exact zpf _ (zne w w b 2 _ (World.grownBy.refl w _)) | exact zpf _ (zpf _ (zne w w b 2 _ (World.grownBy.refl w _)))⟩
theorem unreadByte_ (w : World) (b i : Nat) (s : ByteArray) (p : Int) (h : Rd w b s (i + 1) p) (hs : i < 140737488355328) :
  Calls Tryz.prog 218 #[.pointer (some ⟨b, 0, none⟩)] w fun e w' => e = .returned .nilIface ∧ Rd w' b s i (-1) ∧ w.grownBy w' (some b) := by
 have h2 := h.set2 (-1)
 have a1 := h.c1
 have a2 := h.c2
 have f2 := h.free 2
 have b1 := h2.c1
 have g1 := h2.free 1
 have HE := za.mk (h2.set1 i)
 have e1 : ((i + 1 : Nat) : Int) = (i : Int) + 1 := by omega
 rw [e1] at a1 b1
 have t1 : decide ((i : Int) + 1 ≤ 0) = false := decide_eq_false (by omega)
 have t2 : ((i : Int) + 1 ≤ 0) = False := eq_false (by omega)
 have t3 : (i : Int) + 1 - 1 = (i : Int) := by omega
 have t4 : wrap64 (i : Int) = (i : Int) := by unfold wrap64; omega
 clear h h2
 go_enter Tryz.func218, Tryz.ntmps218
 go_wp2
 go_ret
 exact ⟨rfl, HE.out, zne _ _ _ _ _ (zne w w b 2 _ (World.grownBy.refl w _))⟩
theorem newReader_ (w : World) (s : ByteArray) :
  Calls Tryz.prog 137 #[.string s] w fun e w' => e = .returned (.pointer (some ⟨w.heap.size, 0, none⟩)) ∧ w' = w.alloc (.cells #[.string s, .int .i64 0, .int .i64 (-1)] 189) := by
 go_enter Tryz.func137, Tryz.ntmps137
 go_wp2
 go_ret
 exact ⟨rfl, rfl⟩
end Go.Proofs.YtlijjnjpomnphaaGreatDoorG
end
section
namespace Go.Proofs.YtlijjnjpomnphaaGreatDoorG
open Go.RowKit YtlijjnjpomnphaaGreatDoorW.PrintWords YtlijjnjpomnphaaGreatDoorW.PrintLast
theorem zte (p : Option Addr) (W : World) : (method 359 169 (.pointer p) "ReadByte").run Tryz.prog W = .ok (217, .pointer p) W := by kernel_rfl
theorem zfg (p : Option Addr) (W : World) : (method 359 169 (.pointer p) "UnreadByte").run Tryz.prog W = .ok (218, .pointer p) W := by kernel_rfl
theorem zre (xs : Array Value) (W : World) : (callFunc 217 xs).run Tryz.prog W = .ok (.enter 217 xs) W := enters_ Tryz.func217 (by kernel_rfl) rfl xs W
theorem zgg (xs : Array Value) (W : World) : (callFunc 218 xs).run Tryz.prog W = .ok (.enter 218 xs) W := enters_ Tryz.func218 (by kernel_rfl) rfl xs W
theorem scanSign_ (w : World) (b : Nat) (s : ByteArray) (p : Int) (h : Rd w b s 0 p) (hi : 0 < s.size) (hs : s.size ≤ 140737488355328) (h1 : bt s 0 ≠ 45) (h2 : bt s 0 ≠ 43) :
  Calls Tryz.prog 168 #[.iface 169 (.pointer (some ⟨b, 0, none⟩))] w fun e w' => e = .returned (.tuple #[.bool false, .nilIface]) ∧ Rd w' b s 0 (-1) ∧ w.grownBy w' (some b) := by
 have HR := za.mk (readByte_ w b 0 s p h hi hs)
 have HU := za.mk (fun w1 p1 (h : Rd w1 b s 1 p1) => unreadByte_ w1 b 0 s p1 h (by omega))
 have e0 : ((0 : Nat) : Int) = 0 := rfl
 rw [e0] at HR
 obtain ⟨c, hc⟩ : ∃ c, c = bt s 0 := ⟨_, rfl⟩
 rw [← hc] at h1 h2 HR
 have b1 : (c == 45) = false := by rw [beq_eq_false_iff_ne]; exact h1
 have b2 : (c == 43) = false := by rw [beq_eq_false_iff_ne]; exact h2
 have i1 := zte (some ⟨b, 0, none⟩)
 have i2 := zfg (some ⟨b, 0, none⟩)
 have i3 := zre
 have i4 := zgg
 clear h hc
 go_enter Tryz.func168, Tryz.ntmps168
 go_wp2_with (first
  | (go_at_call 217; refine HR.out.mono ?_; rintro e' w1 ⟨rfl, r1, g1⟩; have R1 := za.mk r1; have G1 := za.mk g1; clear r1 g1)
  | (go_at_call 218; refine (HU.out _ _ R1.out).mono ?_; rintro e' w2 ⟨rfl, r2, g2⟩; have R2 := za.mk r2; have G2 := za.mk g2; clear r2 g2))
 go_ret2
 exact ⟨rfl, R2.out, G1.out.trans G2.out⟩
end Go.Proofs.YtlijjnjpomnphaaGreatDoorG
end
section
namespace Go.Proofs.YtlijjnjpomnphaaGreatDoorG
open Go.RowKit YtlijjnjpomnphaaGreatDoorW.PrintWords YtlijjnjpomnphaaGreatDoorW.PrintLast
theorem zkb {fn : Func} {t u v x : Tmp} (h : fn.results = #[.tmp t, .tmp u, .tmp v, .tmp x]) (tmps : Array Value) (P : Program) (w : World) :
  (results fn tmps).run P w = .ok (.tuple #[tmps.getD t undef, tmps.getD u undef, tmps.getD v undef, tmps.getD x undef]) w := by
 simp [results, h]
theorem errInfo : (Tryz.prog.info? 243).map (fun i => i.comparable) = some true := by kernel_rfl
theorem errPointee : (Tryz.prog.info? 258).isSome = true := by kernel_rfl
def ErrV (a : Addr) : Value := .iface 243 (.pointer (some a))
theorem eq_err (a : Addr) (W : World) : (binOp .eql 74 (.iface 243 (.pointer (some a))) (.iface 243 (.pointer (some a)))).run Tryz.prog W = .ok (.bool true) W := by
 obtain ⟨i, hi, hc⟩ := Option.map_eq_some_iff.1 errInfo
 obtain ⟨j, hj⟩ := Option.isSome_iff_exists.1 errPointee
 exact run_eql_iface_ptr_same W a Tryz.underlying74 Tryz.underlying243 hi hc hj
theorem eq_nil_err (a : Addr) (W : World) : (binOp .eql 74 .nilIface (.iface 243 (.pointer (some a)))).run Tryz.prog W = .ok (.bool false) W :=
 run_eql_iface_nil_left W 243 _ Tryz.underlying74
structure Bel (B b : Nat) (w w' : World) : Prop where
 os : w'.os = w.os
 tape : w'.tape = w.tape
 output : w'.output = w.output
 size : w.heap.size ≤ w'.heap.size
 block : ∀ k, k < B → k ≠ b → w'.heap[k]? = w.heap[k]?
theorem Bel.refl (B b : Nat) (w : World) : Bel B b w w := ⟨rfl, rfl, rfl, Nat.le_refl _, fun _ _ _ => rfl⟩
theorem Bel.below {B b : Nat} {w w1 w2 : World} (h : Bel B b w w1) (k : Below B w1 w2) : Bel B b w w2 :=
 ⟨k.os.trans h.os, k.tape.trans h.tape, k.output.trans h.output, Nat.le_trans h.size k.size, fun j h1 h2 => (k.block j h1).trans (h.block j h1 h2)⟩
theorem Bel.grown {B b : Nat} {w w1 w2 : World} (h : Bel B b w w1) (k : w1.grownBy w2 (some b)) (hb : b < w1.heap.size) (hB : B ≤ w1.heap.size) : Bel B b w w2 :=
 ⟨k.os.trans h.os, k.tape.trans h.tape, k.output.trans h.output, Nat.le_trans h.size k.size, fun j h1 h2 => (k.block j (by omega) (fun e => h2 (Option.some.inj e))).trans (h.block j h1 h2)⟩
theorem Bel.cell {B b : Nat} {w w1 : World} (h : Bel B b w w1) {p : Addr} (hp : p.block < B) (hb : p.block ≠ b) : w1.cell? p = w.cell? p := World.cell?_of_block (h.block _ hp hb)
def Dig (c : Int) : Prop := 48 ≤ c ∧ c ≤ 57
instance (c : Int) : Decidable (Dig c) := inferInstanceAs (Decidable (_ ∧ _))
def dv (s : ByteArray) : Nat → Nat
 | 0 => 0
 | k + 1 => dv s k * 10 + (bt s k - 48).toNat
theorem NatS.grown {w w' : World} {B b : Nat} {v : Value} {l : List Nat} (h : NatS w B v l) (k : w.grownBy w' (some b)) (hb : b < B) : NatS w' B v l := by
 rcases h with h | ⟨g, full, h1, h2, h3, h4⟩
 ·exact .inl h
 ·exact .inr ⟨g, full, h1, h2, h3.same (k.block g h3.lt (fun e => by have := Option.some.inj e; omega)), h4⟩
structure Sc (B b : Nat) (w wr : World) (s : ByteArray) (v : Value) (k d i : Nat) : Prop where
 nat : ∃ l, NatS wr B v l ∧ num l * 10 ^ i + d = dv s k ∧ l = trimW l ∧ l.length ≤ k
 i19 : i < 19
 dlt : d < 10 ^ i
 ile : i ≤ k
 dig : ∀ j : Nat, j < k → Dig (bt s j)
 bel : Bel B b w wr
theorem pow19 {i : Nat} (h : i < 19) : 10 ^ i ≤ 1000000000000000000 := by
 have : 10 ^ i ≤ 10 ^ 18 := Nat.pow_le_pow_right (by omega) (by omega)
 simpa using this
theorem Sc.word {B b : Nat} {w wr : World} {s : ByteArray} {v : Value} {k d i : Nat} (h : Sc B b w wr s v k d i) : d < 1000000000000000000 := Nat.lt_of_lt_of_le h.dlt (pow19 h.i19)
theorem Sc.grown {B b : Nat} {w w1 w2 : World} {s : ByteArray} {v : Value} {k d i : Nat} (h : Sc B b w w1 s v k d i) (g : w1.grownBy w2 (some b)) (hb : b < B) (hB : B ≤ w.heap.size) : Sc B b w w2 s v k d i := by
 obtain ⟨l, h1, h2⟩ := h.nat
 exact ⟨⟨l, h1.grown g hb, h2⟩, h.i19, h.dlt, h.ile, h.dig, h.bel.grown g (by have := h.bel.size; omega) (by have := h.bel.size; omega)⟩
theorem Sc.digit {B b : Nat} {w wr : World} {s : ByteArray} {v : Value} {k d i : Nat} (h : Sc B b w wr s v k d i) (hd : Dig (bt s k)) (hi : i + 1 < 19) : Sc B b w wr s v (k + 1) (d * 10 + (bt s k - 48).toNat) (i + 1) := by
 obtain ⟨l, h1, h2, h3, h4⟩ := h.nat
 have hx : (bt s k - 48).toNat ≤ 9 := by have := hd.2; have := hd.1; omega
 have hdl := h.dlt
 refine ⟨⟨l, h1, ?_, h3, by omega⟩, hi, ?_, by have := h.ile; omega, fun j hj => ?_, h.bel⟩
 ·simp only [dv]
  rw [← h2, Nat.pow_succ, Nat.add_mul, Nat.mul_assoc]
  omega
 ·rw [Nat.pow_succ]; omega
 ·by_cases e : j = k
  ·rw [e]; exact hd
  ·exact h.dig j (by omega)
theorem ten19 : (10 : Nat) ^ 18 * 10 = 10000000000000000000 := by rfl
theorem full_word (a d x : Nat) : (a * 10000000000000000000 + (d * 10 + x)) * 10 ^ 0 + 0 = (a * 10 ^ 18 + d) * 10 + x := by
 rw [Nat.pow_zero, Nat.mul_one, Nat.add_zero, Nat.add_mul, Nat.mul_assoc, ten19, Nat.add_assoc]
end Go.Proofs.YtlijjnjpomnphaaGreatDoorG
end
