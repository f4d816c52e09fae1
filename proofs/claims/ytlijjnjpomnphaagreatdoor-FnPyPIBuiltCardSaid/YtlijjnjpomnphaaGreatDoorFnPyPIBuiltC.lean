/- Proved here, for the row of the law FnPyPIBuilt: contracts of the Go functions that it reaches, each as its theorem 'calls' says, and the words and plain laws that they need (Sx6, Sx7, YE, YF, YG, YH, YI, YJ, K1, K2, K3, K4, K5). -/
import Derived.Test.YtlijjnjpomnphaaGreatDoorFnPyPIBuiltB
import Derived.WalkKit
import Derived.Deep.LoopGhost
import Derived.BigQuiet
import Derived.Test.YtlijjnjpomnphaaGreatDoorProg
import Derived.Laws.Externs
import Derived.Shelf.Bits.Mul64
set_option linter.unusedVariables false
set_option linter.unusedSimpArgs false
set_option maxHeartbeats 8000000
set_option maxRecDepth 100000
section
namespace Go.Proofs.YtlijjnjpomnphaaGreatDoor.S
open Go.RowKit YtlijjnjpomnphaaGreatDoorH YtlijjnjpomnphaaGreatDoorW.PrintWords YtlijjnjpomnphaaGreatDoorW.PrintLast YtlijjnjpomnphaaGreatDoorW.PrintMore
attribute [local go_sem] zgd zhd zbe zce zxc zyc zfd zid
mutual
def zd.l0 : Nat → List ByteArray → List ByteArray → Int → Int → Option (List ByteArray)
 | 0, _, _, _, _ => none
 | k + 1, x2, x11, x12, x13 => if x13 < x12 then (if 0 ≤ x13 then (if x13 < (x11.length : Int) then (if (rdOf ByteArray.empty x11 x13).toList = ([] : List UInt8) then (zd.j1 k x2 (rdOf ByteArray.empty x11 x13) x11 x12 x13 true) else (zd.j1 k x2 (rdOf ByteArray.empty x11 x13) x11 x12 x13 ((rdOf ByteArray.empty x11 x13).toList == ([46] : List UInt8)))) else (none)) else (none)) else (some x2)
def zd.j1 : Nat → List ByteArray → ByteArray → List ByteArray → Int → Int → Bool → Option (List ByteArray)
 | 0, _, _, _, _, _, _ => none
 | k + 1, x2, x5, x11, x12, x13, x22 => if x22 = true then (zd.l0 k x2 x11 x12 (wrap64 (x13 + 1))) else ((zj.f k x5).bind fun t166 => ((zyb.f t166 (⟨#[42]⟩ : ByteArray)).bind fun t167 => (if t167 = true then ((zoc.f t166 (⟨#[42, 102, 105, 110, 97, 108]⟩ : ByteArray)).bind fun t168 => (if t168 < 0 then (zd.l1 k x2 t166 x11 x12 x13) else (zd.j3 k x2 t166 x11 x12 x13))) else (if x2.length < 8796093022208 then (zd.l0 k (x2 ++ [t166]) x11 x12 (wrap64 (x13 + 1))) else (none)))))
def zd.j3 : Nat → List ByteArray → ByteArray → List ByteArray → Int → Int → Option (List ByteArray)
 | 0, _, _, _, _, _ => none
 | k + 1, x2, x5, x11, x12, x13 => zd.l2 k x2 x5 x11 x12 x13
def zd.l2 : Nat → List ByteArray → ByteArray → List ByteArray → Int → Int → Option (List ByteArray)
 | 0, _, _, _, _, _ => none
 | k + 1, x2, x5, x11, x12, x13 => if (x2.length : Int) > 0 then (if 0 ≤ (wrap64 ((x2.length : Int) - 1)) then (if (wrap64 ((x2.length : Int) - 1)) < (x2.length : Int) then (if (rdOf ByteArray.empty x2 (wrap64 ((x2.length : Int) - 1))).toList = ([48, 48, 48, 48, 48, 48, 48, 48] : List UInt8) then (if (wrap64 ((x2.length : Int) - 1)) ≤ (x2.length : Int) then (zd.l2 k (x2.take ((wrap64 ((x2.length : Int) - 1)) : Int).toNat) x5 x11 x12 x13) else (none)) else (if x2.length < 8796093022208 then (zd.l0 k (x2 ++ [x5]) x11 x12 (wrap64 (x13 + 1))) else (none))) else (none)) else (none)) else (if x2.length < 8796093022208 then (zd.l0 k (x2 ++ [x5]) x11 x12 (wrap64 (x13 + 1))) else (none))
def zd.l1 : Nat → List ByteArray → ByteArray → List ByteArray → Int → Int → Option (List ByteArray)
 | 0, _, _, _, _, _ => none
 | k + 1, x2, x5, x11, x12, x13 => if (x2.length : Int) > 0 then (if 0 ≤ (wrap64 ((x2.length : Int) - 1)) then (if (wrap64 ((x2.length : Int) - 1)) < (x2.length : Int) then (if (rdOf ByteArray.empty x2 (wrap64 ((x2.length : Int) - 1))).toList = ([42, 102, 105, 110, 97, 108, 45] : List UInt8) then (if (wrap64 ((x2.length : Int) - 1)) ≤ (x2.length : Int) then (zd.l1 k (x2.take ((wrap64 ((x2.length : Int) - 1)) : Int).toNat) x5 x11 x12 x13) else (none)) else (zd.j3 k x2 x5 x11 x12 x13)) else (none)) else (none)) else (zd.j3 k x2 x5 x11 x12 x13)
end
def zd.f (k : Nat) (a0 : ByteArray) : Option (List ByteArray) := (zh.f k a0).bind fun t159 => (if t159.length < 8796093022208 then ((some (t159 ++ [(⟨#[102, 105, 110, 97, 108]⟩ : ByteArray)] : List ByteArray)).bind fun y162 => (zd.l0 k ([] : List ByteArray) y162 (y162.length : Int) 0)) else (none))
theorem zd.calls (k : Nat) (a0 : ByteArray) (r : List ByteArray) (w : World) (h : zd.f k a0 = some r) :
  Calls Tryz.prog 91 #[.string a0] w fun e w' => ∃ v0_ : Value, e = .returned (v0_) ∧ Kd.R Kd.string 9 w' w.heap.size (fun _ => True) v0_ r ∧ Below w.heap.size w w' := by
 have HB := za.mk (Below.refl w.heap.size w)
 have H : ((zh.f k a0).bind fun t159 => (if t159.length < 8796093022208 then ((some (t159 ++ [(⟨#[102, 105, 110, 97, 108]⟩ : ByteArray)] : List ByteArray)).bind fun y162 => (zd.l0 k ([] : List ByteArray) y162 (y162.length : Int) 0)) else (none))) = some r := h
 clear h
 replace H := Option.bind_eq_some_iff.mp H
 obtain ⟨t159, A20, H⟩ := H
 replace H : (if t159.length < 8796093022208 then ((some (t159 ++ [(⟨#[102, 105, 110, 97, 108]⟩ : ByteArray)] : List ByteArray)).bind fun y162 => (zd.l0 k ([] : List ByteArray) y162 (y162.length : Int) 0)) else (none)) = some r := H
 have A2 := za.mk A20
 clear A20
 by_cases c3 : t159.length < 8796093022208
 ·rw [if_pos c3] at H
  have LMc3 := za.mk c3
  clear c3
  obtain ⟨y162, hy162⟩ : ∃ y_ : List ByteArray, y_ = (t159 ++ [(⟨#[102, 105, 110, 97, 108]⟩ : ByteArray)]) := ⟨_, rfl⟩
  replace H : (zd.l0 k ([] : List ByteArray) y162 (y162.length : Int) 0) = some r := by first | (rw [hy162]; with_reducible exact H) | (have H2_ := (Option.bind_some _ _).symm.trans H; rw [hy162]; with_reducible exact H2_) | (have H2_ := (Option.bind_some _ _).symm.trans H; with_reducible exact H2_) | with_reducible exact H | (rw [hy162]; exact H) | exact H
  have Ny162 := za.mk hy162
  clear hy162
  have H' := za.mk H
  clear H
  go_enter Tryz.func91, Tryz.ntmps91
  go_wp2_with (first | ((with_reducible refine zbb (f := 121) rfl ?_); refine zcc (some 7) rfl rfl Tryz.func121 (by kernel_rfl) rfl #[.string a0] rfl (by (try simp only [List.map_toArray, List.map_cons, List.map_nil]); first | done | rfl | (simp only [List.length_drop, List.length_take]; rfl)) ?_; (with_reducible refine (zh.calls k a0 t159 _ A2.out).mono ?_); rintro e w4 ⟨v160, rfl, ho0, hb⟩; refine ⟨_, rfl, ?_⟩; have n0_ := za.mk (Kd.R_lower ho0 (zab (by repeat (first | (with_reducible first | exact HB.out | apply zg | apply ze | apply below_drew1) | exact HB.out)))); have n1_ := za.mk (zw (by repeat (first | (with_reducible first | exact HB.out | apply zg | apply ze | apply below_drew1) | exact HB.out)) hb); clear HB; have HO161 := n0_; have HB := n1_; clear n0_ n1_; (try clear hb); (try clear hb2); (try clear hk); (try clear hi); (try clear ho0)) | ((with_reducible refine zub (b := .append) (xs := #[.tmp 8, .tmp 9]) rfl ?_); (try (refine zsb (by rfl) ?_; dsimp only)); at_builtin; refine Kd.R_append Kd.string (w0 := w) w.heap.size rfl (.tmp 8) (.tmp 9) 24 9 (.string ⟨#[]⟩) 16 rfl Tryz.underlying24 info9 rfl (by decide) (by omega) v160 t159 (⟨#[102, 105, 110, 97, 108]⟩ : ByteArray) [.string (⟨#[102, 105, 110, 97, 108]⟩ : ByteArray)] (fun _ => True) (fun _ => False) rfl rfl ?aP (fun _ hk => hk.elim) ?aF ?aO ?aB ?aS ?aL ?_; (case aP => exact rfl); (case aB => exact (by repeat (first | (with_reducible first | exact HB.out | apply zg | apply ze | apply below_drew1) | exact HB.out))); (case aF => exact (fun _ _ => trivial)); (case aO => exact (by (with_reducible repeat (first | apply Kd.R_alloc | apply Kd.R_drewN | apply Kd.R_drew)); exact HO161.out)); (case aS => exact (zab (by repeat (first | (with_reducible first | exact HB.out | apply zg | apply ze | apply below_drew1) | exact HB.out)))); (case aL => have := LMc3.out; omega); intro v163 w5 ho hb hg hat; rw [← Ny162.out] at ho; have n0_ := za.mk (hb); have n1_ := za.mk (ho); clear HB; clear HO161; have HB := n0_; have HO164 := n1_; clear n0_ n1_; clear ho hb hg hat; obtain ⟨Ao6, co6, eo6⟩ := Kd.R_slice HO164.out; subst eo6))
  (try simp only [Act.put, List.setIfInBounds_toArray, List.set_cons_zero, List.set_cons_succ])
  go_loopg [2, 13] k (fun kq v2 v13 w' => ∃ (x2_1 : List ByteArray) (x13_1 : Int), v13 = .int .i64 x13_1 ∧ za (zd.l0 kq x2_1 y162 (y162.length : Int) x13_1 = some r) ∧ za (kq ≤ k) ∧ za (Kd.R Kd.string 9 w' w.heap.size (fun k_ => some k_ ≠ ((.slice Ao6 y162.length co6) : Value).ownBlock) v2 x2_1) ∧ za (Kd.R Kd.string 9 w' w.heap.size (fun k_ => some k_ ≠ (v2 : Value).ownBlock) (.slice Ao6 y162.length co6) y162) ∧ za (Below w.heap.size w w'))
  case atStart => exact ⟨(([] : List ByteArray)), (0), (by first | rfl | (simp; done) | (simp [*]; done) | (simp [zc]; done) | (simp [zc, *]; done)), H', ⟨Nat.le_refl _⟩, ⟨by first | exact Kd.R_nil _ _ _ _ _ | exact Kd.N_nil _ _ _ _ _ | exact Kd.V_nil _ _ _ _ _ | exact Kd.Q_nil _ _ _ _ _ | exact Kd.S_nil _ _ _ _ _⟩, ⟨by (with_reducible repeat (first | apply Kd.R_alloc | apply Kd.R_drewN | apply Kd.R_drew)); exact Kd.R_mono HO164.out (fun _ hk => (by simp [Value.ownBlock]))⟩, ⟨by repeat (first | (with_reducible first | exact HB.out | apply zg | apply ze | apply below_drew1) | exact HB.out)⟩⟩
  case round =>
   clear H'
   try clear c1
   try clear p2
   try clear c3
   obtain ⟨x2_1, x13_1, rfl, HA, HK1, HO_2, HO_11, HB⟩ := hrel
   cases gk with
   | zero => exact absurd HA.out (by simp [zd.l0])
   | succ k1 =>
    have H := HA.out
    clear HA
    simp only [zd.l0] at H
    by_cases c7 : x13_1 < (y162.length : Int)
    ·rw [if_pos c7] at H
     have c7b0 : decide (x13_1 < (y162.length : Int)) = true := decide_eq_true c7
     clear c7
     by_cases c8 : 0 ≤ x13_1
     ·rw [if_pos c8] at H
      have c8b0 : decide (0 ≤ x13_1) = true := decide_eq_true c8
      clear c8
      by_cases c9 : x13_1 < (y162.length : Int)
      ·rw [if_pos c9] at H
       have c9b0 : decide (x13_1 < (y162.length : Int)) = true := decide_eq_true c9
       clear c9
       have HC10 := za.mk H
       clear H
       have p165 : 0 ≤ (x13_1 : Int) := of_decide_eq_true (by first | (with_reducible assumption) | assumption)
       have q165 : x13_1 < (y162.length : Int) := of_decide_eq_true (by first | (with_reducible assumption) | assumption)
       obtain ⟨ad165, e165, hx165_0⟩ := Kd.at_string (Kd.R_reads' HO_11.out).2.2 x13_1 p165 q165
       cases e165
       replace p165 := eq_true p165
       replace q165 := eq_true q165
       go_upto_region 6 with (fail)
       go_cut [22] (fun v22 wc => ∃ (kq : Nat) (x22_9 : Bool), v22 = .bool x22_9 ∧ za (zd.j1 kq x2_1 (rdOf ByteArray.empty y162 x13_1) y162 (y162.length : Int) x13_1 x22_9 = some r) ∧ za (kq ≤ k1) ∧ za (Kd.R Kd.string 9 wc w.heap.size (fun k_ => some k_ ≠ ((.slice (some ad165) y162.length co6) : Value).ownBlock) u2 x2_1) ∧ za (Kd.R Kd.string 9 wc w.heap.size (fun k_ => some k_ ≠ (u2 : Value).ownBlock) (.slice (some ad165) y162.length co6) y162) ∧ za (Below w.heap.size w wc))
       case first =>
        have H := HC10.out
        clear HC10
        by_cases c11 : (rdOf ByteArray.empty y162 x13_1).toList = ([] : List UInt8)
        ·rw [if_pos c11] at H
         have c11b0 : ((rdOf ByteArray.empty y162 x13_1).toList == ([] : List UInt8)) = true := beq_iff_eq.mpr c11
         have c11b1 : ((rdOf ByteArray.empty y162 x13_1).toList != ([] : List UInt8)) = false := bne_eq_false_iff_eq.mpr c11
         clear c11
         (first | rw [c11b0] | (simp only [i64_w, i32_w]; rw [c11b0]) | skip)
         have H' := za.mk H
         clear H
         go_wp2
         go_meet
         case rel => exact ⟨_, (true), (by first | rfl | (simp; done) | (simp [*]; done) | (simp [zc]; done) | (simp [zc, *]; done)), H', ⟨by have := HK1.out; first | omega | exact Nat.le_refl _⟩, ⟨by (with_reducible repeat (first | apply Kd.R_alloc | apply Kd.R_drewN | apply Kd.R_drew)); exact HO_2.out⟩, ⟨by (with_reducible repeat (first | apply Kd.R_alloc | apply Kd.R_drewN | apply Kd.R_drew)); exact HO_11.out⟩, ⟨by repeat (first | (with_reducible first | exact HB.out | apply zg | apply ze | apply below_drew1) | exact HB.out)⟩⟩
        ·rw [if_neg c11] at H
         have c11b0 : ((rdOf ByteArray.empty y162 x13_1).toList == ([] : List UInt8)) = false := beq_eq_false_iff_ne.mpr c11
         have c11b1 : ((rdOf ByteArray.empty y162 x13_1).toList != ([] : List UInt8)) = true := bne_iff_ne.mpr c11
         (first | rw [c11b0] | (simp only [i64_w, i32_w]; rw [c11b0]) | skip)
         have H' := za.mk H
         clear H
         go_wp2
         go_meet
         case rel => exact ⟨_, (((rdOf ByteArray.empty y162 x13_1).toList == ([46] : List UInt8))), (by first | rfl | (simp; done) | (simp [*]; done) | (simp [zc]; done) | (simp [zc, *]; done)), H', ⟨by have := HK1.out; first | omega | exact Nat.le_refl _⟩, ⟨by (with_reducible repeat (first | apply Kd.R_alloc | apply Kd.R_drewN | apply Kd.R_drew)); exact HO_2.out⟩, ⟨by (with_reducible repeat (first | apply Kd.R_alloc | apply Kd.R_drewN | apply Kd.R_drew)); exact HO_11.out⟩, ⟨by repeat (first | (with_reducible first | exact HB.out | apply zg | apply ze | apply below_drew1) | exact HB.out)⟩⟩
       case rest =>
        clear HC10
        try clear c1
        try clear p1
        try clear q1
        try clear hx1
        try clear p2
        try clear c3
        try clear c7
        try clear c7b0
        try clear c8
        try clear c8b0
        try clear c9
        try clear c9b0
        try clear c11
        try clear c11b0
        try clear c11b1
        try clear hx165_0
        try clear p165
        try clear p2
        try clear q165
        obtain ⟨kq, x22_9, rfl, HA, HJ9, HO_2, HO_11, HB⟩ := hcut
        cases kq with
        | zero => exact absurd HA.out (by simp [zd.j1])
        | succ kj9 =>
         have H := HA.out
         clear HA
         simp only [zd.j1] at H
         by_cases c12 : x22_9 = true
         ·subst c12
          have H1 : (zd.l0 kj9 x2_1 y162 (y162.length : Int) (wrap64 (x13_1 + 1))) = some r := by rw [if_pos rfl] at H; exact H
          clear H
          have H := H1
          clear H1
          have H' := za.mk H
          clear H
          go_wp2
          go_roundg kj9
          case measure => have := HK1.out; have := HJ9.out; omega
          case rel => exact ⟨(x2_1), (wrap64 (x13_1 + 1)), (by first | rfl | (simp; done) | (simp [*]; done) | (simp [zc]; done) | (simp [zc, *]; done)), H', ⟨by have := HK1.out; have := HJ9.out; omega⟩, ⟨by (with_reducible repeat (first | apply Kd.R_alloc | apply Kd.R_drewN | apply Kd.R_drew)); exact HO_2.out⟩, ⟨by (with_reducible repeat (first | apply Kd.R_alloc | apply Kd.R_drewN | apply Kd.R_drew)); exact HO_11.out⟩, ⟨by repeat (first | (with_reducible first | exact HB.out | apply zg | apply ze | apply below_drew1) | exact HB.out)⟩⟩
         ·replace c12 := Bool.eq_false_iff.mpr c12
          subst c12
          have H1 : ((zj.f kj9 (rdOf ByteArray.empty y162 x13_1)).bind fun t166 => ((zyb.f t166 (⟨#[42]⟩ : ByteArray)).bind fun t167 => (if t167 = true then ((zoc.f t166 (⟨#[42, 102, 105, 110, 97, 108]⟩ : ByteArray)).bind fun t168 => (if t168 < 0 then (zd.l1 kj9 x2_1 t166 y162 (y162.length : Int) x13_1) else (zd.j3 kj9 x2_1 t166 y162 (y162.length : Int) x13_1))) else (if x2_1.length < 8796093022208 then (zd.l0 kj9 (x2_1 ++ [t166]) y162 (y162.length : Int) (wrap64 (x13_1 + 1))) else (none))))) = some r := by rw [if_neg (show ¬ (false = true) by decide)] at H; exact H
          clear H
          have H := H1
          clear H1
          replace H := Option.bind_eq_some_iff.mp H
          obtain ⟨t166, A130, H⟩ := H
          replace H : ((zyb.f t166 (⟨#[42]⟩ : ByteArray)).bind fun t167 => (if t167 = true then ((zoc.f t166 (⟨#[42, 102, 105, 110, 97, 108]⟩ : ByteArray)).bind fun t168 => (if t168 < 0 then (zd.l1 kj9 x2_1 t166 y162 (y162.length : Int) x13_1) else (zd.j3 kj9 x2_1 t166 y162 (y162.length : Int) x13_1))) else (if x2_1.length < 8796093022208 then (zd.l0 kj9 (x2_1 ++ [t166]) y162 (y162.length : Int) (wrap64 (x13_1 + 1))) else (none)))) = some r := H
          have A13 := za.mk A130
          clear A130
          replace H := Option.bind_eq_some_iff.mp H
          obtain ⟨t167, A140, H⟩ := H
          replace H : (if t167 = true then ((zoc.f t166 (⟨#[42, 102, 105, 110, 97, 108]⟩ : ByteArray)).bind fun t168 => (if t168 < 0 then (zd.l1 kj9 x2_1 t166 y162 (y162.length : Int) x13_1) else (zd.j3 kj9 x2_1 t166 y162 (y162.length : Int) x13_1))) else (if x2_1.length < 8796093022208 then (zd.l0 kj9 (x2_1 ++ [t166]) y162 (y162.length : Int) (wrap64 (x13_1 + 1))) else (none))) = some r := H
          have A14 := za.mk A140
          clear A140
          by_cases c15 : t167 = true
          ·subst c15
           have H1 : ((zoc.f t166 (⟨#[42, 102, 105, 110, 97, 108]⟩ : ByteArray)).bind fun t168 => (if t168 < 0 then (zd.l1 kj9 x2_1 t166 y162 (y162.length : Int) x13_1) else (zd.j3 kj9 x2_1 t166 y162 (y162.length : Int) x13_1))) = some r := by rw [if_pos rfl] at H; exact H
           clear H
           have H := H1
           clear H1
           replace H := Option.bind_eq_some_iff.mp H
           obtain ⟨t168, A160, H⟩ := H
           replace H : (if t168 < 0 then (zd.l1 kj9 x2_1 t166 y162 (y162.length : Int) x13_1) else (zd.j3 kj9 x2_1 t166 y162 (y162.length : Int) x13_1)) = some r := H
           have A16 := za.mk A160
           clear A160
           have HC17 := za.mk H
           clear H
           go_upto_if 29 with (first | ((with_reducible refine zbb (f := 122) rfl ?_); refine zcc (some 24) rfl rfl Tryz.func122 (by kernel_rfl) rfl #[.string (rdOf ByteArray.empty y162 x13_1)] rfl (by (try simp only [List.map_toArray, List.map_cons, List.map_nil]); first | done | rfl | (simp only [List.length_drop, List.length_take]; rfl)) ?_; (with_reducible refine (zj.calls kj9 (rdOf ByteArray.empty y162 x13_1) t166 _ A13.out).mono ?_); rintro e w' ⟨rfl, ⟨nd, rfl⟩⟩; refine ⟨_, rfl, ?_⟩) | ((with_reducible refine zbb (f := 123) rfl ?_); refine zcc (some 26) rfl rfl Tryz.func123 (by kernel_rfl) rfl #[.string t166, .string (⟨#[42]⟩ : ByteArray)] rfl (by (try simp only [List.map_toArray, List.map_cons, List.map_nil]); first | done | rfl | (simp only [List.length_drop, List.length_take]; rfl)) ?_; (with_reducible refine (zyb.calls t166 (⟨#[42]⟩ : ByteArray) true _ A14.out).mono ?_); rintro e w' ⟨rfl, ⟨nd, rfl⟩⟩; refine ⟨_, rfl, ?_⟩) | ((with_reducible refine zbb (f := 124) rfl ?_); refine zcc (some 28) rfl rfl Tryz.func124 (by kernel_rfl) rfl #[.string t166, .string (⟨#[42, 102, 105, 110, 97, 108]⟩ : ByteArray)] rfl (by (try simp only [List.map_toArray, List.map_cons, List.map_nil]); first | done | rfl | (simp only [List.length_drop, List.length_take]; rfl)) ?_; (with_reducible refine (zoc.calls t166 (⟨#[42, 102, 105, 110, 97, 108]⟩ : ByteArray) t168 _ A16.out).mono ?_); rintro e w' ⟨rfl, ⟨nd, rfl⟩⟩; refine ⟨_, rfl, ?_⟩))
           (try simp only [Act.put, List.setIfInBounds_toArray, List.set_cons_zero, List.set_cons_succ])
           go_cut [2, 29] (fun v2 v29 wc => ∃ (kq : Nat) (x2_16 : List ByteArray), za (zd.j3 kq x2_16 t166 y162 (y162.length : Int) x13_1 = some r) ∧ za (kq ≤ kj9) ∧ za (Kd.R Kd.string 9 wc w.heap.size (fun k_ => some k_ ≠ ((.slice (some ad165) y162.length co6) : Value).ownBlock) v2 x2_16) ∧ za (Kd.R Kd.string 9 wc w.heap.size (fun k_ => some k_ ≠ (v2 : Value).ownBlock) (.slice (some ad165) y162.length co6) y162) ∧ za (Below w.heap.size w wc))
           case first =>
            have H := HC17.out
            clear HC17
            by_cases c18 : t168 < 0
            ·rw [if_pos c18] at H
             have c18b0 : decide (t168 < 0) = true := decide_eq_true c18
             clear c18
             (first | rw [c18b0] | (simp only [i64_w, i32_w]; rw [c18b0]) | skip)
             have H' := za.mk H
             clear H
             go_wp2
             (try simp only [Act.put, List.setIfInBounds_toArray, List.set_cons_zero, List.set_cons_succ])
             go_loopg [2] kj9 (fun kq v2 w' => ∃ (x2_3 : List ByteArray), za (zd.l1 kq x2_3 t166 y162 (y162.length : Int) x13_1 = some r) ∧ za (kq ≤ kj9) ∧ za (Kd.R Kd.string 9 w' w.heap.size (fun k_ => some k_ ≠ ((.slice (some ad165) y162.length co6) : Value).ownBlock) v2 x2_3) ∧ za (Kd.R Kd.string 9 w' w.heap.size (fun k_ => some k_ ≠ (v2 : Value).ownBlock) (.slice (some ad165) y162.length co6) y162) ∧ za (Below w.heap.size w w'))
             case atStart => exact ⟨(x2_1), H', ⟨Nat.le_refl _⟩, ⟨by (with_reducible repeat (first | apply Kd.R_alloc | apply Kd.R_drewN | apply Kd.R_drew)); exact HO_2.out⟩, ⟨by (with_reducible repeat (first | apply Kd.R_alloc | apply Kd.R_drewN | apply Kd.R_drew)); exact HO_11.out⟩, ⟨by repeat (first | (with_reducible first | exact HB.out | apply zg | apply ze | apply below_drew1) | exact HB.out)⟩⟩
             case round =>
              clear H'
              try clear c1
              try clear p1
              try clear q1
              try clear hx1
              try clear p2
              try clear c3
              try clear p6
              try clear c7
              try clear c7b0
              try clear c8
              try clear c8b0
              try clear c9
              try clear c9b0
              try clear c11
              try clear c11b0
              try clear c11b1
              try clear c12
              try clear c15
              try clear p16
              try clear q16
              try clear hx16
              try clear c18
              try clear c18b0
              try clear hx165_0
              try clear p1
              try clear p165
              try clear p2
              try clear q1
              try clear q165
              obtain ⟨x2_3, HA, HK3, HO_2, HO_11, HB⟩ := hrel
              cases gk with
              | zero => exact absurd HA.out (by simp [zd.l1])
              | succ k3 =>
               have H := HA.out
               clear HA
               simp only [zd.l1] at H
               by_cases c19 : (x2_3.length : Int) > 0
               ·rw [if_pos c19] at H
                have c19b0 : decide (0 < (x2_3.length : Int)) = true := decide_eq_true c19
                have c19b1 : decide (0 < x2_3.length) = true := decide_eq_true (by omega)
                clear c19
                obtain ⟨ji20, hji20⟩ : ∃ j_ : Int, (wrap64 ((x2_3.length : Int) - 1)) = j_ := ⟨_, rfl⟩
                replace H : (if 0 ≤ (ji20) then (if (ji20) < (x2_3.length : Int) then (if (rdOf ByteArray.empty x2_3 (ji20)).toList = ([42, 102, 105, 110, 97, 108, 45] : List UInt8) then (if (ji20) ≤ (x2_3.length : Int) then (zd.l1 k3 (x2_3.take ((ji20) : Int).toNat) t166 y162 (y162.length : Int) x13_1) else (none)) else (zd.j3 k3 x2_3 t166 y162 (y162.length : Int) x13_1)) else (none)) else (none)) = some r := by first | (rw [hji20] at H; exact H) | (simp only [hji20] at H ⊢; exact H)
                have hji20w : (IntKind.i64.wrap ((x2_3.length : Int) - 1)) = ji20 := (i64_w _).trans hji20
                by_cases c21 : 0 ≤ (ji20)
                ·rw [if_pos c21] at H
                 have c21b0 : decide (0 ≤ (ji20)) = true := decide_eq_true c21
                 clear c21
                 by_cases c22 : (ji20) < (x2_3.length : Int)
                 ·rw [if_pos c22] at H
                  have c22b0 : decide ((ji20) < (x2_3.length : Int)) = true := decide_eq_true c22
                  clear c22
                  by_cases c23 : (rdOf ByteArray.empty x2_3 (ji20)).toList = ([42, 102, 105, 110, 97, 108, 45] : List UInt8)
                  ·rw [if_pos c23] at H
                   have c23b0 : ((rdOf ByteArray.empty x2_3 (ji20)).toList == ([42, 102, 105, 110, 97, 108, 45] : List UInt8)) = true := beq_iff_eq.mpr c23
                   have c23b1 : ((rdOf ByteArray.empty x2_3 (ji20)).toList != ([42, 102, 105, 110, 97, 108, 45] : List UInt8)) = false := bne_eq_false_iff_eq.mpr c23
                   clear c23
                   by_cases c24 : (ji20) ≤ (x2_3.length : Int)
                   ·rw [if_pos c24] at H
                    have c24b0 := eq_true c24
                    have c24b1 : decide ((ji20) ≤ (x2_3.length : Int)) = true := decide_eq_true c24
                    clear c24
                    obtain ⟨y170, hy170⟩ : ∃ y_ : List ByteArray, y_ = (x2_3.take ((ji20) : Int).toNat) := ⟨_, rfl⟩
                    replace H : (zd.l1 k3 y170 t166 y162 (y162.length : Int) x13_1) = some r := by first | (rw [hy170]; with_reducible exact H) | (have H2_ := (Option.bind_some _ _).symm.trans H; rw [hy170]; with_reducible exact H2_) | (have H2_ := (Option.bind_some _ _).symm.trans H; with_reducible exact H2_) | with_reducible exact H | (rw [hy170]; exact H) | exact H
                    have Ny170 := za.mk hy170
                    clear hy170
                    have H' := za.mk H
                    clear H
                    obtain ⟨Ao25, co25, eo25⟩ := Kd.R_slice HO_2.out
                    subst eo25
                    have p169 : 0 ≤ ((ji20) : Int) := of_decide_eq_true (by first | (with_reducible assumption) | assumption)
                    have q169 : (ji20) < (x2_3.length : Int) := of_decide_eq_true (by first | (with_reducible assumption) | assumption)
                    obtain ⟨ad169, e169, hx169_0⟩ := Kd.at_string (Kd.R_reads' HO_2.out).2.2 (ji20) p169 q169
                    cases e169
                    replace p169 := eq_true p169
                    replace q169 := eq_true q169
                    have q26 : ((ji20) : Int) ≤ ((x2_3.length : Int) : Int) := of_decide_eq_true (by first | (with_reducible assumption) | assumption)
                    obtain ⟨i026, hi026, _, hsz26, _⟩ := info_parts info9
                    have hcut26 := cut_to (P := Tryz.prog) 24 9 .i64 Tryz.underlying24 hi026 (some ad169) x2_3.length co25 (ji20) (of_decide_eq_true (by first | (with_reducible assumption) | assumption)) q26 (Kd.R_reads' HO_2.out).2.1
                    have hr26 := Kd.R_take (m := ((ji20) : Int).toNat) HO_2.out (by omega)
                    have hy26 : y170.length = ((ji20) : Int).toNat := (by rw [Ny170.out, List.length_take]; omega)
                    rw [← Ny170.out] at hr26
                    rw [← hy26] at hr26 hcut26
                    clear hy26 hi026 hsz26 HO_2
                    have HO172 := za.mk hr26
                    clear hr26
                    replace q26 := eq_true q26
                    go_wp2
                    go_roundg k3
                    case measure => have := HK1.out; have := HJ9.out; have := HK3.out; omega
                    case rel => exact ⟨(y170), H', ⟨by have := HK1.out; have := HJ9.out; have := HK3.out; omega⟩, ⟨by (with_reducible repeat (first | apply Kd.R_alloc | apply Kd.R_drewN | apply Kd.R_drew)); exact HO172.out⟩, ⟨by (with_reducible repeat (first | apply Kd.R_alloc | apply Kd.R_drewN | apply Kd.R_drew)); exact HO_11.out⟩, ⟨by repeat (first | (with_reducible first | exact HB.out | apply zg | apply ze | apply below_drew1) | exact HB.out)⟩⟩
                   ·rw [if_neg c24] at H
                    exact absurd H (by simp)
                  ·rw [if_neg c23] at H
                   have c23b0 : ((rdOf ByteArray.empty x2_3 (ji20)).toList == ([42, 102, 105, 110, 97, 108, 45] : List UInt8)) = false := beq_eq_false_iff_ne.mpr c23
                   have c23b1 : ((rdOf ByteArray.empty x2_3 (ji20)).toList != ([42, 102, 105, 110, 97, 108, 45] : List UInt8)) = true := bne_iff_ne.mpr c23
                   have H' := za.mk H
                   clear H
                   obtain ⟨Ao27, co27, eo27⟩ := Kd.R_slice HO_2.out
                   subst eo27
                   have p169 : 0 ≤ ((ji20) : Int) := of_decide_eq_true (by first | (with_reducible assumption) | assumption)
                   have q169 : (ji20) < (x2_3.length : Int) := of_decide_eq_true (by first | (with_reducible assumption) | assumption)
                   obtain ⟨ad169, e169, hx169_0⟩ := Kd.at_string (Kd.R_reads' HO_2.out).2.2 (ji20) p169 q169
                   cases e169
                   replace p169 := eq_true p169
                   replace q169 := eq_true q169
                   go_wp2
                   go_meet
                   case rel => exact ⟨_, (x2_3), H', ⟨by have := HK1.out; have := HJ9.out; have := HK3.out; first | omega | exact Nat.le_refl _⟩, ⟨by (with_reducible repeat (first | apply Kd.R_alloc | apply Kd.R_drewN | apply Kd.R_drew)); exact HO_2.out⟩, ⟨by (with_reducible repeat (first | apply Kd.R_alloc | apply Kd.R_drewN | apply Kd.R_drew)); exact HO_11.out⟩, ⟨by repeat (first | (with_reducible first | exact HB.out | apply zg | apply ze | apply below_drew1) | exact HB.out)⟩⟩
                 ·rw [if_neg c22] at H
                  exact absurd H (by simp)
                ·rw [if_neg c21] at H
                 exact absurd H (by simp)
               ·rw [if_neg c19] at H
                have c19b0 : decide (0 < (x2_3.length : Int)) = false := decide_eq_false c19
                have c19b1 : decide (0 < x2_3.length) = false := decide_eq_false (by omega)
                clear c19
                have H' := za.mk H
                clear H
                obtain ⟨Ao28, co28, eo28⟩ := Kd.R_slice HO_2.out
                subst eo28
                go_wp2
                go_meet
                case rel => exact ⟨_, (x2_3), H', ⟨by have := HK1.out; have := HJ9.out; have := HK3.out; first | omega | exact Nat.le_refl _⟩, ⟨by (with_reducible repeat (first | apply Kd.R_alloc | apply Kd.R_drewN | apply Kd.R_drew)); exact HO_2.out⟩, ⟨by (with_reducible repeat (first | apply Kd.R_alloc | apply Kd.R_drewN | apply Kd.R_drew)); exact HO_11.out⟩, ⟨by repeat (first | (with_reducible first | exact HB.out | apply zg | apply ze | apply below_drew1) | exact HB.out)⟩⟩
            ·rw [if_neg c18] at H
             have c18b0 : decide (t168 < 0) = false := decide_eq_false c18
             clear c18
             (first | rw [c18b0] | (simp only [i64_w, i32_w]; rw [c18b0]) | skip)
             have H' := za.mk H
             clear H
             go_wp2
             go_meet
             case rel => exact ⟨_, (x2_1), H', ⟨by have := HK1.out; have := HJ9.out; first | omega | exact Nat.le_refl _⟩, ⟨by (with_reducible repeat (first | apply Kd.R_alloc | apply Kd.R_drewN | apply Kd.R_drew)); exact HO_2.out⟩, ⟨by (with_reducible repeat (first | apply Kd.R_alloc | apply Kd.R_drewN | apply Kd.R_drew)); exact HO_11.out⟩, ⟨by repeat (first | (with_reducible first | exact HB.out | apply zg | apply ze | apply below_drew1) | exact HB.out)⟩⟩
           case rest =>
            clear HC17
            try clear c1
            try clear p1
            try clear q1
            try clear hx1
            try clear c2
            try clear p2
            try clear q2
            try clear c3
            try clear p6
            try clear c7
            try clear c7b0
            try clear c8
            try clear c8b0
            try clear c9
            try clear c9b0
            try clear c11
            try clear c11b0
            try clear c11b1
            try clear c12
            try clear c15
            try clear p16
            try clear q16
            try clear hx16
            try clear c18
            try clear c18b0
            try clear c19
            try clear c19b0
            try clear c19b1
            try clear c21
            try clear c21b0
            try clear c22
            try clear c22b0
            try clear c23
            try clear c23b0
            try clear c23b1
            try clear c24
            try clear c24b0
            try clear c24b1
            try clear q26
            try clear hx165_0
            try clear hx169_0
            try clear p1
            try clear p16
            try clear p165
            try clear p169
            try clear p2
            try clear p6
            try clear q1
            try clear q16
            try clear q165
            try clear q169
            try clear q26
            obtain ⟨kq, x2_16, HA, HJ16, HO_2, HO_11, HB⟩ := hcut
            cases kq with
            | zero => exact absurd HA.out (by simp [zd.j3])
            | succ kj16 =>
             have H := HA.out
             clear HA
             simp only [zd.j3] at H
             have H' := za.mk H
             clear H
             go_wp2
             (try simp only [Act.put, List.setIfInBounds_toArray, List.set_cons_zero, List.set_cons_succ])
             go_loopg [2] kj16 (fun kq v2 w' => ∃ (x2_4 : List ByteArray), za (zd.l2 kq x2_4 t166 y162 (y162.length : Int) x13_1 = some r) ∧ za (kq ≤ kj16) ∧ za (Kd.R Kd.string 9 w' w.heap.size (fun k_ => some k_ ≠ ((.slice (some ad165) y162.length co6) : Value).ownBlock) v2 x2_4) ∧ za (Kd.R Kd.string 9 w' w.heap.size (fun k_ => some k_ ≠ (v2 : Value).ownBlock) (.slice (some ad165) y162.length co6) y162) ∧ za (Below w.heap.size w w'))
             case atStart => exact ⟨(x2_16), H', ⟨Nat.le_refl _⟩, ⟨by (with_reducible repeat (first | apply Kd.R_alloc | apply Kd.R_drewN | apply Kd.R_drew)); exact HO_2.out⟩, ⟨by (with_reducible repeat (first | apply Kd.R_alloc | apply Kd.R_drewN | apply Kd.R_drew)); exact HO_11.out⟩, ⟨by repeat (first | (with_reducible first | exact HB.out | apply zg | apply ze | apply below_drew1) | exact HB.out)⟩⟩
             case round =>
              clear H'
              try clear c1
              try clear p1
              try clear q1
              try clear hx1
              try clear c2
              try clear p2
              try clear q2
              try clear c3
              try clear p6
              try clear c7
              try clear c7b0
              try clear c8
              try clear c8b0
              try clear c9
              try clear c9b0
              try clear c11
              try clear c11b0
              try clear c11b1
              try clear c12
              try clear c15
              try clear p16
              try clear q16
              try clear hx16
              try clear c18
              try clear c18b0
              try clear c19
              try clear c19b0
              try clear c19b1
              try clear c21
              try clear c21b0
              try clear c22
              try clear c22b0
              try clear c23
              try clear c23b0
              try clear c23b1
              try clear c24
              try clear c24b0
              try clear c24b1
              try clear q26
              try clear hx165_0
              try clear hx169_0
              try clear p1
              try clear p16
              try clear p165
              try clear p169
              try clear p2
              try clear p6
              try clear q1
              try clear q16
              try clear q165
              try clear q169
              try clear q2
              try clear q26
              obtain ⟨x2_4, HA, HK4, HO_2, HO_11, HB⟩ := hrel
              cases gk with
              | zero => exact absurd HA.out (by simp [zd.l2])
              | succ k4 =>
               have H := HA.out
               clear HA
               simp only [zd.l2] at H
               by_cases c29 : (x2_4.length : Int) > 0
               ·rw [if_pos c29] at H
                have c29b0 : decide (0 < (x2_4.length : Int)) = true := decide_eq_true c29
                have c29b1 : decide (0 < x2_4.length) = true := decide_eq_true (by omega)
                clear c29
                obtain ⟨ji30, hji30⟩ : ∃ j_ : Int, (wrap64 ((x2_4.length : Int) - 1)) = j_ := ⟨_, rfl⟩
                (try rw [hji30] at hji20)
                (try rw [hji30] at hji20w)
                replace H : (if 0 ≤ (ji30) then (if (ji30) < (x2_4.length : Int) then (if (rdOf ByteArray.empty x2_4 (ji30)).toList = ([48, 48, 48, 48, 48, 48, 48, 48] : List UInt8) then (if (ji30) ≤ (x2_4.length : Int) then (zd.l2 k4 (x2_4.take ((ji30) : Int).toNat) t166 y162 (y162.length : Int) x13_1) else (none)) else (if x2_4.length < 8796093022208 then (zd.l0 k4 (x2_4 ++ [t166]) y162 (y162.length : Int) (wrap64 (x13_1 + 1))) else (none))) else (none)) else (none)) = some r := by first | (rw [hji30] at H; exact H) | (simp only [hji30] at H ⊢; exact H)
                have hji30w : (IntKind.i64.wrap ((x2_4.length : Int) - 1)) = ji30 := (i64_w _).trans hji30
                by_cases c31 : 0 ≤ (ji30)
                ·rw [if_pos c31] at H
                 have c31b0 : decide (0 ≤ (ji30)) = true := decide_eq_true c31
                 clear c31
                 by_cases c32 : (ji30) < (x2_4.length : Int)
                 ·rw [if_pos c32] at H
                  have c32b0 : decide ((ji30) < (x2_4.length : Int)) = true := decide_eq_true c32
                  clear c32
                  by_cases c33 : (rdOf ByteArray.empty x2_4 (ji30)).toList = ([48, 48, 48, 48, 48, 48, 48, 48] : List UInt8)
                  ·rw [if_pos c33] at H
                   have c33b0 : ((rdOf ByteArray.empty x2_4 (ji30)).toList == ([48, 48, 48, 48, 48, 48, 48, 48] : List UInt8)) = true := beq_iff_eq.mpr c33
                   have c33b1 : ((rdOf ByteArray.empty x2_4 (ji30)).toList != ([48, 48, 48, 48, 48, 48, 48, 48] : List UInt8)) = false := bne_eq_false_iff_eq.mpr c33
                   clear c33
                   by_cases c34 : (ji30) ≤ (x2_4.length : Int)
                   ·rw [if_pos c34] at H
                    have c34b0 := eq_true c34
                    have c34b1 : decide ((ji30) ≤ (x2_4.length : Int)) = true := decide_eq_true c34
                    clear c34
                    obtain ⟨y174, hy174⟩ : ∃ y_ : List ByteArray, y_ = (x2_4.take ((ji30) : Int).toNat) := ⟨_, rfl⟩
                    replace H : (zd.l2 k4 y174 t166 y162 (y162.length : Int) x13_1) = some r := by first | (rw [hy174]; with_reducible exact H) | (have H2_ := (Option.bind_some _ _).symm.trans H; rw [hy174]; with_reducible exact H2_) | (have H2_ := (Option.bind_some _ _).symm.trans H; with_reducible exact H2_) | with_reducible exact H | (rw [hy174]; exact H) | exact H
                    have Ny174 := za.mk hy174
                    clear hy174
                    have H' := za.mk H
                    clear H
                    obtain ⟨Ao35, co35, eo35⟩ := Kd.R_slice HO_2.out
                    subst eo35
                    have p173 : 0 ≤ ((ji30) : Int) := of_decide_eq_true (by first | (with_reducible assumption) | assumption)
                    have q173 : (ji30) < (x2_4.length : Int) := of_decide_eq_true (by first | (with_reducible assumption) | assumption)
                    obtain ⟨ad173, e173, hx173_0⟩ := Kd.at_string (Kd.R_reads' HO_2.out).2.2 (ji30) p173 q173
                    cases e173
                    replace p173 := eq_true p173
                    replace q173 := eq_true q173
                    have q36 : ((ji30) : Int) ≤ ((x2_4.length : Int) : Int) := of_decide_eq_true (by first | (with_reducible assumption) | assumption)
                    obtain ⟨i036, hi036, _, hsz36, _⟩ := info_parts info9
                    have hcut36 := cut_to (P := Tryz.prog) 24 9 .i64 Tryz.underlying24 hi036 (some ad173) x2_4.length co35 (ji30) (of_decide_eq_true (by first | (with_reducible assumption) | assumption)) q36 (Kd.R_reads' HO_2.out).2.1
                    have hr36 := Kd.R_take (m := ((ji30) : Int).toNat) HO_2.out (by omega)
                    have hy36 : y174.length = ((ji30) : Int).toNat := (by rw [Ny174.out, List.length_take]; omega)
                    rw [← Ny174.out] at hr36
                    rw [← hy36] at hr36 hcut36
                    clear hy36 hi036 hsz36 HO_2
                    have HO176 := za.mk hr36
                    clear hr36
                    replace q36 := eq_true q36
                    go_wp2
                    go_roundg k4
                    case measure => have := HK1.out; have := HJ9.out; have := HJ16.out; have := HK4.out; omega
                    case rel => exact ⟨(y174), H', ⟨by have := HK1.out; have := HJ9.out; have := HJ16.out; have := HK4.out; omega⟩, ⟨by (with_reducible repeat (first | apply Kd.R_alloc | apply Kd.R_drewN | apply Kd.R_drew)); exact HO176.out⟩, ⟨by (with_reducible repeat (first | apply Kd.R_alloc | apply Kd.R_drewN | apply Kd.R_drew)); exact HO_11.out⟩, ⟨by repeat (first | (with_reducible first | exact HB.out | apply zg | apply ze | apply below_drew1) | exact HB.out)⟩⟩
                   ·rw [if_neg c34] at H
                    exact absurd H (by simp)
                  ·rw [if_neg c33] at H
                   have c33b0 : ((rdOf ByteArray.empty x2_4 (ji30)).toList == ([48, 48, 48, 48, 48, 48, 48, 48] : List UInt8)) = false := beq_eq_false_iff_ne.mpr c33
                   have c33b1 : ((rdOf ByteArray.empty x2_4 (ji30)).toList != ([48, 48, 48, 48, 48, 48, 48, 48] : List UInt8)) = true := bne_iff_ne.mpr c33
                   by_cases c37 : x2_4.length < 8796093022208
                   ·rw [if_pos c37] at H
                    have LMc37 := za.mk c37
                    clear c37
                    obtain ⟨y177, hy177⟩ : ∃ y_ : List ByteArray, y_ = (x2_4 ++ [t166]) := ⟨_, rfl⟩
                    replace H : (zd.l0 k4 y177 y162 (y162.length : Int) (wrap64 (x13_1 + 1))) = some r := by first | (rw [hy177]; with_reducible exact H) | (have H2_ := (Option.bind_some _ _).symm.trans H; rw [hy177]; with_reducible exact H2_) | (have H2_ := (Option.bind_some _ _).symm.trans H; with_reducible exact H2_) | with_reducible exact H | (rw [hy177]; exact H) | exact H
                    have Ny177 := za.mk hy177
                    clear hy177
                    have H' := za.mk H
                    clear H
                    obtain ⟨Ao38, co38, eo38⟩ := Kd.R_slice HO_2.out
                    subst eo38
                    have p173 : 0 ≤ ((ji30) : Int) := of_decide_eq_true (by first | (with_reducible assumption) | assumption)
                    have q173 : (ji30) < (x2_4.length : Int) := of_decide_eq_true (by first | (with_reducible assumption) | assumption)
                    obtain ⟨ad173, e173, hx173_0⟩ := Kd.at_string (Kd.R_reads' HO_2.out).2.2 (ji30) p173 q173
                    cases e173
                    replace p173 := eq_true p173
                    replace q173 := eq_true q173
                    go_wp2_with (first | ((with_reducible refine zub (b := .append) (xs := #[.tmp 64, .tmp 66]) rfl ?_); (try (refine zsb (by rfl) ?_; dsimp only)); at_builtin; refine Kd.R_append Kd.string (w0 := w) w.heap.size rfl (.tmp 64) (.tmp 66) 24 9 (.string ⟨#[]⟩) 16 rfl Tryz.underlying24 info9 rfl (by decide) (by omega) (.slice (some ad173) x2_4.length co38) x2_4 t166 [.string t166] (fun k_ => some k_ ≠ (.slice (some ad165) y162.length co6 : Value).ownBlock) (fun _ => False) rfl rfl ?aP (fun _ hk => hk.elim) ?aF ?aO ?aB ?aS ?aL ?_; (case aP => exact rfl); (case aB => exact (by repeat (first | (with_reducible first | exact HB.out | apply zg | apply ze | apply below_drew1) | exact HB.out))); (case aF => exact (fun k_ hk => Kd.fresh' (Kd.R_lt (by (with_reducible repeat (first | apply Kd.R_alloc | apply Kd.R_drewN | apply Kd.R_drew)); exact HO_11.out)) k_ hk)); (case aO => exact (by (with_reducible repeat (first | apply Kd.R_alloc | apply Kd.R_drewN | apply Kd.R_drew)); exact HO_2.out)); (case aS => exact (zab (by repeat (first | (with_reducible first | exact HB.out | apply zg | apply ze | apply below_drew1) | exact HB.out)))); (case aL => have := LMc37.out; omega); intro v178 w39 ho hb hg hat; rw [← Ny177.out] at ho; have n0_ := za.mk (Kd.R_after (ok := (fun _ => True)) (by (with_reducible repeat (first | apply Kd.R_alloc | apply Kd.R_drewN | apply Kd.R_drew)); exact Kd.R_mono HO_11.out (fun _ hk => ⟨trivial, hk⟩)) hg hat); have n1_ := za.mk (hb); have n2_ := za.mk (ho); clear HO_11; clear HB; clear HO_2; have HO_11 := n0_; have HB := n1_; have HO179 := n2_; clear n0_ n1_ n2_; clear ho hb hg hat))
                    go_roundg k4
                    case measure => have := HK1.out; have := HJ9.out; have := HJ16.out; have := HK4.out; omega
                    case rel => exact ⟨(y177), (wrap64 (x13_1 + 1)), (by first | rfl | (simp; done) | (simp [*]; done) | (simp [zc]; done) | (simp [zc, *]; done)), H', ⟨by have := HK1.out; have := HJ9.out; have := HJ16.out; have := HK4.out; omega⟩, ⟨by (with_reducible repeat (first | apply Kd.R_alloc | apply Kd.R_drewN | apply Kd.R_drew)); exact HO179.out⟩, ⟨by (with_reducible repeat (first | apply Kd.R_alloc | apply Kd.R_drewN | apply Kd.R_drew)); exact Kd.R_mono HO_11.out (fun _ hk => hk.2)⟩, ⟨by repeat (first | (with_reducible first | exact HB.out | apply zg | apply ze | apply below_drew1) | exact HB.out)⟩⟩
                   ·rw [if_neg c37] at H
                    exact absurd H (by simp)
                 ·rw [if_neg c32] at H
                  exact absurd H (by simp)
                ·rw [if_neg c31] at H
                 exact absurd H (by simp)
               ·rw [if_neg c29] at H
                have c29b0 : decide (0 < (x2_4.length : Int)) = false := decide_eq_false c29
                have c29b1 : decide (0 < x2_4.length) = false := decide_eq_false (by omega)
                clear c29
                by_cases c40 : x2_4.length < 8796093022208
                ·rw [if_pos c40] at H
                 have LMc40 := za.mk c40
                 clear c40
                 obtain ⟨y180, hy180⟩ : ∃ y_ : List ByteArray, y_ = (x2_4 ++ [t166]) := ⟨_, rfl⟩
                 replace H : (zd.l0 k4 y180 y162 (y162.length : Int) (wrap64 (x13_1 + 1))) = some r := by first | (rw [hy180]; with_reducible exact H) | (have H2_ := (Option.bind_some _ _).symm.trans H; rw [hy180]; with_reducible exact H2_) | (have H2_ := (Option.bind_some _ _).symm.trans H; with_reducible exact H2_) | with_reducible exact H | (rw [hy180]; exact H) | exact H
                 have Ny180 := za.mk hy180
                 clear hy180
                 have H' := za.mk H
                 clear H
                 obtain ⟨Ao41, co41, eo41⟩ := Kd.R_slice HO_2.out
                 subst eo41
                 go_wp2_with (first | ((with_reducible refine zub (b := .append) (xs := #[.tmp 64, .tmp 66]) rfl ?_); (try (refine zsb (by rfl) ?_; dsimp only)); at_builtin; refine Kd.R_append Kd.string (w0 := w) w.heap.size rfl (.tmp 64) (.tmp 66) 24 9 (.string ⟨#[]⟩) 16 rfl Tryz.underlying24 info9 rfl (by decide) (by omega) (.slice Ao41 x2_4.length co41) x2_4 t166 [.string t166] (fun k_ => some k_ ≠ (.slice (some ad165) y162.length co6 : Value).ownBlock) (fun _ => False) rfl rfl ?aP (fun _ hk => hk.elim) ?aF ?aO ?aB ?aS ?aL ?_; (case aP => exact rfl); (case aB => exact (by repeat (first | (with_reducible first | exact HB.out | apply zg | apply ze | apply below_drew1) | exact HB.out))); (case aF => exact (fun k_ hk => Kd.fresh' (Kd.R_lt (by (with_reducible repeat (first | apply Kd.R_alloc | apply Kd.R_drewN | apply Kd.R_drew)); exact HO_11.out)) k_ hk)); (case aO => exact (by (with_reducible repeat (first | apply Kd.R_alloc | apply Kd.R_drewN | apply Kd.R_drew)); exact HO_2.out)); (case aS => exact (zab (by repeat (first | (with_reducible first | exact HB.out | apply zg | apply ze | apply below_drew1) | exact HB.out)))); (case aL => have := LMc40.out; omega); intro v181 w42 ho hb hg hat; rw [← Ny180.out] at ho; have n0_ := za.mk (Kd.R_after (ok := (fun _ => True)) (by (with_reducible repeat (first | apply Kd.R_alloc | apply Kd.R_drewN | apply Kd.R_drew)); exact Kd.R_mono HO_11.out (fun _ hk => ⟨trivial, hk⟩)) hg hat); have n1_ := za.mk (hb); have n2_ := za.mk (ho); clear HO_11; clear HB; clear HO_2; have HO_11 := n0_; have HB := n1_; have HO182 := n2_; clear n0_ n1_ n2_; clear ho hb hg hat))
                 go_roundg k4
                 case measure => have := HK1.out; have := HJ9.out; have := HJ16.out; have := HK4.out; omega
                 case rel => exact ⟨(y180), (wrap64 (x13_1 + 1)), (by first | rfl | (simp; done) | (simp [*]; done) | (simp [zc]; done) | (simp [zc, *]; done)), H', ⟨by have := HK1.out; have := HJ9.out; have := HJ16.out; have := HK4.out; omega⟩, ⟨by (with_reducible repeat (first | apply Kd.R_alloc | apply Kd.R_drewN | apply Kd.R_drew)); exact HO182.out⟩, ⟨by (with_reducible repeat (first | apply Kd.R_alloc | apply Kd.R_drewN | apply Kd.R_drew)); exact Kd.R_mono HO_11.out (fun _ hk => hk.2)⟩, ⟨by repeat (first | (with_reducible first | exact HB.out | apply zg | apply ze | apply below_drew1) | exact HB.out)⟩⟩
                ·rw [if_neg c40] at H
                 exact absurd H (by simp)
          ·replace c15 := Bool.eq_false_iff.mpr c15
           subst c15
           have H1 : (if x2_1.length < 8796093022208 then (zd.l0 kj9 (x2_1 ++ [t166]) y162 (y162.length : Int) (wrap64 (x13_1 + 1))) else (none)) = some r := by rw [if_neg (show ¬ (false = true) by decide)] at H; exact H
           clear H
           have H := H1
           clear H1
           by_cases c43 : x2_1.length < 8796093022208
           ·rw [if_pos c43] at H
            have LMc43 := za.mk c43
            clear c43
            obtain ⟨y183, hy183⟩ : ∃ y_ : List ByteArray, y_ = (x2_1 ++ [t166]) := ⟨_, rfl⟩
            replace H : (zd.l0 kj9 y183 y162 (y162.length : Int) (wrap64 (x13_1 + 1))) = some r := by first | (rw [hy183]; with_reducible exact H) | (have H2_ := (Option.bind_some _ _).symm.trans H; rw [hy183]; with_reducible exact H2_) | (have H2_ := (Option.bind_some _ _).symm.trans H; with_reducible exact H2_) | with_reducible exact H | (rw [hy183]; exact H) | exact H
            have Ny183 := za.mk hy183
            clear hy183
            have H' := za.mk H
            clear H
            go_wp2_with (first | ((with_reducible refine zbb (f := 122) rfl ?_); refine zcc (some 24) rfl rfl Tryz.func122 (by kernel_rfl) rfl #[.string (rdOf ByteArray.empty y162 x13_1)] rfl (by (try simp only [List.map_toArray, List.map_cons, List.map_nil]); first | done | rfl | (simp only [List.length_drop, List.length_take]; rfl)) ?_; (with_reducible refine (zj.calls kj9 (rdOf ByteArray.empty y162 x13_1) t166 _ A13.out).mono ?_); rintro e w' ⟨rfl, ⟨nd, rfl⟩⟩; refine ⟨_, rfl, ?_⟩) | ((with_reducible refine zbb (f := 123) rfl ?_); refine zcc (some 26) rfl rfl Tryz.func123 (by kernel_rfl) rfl #[.string t166, .string (⟨#[42]⟩ : ByteArray)] rfl (by (try simp only [List.map_toArray, List.map_cons, List.map_nil]); first | done | rfl | (simp only [List.length_drop, List.length_take]; rfl)) ?_; (with_reducible refine (zyb.calls t166 (⟨#[42]⟩ : ByteArray) false _ A14.out).mono ?_); rintro e w' ⟨rfl, ⟨nd, rfl⟩⟩; refine ⟨_, rfl, ?_⟩) | ((with_reducible refine zub (b := .append) (xs := #[.tmp 64, .tmp 66]) rfl ?_); (try (refine zsb (by rfl) ?_; dsimp only)); at_builtin; refine Kd.R_append Kd.string (w0 := w) w.heap.size rfl (.tmp 64) (.tmp 66) 24 9 (.string ⟨#[]⟩) 16 rfl Tryz.underlying24 info9 rfl (by decide) (by omega) u2 x2_1 t166 [.string t166] (fun k_ => some k_ ≠ (.slice (some ad165) y162.length co6 : Value).ownBlock) (fun _ => False) rfl rfl ?aP (fun _ hk => hk.elim) ?aF ?aO ?aB ?aS ?aL ?_; (case aP => exact rfl); (case aB => exact (by repeat (first | (with_reducible first | exact HB.out | apply zg | apply ze | apply below_drew1) | exact HB.out))); (case aF => exact (fun k_ hk => Kd.fresh' (Kd.R_lt (by (with_reducible repeat (first | apply Kd.R_alloc | apply Kd.R_drewN | apply Kd.R_drew)); exact HO_11.out)) k_ hk)); (case aO => exact (by (with_reducible repeat (first | apply Kd.R_alloc | apply Kd.R_drewN | apply Kd.R_drew)); exact HO_2.out)); (case aS => exact (zab (by repeat (first | (with_reducible first | exact HB.out | apply zg | apply ze | apply below_drew1) | exact HB.out)))); (case aL => have := LMc43.out; omega); intro v184 w44 ho hb hg hat; rw [← Ny183.out] at ho; have n0_ := za.mk (Kd.R_after (ok := (fun _ => True)) (by (with_reducible repeat (first | apply Kd.R_alloc | apply Kd.R_drewN | apply Kd.R_drew)); exact Kd.R_mono HO_11.out (fun _ hk => ⟨trivial, hk⟩)) hg hat); have n1_ := za.mk (hb); have n2_ := za.mk (ho); clear HO_11; clear HB; clear HO_2; have HO_11 := n0_; have HB := n1_; have HO185 := n2_; clear n0_ n1_ n2_; clear ho hb hg hat))
            go_roundg kj9
            case measure => have := HK1.out; have := HJ9.out; omega
            case rel => exact ⟨(y183), (wrap64 (x13_1 + 1)), (by first | rfl | (simp; done) | (simp [*]; done) | (simp [zc]; done) | (simp [zc, *]; done)), H', ⟨by have := HK1.out; have := HJ9.out; omega⟩, ⟨by (with_reducible repeat (first | apply Kd.R_alloc | apply Kd.R_drewN | apply Kd.R_drew)); exact HO185.out⟩, ⟨by (with_reducible repeat (first | apply Kd.R_alloc | apply Kd.R_drewN | apply Kd.R_drew)); exact Kd.R_mono HO_11.out (fun _ hk => hk.2)⟩, ⟨by repeat (first | (with_reducible first | exact HB.out | apply zg | apply ze | apply below_drew1) | exact HB.out)⟩⟩
           ·rw [if_neg c43] at H
            exact absurd H (by simp)
      ·rw [if_neg c9] at H
       exact absurd H (by simp)
     ·rw [if_neg c8] at H
      exact absurd H (by simp)
    ·rw [if_neg c7] at H
     have c7b0 : decide (x13_1 < (y162.length : Int)) = false := decide_eq_false c7
     clear c7
     obtain rfl := Option.some.inj H
     go_wp2
     go_ret
     exact ⟨_, by first | rfl | (simp [znb, zmb] <;> rfl) | (simp [*, znb, zmb] <;> rfl) | (simp [zc]; done), by (with_reducible repeat (first | apply Kd.R_alloc | apply Kd.R_drewN | apply Kd.R_drew)); exact Kd.R_mono HO_2.out (fun _ hk => trivial), by repeat (first | (with_reducible first | exact HB.out | apply zg | apply ze | apply below_drew1) | exact HB.out)⟩
 ·rw [if_neg c3] at H
  exact absurd H (by simp)
end Go.Proofs.YtlijjnjpomnphaaGreatDoor.S
end
section
namespace Go.Proofs.YtlijjnjpomnphaaGreatDoor.S
open Go.RowKit YtlijjnjpomnphaaGreatDoorH YtlijjnjpomnphaaGreatDoorW.PrintWords YtlijjnjpomnphaaGreatDoorW.PrintLast YtlijjnjpomnphaaGreatDoorW.PrintMore
attribute [local go_sem] zgd zhd zbe zce zxc zyc zfd zid
def zx.l0 : Nat → ByteArray → List ByteArray → Int → Int → Option (List ByteArray)
 | 0, _, _, _, _ => none
 | k + 1, x0, x3, x4, x5 => if x5 < (x0.size : Int) then (if 0 ≤ x5 then (if (bt x0 x5) = 46 then (if 0 ≤ x4 then (if x4 ≤ x5 then (if x5 ≤ (x0.size : Int) then (if x3.length < 8796093022208 then (zx.l0 k x0 (x3 ++ [x0.extract (x4 : Int).toNat (x5 : Int).toNat]) (wrap64 (x5 + 1)) (wrap64 (x5 + 1))) else (none)) else (none)) else (none)) else (none)) else (if (bt x0 x5) = 95 then (if 0 ≤ x4 then (if x4 ≤ x5 then (if x5 ≤ (x0.size : Int) then (if x3.length < 8796093022208 then (zx.l0 k x0 (x3 ++ [x0.extract (x4 : Int).toNat (x5 : Int).toNat]) (wrap64 (x5 + 1)) (wrap64 (x5 + 1))) else (none)) else (none)) else (none)) else (none)) else (if (bt x0 x5) = 45 then (if 0 ≤ x4 then (if x4 ≤ x5 then (if x5 ≤ (x0.size : Int) then (if x3.length < 8796093022208 then (zx.l0 k x0 (x3 ++ [x0.extract (x4 : Int).toNat (x5 : Int).toNat]) (wrap64 (x5 + 1)) (wrap64 (x5 + 1))) else (none)) else (none)) else (none)) else (none)) else (zx.l0 k x0 x3 x4 (wrap64 (x5 + 1)))))) else (none)) else (if 0 ≤ x4 then (if x4 ≤ (x0.size : Int) then (if x3.length < 8796093022208 then (some (x3 ++ [x0.extract (x4 : Int).toNat x0.size])) else (none)) else (none)) else (none))
def zx.f (k : Nat) (a0 : ByteArray) : Option (List ByteArray) := zx.l0 k a0 ([] : List ByteArray) 0 0
theorem zx.calls (k : Nat) (a0 : ByteArray) (r : List ByteArray) (w : World) (h : zx.f k a0 = some r) :
  Calls Tryz.prog 110 #[.string a0] w fun e w' => ∃ v0_ : Value, e = .returned (v0_) ∧ Kd.R Kd.string 9 w' w.heap.size (fun _ => True) v0_ r ∧ Below w.heap.size w w' := by
 have HB := za.mk (Below.refl w.heap.size w)
 have H : (zx.l0 k a0 ([] : List ByteArray) 0 0) = some r := h
 clear h
 have H' := za.mk H
 clear H
 go_enter Tryz.func110, Tryz.ntmps110
 go_wp2
 (try simp only [Act.put, List.setIfInBounds_toArray, List.set_cons_zero, List.set_cons_succ])
 go_loopg [3, 4, 5] k (fun kq v3 v4 v5 w' => ∃ (x3_1 : List ByteArray) (x4_1 : Int) (x5_1 : Int), v4 = .int .i64 x4_1 ∧ v5 = .int .i64 x5_1 ∧ za (zx.l0 kq a0 x3_1 x4_1 x5_1 = some r) ∧ za (kq ≤ k) ∧ za (Kd.R Kd.string 9 w' w.heap.size (fun _ => True) v3 x3_1) ∧ za (Below w.heap.size w w'))
 case atStart => exact ⟨(([] : List ByteArray)), (0), (0), (by first | rfl | (simp; done) | (simp [*]; done) | (simp [zc]; done) | (simp [zc, *]; done)), (by first | rfl | (simp; done) | (simp [*]; done) | (simp [zc]; done) | (simp [zc, *]; done)), H', ⟨Nat.le_refl _⟩, ⟨by first | exact Kd.R_nil _ _ _ _ _ | exact Kd.N_nil _ _ _ _ _ | exact Kd.V_nil _ _ _ _ _ | exact Kd.Q_nil _ _ _ _ _ | exact Kd.S_nil _ _ _ _ _⟩, ⟨by repeat (first | (with_reducible first | exact HB.out | apply zg | apply ze | apply below_drew1) | exact HB.out)⟩⟩
 case round =>
  clear H'
  try clear c1
  obtain ⟨x3_1, x4_1, x5_1, rfl, rfl, HA, HK1, HO_3, HB⟩ := hrel
  cases gk with
  | zero => exact absurd HA.out (by simp [zx.l0])
  | succ k1 =>
   have H := HA.out
   clear HA
   simp only [zx.l0] at H
   by_cases c2 : x5_1 < (a0.size : Int)
   ·rw [if_pos c2] at H
    have c2b0 : decide (x5_1 < (a0.size : Int)) = true := decide_eq_true c2
    clear c2
    by_cases c3 : 0 ≤ x5_1
    ·rw [if_pos c3] at H
     have c3b0 : decide (0 ≤ x5_1) = true := decide_eq_true c3
     clear c3
     by_cases c5 : (bt a0 x5_1) = 46
     ·rw [if_pos c5] at H
      have c5b0 : ((bt a0 x5_1) == 46) = true := beq_iff_eq.mpr c5
      have c5b1 : ((bt a0 x5_1) != 46) = false := bne_eq_false_iff_eq.mpr c5
      clear c5
      by_cases c6 : 0 ≤ x4_1
      ·rw [if_pos c6] at H
       have c6b0 := eq_true c6
       have c6b1 : decide (0 ≤ x4_1) = true := decide_eq_true c6
       clear c6
       by_cases c7 : x4_1 ≤ x5_1
       ·rw [if_pos c7] at H
        have c7b0 := eq_true c7
        have c7b1 : decide (x4_1 ≤ x5_1) = true := decide_eq_true c7
        clear c7
        by_cases c8 : x5_1 ≤ (a0.size : Int)
        ·rw [if_pos c8] at H
         have c8b0 := eq_true c8
         have c8b1 : decide (x5_1 ≤ (a0.size : Int)) = true := decide_eq_true c8
         clear c8
         by_cases c9 : x3_1.length < 8796093022208
         ·rw [if_pos c9] at H
          have LMc9 := za.mk c9
          clear c9
          obtain ⟨y186, hy186⟩ : ∃ y_ : List ByteArray, y_ = (x3_1 ++ [a0.extract (x4_1 : Int).toNat (x5_1 : Int).toNat]) := ⟨_, rfl⟩
          replace H : (zx.l0 k1 a0 y186 (wrap64 (x5_1 + 1)) (wrap64 (x5_1 + 1))) = some r := by first | (rw [hy186]; with_reducible exact H) | (have H2_ := (Option.bind_some _ _).symm.trans H; rw [hy186]; with_reducible exact H2_) | (have H2_ := (Option.bind_some _ _).symm.trans H; with_reducible exact H2_) | with_reducible exact H | (rw [hy186]; exact H) | exact H
          have Ny186 := za.mk hy186
          clear hy186
          have H' := za.mk H
          clear H
          have p4 : 0 ≤ (x5_1 : Int) := of_decide_eq_true (by first | (with_reducible assumption) | assumption)
          have q4 : x5_1 < (a0.size : Int) := of_decide_eq_true (by first | (with_reducible assumption) | assumption)
          have hx4 := bt_at a0 x5_1
          replace p4 := eq_true p4
          replace q4 := eq_true q4
          go_wp2_with (first | ((with_reducible refine zub (b := .append) (xs := #[.tmp 28, .tmp 33]) rfl ?_); at_builtin; refine Kd.R_append Kd.string (w0 := w) w.heap.size rfl (.tmp 28) (.tmp 33) 24 9 (.string ⟨#[]⟩) 16 rfl Tryz.underlying24 info9 rfl (by decide) (by omega) u3 x3_1 (a0.extract (x4_1 : Int).toNat (x5_1 : Int).toNat) [.string (a0.extract (x4_1 : Int).toNat (x5_1 : Int).toNat)] (fun _ => True) (fun _ => False) rfl rfl ?aP (fun _ hk => hk.elim) ?aF ?aO ?aB ?aS ?aL ?_; (case aP => exact rfl); (case aB => exact (by repeat (first | (with_reducible first | exact HB.out | apply zg | apply ze | apply below_drew1) | exact HB.out))); (case aF => exact (fun _ _ => trivial)); (case aO => exact (by (with_reducible repeat (first | apply Kd.R_alloc | apply Kd.R_drewN | apply Kd.R_drew)); exact HO_3.out)); (case aS => exact (zab (by repeat (first | (with_reducible first | exact HB.out | apply zg | apply ze | apply below_drew1) | exact HB.out)))); (case aL => have := LMc9.out; omega); intro v187 w10 ho hb hg hat; rw [← Ny186.out] at ho; have n0_ := za.mk (hb); have n1_ := za.mk (ho); clear HB; clear HO_3; have HB := n0_; have HO188 := n1_; clear n0_ n1_; clear ho hb hg hat))
          go_roundg k1
          case measure => have := HK1.out; omega
          case rel => exact ⟨(y186), (wrap64 (x5_1 + 1)), (wrap64 (x5_1 + 1)), (by first | rfl | (simp; done) | (simp [*]; done) | (simp [zc]; done) | (simp [zc, *]; done)), (by first | rfl | (simp; done) | (simp [*]; done) | (simp [zc]; done) | (simp [zc, *]; done)), H', ⟨by have := HK1.out; omega⟩, ⟨by (with_reducible repeat (first | apply Kd.R_alloc | apply Kd.R_drewN | apply Kd.R_drew)); exact HO188.out⟩, ⟨by repeat (first | (with_reducible first | exact HB.out | apply zg | apply ze | apply below_drew1) | exact HB.out)⟩⟩
         ·rw [if_neg c9] at H
          exact absurd H (by simp)
        ·rw [if_neg c8] at H
         exact absurd H (by simp)
       ·rw [if_neg c7] at H
        exact absurd H (by simp)
      ·rw [if_neg c6] at H
       exact absurd H (by simp)
     ·rw [if_neg c5] at H
      have c5b0 : ((bt a0 x5_1) == 46) = false := beq_eq_false_iff_ne.mpr c5
      have c5b1 : ((bt a0 x5_1) != 46) = true := bne_iff_ne.mpr c5
      by_cases c12 : (bt a0 x5_1) = 95
      ·rw [if_pos c12] at H
       have c12b0 : ((bt a0 x5_1) == 95) = true := beq_iff_eq.mpr c12
       have c12b1 : ((bt a0 x5_1) != 95) = false := bne_eq_false_iff_eq.mpr c12
       clear c12
       by_cases c13 : 0 ≤ x4_1
       ·rw [if_pos c13] at H
        have c13b0 := eq_true c13
        have c13b1 : decide (0 ≤ x4_1) = true := decide_eq_true c13
        clear c13
        by_cases c14 : x4_1 ≤ x5_1
        ·rw [if_pos c14] at H
         have c14b0 := eq_true c14
         have c14b1 : decide (x4_1 ≤ x5_1) = true := decide_eq_true c14
         clear c14
         by_cases c15 : x5_1 ≤ (a0.size : Int)
         ·rw [if_pos c15] at H
          have c15b0 := eq_true c15
          have c15b1 : decide (x5_1 ≤ (a0.size : Int)) = true := decide_eq_true c15
          clear c15
          by_cases c16 : x3_1.length < 8796093022208
          ·rw [if_pos c16] at H
           have LMc16 := za.mk c16
           clear c16
           obtain ⟨y189, hy189⟩ : ∃ y_ : List ByteArray, y_ = (x3_1 ++ [a0.extract (x4_1 : Int).toNat (x5_1 : Int).toNat]) := ⟨_, rfl⟩
           replace H : (zx.l0 k1 a0 y189 (wrap64 (x5_1 + 1)) (wrap64 (x5_1 + 1))) = some r := by first | (rw [hy189]; with_reducible exact H) | (have H2_ := (Option.bind_some _ _).symm.trans H; rw [hy189]; with_reducible exact H2_) | (have H2_ := (Option.bind_some _ _).symm.trans H; with_reducible exact H2_) | with_reducible exact H | (rw [hy189]; exact H) | exact H
           have Ny189 := za.mk hy189
           clear hy189
           have H' := za.mk H
           clear H
           have p4 : 0 ≤ (x5_1 : Int) := of_decide_eq_true (by first | (with_reducible assumption) | assumption)
           have q4 : x5_1 < (a0.size : Int) := of_decide_eq_true (by first | (with_reducible assumption) | assumption)
           have hx4 := bt_at a0 x5_1
           replace p4 := eq_true p4
           replace q4 := eq_true q4
           have p11 : 0 ≤ (x5_1 : Int) := of_decide_eq_true (by first | (with_reducible assumption) | assumption)
           have q11 : x5_1 < (a0.size : Int) := of_decide_eq_true (by first | (with_reducible assumption) | assumption)
           have hx11 := bt_at a0 x5_1
           replace p11 := eq_true p11
           replace q11 := eq_true q11
           go_wp2_with (first | ((with_reducible refine zub (b := .append) (xs := #[.tmp 28, .tmp 33]) rfl ?_); at_builtin; refine Kd.R_append Kd.string (w0 := w) w.heap.size rfl (.tmp 28) (.tmp 33) 24 9 (.string ⟨#[]⟩) 16 rfl Tryz.underlying24 info9 rfl (by decide) (by omega) u3 x3_1 (a0.extract (x4_1 : Int).toNat (x5_1 : Int).toNat) [.string (a0.extract (x4_1 : Int).toNat (x5_1 : Int).toNat)] (fun _ => True) (fun _ => False) rfl rfl ?aP (fun _ hk => hk.elim) ?aF ?aO ?aB ?aS ?aL ?_; (case aP => exact rfl); (case aB => exact (by repeat (first | (with_reducible first | exact HB.out | apply zg | apply ze | apply below_drew1) | exact HB.out))); (case aF => exact (fun _ _ => trivial)); (case aO => exact (by (with_reducible repeat (first | apply Kd.R_alloc | apply Kd.R_drewN | apply Kd.R_drew)); exact HO_3.out)); (case aS => exact (zab (by repeat (first | (with_reducible first | exact HB.out | apply zg | apply ze | apply below_drew1) | exact HB.out)))); (case aL => have := LMc16.out; omega); intro v190 w17 ho hb hg hat; rw [← Ny189.out] at ho; have n0_ := za.mk (hb); have n1_ := za.mk (ho); clear HB; clear HO_3; have HB := n0_; have HO191 := n1_; clear n0_ n1_; clear ho hb hg hat))
           go_roundg k1
           case measure => have := HK1.out; omega
           case rel => exact ⟨(y189), (wrap64 (x5_1 + 1)), (wrap64 (x5_1 + 1)), (by first | rfl | (simp; done) | (simp [*]; done) | (simp [zc]; done) | (simp [zc, *]; done)), (by first | rfl | (simp; done) | (simp [*]; done) | (simp [zc]; done) | (simp [zc, *]; done)), H', ⟨by have := HK1.out; omega⟩, ⟨by (with_reducible repeat (first | apply Kd.R_alloc | apply Kd.R_drewN | apply Kd.R_drew)); exact HO191.out⟩, ⟨by repeat (first | (with_reducible first | exact HB.out | apply zg | apply ze | apply below_drew1) | exact HB.out)⟩⟩
          ·rw [if_neg c16] at H
           exact absurd H (by simp)
         ·rw [if_neg c15] at H
          exact absurd H (by simp)
        ·rw [if_neg c14] at H
         exact absurd H (by simp)
       ·rw [if_neg c13] at H
        exact absurd H (by simp)
      ·rw [if_neg c12] at H
       have c12b0 : ((bt a0 x5_1) == 95) = false := beq_eq_false_iff_ne.mpr c12
       have c12b1 : ((bt a0 x5_1) != 95) = true := bne_iff_ne.mpr c12
       by_cases c19 : (bt a0 x5_1) = 45
       ·rw [if_pos c19] at H
        have c19b0 : ((bt a0 x5_1) == 45) = true := beq_iff_eq.mpr c19
        have c19b1 : ((bt a0 x5_1) != 45) = false := bne_eq_false_iff_eq.mpr c19
        clear c19
        by_cases c20 : 0 ≤ x4_1
        ·rw [if_pos c20] at H
         have c20b0 := eq_true c20
         have c20b1 : decide (0 ≤ x4_1) = true := decide_eq_true c20
         clear c20
         by_cases c21 : x4_1 ≤ x5_1
         ·rw [if_pos c21] at H
          have c21b0 := eq_true c21
          have c21b1 : decide (x4_1 ≤ x5_1) = true := decide_eq_true c21
          clear c21
          by_cases c22 : x5_1 ≤ (a0.size : Int)
          ·rw [if_pos c22] at H
           have c22b0 := eq_true c22
           have c22b1 : decide (x5_1 ≤ (a0.size : Int)) = true := decide_eq_true c22
           clear c22
           by_cases c23 : x3_1.length < 8796093022208
           ·rw [if_pos c23] at H
            have LMc23 := za.mk c23
            clear c23
            obtain ⟨y192, hy192⟩ : ∃ y_ : List ByteArray, y_ = (x3_1 ++ [a0.extract (x4_1 : Int).toNat (x5_1 : Int).toNat]) := ⟨_, rfl⟩
            replace H : (zx.l0 k1 a0 y192 (wrap64 (x5_1 + 1)) (wrap64 (x5_1 + 1))) = some r := by first | (rw [hy192]; with_reducible exact H) | (have H2_ := (Option.bind_some _ _).symm.trans H; rw [hy192]; with_reducible exact H2_) | (have H2_ := (Option.bind_some _ _).symm.trans H; with_reducible exact H2_) | with_reducible exact H | (rw [hy192]; exact H) | exact H
            have Ny192 := za.mk hy192
            clear hy192
            have H' := za.mk H
            clear H
            have p4 : 0 ≤ (x5_1 : Int) := of_decide_eq_true (by first | (with_reducible assumption) | assumption)
            have q4 : x5_1 < (a0.size : Int) := of_decide_eq_true (by first | (with_reducible assumption) | assumption)
            have hx4 := bt_at a0 x5_1
            replace p4 := eq_true p4
            replace q4 := eq_true q4
            have p11 : 0 ≤ (x5_1 : Int) := of_decide_eq_true (by first | (with_reducible assumption) | assumption)
            have q11 : x5_1 < (a0.size : Int) := of_decide_eq_true (by first | (with_reducible assumption) | assumption)
            have hx11 := bt_at a0 x5_1
            replace p11 := eq_true p11
            replace q11 := eq_true q11
            have p18 : 0 ≤ (x5_1 : Int) := of_decide_eq_true (by first | (with_reducible assumption) | assumption)
            have q18 : x5_1 < (a0.size : Int) := of_decide_eq_true (by first | (with_reducible assumption) | assumption)
            have hx18 := bt_at a0 x5_1
            replace p18 := eq_true p18
            replace q18 := eq_true q18
            go_wp2_with (first | ((with_reducible refine zub (b := .append) (xs := #[.tmp 28, .tmp 33]) rfl ?_); at_builtin; refine Kd.R_append Kd.string (w0 := w) w.heap.size rfl (.tmp 28) (.tmp 33) 24 9 (.string ⟨#[]⟩) 16 rfl Tryz.underlying24 info9 rfl (by decide) (by omega) u3 x3_1 (a0.extract (x4_1 : Int).toNat (x5_1 : Int).toNat) [.string (a0.extract (x4_1 : Int).toNat (x5_1 : Int).toNat)] (fun _ => True) (fun _ => False) rfl rfl ?aP (fun _ hk => hk.elim) ?aF ?aO ?aB ?aS ?aL ?_; (case aP => exact rfl); (case aB => exact (by repeat (first | (with_reducible first | exact HB.out | apply zg | apply ze | apply below_drew1) | exact HB.out))); (case aF => exact (fun _ _ => trivial)); (case aO => exact (by (with_reducible repeat (first | apply Kd.R_alloc | apply Kd.R_drewN | apply Kd.R_drew)); exact HO_3.out)); (case aS => exact (zab (by repeat (first | (with_reducible first | exact HB.out | apply zg | apply ze | apply below_drew1) | exact HB.out)))); (case aL => have := LMc23.out; omega); intro v193 w24 ho hb hg hat; rw [← Ny192.out] at ho; have n0_ := za.mk (hb); have n1_ := za.mk (ho); clear HB; clear HO_3; have HB := n0_; have HO194 := n1_; clear n0_ n1_; clear ho hb hg hat))
            go_roundg k1
            case measure => have := HK1.out; omega
            case rel => exact ⟨(y192), (wrap64 (x5_1 + 1)), (wrap64 (x5_1 + 1)), (by first | rfl | (simp; done) | (simp [*]; done) | (simp [zc]; done) | (simp [zc, *]; done)), (by first | rfl | (simp; done) | (simp [*]; done) | (simp [zc]; done) | (simp [zc, *]; done)), H', ⟨by have := HK1.out; omega⟩, ⟨by (with_reducible repeat (first | apply Kd.R_alloc | apply Kd.R_drewN | apply Kd.R_drew)); exact HO194.out⟩, ⟨by repeat (first | (with_reducible first | exact HB.out | apply zg | apply ze | apply below_drew1) | exact HB.out)⟩⟩
           ·rw [if_neg c23] at H
            exact absurd H (by simp)
          ·rw [if_neg c22] at H
           exact absurd H (by simp)
         ·rw [if_neg c21] at H
          exact absurd H (by simp)
        ·rw [if_neg c20] at H
         exact absurd H (by simp)
       ·rw [if_neg c19] at H
        have c19b0 : ((bt a0 x5_1) == 45) = false := beq_eq_false_iff_ne.mpr c19
        have c19b1 : ((bt a0 x5_1) != 45) = true := bne_iff_ne.mpr c19
        have H' := za.mk H
        clear H
        have p4 : 0 ≤ (x5_1 : Int) := of_decide_eq_true (by first | (with_reducible assumption) | assumption)
        have q4 : x5_1 < (a0.size : Int) := of_decide_eq_true (by first | (with_reducible assumption) | assumption)
        have hx4 := bt_at a0 x5_1
        replace p4 := eq_true p4
        replace q4 := eq_true q4
        have p11 : 0 ≤ (x5_1 : Int) := of_decide_eq_true (by first | (with_reducible assumption) | assumption)
        have q11 : x5_1 < (a0.size : Int) := of_decide_eq_true (by first | (with_reducible assumption) | assumption)
        have hx11 := bt_at a0 x5_1
        replace p11 := eq_true p11
        replace q11 := eq_true q11
        have p18 : 0 ≤ (x5_1 : Int) := of_decide_eq_true (by first | (with_reducible assumption) | assumption)
        have q18 : x5_1 < (a0.size : Int) := of_decide_eq_true (by first | (with_reducible assumption) | assumption)
        have hx18 := bt_at a0 x5_1
        replace p18 := eq_true p18
        replace q18 := eq_true q18
        go_wp2
        go_roundg k1
        case measure => have := HK1.out; omega
        case rel => exact ⟨(x3_1), (x4_1), (wrap64 (x5_1 + 1)), (by first | rfl | (simp; done) | (simp [*]; done) | (simp [zc]; done) | (simp [zc, *]; done)), (by first | rfl | (simp; done) | (simp [*]; done) | (simp [zc]; done) | (simp [zc, *]; done)), H', ⟨by have := HK1.out; omega⟩, ⟨by (with_reducible repeat (first | apply Kd.R_alloc | apply Kd.R_drewN | apply Kd.R_drew)); exact HO_3.out⟩, ⟨by repeat (first | (with_reducible first | exact HB.out | apply zg | apply ze | apply below_drew1) | exact HB.out)⟩⟩
    ·rw [if_neg c3] at H
     exact absurd H (by simp)
   ·rw [if_neg c2] at H
    have c2b0 : decide (x5_1 < (a0.size : Int)) = false := decide_eq_false c2
    clear c2
    by_cases c25 : 0 ≤ x4_1
    ·rw [if_pos c25] at H
     have c25b0 := eq_true c25
     have c25b1 : decide (0 ≤ x4_1) = true := decide_eq_true c25
     clear c25
     by_cases c26 : x4_1 ≤ (a0.size : Int)
     ·rw [if_pos c26] at H
      have c26b0 := eq_true c26
      have c26b1 : decide (x4_1 ≤ (a0.size : Int)) = true := decide_eq_true c26
      clear c26
      by_cases c27 : x3_1.length < 8796093022208
      ·rw [if_pos c27] at H
       have LMc27 := za.mk c27
       clear c27
       obtain ⟨y195, hy195⟩ : ∃ y_ : List ByteArray, y_ = (x3_1 ++ [a0.extract (x4_1 : Int).toNat a0.size]) := ⟨_, rfl⟩
       replace H : (some y195) = some r := by first | (rw [hy195]; with_reducible exact H) | (have H2_ := (Option.bind_some _ _).symm.trans H; rw [hy195]; with_reducible exact H2_) | (have H2_ := (Option.bind_some _ _).symm.trans H; with_reducible exact H2_) | with_reducible exact H | (rw [hy195]; exact H) | exact H
       have Ny195 := za.mk hy195
       clear hy195
       obtain rfl := Option.some.inj H
       go_wp2_with (first | ((with_reducible refine zub (b := .append) (xs := #[.tmp 37, .tmp 41]) rfl ?_); at_builtin; refine Kd.R_append Kd.string (w0 := w) w.heap.size rfl (.tmp 37) (.tmp 41) 24 9 (.string ⟨#[]⟩) 16 rfl Tryz.underlying24 info9 rfl (by decide) (by omega) u3 x3_1 (a0.extract (x4_1 : Int).toNat a0.size) [.string (a0.extract (x4_1 : Int).toNat a0.size)] (fun _ => True) (fun _ => False) rfl rfl ?aP (fun _ hk => hk.elim) ?aF ?aO ?aB ?aS ?aL ?_; (case aP => exact rfl); (case aB => exact (by repeat (first | (with_reducible first | exact HB.out | apply zg | apply ze | apply below_drew1) | exact HB.out))); (case aF => exact (fun _ _ => trivial)); (case aO => exact (by (with_reducible repeat (first | apply Kd.R_alloc | apply Kd.R_drewN | apply Kd.R_drew)); exact HO_3.out)); (case aS => exact (zab (by repeat (first | (with_reducible first | exact HB.out | apply zg | apply ze | apply below_drew1) | exact HB.out)))); (case aL => have := LMc27.out; omega); intro v196 w28 ho hb hg hat; rw [← Ny195.out] at ho; have n0_ := za.mk (hb); have n1_ := za.mk (ho); clear HB; clear HO_3; have HB := n0_; have HO197 := n1_; clear n0_ n1_; clear ho hb hg hat))
       go_ret
       exact ⟨_, by first | rfl | (simp [znb, zmb] <;> rfl) | (simp [*, znb, zmb] <;> rfl) | (simp [zc]; done), by (with_reducible repeat (first | apply Kd.R_alloc | apply Kd.R_drewN | apply Kd.R_drew)); exact HO197.out, by repeat (first | (with_reducible first | exact HB.out | apply zg | apply ze | apply below_drew1) | exact HB.out)⟩
      ·rw [if_neg c27] at H
       exact absurd H (by simp)
     ·rw [if_neg c26] at H
      exact absurd H (by simp)
    ·rw [if_neg c25] at H
     exact absurd H (by simp)
def zu.l0 : Nat → List ByteArray → List ByteArray → Int → Int → Option (List ByteArray)
 | 0, _, _, _, _ => none
 | k + 1, x2, x6, x7, x8 => if x8 < x7 then (if 0 ≤ x8 then (if x8 < (x6.length : Int) then ((zpb.f (rdOf ByteArray.empty x6 x8)).bind fun t202 => (if x2.length < 8796093022208 then (zu.l0 k (x2 ++ [t202]) x6 x7 (wrap64 (x8 + 1))) else (none))) else (none)) else (none)) else (some x2)
def zu.f (k : Nat) (a0 : ByteArray) : Option (List ByteArray) := (zx.f k a0).bind fun t198 => (zu.l0 k ([] : List ByteArray) t198 (t198.length : Int) 0)
theorem zu.calls (k : Nat) (a0 : ByteArray) (r : List ByteArray) (w : World) (h : zu.f k a0 = some r) :
  Calls Tryz.prog 73 #[.string a0] w fun e w' => ∃ v0_ : Value, e = .returned (v0_) ∧ Kd.R Kd.string 9 w' w.heap.size (fun _ => True) v0_ r ∧ Below w.heap.size w w' := by
 have HB := za.mk (Below.refl w.heap.size w)
 have H : ((zx.f k a0).bind fun t198 => (zu.l0 k ([] : List ByteArray) t198 (t198.length : Int) 0)) = some r := h
 clear h
 replace H := Option.bind_eq_some_iff.mp H
 obtain ⟨t198, A20, H⟩ := H
 replace H : (zu.l0 k ([] : List ByteArray) t198 (t198.length : Int) 0) = some r := H
 have A2 := za.mk A20
 clear A20
 have H' := za.mk H
 clear H
 go_enter Tryz.func73, Tryz.ntmps73
 go_wp2_with (first | ((with_reducible refine zbb (f := 110) rfl ?_); refine zcc (some 6) rfl rfl Tryz.func110 (by kernel_rfl) rfl #[.string a0] rfl (by (try simp only [List.map_toArray, List.map_cons, List.map_nil]); first | done | rfl | (simp only [List.length_drop, List.length_take]; rfl)) ?_; (with_reducible refine (zx.calls k a0 t198 _ A2.out).mono ?_); rintro e w3 ⟨v199, rfl, ho0, hb⟩; refine ⟨_, rfl, ?_⟩; have n0_ := za.mk (Kd.R_lower ho0 (zab (by repeat (first | (with_reducible first | exact HB.out | apply zg | apply ze | apply below_drew1) | exact HB.out)))); have n1_ := za.mk (zw (by repeat (first | (with_reducible first | exact HB.out | apply zg | apply ze | apply below_drew1) | exact HB.out)) hb); clear HB; have HO200 := n0_; have HB := n1_; clear n0_ n1_; (try clear hb); (try clear hb2); (try clear hk); (try clear hi); (try clear ho0); obtain ⟨Ao4, co4, eo4⟩ := Kd.R_slice HO200.out; subst eo4))
 (try simp only [Act.put, List.setIfInBounds_toArray, List.set_cons_zero, List.set_cons_succ])
 go_loopg [2, 8] k (fun kq v2 v8 w' => ∃ (x2_1 : List ByteArray) (x8_1 : Int), v8 = .int .i64 x8_1 ∧ za (zu.l0 kq x2_1 t198 (t198.length : Int) x8_1 = some r) ∧ za (kq ≤ k) ∧ za (Kd.R Kd.string 9 w' w.heap.size (fun k_ => some k_ ≠ ((.slice Ao4 t198.length co4) : Value).ownBlock) v2 x2_1) ∧ za (Kd.R Kd.string 9 w' w.heap.size (fun k_ => some k_ ≠ (v2 : Value).ownBlock) (.slice Ao4 t198.length co4) t198) ∧ za (Below w.heap.size w w'))
 case atStart => exact ⟨(([] : List ByteArray)), (0), (by first | rfl | (simp; done) | (simp [*]; done) | (simp [zc]; done) | (simp [zc, *]; done)), H', ⟨Nat.le_refl _⟩, ⟨by first | exact Kd.R_nil _ _ _ _ _ | exact Kd.N_nil _ _ _ _ _ | exact Kd.V_nil _ _ _ _ _ | exact Kd.Q_nil _ _ _ _ _ | exact Kd.S_nil _ _ _ _ _⟩, ⟨by (with_reducible repeat (first | apply Kd.R_alloc | apply Kd.R_drewN | apply Kd.R_drew)); exact Kd.R_mono HO200.out (fun _ hk => (by simp [Value.ownBlock]))⟩, ⟨by repeat (first | (with_reducible first | exact HB.out | apply zg | apply ze | apply below_drew1) | exact HB.out)⟩⟩
 case round =>
  clear H'
  try clear c1
  try clear p2
  obtain ⟨x2_1, x8_1, rfl, HA, HK1, HO_2, HO_6, HB⟩ := hrel
  cases gk with
  | zero => exact absurd HA.out (by simp [zu.l0])
  | succ k1 =>
   have H := HA.out
   clear HA
   simp only [zu.l0] at H
   by_cases c5 : x8_1 < (t198.length : Int)
   ·rw [if_pos c5] at H
    have c5b0 : decide (x8_1 < (t198.length : Int)) = true := decide_eq_true c5
    clear c5
    by_cases c6 : 0 ≤ x8_1
    ·rw [if_pos c6] at H
     have c6b0 : decide (0 ≤ x8_1) = true := decide_eq_true c6
     clear c6
     by_cases c7 : x8_1 < (t198.length : Int)
     ·rw [if_pos c7] at H
      have c7b0 : decide (x8_1 < (t198.length : Int)) = true := decide_eq_true c7
      clear c7
      replace H := Option.bind_eq_some_iff.mp H
      obtain ⟨t202, A80, H⟩ := H
      replace H : (if x2_1.length < 8796093022208 then (zu.l0 k1 (x2_1 ++ [t202]) t198 (t198.length : Int) (wrap64 (x8_1 + 1))) else (none)) = some r := H
      have A8 := za.mk A80
      clear A80
      by_cases c9 : x2_1.length < 8796093022208
      ·rw [if_pos c9] at H
       have LMc9 := za.mk c9
       clear c9
       obtain ⟨y203, hy203⟩ : ∃ y_ : List ByteArray, y_ = (x2_1 ++ [t202]) := ⟨_, rfl⟩
       replace H : (zu.l0 k1 y203 t198 (t198.length : Int) (wrap64 (x8_1 + 1))) = some r := by first | (rw [hy203]; with_reducible exact H) | (have H2_ := (Option.bind_some _ _).symm.trans H; rw [hy203]; with_reducible exact H2_) | (have H2_ := (Option.bind_some _ _).symm.trans H; with_reducible exact H2_) | with_reducible exact H | (rw [hy203]; exact H) | exact H
       have Ny203 := za.mk hy203
       clear hy203
       have H' := za.mk H
       clear H
       have p201 : 0 ≤ (x8_1 : Int) := of_decide_eq_true (by first | (with_reducible assumption) | assumption)
       have q201 : x8_1 < (t198.length : Int) := of_decide_eq_true (by first | (with_reducible assumption) | assumption)
       obtain ⟨ad201, e201, hx201_0⟩ := Kd.at_string (Kd.R_reads' HO_6.out).2.2 x8_1 p201 q201
       cases e201
       replace p201 := eq_true p201
       replace q201 := eq_true q201
       go_wp2_with (first | ((with_reducible refine zbb (f := 66) rfl ?_); refine zcc (some 14) rfl rfl Tryz.func66 (by kernel_rfl) rfl #[.string (rdOf ByteArray.empty t198 x8_1)] rfl (by (try simp only [List.map_toArray, List.map_cons, List.map_nil]); first | done | rfl | (simp only [List.length_drop, List.length_take]; rfl)) ?_; (with_reducible refine (zpb.calls (rdOf ByteArray.empty t198 x8_1) t202 _ A8.out).mono ?_); rintro e w10 ⟨rfl, hb⟩; refine ⟨_, rfl, ?_⟩; have n0_ := za.mk (Kd.R_below (by (with_reducible repeat (first | apply Kd.R_alloc | apply Kd.R_drewN | apply Kd.R_drew)); exact HO_2.out) hb); have n1_ := za.mk (Kd.R_below (by (with_reducible repeat (first | apply Kd.R_alloc | apply Kd.R_drewN | apply Kd.R_drew)); exact HO_6.out) hb); have n2_ := za.mk (zw (by repeat (first | (with_reducible first | exact HB.out | apply zg | apply ze | apply below_drew1) | exact HB.out)) hb); clear HO_2; clear HO_6; clear HB; have HO_2 := n0_; have HO_6 := n1_; have HB := n2_; clear n0_ n1_ n2_; (try clear hb); (try clear hb2); (try clear hk); (try clear hi)) | ((with_reducible refine zub (b := .append) (xs := #[.tmp 12, .tmp 15]) rfl ?_); at_builtin; refine Kd.R_append Kd.string (w0 := w) w.heap.size rfl (.tmp 12) (.tmp 15) 24 9 (.string ⟨#[]⟩) 16 rfl Tryz.underlying24 info9 rfl (by decide) (by omega) u2 x2_1 t202 [.string t202] (fun k_ => some k_ ≠ (.slice (some ad201) t198.length co4 : Value).ownBlock) (fun _ => False) rfl rfl ?aP (fun _ hk => hk.elim) ?aF ?aO ?aB ?aS ?aL ?_; (case aP => exact rfl); (case aB => exact (by repeat (first | (with_reducible first | exact HB.out | apply zg | apply ze | apply below_drew1) | exact HB.out))); (case aF => exact (fun k_ hk => Kd.fresh' (Kd.R_lt (by (with_reducible repeat (first | apply Kd.R_alloc | apply Kd.R_drewN | apply Kd.R_drew)); exact HO_6.out)) k_ hk)); (case aO => exact (by (with_reducible repeat (first | apply Kd.R_alloc | apply Kd.R_drewN | apply Kd.R_drew)); exact HO_2.out)); (case aS => exact (zab (by repeat (first | (with_reducible first | exact HB.out | apply zg | apply ze | apply below_drew1) | exact HB.out)))); (case aL => have := LMc9.out; omega); intro v204 w11 ho hb hg hat; rw [← Ny203.out] at ho; have n0_ := za.mk (Kd.R_after (ok := (fun _ => True)) (by (with_reducible repeat (first | apply Kd.R_alloc | apply Kd.R_drewN | apply Kd.R_drew)); exact Kd.R_mono HO_6.out (fun _ hk => ⟨trivial, hk⟩)) hg hat); have n1_ := za.mk (hb); have n2_ := za.mk (ho); clear HO_6; clear HB; clear HO_2; have HO_6 := n0_; have HB := n1_; have HO205 := n2_; clear n0_ n1_ n2_; clear ho hb hg hat))
       go_roundg k1
       case measure => have := HK1.out; omega
       case rel => exact ⟨(y203), (wrap64 (x8_1 + 1)), (by first | rfl | (simp; done) | (simp [*]; done) | (simp [zc]; done) | (simp [zc, *]; done)), H', ⟨by have := HK1.out; omega⟩, ⟨by (with_reducible repeat (first | apply Kd.R_alloc | apply Kd.R_drewN | apply Kd.R_drew)); exact HO205.out⟩, ⟨by (with_reducible repeat (first | apply Kd.R_alloc | apply Kd.R_drewN | apply Kd.R_drew)); exact Kd.R_mono HO_6.out (fun _ hk => hk.2)⟩, ⟨by repeat (first | (with_reducible first | exact HB.out | apply zg | apply ze | apply below_drew1) | exact HB.out)⟩⟩
      ·rw [if_neg c9] at H
       exact absurd H (by simp)
     ·rw [if_neg c7] at H
      exact absurd H (by simp)
    ·rw [if_neg c6] at H
     exact absurd H (by simp)
   ·rw [if_neg c5] at H
    have c5b0 : decide (x8_1 < (t198.length : Int)) = false := decide_eq_false c5
    clear c5
    obtain rfl := Option.some.inj H
    go_wp2
    go_ret
    exact ⟨_, by first | rfl | (simp [znb, zmb] <;> rfl) | (simp [*, znb, zmb] <;> rfl) | (simp [zc]; done), by (with_reducible repeat (first | apply Kd.R_alloc | apply Kd.R_drewN | apply Kd.R_drew)); exact Kd.R_mono HO_2.out (fun _ hk => trivial), by repeat (first | (with_reducible first | exact HB.out | apply zg | apply ze | apply below_drew1) | exact HB.out)⟩
end Go.Proofs.YtlijjnjpomnphaaGreatDoor.S
end
section
namespace Go.Proofs.YtlijjnjpomnphaaGreatDoorY
open Go.RowKit YtlijjnjpomnphaaGreatDoorH YtlijjnjpomnphaaGreatDoorB YtlijjnjpomnphaaGreatDoorM YtlijjnjpomnphaaGreatDoorP YtlijjnjpomnphaaGreatDoor.S YtlijjnjpomnphaaGreatDoorW.PrintWords YtlijjnjpomnphaaGreatDoorW.PrintLast
theorem zoe (c : Int) : zdb.f c = some (isD c) := by
 unfold zdb.f isD
 by_cases h : c ≥ 48
 ·rw [if_pos h]; simp; omega
 ·rw [if_neg h]; simp; omega
theorem zlg (s : ByteArray) (hs : s.size ≤ 2000000000) : ∀ (n i : Nat), s.size - i = n → i ≤ s.size →
  Ev (fun k => zq.l0 k s (i : Int)) ((i + run isD ((bytesOf s).drop i) : Nat) : Int) := by
 intro n
 induction n with
 | zero =>
  intro i hn hi
  refine Ev.succ ?_
  simp only [zq.l0]
  refine Ev.neg (fun _ => by omega) ?_
  refine Ev.eq (Ev.now _) ?_
  rw [List.drop_of_length_le (by rw [bytesOf_length]; omega), zsf]
  rfl
 | succ n ih =>
  intro i hn hi
  have hl : i < (bytesOf s).length := by rw [bytesOf_length]; omega
  refine Ev.succ ?_
  simp only [zq.l0, zdd, zoe, Option.bind_some]
  refine Ev.pos (fun _ => by omega) ?_
  refine Ev.pos (fun _ => by omega) ?_
  rw [zkc _ _ hl]
  cases hd : isD ((bytesOf s).getD i 0)
  ·refine Ev.neg (fun _ => Bool.false_ne_true) ?_
   refine Ev.eq (Ev.now _) ?_
   rw [zqc hd]
   rfl
  ·refine Ev.pos (fun _ => rfl) ?_
   rw [w64 (by omega) (by omega), zed hd]
   refine Ev.eq (ih (i + 1) (by omega) (by omega)) ?_
   have : i + 1 + run isD ((bytesOf s).drop (i + 1)) = i + (run isD ((bytesOf s).drop (i + 1)) + 1) := by omega
   rw [this]
theorem zpe (s : ByteArray) (hs : s.size ≤ 2000000000) (i : Nat) (hi : i ≤ s.size) : Ev (fun k => zq.f k s (i : Int)) ((i + run isD ((bytesOf s).drop i) : Nat) : Int) := zlg s hs _ i rfl hi
theorem if_an {α : Type} (c : Int) (X Y : α) : (if isD c = true then X else if c ≥ 97 then (if c ≤ 122 then X else Y) else Y) = if isAn c = true then X else Y := by
 unfold isAn isL
 cases isD c
 ·by_cases h1 : c ≥ 97
  ·by_cases h2 : c ≤ 122
   ·simp [h1, h2]
   ·simp [h1, h2]
  ·simp [h1]
 ·simp
theorem alnum_from (s : ByteArray) (hs : s.size ≤ 2000000000) : ∀ (n i : Nat), s.size - i = n → i ≤ s.size →
  Ev (fun k => zy.l0 k s (i : Int)) ((i + run isAn ((bytesOf s).drop i) : Nat) : Int) := by
 intro n
 induction n with
 | zero =>
  intro i hn hi
  refine Ev.succ ?_
  simp only [zy.l0]
  refine Ev.neg (fun _ => by omega) ?_
  refine Ev.eq (Ev.now _) ?_
  rw [List.drop_of_length_le (by rw [bytesOf_length]; omega), zsf]
  rfl
 | succ n ih =>
  intro i hn hi
  have hl : i < (bytesOf s).length := by rw [bytesOf_length]; omega
  refine Ev.succ ?_
  simp only [zy.l0, zdd, zoe, Option.bind_some, if_an]
  refine Ev.pos (fun _ => by omega) ?_
  refine Ev.pos (fun _ => by omega) ?_
  rw [zkc _ _ hl]
  cases hd : isAn ((bytesOf s).getD i 0)
  ·refine Ev.neg (fun _ => Bool.false_ne_true) ?_
   refine Ev.eq (Ev.now _) ?_
   rw [zqc hd]
   rfl
  ·refine Ev.pos (fun _ => rfl) ?_
   rw [w64 (by omega) (by omega), zed hd]
   refine Ev.eq (ih (i + 1) (by omega) (by omega)) ?_
   have : i + 1 + run isAn ((bytesOf s).drop (i + 1)) = i + (run isAn ((bytesOf s).drop (i + 1)) + 1) := by omega
   rw [this]
theorem alnum_ev (s : ByteArray) (hs : s.size ≤ 2000000000) (i : Nat) (hi : i ≤ s.size) : Ev (fun k => zy.f k s (i : Int)) ((i + run isAn ((bytesOf s).drop i) : Nat) : Int) := alnum_from s hs _ i rfl hi
theorem if_bl {α : Type} (c : Int) (X Y : α) : (if c = 32 then X else if c = 9 then X else if c = 10 then X else if c = 12 then X else if c = 13 then X else Y) = if isBl c = true then X else Y := by
 unfold isBl
 by_cases h1 : c = 32
 ·simp [h1]
 by_cases h2 : c = 9
 ·simp [h2]
 by_cases h3 : c = 10
 ·simp [h3]
 by_cases h4 : c = 12
 ·simp [h4]
 by_cases h5 : c = 13
 ·simp [h5]
 simp [h1, h2, h3, h4, h5]
theorem blanks_from (s : ByteArray) (hs : s.size ≤ 2000000000) : ∀ (n i : Nat), s.size - i = n → i ≤ s.size →
  Ev (fun k => zp.l0 k s (i : Int)) ((i + run isBl ((bytesOf s).drop i) : Nat) : Int) := by
 intro n
 induction n with
 | zero =>
  intro i hn hi
  refine Ev.succ ?_
  simp only [zp.l0]
  refine Ev.neg (fun _ => by omega) ?_
  refine Ev.eq (Ev.now _) ?_
  rw [List.drop_of_length_le (by rw [bytesOf_length]; omega), zsf]
  rfl
 | succ n ih =>
  intro i hn hi
  have hl : i < (bytesOf s).length := by rw [bytesOf_length]; omega
  refine Ev.succ ?_
  simp only [zp.l0, zdd, if_bl]
  refine Ev.pos (fun _ => by omega) ?_
  refine Ev.pos (fun _ => by omega) ?_
  rw [zkc _ _ hl]
  cases hd : isBl ((bytesOf s).getD i 0)
  ·refine Ev.neg (fun _ => Bool.false_ne_true) ?_
   refine Ev.eq (Ev.now _) ?_
   rw [zqc hd]
   rfl
  ·refine Ev.pos (fun _ => rfl) ?_
   rw [w64 (by omega) (by omega), zed hd]
   refine Ev.eq (ih (i + 1) (by omega) (by omega)) ?_
   have : i + 1 + run isBl ((bytesOf s).drop (i + 1)) = i + (run isBl ((bytesOf s).drop (i + 1)) + 1) := by omega
   rw [this]
theorem blanks_ev (s : ByteArray) (hs : s.size ≤ 2000000000) (i : Nat) (hi : i ≤ s.size) : Ev (fun k => zp.f k s (i : Int)) ((i + run isBl ((bytesOf s).drop i) : Nat) : Int) := blanks_from s hs _ i rfl hi
def mkN : List Int → Nat
 | [] => 0
 | c :: _ => if isMk c = true then 1 else 0
theorem unmk_drop (l : List Int) : unmk l = l.drop (mkN l) := by
 cases l with
 | nil => rfl
 | cons c r =>
  show (if isMk c = true then r else c :: r) = (c :: r).drop (if isMk c = true then 1 else 0)
  cases isMk c <;> rfl
theorem mkN_le (l : List Int) : mkN l ≤ l.length := by
 cases l with
 | nil => exact Nat.le_refl _
 | cons c r =>
  show (if isMk c = true then 1 else 0) ≤ r.length + 1
  cases isMk c <;> simp
theorem mark_eq (s : ByteArray) (hs : s.size ≤ 2000000000) (i : Nat) (hi : i ≤ s.size) : zib.f s (i : Int) = some ((i + mkN ((bytesOf s).drop i) : Nat) : Int) := by
 unfold zib.f
 by_cases h : i < s.size
 ·have hl : i < (bytesOf s).length := by rw [bytesOf_length]; omega
  rw [if_pos (by omega), if_pos (by omega), zdd, zkc _ _ hl, w64 (by omega) (by omega)]
  generalize (bytesOf s).getD i 0 = c
  show (if c = 45 then some ((i : Int) + 1) else if c = 95 then some ((i : Int) + 1) else if c = 46 then some ((i : Int) + 1) else some (i : Int)) = some ((i + (if isMk c = true then 1 else 0) : Nat) : Int)
  by_cases hm : isMk c = true
  ·rw [if_pos hm]
   have h2 : c = 46 ∨ c = 95 ∨ c = 45 := by simpa [isMk] using hm
   rcases h2 with rfl | rfl | rfl <;> simp
  ·rw [if_neg hm]
   have h2 : ¬ (c = 46 ∨ c = 95 ∨ c = 45) := by simpa [isMk] using hm
   rw [if_neg (fun e => h2 (.inr (.inr e))), if_neg (fun e => h2 (.inr (.inl e))), if_neg (fun e => h2 (.inl e))]
   rfl
 ·rw [if_neg (by omega), List.drop_of_length_le (by rw [bytesOf_length]; omega)]
  rfl
theorem pref_take : ∀ (w l : List Int), pref w l = decide (w.length ≤ l.length ∧ l.take w.length = w)
 | [], l => by simp [pref]
 | x :: w, [] => by simp [pref]
 | x :: w, c :: l => by
  simp only [pref, pref_take w l, List.length_cons, List.take_succ_cons, List.cons.injEq, Nat.add_le_add_iff_right]
  by_cases h : x = c
  ·simp [h]
  ·have : ¬ c = x := fun e => h e.symm
   simp [h, this]
theorem has_eq (s : ByteArray) (hs : s.size ≤ 2000000000) (i : Nat) (hi : i ≤ s.size) (w : ByteArray) (hw : w.size ≤ 1000) : zbc.f s (i : Int) w = some (pref (bytesOf w) ((bytesOf s).drop i)) := by
 unfold zbc.f
 rw [pref_take, List.length_drop, bytesOf_length, bytesOf_length]
 by_cases h : w.size ≤ s.size - i
 ·rw [w64 (by omega) (by omega), w64 (by omega) (by omega), if_pos (by omega), if_pos (by omega), if_pos (by omega), if_pos (by omega)]
  congr 1
  rw [show ((i : Int) + (w.size : Int)).toNat = i + w.size by omega, Int.toNat_natCast]
  have e : ((s.extract i (i + w.size)).toList == w.toList) = decide (bytesOf (s.extract i (i + w.size)) = bytesOf w) := by
   rw [Bool.eq_iff_iff, beq_iff_eq, decide_eq_true_iff, zie]
  rw [e, zrc, show i + w.size - i = w.size by omega]
  simp [h]
 ·rw [w64 (by omega) (by omega), if_neg (by omega)]
  simp [h]
def optW (a b : List Int) : Option (List Int × List Int) := if a = [] then none else some (a, b)
theorem sz_B (w : ByteArray) : w.size = (bytesOf w).length := (bytesOf_length w).symm
theorem lettered_done (s : ByteArray) (hs : s.size ≤ 2000000000) (i m : Nat) (ws : List ByteArray) (hn : ws.length ≤ 100) (x : ByteArray) (hx : bytesOf x ≠ []) (hm : m + x.size ≤ s.size) : ∀ (n j : Nat), ws.length - j = n → j ≤ ws.length →
  ∀ d e : Nat, d = m + x.size + mkN ((bytesOf s).drop (m + x.size)) → e = d + run isD ((bytesOf s).drop d) → Ev (fun k => zn.l0 k s (i : Int) x (m : Int) ws (ws.length : Int) (j : Int)) (x, s.extract d e, (e : Int)) := by
 have hx2 : ¬ x.toList = ([] : List UInt8) := fun e => hx ((zgc x).1 e)
 intro n
 induction n with
 | zero =>
  intro j hj hjl d e hd he
  have hd1 : d ≤ s.size := by
   have hmk := mkN_le ((bytesOf s).drop (m + x.size))
   rw [List.length_drop, bytesOf_length] at hmk
   generalize mkN ((bytesOf s).drop (m + x.size)) = g at hd hmk
   omega
  have he1 : d ≤ e ∧ e ≤ s.size := by
   have hr := zle isD ((bytesOf s).drop d)
   rw [List.length_drop, bytesOf_length] at hr
   generalize run isD ((bytesOf s).drop d) = g at he hr
   omega
  refine Ev.succ ?_
  simp only [zn.l0]
  refine Ev.neg (fun _ => by omega) ?_
  refine Ev.neg (fun _ => hx2) ?_
  have e1 : wrap64 ((m : Int) + (x.size : Int)) = ((m + x.size : Nat) : Int) := by rw [w64 (by omega) (by omega)]; omega
  rw [e1]
  refine Ev.bind0 (mark_eq s hs (m + x.size) hm) ?_
  rw [← hd]
  have D := zpe s hs d hd1
  rw [← he] at D
  clear hd he
  refine Ev.bind D ?_
  refine Ev.pos (fun _ => by omega) ?_
  refine Ev.pos (fun _ => by omega) ?_
  refine Ev.pos (fun _ => by omega) ?_
  refine Ev.eq (Ev.now _) ?_
  rw [Int.toNat_natCast, Int.toNat_natCast]
 | succ n ih =>
  intro j hj hjl d e hd he
  refine Ev.succ ?_
  simp only [zn.l0]
  refine Ev.pos (fun _ => by omega) ?_
  refine Ev.pos (fun _ => by omega) ?_
  refine Ev.pos (fun _ => by omega) ?_
  refine Ev.neg (fun _ => hx2) ?_
  rw [w64 (by omega) (by omega)]
  exact ih (j + 1) (by omega) (by omega) d e hd he
theorem lettered_find (s : ByteArray) (hs : s.size ≤ 2000000000) (i m : Nat) (hi : i ≤ s.size) (hm : m ≤ s.size) (ws : List ByteArray) (hn : ws.length ≤ 100) (hw : ∀ w ∈ ws, bytesOf w ≠ [] ∧ w.size ≤ 1000) : ∀ (n j : Nat), ws.length - j = n → j ≤ ws.length →
  ∃ (a b : ByteArray) (e : Nat), Ev (fun k => zn.l0 k s (i : Int) (⟨#[]⟩ : ByteArray) (m : Int) ws (ws.length : Int) (j : Int)) (a, b, (e : Int)) ∧ e ≤ s.size ∧ b.size ≤ s.size ∧ (bytesOf a = [] → bytesOf b = []) ∧ (bytesOf a = [] ∨ a ∈ ws) ∧
   (match zuc ((ws.drop j).map bytesOf) ((bytesOf s).drop m) with
    | none => a = ⟨#[]⟩ ∧ b = ⟨#[]⟩ ∧ e = i
    | some w => bytesOf a = w ∧ (some (bytesOf a, bytesOf b), (bytesOf s).drop e) = tail_ w ((bytesOf s).drop m)) := by
 intro n
 induction n with
 | zero =>
  intro j hj hjl
  refine ⟨⟨#[]⟩, ⟨#[]⟩, i, ?_, hi, Nat.zero_le _, fun h => h, .inl rfl, ?_⟩
  ·refine Ev.succ ?_
   simp only [zn.l0]
   refine Ev.neg (fun _ => by omega) ?_
   refine Ev.pos (fun _ => (zgc _).2 rfl) ?_
   exact Ev.now _
  ·rw [List.drop_of_length_le (by omega)]
   exact ⟨rfl, rfl, rfl⟩
 | succ n ih =>
  intro j hj hjl
  obtain ⟨w, hwj⟩ : ∃ w, ws[j]? = some w := ⟨_, List.getElem?_eq_getElem (by omega)⟩
  have hwm : w ∈ ws := List.mem_of_getElem? hwj
  have hrd : rdOf ByteArray.empty ws (j : Int) = w := by
   unfold rdOf
   rw [Int.toNat_natCast, List.getD_eq_getElem?_getD, hwj]; rfl
  have hdj : ws.drop j = w :: ws.drop (j + 1) := by
   have hlt : j < ws.length := by omega
   rw [List.drop_eq_getElem_cons hlt]
   congr 1
   have := List.getElem?_eq_getElem hlt
   rw [hwj] at this
   exact (Option.some.inj this).symm
  rw [hdj, List.map_cons]
  simp only [zuc]
  by_cases hp : pref (bytesOf w) ((bytesOf s).drop m) = true
  ·rw [if_pos hp]
   have hlen : (bytesOf w).length ≤ s.size - m := by
    rw [pref_take, decide_eq_true_eq, List.length_drop, ← sz_B s] at hp
    exact hp.1
   rw [bytesOf_length] at hlen
   obtain ⟨d, hd⟩ : ∃ d, d = m + w.size + mkN ((bytesOf s).drop (m + w.size)) := ⟨_, rfl⟩
   obtain ⟨e, he⟩ : ∃ e, e = d + run isD ((bytesOf s).drop d) := ⟨_, rfl⟩
   have hd1 : d ≤ s.size := by
    have hmk := mkN_le ((bytesOf s).drop (m + w.size))
    rw [List.length_drop, bytesOf_length] at hmk
    generalize mkN ((bytesOf s).drop (m + w.size)) = g at hd hmk
    omega
   have he1 : d ≤ e ∧ e ≤ s.size := by
    have hr := zle isD ((bytesOf s).drop d)
    rw [List.length_drop, bytesOf_length] at hr
    generalize run isD ((bytesOf s).drop d) = g at he hr
    omega
   refine ⟨w, s.extract d e, e, ?_, he1.2, ?_, fun h => absurd h (hw w hwm).1, .inr hwm, rfl, ?_⟩
   ·refine Ev.succ ?_
    simp only [zn.l0]
    refine Ev.pos (fun _ => by omega) ?_
    refine Ev.pos (fun _ => by omega) ?_
    refine Ev.pos (fun _ => by omega) ?_
    refine Ev.pos (fun _ => (zgc _).2 rfl) ?_
    rw [hrd]
    refine Ev.bind0 (has_eq s hs m hm w (hw w hwm).2) ?_
    refine Ev.pos (fun _ => hp) ?_
    rw [w64 (by omega) (by omega)]
    exact lettered_done s hs i m ws hn w (hw w hwm).1 (by omega) _ (j + 1) rfl (by omega) d e hd he
   ·rw [sz_B, zrc, List.length_take, List.length_drop, bytesOf_length]; omega
   ·unfold tail_ dg dr
    have hu : unmk (((bytesOf s).drop m).drop (bytesOf w).length) = (bytesOf s).drop d := by rw [List.drop_drop, bytesOf_length, unmk_drop, List.drop_drop, ← hd]
    rw [hu, List.drop_drop, zrc, he, show d + run isD ((bytesOf s).drop d) - d = run isD ((bytesOf s).drop d) by omega]
  ·rw [if_neg hp]
   obtain ⟨a, b, e, h1, h2⟩ := ih (j + 1) (by omega) (by omega)
   refine ⟨a, b, e, ?_, h2⟩
   refine Ev.succ ?_
   simp only [zn.l0]
   refine Ev.pos (fun _ => by omega) ?_
   refine Ev.pos (fun _ => by omega) ?_
   refine Ev.pos (fun _ => by omega) ?_
   refine Ev.pos (fun _ => (zgc _).2 rfl) ?_
   rw [hrd]
   refine Ev.bind0 (has_eq s hs m hm w (hw w hwm).2) ?_
   refine Ev.neg (fun _ => hp) ?_
   rw [w64 (by omega) (by omega)]
   exact h1
theorem zpg (s : ByteArray) (hs : s.size ≤ 2000000000) (i : Nat) (hi : i ≤ s.size) (ws : List ByteArray) (hn : ws.length ≤ 100) (hw : ∀ w ∈ ws, bytesOf w ≠ [] ∧ w.size ≤ 1000) :
  ∃ (a b : ByteArray) (e : Nat), Ev (fun k => zn.f k s (i : Int) ws) (a, b, (e : Int)) ∧ e ≤ s.size ∧ b.size ≤ s.size ∧ (bytesOf a = [] → bytesOf b = []) ∧ (bytesOf a = [] ∨ a ∈ ws) ∧ (optW (bytesOf a) (bytesOf b), (bytesOf s).drop e) = zzc (ws.map bytesOf) ((bytesOf s).drop i) := by
 have hmk := mkN_le ((bytesOf s).drop i)
 rw [List.length_drop, bytesOf_length] at hmk
 obtain ⟨a, b, e, h1, h2, h3, h4, h5, h6⟩ := lettered_find s hs i (i + mkN ((bytesOf s).drop i)) hi (by omega) ws hn hw _ 0 rfl (Nat.zero_le _)
 refine ⟨a, b, e, ?_, h2, h3, h4, h5, ?_⟩
 ·simp only [zn.f]
  exact Ev.bind0 (mark_eq s hs i hi) h1
 ·unfold zzc
  rw [unmk_drop, List.drop_drop]
  rw [List.drop_zero] at h6
  cases hq : zuc (ws.map bytesOf) ((bytesOf s).drop (i + mkN ((bytesOf s).drop i))) with
  | none =>
   rw [hq] at h6
   obtain ⟨rfl, rfl, rfl⟩ := h6
   rfl
  | some w =>
   rw [hq] at h6
   obtain ⟨h7, h8⟩ := h6
   have hne : bytesOf a ≠ [] := by
    rcases zpf hq with ⟨hm, _⟩
    obtain ⟨v, hv, rfl⟩ := List.mem_map.1 hm
    rw [h7]; exact (hw v hv).1
   show (optW (bytesOf a) (bytesOf b), (bytesOf s).drop e) = tail_ w _
   unfold optW
   rw [if_neg hne]
   exact h8
end Go.Proofs.YtlijjnjpomnphaaGreatDoorY
end
section
namespace Go.Proofs.YtlijjnjpomnphaaGreatDoorY
open Go.RowKit YtlijjnjpomnphaaGreatDoorH YtlijjnjpomnphaaGreatDoorB YtlijjnjpomnphaaGreatDoorM YtlijjnjpomnphaaGreatDoorP YtlijjnjpomnphaaGreatDoor.S YtlijjnjpomnphaaGreatDoorW.PrintWords YtlijjnjpomnphaaGreatDoorW.PrintLast
theorem ltZ {m z : Nat} (h : m < z) : ((m : Nat) : Int) < (z : Int) := by omega
theorem zeZ (m : Nat) : (0 : Int) ≤ ((m : Nat) : Int) := by omega
theorem w64s {m z : Nat} (hz : z ≤ 2000000000) (hm : m ≤ z) : wrap64 ((m : Int) + 1) = ((m + 1 : Nat) : Int) := by rw [w64 (by omega) (by omega)]; omega
theorem dg_ne {l : List Int} (h : run isD l ≠ 0) : dg l ≠ [] := by
 unfold dg
 exact take_run_ne h
theorem dg_split (l : List Int) : zqb isPt (dg l) = [dg l] := splitP_one (fun c hc => isD_pt (run_mem hc))
theorem rel_ev (s : ByteArray) (hs : s.size ≤ 2000000000) (x4 : Int) : ∀ (n p : Nat), p ≤ s.size → s.size - p ≤ n →
  ∃ q : Nat, q ≤ s.size ∧ p + run isD ((bytesOf s).drop p) ≤ q ∧ (bytesOf s).drop q = (rels n ((bytesOf s).drop p)).2 ∧ zqb isPt (((bytesOf s).drop p).take (q - p)) = (rels n ((bytesOf s).drop p)).1 ∧
   ∀ (y0 : Bool) (y1 y2 y3 y4 y5 y6 y7 y8 y9 y10 : ByteArray) R, Ev (fun k => zb.j5 k s x4 (q : Int) y0 y1 y2 y3 y4 y5 y6 y7 y8 y9 y10) R →
    Ev (fun k => zb.l0 k s x4 ((p + run isD ((bytesOf s).drop p) : Nat) : Int) y0 y1 y2 y3 y4 y5 y6 y7 y8 y9 y10) R := by
 intro n
 induction n with
 | zero =>
  intro p hp hn
  have e : (bytesOf s).drop p = [] := List.drop_of_length_le (by rw [bytesOf_length]; omega)
  refine ⟨p, hp, ?_, ?_, ?_, ?_⟩
  ·rw [e]; exact Nat.le_refl _
  ·rw [e]; rfl
  ·rw [e, Nat.sub_self]; rfl
  ·intro y0 y1 y2 y3 y4 y5 y6 y7 y8 y9 y10 R h
   rw [e, zsf, Nat.add_zero]
   refine Ev.succ ?_
   simp only [zb.l0]
   refine Ev.neg (fun _ => by rw [w64 (by omega) (by omega)]; omega) ?_
   exact h
 | succ n ih =>
  intro p hp hn
  have hr := zle isD ((bytesOf s).drop p)
  rw [List.length_drop, bytesOf_length] at hr
  obtain ⟨m, hm⟩ : ∃ m, m = p + run isD ((bytesOf s).drop p) := ⟨_, rfl⟩
  rw [← hm]
  have hms : m ≤ s.size := by omega
  have hdr : dr ((bytesOf s).drop p) = (bytesOf s).drop m := by unfold dr; rw [List.drop_drop, ← hm]
  have hdg : ((bytesOf s).drop p).take (m - p) = dg ((bytesOf s).drop p) := by unfold dg; rw [hm, Nat.add_sub_cancel_left]
  have hE : rels (n + 1) ((bytesOf s).drop p) = (match (bytesOf s).drop m with
    | [] => ([dg ((bytesOf s).drop p)], [])
    | c :: r => if c = 46 ∧ run isD r ≠ 0 then (dg ((bytesOf s).drop p) :: (rels n r).1, (rels n r).2) else ([dg ((bytesOf s).drop p)], c :: r)) := by rw [← hdr]; rfl
  have stop : (¬ ∃ r, (bytesOf s).drop m = 46 :: r ∧ run isD r ≠ 0) → rels (n + 1) ((bytesOf s).drop p) = ([dg ((bytesOf s).drop p)], (bytesOf s).drop m) := by
   intro hno
   rw [hE]
   cases hq : (bytesOf s).drop m with
   | nil => rfl
   | cons c r =>
    have : ¬ (c = 46 ∧ run isD r ≠ 0) := fun h => hno ⟨r, by rw [hq, h.1], h.2⟩
    show (if c = 46 ∧ run isD r ≠ 0 then _ else _) = _
    rw [if_neg this]
  by_cases hc : ∃ r, (bytesOf s).drop m = 46 :: r ∧ run isD r ≠ 0
  ·obtain ⟨r, hq, hrn⟩ := hc
   have hlt : m < s.size := by
    rcases Nat.lt_or_ge m s.size with h | h
    ·exact h
    ·rw [List.drop_of_length_le (by rw [bytesOf_length]; omega)] at hq; cases hq
   have hl : m < (bytesOf s).length := by rw [bytesOf_length]; omega
   have hq2 := zkc _ _ hl
   rw [hq] at hq2
   injection hq2 with hc1 hr1
   have hlt2 : m + 1 < s.size := by
    rcases Nat.lt_or_ge (m + 1) s.size with h | h
    ·exact h
    ·rw [List.drop_of_length_le (by rw [bytesOf_length]; omega)] at hr1; rw [hr1] at hrn; exact absurd rfl hrn
   have hl2 : m + 1 < (bytesOf s).length := by rw [bytesOf_length]; omega
   have hd1 : isD ((bytesOf s).getD (m + 1) 0) = true := by
    cases hx : isD ((bytesOf s).getD (m + 1) 0) with
    | true => rfl
    | false => rw [hr1, zkc _ _ hl2, zqc hx] at hrn; exact absurd rfl hrn
   obtain ⟨q, h1, h2, h3, h4, h5⟩ := ih (m + 1) (by omega) (by omega)
   have hrels : rels (n + 1) ((bytesOf s).drop p) = (dg ((bytesOf s).drop p) :: (rels n ((bytesOf s).drop (m + 1))).1, (rels n ((bytesOf s).drop (m + 1))).2) := by
    rw [hE, hq]
    show (if (46 : Int) = 46 ∧ run isD r ≠ 0 then _ else _) = _
    rw [if_pos ⟨rfl, hrn⟩, ← hr1]
   refine ⟨q, h1, by omega, by rw [hrels]; exact h3, ?_, ?_⟩
   ·rw [hrels]
    have e : ((bytesOf s).drop p).take (q - p) = dg ((bytesOf s).drop p) ++ 46 :: (((bytesOf s).drop (m + 1)).take (q - (m + 1))) := by
     rw [← hdg]
     rw [show q - p = (m - p) + (q - m) by omega, List.take_add, List.drop_drop, show p + (m - p) = m by omega, hq, show q - m = (q - (m + 1)) + 1 by omega, List.take_succ_cons, hr1]
    rw [e, splitP_pt, dg_split, h4]
    rfl
   ·intro y0 y1 y2 y3 y4 y5 y6 y7 y8 y9 y10 R h
    have a1 : ((m + 1 : Nat) : Int) < (s.size : Int) := ltZ hlt2
    have a2 : (0 : Int) ≤ ((m : Nat) : Int) := zeZ m
    have a3 : ((m : Nat) : Int) < (s.size : Int) := ltZ (Nat.lt_of_succ_lt hlt2)
    have a4 : (0 : Int) ≤ ((m + 1 : Nat) : Int) := zeZ _
    have e1 : wrap64 ((m : Int) + 1) = ((m + 1 : Nat) : Int) := w64s hs hms
    have h6 := h5 y0 y1 y2 y3 y4 y5 y6 y7 y8 y9 y10 R h
    have D := zpe s hs (m + 1) (Nat.le_of_lt hlt2)
    refine Ev.succ ?_
    simp only [zb.l0]
    rw [e1, zdd, zdd, zoe, hd1, ← hc1]
    refine Ev.pos (fun _ => a1) ?_
    refine Ev.pos (fun _ => a2) ?_
    refine Ev.pos (fun _ => a3) ?_
    refine Ev.pos (fun _ => by first | rfl | trivial) ?_
    refine Ev.pos (fun _ => a4) ?_
    simp only [Option.bind_some]
    refine Ev.pos (fun _ => by first | rfl | trivial) ?_
    exact Ev.bind D h6
  ·have s1 := stop hc
   refine ⟨m, hms, Nat.le_refl _, by rw [s1], ?_, ?_⟩
   ·rw [s1, hdg, dg_split]
   ·intro y0 y1 y2 y3 y4 y5 y6 y7 y8 y9 y10 R h
    refine Ev.succ ?_
    simp only [zb.l0]
    by_cases hlt2 : m + 1 < s.size
    ·have hl : m < (bytesOf s).length := by rw [bytesOf_length]; omega
     have hl2 : m + 1 < (bytesOf s).length := by rw [bytesOf_length]; omega
     have a1 : ((m + 1 : Nat) : Int) < (s.size : Int) := ltZ hlt2
     have a2 : (0 : Int) ≤ ((m : Nat) : Int) := zeZ m
     have a3 : ((m : Nat) : Int) < (s.size : Int) := ltZ (Nat.lt_of_succ_lt hlt2)
     have a4 : (0 : Int) ≤ ((m + 1 : Nat) : Int) := zeZ _
     have e1 : wrap64 ((m : Int) + 1) = ((m + 1 : Nat) : Int) := w64s hs hms
     rw [e1, zdd, zdd, zoe]
     refine Ev.pos (fun _ => a1) ?_
     refine Ev.pos (fun _ => a2) ?_
     refine Ev.pos (fun _ => a3) ?_
     by_cases h46 : (bytesOf s).getD m 0 = 46
     ·refine Ev.pos (fun _ => h46) ?_
      refine Ev.pos (fun _ => by omega) ?_
      simp only [Option.bind_some]
      have hd1 : isD ((bytesOf s).getD (m + 1) 0) = false := by
       cases hx : isD ((bytesOf s).getD (m + 1) 0) with
       | false => rfl
       | true => exact absurd ⟨(bytesOf s).drop (m + 1), by rw [zkc _ _ hl, h46], by rw [zkc _ _ hl2, zed hx]; omega⟩ hc
      rw [hd1]
      refine Ev.neg (fun _ => Bool.false_ne_true) ?_
      exact h
     ·refine Ev.neg (fun _ => h46) ?_
      exact h
    ·refine Ev.neg (fun _ => by rw [w64 (by omega) (by omega)]; omega) ?_
     exact h
abbrev M11 := Bool × ByteArray × ByteArray × ByteArray × ByteArray × ByteArray × ByteArray × ByteArray × ByteArray × ByteArray × ByteArray
def noM : M11 := (false, ⟨#[]⟩, ⟨#[]⟩, ⟨#[]⟩, ⟨#[]⟩, ⟨#[]⟩, ⟨#[]⟩, ⟨#[]⟩, ⟨#[]⟩, ⟨#[]⟩, ⟨#[]⟩)
def finM (s : ByteArray) (q : Nat) (m : M11) : M11 := if q + run isBl ((bytesOf s).drop q) < s.size then noM else m
theorem fin_ev (s : ByteArray) (hs : s.size ≤ 2000000000) (q : Nat) (hq : q ≤ s.size) (m : M11) : Ev (fun k => (zp.f k s (q : Int)).bind fun t => if t < (s.size : Int) then some noM else some m) (finM s q m) := by
 refine Ev.bind (blanks_ev s hs q hq) ?_
 unfold finM
 generalize q + run isBl ((bytesOf s).drop q) = g
 by_cases h : g < s.size
 ·rw [if_pos h]
  refine Ev.pos (fun _ => by omega) ?_
  exact Ev.now _
 ·rw [if_neg h]
  refine Ev.neg (fun _ => by omega) ?_
  exact Ev.now _
theorem gtZ {a b : Nat} (h : b < a) : ((a : Nat) : Int) > ((b : Nat) : Int) := by omega
theorem ngtZ {a b : Nat} (h : a ≤ b) : ¬ ((a : Nat) : Int) > ((b : Nat) : Int) := by omega
theorem leZ {a b : Nat} (h : a ≤ b) : ((a : Nat) : Int) ≤ ((b : Nat) : Int) := by omega
theorem loc_ev (s : ByteArray) (hs : s.size ≤ 2000000000) : ∀ (n p : Nat), p ≤ s.size → s.size - p ≤ n →
  p + zad n ((bytesOf s).drop p) ≤ s.size ∧ ∀ (x6 : Nat), x6 ≤ p → ∀ (y0 : Bool) (y1 y2 y3 y4 y5 y6 y7 y8 y9 y10 : ByteArray),
   Ev (fun k => zb.l1 k s (p : Int) (x6 : Int) y0 y1 y2 y3 y4 y5 y6 y7 y8 y9 y10) (finM s (p + zad n ((bytesOf s).drop p)) (true, y1, y2, y3, y4, y5, y6, y7, y8, y9, s.extract x6 (p + zad n ((bytesOf s).drop p)))) := by
 intro n
 induction n with
 | zero =>
  intro p hp hn
  refine ⟨by simp only [zad]; omega, fun x6 hx y0 y1 y2 y3 y4 y5 y6 y7 y8 y9 y10 => ?_⟩
  have e : (bytesOf s).drop p = [] := List.drop_of_length_le (by rw [bytesOf_length]; omega)
  have hm := mark_eq s hs p hp
  rw [e] at hm
  simp only [zad, Nat.add_zero]
  refine Ev.succ ?_
  simp only [zb.l1]
  refine Ev.bind0 hm ?_
  refine Ev.neg (fun _ => by simp [mkN]) ?_
  refine Ev.pos (fun _ => zeZ _) ?_
  refine Ev.pos (fun _ => leZ hx) ?_
  refine Ev.pos (fun _ => leZ hp) ?_
  rw [Int.toNat_natCast, Int.toNat_natCast]
  exact fin_ev s hs p hp _
 | succ n ih =>
  intro p hp hn
  have hm := mark_eq s hs p hp
  have stop : zad (n + 1) ((bytesOf s).drop p) = 0 → (∀ (x6 : Nat), x6 ≤ p → ∀ (y0 : Bool) (y1 y2 y3 y4 y5 y6 y7 y8 y9 y10 : ByteArray),
   Ev (fun k => zb.l1 k s (p : Int) (x6 : Int) y0 y1 y2 y3 y4 y5 y6 y7 y8 y9 y10) (finM s p (true, y1, y2, y3, y4, y5, y6, y7, y8, y9, s.extract x6 p))) → p + zad (n + 1) ((bytesOf s).drop p) ≤ s.size ∧ ∀ (x6 : Nat), x6 ≤ p → ∀ (y0 : Bool) (y1 y2 y3 y4 y5 y6 y7 y8 y9 y10 : ByteArray),
   Ev (fun k => zb.l1 k s (p : Int) (x6 : Int) y0 y1 y2 y3 y4 y5 y6 y7 y8 y9 y10) (finM s (p + zad (n + 1) ((bytesOf s).drop p)) (true, y1, y2, y3, y4, y5, y6, y7, y8, y9, s.extract x6 (p + zad (n + 1) ((bytesOf s).drop p)))) := fun h k => by
   rw [h, Nat.add_zero]
   exact ⟨hp, k⟩
  cases hq : (bytesOf s).drop p with
  | nil =>
   rw [hq] at stop hm
   refine stop rfl (fun x6 hx y0 y1 y2 y3 y4 y5 y6 y7 y8 y9 y10 => ?_)
   refine Ev.succ ?_
   simp only [zb.l1]
   refine Ev.bind0 hm ?_
   refine Ev.neg (fun _ => by simp [mkN]) ?_
   refine Ev.pos (fun _ => zeZ _) ?_
   refine Ev.pos (fun _ => leZ hx) ?_
   refine Ev.pos (fun _ => leZ hp) ?_
   rw [Int.toNat_natCast, Int.toNat_natCast]
   exact fin_ev s hs p hp _
  | cons c r =>
   rw [hq] at stop hm
   have hlt : p < s.size := by
    rcases Nat.lt_or_ge p s.size with h | h
    ·exact h
    ·rw [List.drop_of_length_le (by rw [bytesOf_length]; omega)] at hq; cases hq
   have hr1 : r = (bytesOf s).drop (p + 1) := by
    have h2 := zkc (bytesOf s) p (by rw [bytesOf_length]; exact hlt)
    rw [hq] at h2
    injection h2
   by_cases hmk : isMk c = true
   ·have hm2 : mkN (c :: r) = 1 := if_pos hmk
    rw [hm2] at hm
    have hA := alnum_ev s hs (p + 1) hlt
    rw [← hr1] at hA
    have e1 := w64s hs hp
    by_cases hrn : run isAn r = 0
    ·refine stop ?_ (fun x6 hx y0 y1 y2 y3 y4 y5 y6 y7 y8 y9 y10 => ?_)
     ·simp only [zad]
      rw [if_neg (fun h => h.2 hrn)]
     ·rw [hrn, Nat.add_zero] at hA
      refine Ev.succ ?_
      simp only [zb.l1]
      refine Ev.bind0 hm ?_
      refine Ev.pos (fun _ => gtZ (Nat.lt_succ_self p)) ?_
      rw [e1]
      refine Ev.bind hA ?_
      refine Ev.neg (fun _ => ngtZ (Nat.le_refl _)) ?_
      refine Ev.pos (fun _ => zeZ _) ?_
      refine Ev.pos (fun _ => leZ hx) ?_
      refine Ev.pos (fun _ => leZ hp) ?_
      rw [Int.toNat_natCast, Int.toNat_natCast]
      exact fin_ev s hs p hp _
    ·have hle : p + 1 + run isAn r ≤ s.size := by
      have h3 := zle isAn r
      rw [hr1, List.length_drop, bytesOf_length] at h3
      rw [hr1]
      generalize run isAn ((bytesOf s).drop (p + 1)) = g at h3
      omega
     have hdr : r.drop (run isAn r) = (bytesOf s).drop (p + 1 + run isAn r) := by
      generalize run isAn r = g
      rw [hr1, List.drop_drop]
     obtain ⟨k1, k2⟩ := ih (p + 1 + run isAn r) hle (by generalize run isAn r = g at hle; omega)
     have hA2 : zad (n + 1) (c :: r) = 1 + run isAn r + zad n ((bytesOf s).drop (p + 1 + run isAn r)) := by
      simp only [zad]
      rw [if_pos ⟨hmk, hrn⟩, hdr]
     rw [hA2, show p + (1 + run isAn r + zad n ((bytesOf s).drop (p + 1 + run isAn r))) = p + 1 + run isAn r + zad n ((bytesOf s).drop (p + 1 + run isAn r)) by rw [← Nat.add_assoc, ← Nat.add_assoc]]
     refine ⟨k1, fun x6 hx y0 y1 y2 y3 y4 y5 y6 y7 y8 y9 y10 => ?_⟩
     have k3 := k2 x6 (Nat.le_trans hx (Nat.le_trans (Nat.le_succ p) (Nat.le_add_right _ _))) y0 y1 y2 y3 y4 y5 y6 y7 y8 y9 y10
     refine Ev.succ ?_
     simp only [zb.l1]
     refine Ev.bind0 hm ?_
     refine Ev.pos (fun _ => gtZ (Nat.lt_succ_self p)) ?_
     rw [e1]
     refine Ev.bind hA ?_
     refine Ev.pos (fun _ => gtZ (Nat.lt_add_of_pos_right (Nat.pos_of_ne_zero hrn))) ?_
     refine Ev.bind hA ?_
     exact k3
   ·have hm2 : mkN (c :: r) = 0 := if_neg hmk
    rw [hm2] at hm
    refine stop ?_ (fun x6 hx y0 y1 y2 y3 y4 y5 y6 y7 y8 y9 y10 => ?_)
    ·simp only [zad]
     rw [if_neg (fun h => hmk h.1)]
    ·refine Ev.succ ?_
     simp only [zb.l1]
     refine Ev.bind0 hm ?_
     refine Ev.neg (fun _ => ngtZ (Nat.le_refl _)) ?_
     refine Ev.pos (fun _ => zeZ _) ?_
     refine Ev.pos (fun _ => leZ hx) ?_
     refine Ev.pos (fun _ => leZ hp) ?_
     rw [Int.toNat_natCast, Int.toNat_natCast]
     exact fin_ev s hs p hp _
end Go.Proofs.YtlijjnjpomnphaaGreatDoorY
end
section
namespace Go.Proofs.YtlijjnjpomnphaaGreatDoorY
open Go.RowKit YtlijjnjpomnphaaGreatDoorH YtlijjnjpomnphaaGreatDoorB YtlijjnjpomnphaaGreatDoorM YtlijjnjpomnphaaGreatDoorP YtlijjnjpomnphaaGreatDoor.S YtlijjnjpomnphaaGreatDoorW.PrintWords YtlijjnjpomnphaaGreatDoorW.PrintLast
theorem all_run {p : Int → Bool} : ∀ l : List Int, l.all p = true ↔ run p l = l.length
 | [] => by simp [zsf]
 | x :: l => by
  cases hx : p x with
  | true => rw [zed hx, List.length_cons, List.all_cons, hx, Bool.true_and, all_run l]; omega
  | false => rw [zqc hx, List.length_cons, List.all_cons, hx, Bool.false_and]; simp
theorem finM_eq (s : ByteArray) (q : Nat) (hq : q ≤ s.size) (m : M11) : finM s q m = if ((bytesOf s).drop q).all isBl = true then m else noM := by
 unfold finM
 have h := zle isBl ((bytesOf s).drop q)
 have h2 := all_run (p := isBl) ((bytesOf s).drop q)
 rw [List.length_drop, bytesOf_length] at h h2
 by_cases hc : ((bytesOf s).drop q).all isBl = true
 ·rw [if_pos hc, if_neg (by have := h2.1 hc; omega)]
 ·rw [if_neg hc, if_pos (by
   rcases Nat.lt_or_ge (q + run isBl ((bytesOf s).drop q)) s.size with h3 | h3
   ·exact h3
   ·exact absurd (h2.2 (by omega)) hc)]
theorem locR_43 (r : List Int) : locR (43 :: r) = if run isAn r = 0 then none else some (r.take (zef r), r.drop (zef r)) := by
 simp only [locR]
 rfl
theorem locR_ne (c : Int) (r : List Int) (h : c ≠ 43) : locR (c :: r) = some ([], c :: r) := by
 simp only [locR]
 rw [if_neg h]
def LocM (s : ByteArray) (p : Nat) (y1 y2 y3 y4 y5 y6 y7 y8 y9 : ByteArray) (M : M11) : Prop := match locR ((bytesOf s).drop p) with
 | none => M = noM
 | some r => if r.2.all isBl = true then ∃ lo, bytesOf lo = r.1 ∧ M = (true, y1, y2, y3, y4, y5, y6, y7, y8, y9, lo) else M = noM
theorem j8_ev (s : ByteArray) (hs : s.size ≤ 2000000000) (p : Nat) (hp : p ≤ s.size) (b : Bool) (hb : b = true ↔ ∃ r, (bytesOf s).drop p = 43 :: r) (y0 : Bool) (y1 y2 y3 y4 y5 y6 y7 y8 y9 : ByteArray) :
  ∃ M, Ev (fun k => zb.j8 k s (p : Int) b y0 y1 y2 y3 y4 y5 y6 y7 y8 y9 ⟨#[]⟩) M ∧ LocM s p y1 y2 y3 y4 y5 y6 y7 y8 y9 M := by
 by_cases h : b = true
 ·obtain ⟨r, hr⟩ := hb.1 h
  have hlt : p < s.size := by
   rcases Nat.lt_or_ge p s.size with h | h
   ·exact h
   ·rw [List.drop_of_length_le (by rw [bytesOf_length]; omega)] at hr; cases hr
  have hr1 : r = (bytesOf s).drop (p + 1) := by
   have h2 := zkc (bytesOf s) p (by rw [bytesOf_length]; exact hlt)
   rw [hr] at h2
   injection h2
  have hA := alnum_ev s hs (p + 1) hlt
  rw [← hr1] at hA
  have e1 := w64s hs hp
  by_cases hrn : run isAn r = 0
  ·refine ⟨noM, ?_, ?_⟩
   ·refine Ev.succ ?_
    simp only [zb.j8]
    refine Ev.pos (fun _ => h) ?_
    rw [e1]
    refine Ev.bind hA ?_
    refine Ev.pos (fun _ => by rw [hrn, Nat.add_zero]) ?_
    exact Ev.now _
   ·unfold LocM
    rw [hr]
    rw [locR_43, if_pos hrn]
  ·have hle : p + 1 + run isAn r ≤ s.size := by
    have h3 := zle isAn r
    rw [hr1, List.length_drop, bytesOf_length] at h3
    rw [hr1]
    generalize run isAn ((bytesOf s).drop (p + 1)) = g at h3
    omega
   have hdr : r.drop (run isAn r) = (bytesOf s).drop (p + 1 + run isAn r) := by
    generalize run isAn r = g
    rw [hr1, List.drop_drop]
   have hrl : r.length = s.size - (p + 1) := by rw [hr1, List.length_drop, bytesOf_length]
   obtain ⟨k1, k2⟩ := loc_ev s hs r.length (p + 1 + run isAn r) hle (by rw [hrl]; generalize run isAn r = g at hle; omega)
   have k3 := k2 (p + 1) (Nat.le_add_right _ _) y0 y1 y2 y3 y4 y5 y6 y7 y8 y9 ⟨#[]⟩
   have hLL : zef r = run isAn r + zad r.length ((bytesOf s).drop (p + 1 + run isAn r)) := by unfold zef; rw [hdr]
   obtain ⟨q, hq⟩ : ∃ q, q = p + 1 + run isAn r + zad r.length ((bytesOf s).drop (p + 1 + run isAn r)) := ⟨_, rfl⟩
   have hq2 : q = p + 1 + zef r := by rw [hq, hLL]; generalize run isAn r = g; generalize zad r.length ((bytesOf s).drop (p + 1 + g)) = g2; omega
   rw [← hq] at k1 k3
   refine ⟨finM s q (true, y1, y2, y3, y4, y5, y6, y7, y8, y9, s.extract (p + 1) q), ?_, ?_⟩
   ·refine Ev.succ ?_
    simp only [zb.j8]
    refine Ev.pos (fun _ => h) ?_
    rw [e1]
    refine Ev.bind hA ?_
    refine Ev.neg (fun _ e => hrn (by generalize run isAn r = g at e; omega)) ?_
    exact k3
   ·unfold LocM
    rw [hr]
    rw [locR_43, if_neg hrn, finM_eq s q k1]
    have e2 : r.drop (zef r) = (bytesOf s).drop q := by rw [hr1, List.drop_drop, ← hr1, hq2]
    simp only [e2]
    by_cases hc : ((bytesOf s).drop q).all isBl = true
    ·rw [if_pos hc, if_pos hc]
     refine ⟨_, ?_, rfl⟩
     rw [zrc, ← hr1, show q - (p + 1) = zef r by omega]
    ·rw [if_neg hc, if_neg hc]
 ·refine ⟨finM s p (true, y1, y2, y3, y4, y5, y6, y7, y8, y9, ⟨#[]⟩), ?_, ?_⟩
  ·refine Ev.succ ?_
   simp only [zb.j8]
   refine Ev.neg (fun _ => h) ?_
   exact fin_ev s hs p hp _
  ·unfold LocM
   rw [finM_eq s p hp]
   have : locR ((bytesOf s).drop p) = some ([], (bytesOf s).drop p) := by
    cases hq : (bytesOf s).drop p with
    | nil => rfl
    | cons c r =>
     exact locR_ne c r (fun e => h (hb.2 ⟨r, by rw [hq, e]⟩))
   simp only [this]
   by_cases hc : ((bytesOf s).drop p).all isBl = true
   ·rw [if_pos hc, if_pos hc]
    exact ⟨⟨#[]⟩, rfl, rfl⟩
   ·rw [if_neg hc, if_neg hc]
theorem drop43 (s : ByteArray) (p : Nat) (hp : p < s.size) : ((bytesOf s).getD p 0 == 43) = true ↔ ∃ r, (bytesOf s).drop p = 43 :: r := by
 rw [zkc _ _ (by rw [bytesOf_length]; exact hp), beq_iff_eq]
 constructor
 ·intro h; exact ⟨_, by rw [h]⟩
 ·rintro ⟨r, h⟩; injection h
def wsDev : List ByteArray := [(⟨#[100, 101, 118]⟩ : ByteArray)]
def wsPost : List ByteArray := [(⟨#[112, 111, 115, 116]⟩ : ByteArray), (⟨#[114, 101, 118]⟩ : ByteArray), (⟨#[114]⟩ : ByteArray)]
def wsPre : List ByteArray := [(⟨#[97, 108, 112, 104, 97]⟩ : ByteArray), (⟨#[98, 101, 116, 97]⟩ : ByteArray), (⟨#[112, 114, 101, 118, 105, 101, 119]⟩ : ByteArray), (⟨#[112, 114, 101]⟩ : ByteArray), (⟨#[114, 99]⟩ : ByteArray), (⟨#[97]⟩ : ByteArray), (⟨#[98]⟩ : ByteArray), (⟨#[99]⟩ : ByteArray)]
theorem wsDev_B : wsDev.map bytesOf = devC := by rfl
theorem wsPost_B : wsPost.map bytesOf = postC := by rfl
theorem wsPre_B : wsPre.map bytesOf = preC := by rfl
theorem wsDev_ok : ∀ w ∈ wsDev, bytesOf w ≠ [] ∧ w.size ≤ 1000 := by
 intro w hw
 simp only [wsDev, List.mem_cons, List.not_mem_nil, or_false] at hw
 subst hw
 exact ⟨by decide, by decide⟩
theorem wsPost_ok : ∀ w ∈ wsPost, bytesOf w ≠ [] ∧ w.size ≤ 1000 := by
 intro w hw
 simp only [wsPost, List.mem_cons, List.not_mem_nil, or_false] at hw
 rcases hw with rfl | rfl | rfl <;> exact ⟨by decide, by decide⟩
theorem wsPre_ok : ∀ w ∈ wsPre, bytesOf w ≠ [] ∧ w.size ≤ 1000 := by
 intro w hw
 simp only [wsPre, List.mem_cons, List.not_mem_nil, or_false] at hw
 rcases hw with rfl | rfl | rfl | rfl | rfl | rfl | rfl | rfl <;> exact ⟨by decide, by decide⟩
def WordM (s : ByteArray) (ws : List ByteArray) (a b : ByteArray) : Prop := b.size ≤ s.size ∧ (bytesOf a = [] → bytesOf b = []) ∧ (bytesOf a = [] ∨ a ∈ ws)
theorem nltZ {a b : Nat} (h : b ≤ a) : ¬ ((a : Nat) : Int) < ((b : Nat) : Int) := by omega
theorem j7_ev (s : ByteArray) (hs : s.size ≤ 2000000000) (p : Nat) (hp : p ≤ s.size) (y0 : Bool) (y1 y2 y3 y4 y5 y6 y7 : ByteArray) :
  ∃ (a b : ByteArray) (e : Nat) (M : M11), Ev (fun k => zb.j7 k s (p : Int) y0 y1 y2 y3 y4 y5 y6 y7 ⟨#[]⟩ ⟨#[]⟩ ⟨#[]⟩) M ∧ (optW (bytesOf a) (bytesOf b), (bytesOf s).drop e) = gdev ((bytesOf s).drop p) ∧ WordM s wsDev a b ∧ LocM s e y1 y2 y3 y4 y5 y6 y7 a b M := by
 obtain ⟨a, b, e, h1, h2, h3, h4, h5, h6⟩ := zpg s hs p hp wsDev (by decide) wsDev_ok
 rw [wsDev_B] at h6
 by_cases hlt : e < s.size
 ·obtain ⟨M, k1, k2⟩ := j8_ev s hs e h2 ((bytesOf s).getD e 0 == 43) (drop43 s e hlt) y0 y1 y2 y3 y4 y5 y6 y7 a b
  refine ⟨a, b, e, M, ?_, h6, ⟨h3, h4, h5⟩, k2⟩
  refine Ev.succ ?_
  simp only [zb.j7]
  refine Ev.bind h1 ?_
  refine Ev.pos (fun _ => ltZ hlt) ?_
  refine Ev.pos (fun _ => zeZ e) ?_
  simp only [zdd]
  exact k1
 ·obtain ⟨M, k1, k2⟩ := j8_ev s hs e h2 false (by
   constructor
   ·intro h; cases h
   ·rintro ⟨r, hr⟩
    rw [List.drop_of_length_le (by rw [bytesOf_length]; omega)] at hr; cases hr) y0 y1 y2 y3 y4 y5 y6 y7 a b
  refine ⟨a, b, e, M, ?_, h6, ⟨h3, h4, h5⟩, k2⟩
  refine Ev.succ ?_
  simp only [zb.j7]
  refine Ev.bind h1 ?_
  refine Ev.neg (fun _ => nltZ (Nat.le_of_not_lt hlt)) ?_
  exact k1
def postW (n1 n2 l : List Int) : Option (List Int × List Int) := if n1 ≠ [] then some (wPost, n1) else optW l n2
def PostM (s n1 n2 l : ByteArray) : Prop := (bytesOf n1 ≠ [] ∧ n1.size ≤ s.size ∧ n2 = ⟨#[]⟩ ∧ l = ⟨#[]⟩) ∨ (n1 = ⟨#[]⟩ ∧ WordM s wsPost l n2)
theorem j6_ev (s : ByteArray) (hs : s.size ≤ 2000000000) (p : Nat) (hp : p ≤ s.size) (b : Bool) (hb : b = true ↔ ∃ x, hyph ((bytesOf s).drop p) = some x) (y0 : Bool) (y1 y2 y3 y4 : ByteArray) :
  ∃ (n1 n2 l dl dn : ByteArray) (e1 e : Nat) (M : M11), Ev (fun k => zb.j6 k s (p : Int) b y0 y1 y2 y3 y4 ⟨#[]⟩ ⟨#[]⟩ ⟨#[]⟩ ⟨#[]⟩ ⟨#[]⟩ ⟨#[]⟩) M ∧
   (postW (bytesOf n1) (bytesOf n2) (bytesOf l), (bytesOf s).drop e1) = gpost ((bytesOf s).drop p) ∧ PostM s n1 n2 l ∧ (optW (bytesOf dl) (bytesOf dn), (bytesOf s).drop e) = gdev ((bytesOf s).drop e1) ∧ WordM s wsDev dl dn ∧ LocM s e y1 y2 y3 y4 n1 n2 l dl dn M := by
 by_cases h : b = true
 ·obtain ⟨x, hx⟩ := hb.1 h
  obtain ⟨d, r, hr, hd, rfl⟩ := zah hx
  have hlt : p < s.size := by
   rcases Nat.lt_or_ge p s.size with h | h
   ·exact h
   ·rw [List.drop_of_length_le (by rw [bytesOf_length]; omega)] at hr; cases hr
  have hr1 : d :: r = (bytesOf s).drop (p + 1) := by
   have h2 := zkc (bytesOf s) p (by rw [bytesOf_length]; exact hlt)
   rw [hr] at h2
   injection h2
  have hD := zpe s hs (p + 1) hlt
  rw [← hr1] at hD
  obtain ⟨g, hg⟩ : ∃ g, g = run isD (d :: r) := ⟨_, rfl⟩
  have hgp : g ≠ 0 := by rw [hg, zed hd]; omega
  have hle : p + 1 + g ≤ s.size := by
   have h3 := zle isD (d :: r)
   rw [← hg, hr1, List.length_drop, bytesOf_length] at h3
   omega
  rw [← hg] at hD
  have e1 := w64s hs hp
  have hex : bytesOf (s.extract (p + 1) (p + 1 + g)) = dg (d :: r) := by
   rw [zrc, ← hr1, Nat.add_sub_cancel_left, hg]; rfl
  obtain ⟨dl, dn, e, M, k1, k2, k3, k4⟩ := j7_ev s hs (p + 1 + g) hle y0 y1 y2 y3 y4 (s.extract (p + 1) (p + 1 + g)) ⟨#[]⟩ ⟨#[]⟩
  refine ⟨s.extract (p + 1) (p + 1 + g), ⟨#[]⟩, ⟨#[]⟩, dl, dn, p + 1 + g, e, M, ?_, ?_, .inl ⟨?_, ?_, rfl, rfl⟩, k2, k3, k4⟩
  ·refine Ev.succ ?_
   simp only [zb.j6]
   refine Ev.pos (fun _ => h) ?_
   rw [e1]
   refine Ev.bind hD ?_
   refine Ev.pos (fun _ => zeZ _) ?_
   refine Ev.pos (fun _ => leZ (Nat.le_add_right _ _)) ?_
   refine Ev.pos (fun _ => leZ hle) ?_
   rw [Int.toNat_natCast, Int.toNat_natCast]
   exact k1
  ·unfold gpost postW
   rw [hx, hex, if_pos (dg_ne (by rw [← hg]; exact hgp))]
   have : dr (d :: r) = (bytesOf s).drop (p + 1 + g) := by unfold dr; rw [← hg, hr1, List.drop_drop]
   show _ = (some (wPost, dg (d :: r)), dr (d :: r))
   rw [this]
  ·rw [hex]; exact dg_ne (by rw [← hg]; exact hgp)
  ·rw [sz_B, zrc, List.length_take, List.length_drop, bytesOf_length]; omega
 ·have hh : hyph ((bytesOf s).drop p) = none := by
   cases hq : hyph ((bytesOf s).drop p) with
   | none => rfl
   | some x => exact absurd (hb.2 ⟨x, hq⟩) h
  obtain ⟨a, b2, e1, h1, h2, h3, h4, h5, h6⟩ := zpg s hs p hp wsPost (by decide) wsPost_ok
  rw [wsPost_B] at h6
  obtain ⟨dl, dn, e, M, k1, k2, k3, k4⟩ := j7_ev s hs e1 h2 y0 y1 y2 y3 y4 ⟨#[]⟩ b2 a
  refine ⟨⟨#[]⟩, b2, a, dl, dn, e1, e, M, ?_, ?_, .inr ⟨rfl, h3, h4, h5⟩, k2, k3, k4⟩
  ·refine Ev.succ ?_
   simp only [zb.j6]
   refine Ev.neg (fun _ => h) ?_
   refine Ev.bind h1 ?_
   exact k1
  ·unfold gpost postW
   rw [hh, if_neg (fun h => h rfl)]
   exact h6
end Go.Proofs.YtlijjnjpomnphaaGreatDoorY
end
section
namespace Go.Proofs.YtlijjnjpomnphaaGreatDoorY
open Go.RowKit YtlijjnjpomnphaaGreatDoorH YtlijjnjpomnphaaGreatDoorB YtlijjnjpomnphaaGreatDoorM YtlijjnjpomnphaaGreatDoorP YtlijjnjpomnphaaGreatDoor.S YtlijjnjpomnphaaGreatDoorW.PrintWords YtlijjnjpomnphaaGreatDoorW.PrintLast
theorem hyph_iff (s : ByteArray) (p : Nat) : (∃ x, hyph ((bytesOf s).drop p) = some x) ↔ ∃ r, (bytesOf s).drop p = 45 :: r ∧ run isD r ≠ 0 := by
 cases hq : (bytesOf s).drop p with
 | nil =>
  constructor
  ·rintro ⟨x, h⟩; cases h
  ·rintro ⟨r, h, _⟩; cases h
 | cons c r =>
  simp only [hyph]
  by_cases h : c = 45 ∧ run isD r ≠ 0
  ·rw [if_pos h]
   exact ⟨fun _ => ⟨r, by rw [h.1], h.2⟩, fun _ => ⟨_, rfl⟩⟩
  ·rw [if_neg h]
   constructor
   ·rintro ⟨x, h⟩; cases h
   ·rintro ⟨r2, h2, h3⟩
    injection h2 with e1 e2
    exact absurd ⟨e1, by rw [e2]; exact h3⟩ h
def RestM (s : ByteArray) (t : List Int) (y1 y2 : ByteArray) (M : M11) : Prop := ∃ (pl pn n1 n2 l dl dn : ByteArray) (e : Nat), code3 t = (optW (bytesOf pl) (bytesOf pn), postW (bytesOf n1) (bytesOf n2) (bytesOf l), optW (bytesOf dl) (bytesOf dn), (bytesOf s).drop e) ∧
 WordM s wsPre pl pn ∧ PostM s n1 n2 l ∧ WordM s wsDev dl dn ∧ LocM s e y1 y2 pl pn n1 n2 l dl dn M
theorem j5_ev (s : ByteArray) (hs : s.size ≤ 2000000000) (p q : Nat) (hpq : p ≤ q) (hq : q ≤ s.size) (y0 : Bool) (y1 : ByteArray) :
  ∃ M, Ev (fun k => zb.j5 k s (p : Int) (q : Int) y0 y1 ⟨#[]⟩ ⟨#[]⟩ ⟨#[]⟩ ⟨#[]⟩ ⟨#[]⟩ ⟨#[]⟩ ⟨#[]⟩ ⟨#[]⟩ ⟨#[]⟩) M ∧ RestM s ((bytesOf s).drop q) y1 (s.extract p q) M := by
 obtain ⟨a, b, e, h1, h2, h3, h4, h5, h6⟩ := zpg s hs q hq wsPre (by decide) wsPre_ok
 rw [wsPre_B] at h6
 have key : ∀ (bb : Bool), (bb = true ↔ ∃ x, hyph ((bytesOf s).drop e) = some x) → (∀ R, Ev (fun k => zb.j6 k s (e : Int) bb y0 y1 (s.extract p q) a b ⟨#[]⟩ ⟨#[]⟩ ⟨#[]⟩ ⟨#[]⟩ ⟨#[]⟩ ⟨#[]⟩) R → Ev (fun k => zb.j5 k s (p : Int) (q : Int) y0 y1 ⟨#[]⟩ ⟨#[]⟩ ⟨#[]⟩ ⟨#[]⟩ ⟨#[]⟩ ⟨#[]⟩ ⟨#[]⟩ ⟨#[]⟩ ⟨#[]⟩) R) →
   ∃ M, Ev (fun k => zb.j5 k s (p : Int) (q : Int) y0 y1 ⟨#[]⟩ ⟨#[]⟩ ⟨#[]⟩ ⟨#[]⟩ ⟨#[]⟩ ⟨#[]⟩ ⟨#[]⟩ ⟨#[]⟩ ⟨#[]⟩) M ∧ RestM s ((bytesOf s).drop q) y1 (s.extract p q) M := by
  intro bb hbb hgo
  obtain ⟨n1, n2, l, dl, dn, e1, e2, M, k1, k2, k3, k4, k5, k6⟩ := j6_ev s hs e h2 bb hbb y0 y1 (s.extract p q) a b
  exact ⟨M, hgo M k1, a, b, n1, n2, l, dl, dn, e2, code3_of h6.symm k2.symm k4.symm, ⟨h3, h4, h5⟩, k3, k5, k6⟩
 have c1 := zeZ p
 have c2 := leZ hpq
 have c3 := leZ hq
 have e1 := w64s hs h2
 by_cases hlt : e + 1 < s.size
 ·have hl : e < (bytesOf s).length := by rw [bytesOf_length]; omega
  have hl2 : e + 1 < (bytesOf s).length := by rw [bytesOf_length]; omega
  have d1 := zkc _ _ hl
  have d2 := zkc _ _ hl2
  have a1 := ltZ hlt
  have a2 := zeZ e
  have a3 := ltZ (Nat.lt_of_succ_lt hlt)
  have a4 := zeZ (e + 1)
  by_cases h45 : (bytesOf s).getD e 0 = 45
  ·refine key (isD ((bytesOf s).getD (e + 1) 0)) ?_ ?_
   ·rw [hyph_iff]
    constructor
    ·intro h
     exact ⟨(bytesOf s).drop (e + 1), by rw [d1, h45], by rw [d2, zed h]; exact Nat.succ_ne_zero _⟩
    ·rintro ⟨r, hr, hn⟩
     rw [d1] at hr
     injection hr with _ hr
     cases hx : isD ((bytesOf s).getD (e + 1) 0) with
     | true => rfl
     | false => rw [← hr, d2, zqc hx] at hn; exact absurd rfl hn
   ·intro R hR
    refine Ev.succ ?_
    simp only [zb.j5]
    refine Ev.pos (fun _ => c1) ?_
    refine Ev.pos (fun _ => c2) ?_
    refine Ev.pos (fun _ => c3) ?_
    refine Ev.bind h1 ?_
    simp only [e1, zdd, zoe, Option.bind_some]
    refine Ev.pos (fun _ => a1) ?_
    refine Ev.pos (fun _ => a2) ?_
    refine Ev.pos (fun _ => a3) ?_
    refine Ev.pos (fun _ => h45) ?_
    refine Ev.pos (fun _ => a4) ?_
    rw [Int.toNat_natCast, Int.toNat_natCast]
    exact hR
  ·refine key false ?_ ?_
   ·rw [hyph_iff]
    constructor
    ·intro h; cases h
    ·rintro ⟨r, hr, hn⟩
     rw [d1] at hr
     injection hr with hr _
     exact absurd hr h45
   ·intro R hR
    refine Ev.succ ?_
    simp only [zb.j5]
    refine Ev.pos (fun _ => c1) ?_
    refine Ev.pos (fun _ => c2) ?_
    refine Ev.pos (fun _ => c3) ?_
    refine Ev.bind h1 ?_
    simp only [e1, zdd, zoe, Option.bind_some]
    refine Ev.pos (fun _ => a1) ?_
    refine Ev.pos (fun _ => a2) ?_
    refine Ev.pos (fun _ => a3) ?_
    refine Ev.neg (fun _ => h45) ?_
    rw [Int.toNat_natCast, Int.toNat_natCast]
    exact hR
 ·have a1 := nltZ (Nat.le_of_not_lt hlt)
  refine key false ?_ ?_
  ·rw [hyph_iff]
   constructor
   ·intro h; cases h
   ·rintro ⟨r, hr, hn⟩
    have h9 := congrArg List.length hr
    rw [List.length_drop, bytesOf_length, List.length_cons] at h9
    have : r = [] := List.eq_nil_of_length_eq_zero (by omega)
    rw [this] at hn
    exact absurd rfl hn
  ·intro R hR
   refine Ev.succ ?_
   simp only [zb.j5]
   refine Ev.pos (fun _ => c1) ?_
   refine Ev.pos (fun _ => c2) ?_
   refine Ev.pos (fun _ => c3) ?_
   refine Ev.bind h1 ?_
   simp only [e1, zdd, zoe, Option.bind_some]
   refine Ev.neg (fun _ => a1) ?_
   rw [Int.toNat_natCast, Int.toNat_natCast]
   exact hR
def RelM (s : ByteArray) (t : List Int) (y1 : ByteArray) (M : M11) : Prop := if run isD t = 0 then M = noM else ∃ rel : ByteArray, rel.size ≤ s.size ∧ zqb isPt (bytesOf rel) = (rels t.length t).1 ∧ RestM s (rels t.length t).2 y1 rel M
theorem j3_ev (s : ByteArray) (hs : s.size ≤ 2000000000) (p : Nat) (hp : p ≤ s.size) (y0 : Bool) (y1 : ByteArray) :
  ∃ M, Ev (fun k => zb.j3 k s (p : Int) ((p + run isD ((bytesOf s).drop p) : Nat) : Int) y0 y1 ⟨#[]⟩ ⟨#[]⟩ ⟨#[]⟩ ⟨#[]⟩ ⟨#[]⟩ ⟨#[]⟩ ⟨#[]⟩ ⟨#[]⟩ ⟨#[]⟩) M ∧ RelM s ((bytesOf s).drop p) y1 M := by
 by_cases h0 : run isD ((bytesOf s).drop p) = 0
 ·refine ⟨noM, ?_, ?_⟩
  ·refine Ev.succ ?_
   simp only [zb.j3]
   refine Ev.pos (fun _ => by rw [h0, Nat.add_zero]) ?_
   exact Ev.now _
  ·unfold RelM
   rw [if_pos h0]
 ·obtain ⟨q, h1, h2, h3, h4, h5⟩ := rel_ev s hs (p : Int) ((bytesOf s).drop p).length p hp (by rw [List.length_drop, bytesOf_length]; exact Nat.le_refl _)
  obtain ⟨M, k1, k2⟩ := j5_ev s hs p q (Nat.le_trans (Nat.le_add_right _ _) h2) h1 y0 y1
  refine ⟨M, ?_, ?_⟩
  ·refine Ev.succ ?_
   simp only [zb.j3]
   refine Ev.neg (fun _ e => h0 (by generalize run isD ((bytesOf s).drop p) = g at e; omega)) ?_
   exact h5 _ _ _ _ _ _ _ _ _ _ _ M k1
  ·unfold RelM
   rw [if_neg h0]
   refine ⟨s.extract p q, ?_, ?_, ?_⟩
   ·rw [sz_B, zrc, List.length_take, List.length_drop, bytesOf_length]; omega
   ·rw [zrc, h4]
   ·rw [← h3]; exact k2
def HeadM (s : ByteArray) (t : List Int) (M : M11) : Prop := ∃ ep : ByteArray, bytesOf ep = epP t ∧ ep.size ≤ s.size ∧ RelM s (unE t) ep M
theorem j2_ev (s : ByteArray) (hs : s.size ≤ 2000000000) (p : Nat) (hp : p ≤ s.size) (b : Bool) (hb : b = hasE ((bytesOf s).drop p)) (y0 : Bool) :
  ∃ M, Ev (fun k => zb.j2 k s (p : Int) ((p + run isD ((bytesOf s).drop p) : Nat) : Int) b y0 ⟨#[]⟩ ⟨#[]⟩ ⟨#[]⟩ ⟨#[]⟩ ⟨#[]⟩ ⟨#[]⟩ ⟨#[]⟩ ⟨#[]⟩ ⟨#[]⟩ ⟨#[]⟩) M ∧ HeadM s ((bytesOf s).drop p) M := by
 cases b with
 | true =>
  have hE := hb.symm
  unfold hasE at hE
  rw [decide_eq_true_iff] at hE
  have hr := zle isD ((bytesOf s).drop p)
  rw [List.length_drop, bytesOf_length] at hr
  obtain ⟨m, hm⟩ : ∃ m, m = p + run isD ((bytesOf s).drop p) := ⟨_, rfl⟩
  have hms : m ≤ s.size := by
   generalize run isD ((bytesOf s).drop p) = g at hr hm
   omega
  have hpm : p ≤ m := by rw [hm]; exact Nat.le_add_right _ _
  have hdr : dr ((bytesOf s).drop p) = (bytesOf s).drop m := by unfold dr; rw [List.drop_drop, ← hm]
  have hdg : bytesOf (s.extract p m) = dg ((bytesOf s).drop p) := by unfold dg; rw [zrc, hm, Nat.add_sub_cancel_left]
  have hlt : m < s.size := by
   rcases Nat.lt_or_ge m s.size with h | h
   ·exact h
   ·have e : (bytesOf s).drop m = [] := List.drop_of_length_le (by rw [bytesOf_length]; exact h)
    rw [hdr, e] at hE
    exact absurd hE.2 (by decide)
  have hU : unE ((bytesOf s).drop p) = (bytesOf s).drop (m + 1) := by
   unfold unE
   rw [← hb, if_pos rfl, hdr, List.drop_drop]
  have hP : epP ((bytesOf s).drop p) = dg ((bytesOf s).drop p) := by
   unfold epP
   rw [← hb, if_pos rfl]
  obtain ⟨M, k1, k2⟩ := j3_ev s hs (m + 1) hlt y0 (s.extract p m)
  have D := zpe s hs (m + 1) hlt
  have c1 := zeZ p
  have c2 := leZ hpm
  have c3 := leZ hms
  have e1 := w64s hs hms
  rw [← hm]
  refine ⟨M, ?_, s.extract p m, by rw [hP, hdg], ?_, by rw [hU]; exact k2⟩
  ·refine Ev.succ ?_
   simp only [zb.j2]
   refine Ev.pos (fun _ => by trivial) ?_
   refine Ev.pos (fun _ => c1) ?_
   refine Ev.pos (fun _ => c2) ?_
   refine Ev.pos (fun _ => c3) ?_
   rw [e1, Int.toNat_natCast, Int.toNat_natCast]
   exact Ev.bind D k1
  ·rw [sz_B, zrc, List.length_take, List.length_drop, bytesOf_length]; omega
 | false =>
  obtain ⟨M, k1, k2⟩ := j3_ev s hs p hp y0 ⟨#[]⟩
  refine ⟨M, ?_, ⟨#[]⟩, ?_, Nat.zero_le _, ?_⟩
  ·refine Ev.succ ?_
   simp only [zb.j2]
   refine Ev.neg (fun _ => Bool.false_ne_true) ?_
   exact k1
  ·unfold epP
   rw [← hb, if_neg Bool.false_ne_true]
   rfl
  ·unfold unE
   rw [← hb, if_neg Bool.false_ne_true]
   exact k2
theorem j1_ev (s : ByteArray) (hs : s.size ≤ 2000000000) (p : Nat) (hp : p ≤ s.size) (y0 : Bool) :
  ∃ M, Ev (fun k => zb.j1 k s (p : Int) y0 ⟨#[]⟩ ⟨#[]⟩ ⟨#[]⟩ ⟨#[]⟩ ⟨#[]⟩ ⟨#[]⟩ ⟨#[]⟩ ⟨#[]⟩ ⟨#[]⟩ ⟨#[]⟩) M ∧ HeadM s ((bytesOf s).drop p) M := by
 have D := zpe s hs p hp
 obtain ⟨M, k1, k2⟩ := j2_ev s hs p hp _ rfl y0
 refine ⟨M, ?_, k2⟩
 have hr := zle isD ((bytesOf s).drop p)
 rw [List.length_drop, bytesOf_length] at hr
 obtain ⟨m, hm⟩ : ∃ m, m = p + run isD ((bytesOf s).drop p) := ⟨_, rfl⟩
 have hdr : dr ((bytesOf s).drop p) = (bytesOf s).drop m := by unfold dr; rw [List.drop_drop, ← hm]
 have hE : hasE ((bytesOf s).drop p) = decide (p < m ∧ m < s.size ∧ (bytesOf s).getD m 0 = 33) := by
  unfold hasE
  rw [hdr]
  apply decide_eq_decide.2
  have hz : run isD ((bytesOf s).drop p) ≠ 0 ↔ p < m := by generalize run isD ((bytesOf s).drop p) = g at hm; omega
  rw [hz]
  have hg : ((bytesOf s).drop m).getD 0 0 = (bytesOf s).getD m 0 := by
   rw [List.getD_eq_getElem?_getD, List.getD_eq_getElem?_getD, List.getElem?_drop, Nat.add_zero]
  rw [hg]
  constructor
  ·rintro ⟨h1, h2⟩
   refine ⟨h1, ?_, h2⟩
   rcases Nat.lt_or_ge m s.size with h | h
   ·exact h
   ·rw [List.getD_eq_getElem?_getD, List.getElem?_eq_none (by rw [bytesOf_length]; omega)] at h2
    exact absurd h2 (by decide)
  ·rintro ⟨h1, _, h2⟩
   exact ⟨h1, h2⟩
 rw [hE, ← hm] at k1
 rw [← hm] at D
 refine Ev.succ ?_
 simp only [zb.j1]
 refine Ev.bind D ?_
 by_cases h1 : p < m
 ·refine Ev.pos (fun _ => gtZ h1) ?_
  by_cases h2 : m < s.size
  ·refine Ev.pos (fun _ => ltZ h2) ?_
   refine Ev.pos (fun _ => zeZ m) ?_
   have : (bt s (m : Int) == 33) = decide (p < m ∧ m < s.size ∧ (bytesOf s).getD m 0 = 33) := by
    rw [zdd, Bool.eq_iff_iff, beq_iff_eq, decide_eq_true_iff]
    exact ⟨fun h => ⟨h1, h2, h⟩, fun h => h.2.2⟩
   rw [this]
   exact k1
  ·rw [decide_eq_false (fun h => h2 h.2.1)] at k1
   refine Ev.neg (fun _ => nltZ (Nat.le_of_not_lt h2)) ?_
   exact k1
 ·rw [decide_eq_false (fun h => h1 h.1)] at k1
  refine Ev.neg (fun _ => ngtZ (Nat.le_of_not_lt h1)) ?_
  exact k1
theorem unV_at (s : ByteArray) (p : Nat) (hp : p < s.size) : unV ((bytesOf s).drop p) = if (bytesOf s).getD p 0 = 118 then (bytesOf s).drop (p + 1) else (bytesOf s).drop p := by
 have d := zkc (bytesOf s) p (by rw [bytesOf_length]; exact hp)
 rw [d]
 simp only [unV]
theorem matchH_ev (s : ByteArray) (hs : s.size ≤ 2000000000) : ∃ M, Ev (fun k => zb.f k s) M ∧ HeadM s (unV ((bytesOf s).drop (run isBl (bytesOf s)))) M := by
 have B := blanks_ev s hs 0 (Nat.zero_le _)
 rw [List.drop_zero, Nat.zero_add] at B
 have hr := zle isBl (bytesOf s)
 rw [bytesOf_length] at hr
 obtain ⟨p, hp⟩ : ∃ p, p = run isBl (bytesOf s) := ⟨_, rfl⟩
 rw [← hp] at B hr ⊢
 by_cases h1 : p < s.size
 ·rw [unV_at s p h1]
  by_cases h2 : (bytesOf s).getD p 0 = 118
  ·obtain ⟨M, k1, k2⟩ := j1_ev s hs (p + 1) h1 false
   rw [if_pos h2]
   refine ⟨M, ?_, k2⟩
   simp only [zb.f]
   refine Ev.bind B ?_
   refine Ev.pos (fun _ => ltZ h1) ?_
   refine Ev.pos (fun _ => zeZ p) ?_
   refine Ev.succ ?_
   simp only [zb.j0]
   refine Ev.pos (fun _ => by rw [zdd, h2]; rfl) ?_
   rw [w64s hs hr]
   exact k1
  ·obtain ⟨M, k1, k2⟩ := j1_ev s hs p hr false
   rw [if_neg h2]
   refine ⟨M, ?_, k2⟩
   simp only [zb.f]
   refine Ev.bind B ?_
   refine Ev.pos (fun _ => ltZ h1) ?_
   refine Ev.pos (fun _ => zeZ p) ?_
   refine Ev.succ ?_
   simp only [zb.j0]
   refine Ev.neg (fun _ => by rw [zdd, beq_iff_eq]; exact h2) ?_
   exact k1
 ·obtain ⟨M, k1, k2⟩ := j1_ev s hs p hr false
  have e : (bytesOf s).drop p = [] := List.drop_of_length_le (by rw [bytesOf_length]; omega)
  refine ⟨M, ?_, ?_⟩
  ·simp only [zb.f]
   refine Ev.bind B ?_
   refine Ev.neg (fun _ => nltZ (Nat.le_of_not_lt h1)) ?_
   refine Ev.succ ?_
   simp only [zb.j0]
   refine Ev.neg (fun _ => Bool.false_ne_true) ?_
   exact k1
  ·rw [e] at k2 ⊢
   exact k2
theorem locR_len {x : List Int} {r : List Int × List Int} (h : locR x = some r) : r.1.length ≤ x.length := by
 cases x with
 | nil => cases h; exact Nat.le_refl _
 | cons c y =>
  by_cases h43 : c = 43
  ·subst h43
   rw [locR_43] at h
   by_cases h0 : run isAn y = 0
   ·rw [if_pos h0] at h; cases h
   ·rw [if_neg h0] at h
    cases h
    show (y.take _).length ≤ y.length + 1
    rw [List.length_take]
    omega
  ·rw [locR_ne c y h43] at h
   cases h
   exact Nat.zero_le _
theorem locR_sub {x : List Int} {r : List Int × List Int} (h : locR x = some r) : ∀ c ∈ r.1, c ∈ x := by
 cases x with
 | nil => cases h; intro c hc; cases hc
 | cons a y =>
  by_cases h43 : a = 43
  ·subst h43
   rw [locR_43] at h
   by_cases h0 : run isAn y = 0
   ·rw [if_pos h0] at h; cases h
   ·rw [if_neg h0] at h
    cases h
    intro c hc
    exact List.mem_cons_of_mem _ (List.mem_of_mem_take hc)
  ·rw [locR_ne a y h43] at h
   cases h
   intro c hc
   cases hc
structure Told (s : ByteArray) (v : PV) (ep rel pl pn n1 n2 l dl dn lo : ByteArray) : Prop where
 hep : bytesOf ep = v.ep
 hrel : zqb isPt (bytesOf rel) = v.rel
 hpre : optW (bytesOf pl) (bytesOf pn) = v.pre
 hpost : postW (bytesOf n1) (bytesOf n2) (bytesOf l) = v.post
 hdev : optW (bytesOf dl) (bytesOf dn) = v.dev
 hloc : zqb isMk (bytesOf lo) = v.loc
 wpre : WordM s wsPre pl pn
 wpost : PostM s n1 n2 l
 wdev : WordM s wsDev dl dn
 sep : ep.size ≤ s.size
 srel : rel.size ≤ s.size
 sloc : lo.size ≤ s.size
 slo : ∀ x ∈ bytesOf lo, x ∈ bytesOf s
theorem match_ev (s : ByteArray) (hs : s.size ≤ 2000000000) : ∃ M, Ev (fun k => zb.f k s) M ∧ (match codeV (unV ((bytesOf s).drop (run isBl (bytesOf s)))) with
  | none => M = noM
  | some v => ∃ ep rel pl pn n1 n2 l dl dn lo, M = (true, ep, rel, pl, pn, n1, n2, l, dl, dn, lo) ∧ Told s v ep rel pl pn n1 n2 l dl dn lo) := by
 obtain ⟨M, h1, ep, h2, h3, h4⟩ := matchH_ev s hs
 refine ⟨M, h1, ?_⟩
 clear h1
 generalize unV ((bytesOf s).drop (run isBl (bytesOf s))) = t at h2 h4
 unfold RelM at h4
 unfold codeV headP
 by_cases h0 : run isD (unE t) = 0
 ·rw [if_pos h0] at h4 ⊢
  exact h4
 ·rw [if_neg h0] at h4 ⊢
  obtain ⟨rel, h5, h6, pl, pn, n1, n2, l, dl, dn, e, h7, h8, h9, h10, h11⟩ := h4
  simp only [Option.bind_some, h7]
  unfold LocM at h11
  cases hl : locR ((bytesOf s).drop e) with
  | none =>
   rw [hl] at h11
   exact h11
  | some r =>
   rw [hl] at h11
   simp only [Option.bind_some]
   by_cases hb : r.2.all isBl = true
   ·simp only [hb, if_true] at h11 ⊢
    obtain ⟨lo, h12, rfl⟩ := h11
    refine ⟨ep, rel, pl, pn, n1, n2, l, dl, dn, lo, rfl, h2, h6, rfl, rfl, rfl, by rw [h12], h8, h9, h10, h3, h5, ?_, fun x hx => List.mem_of_mem_drop (locR_sub hl x (by rw [← h12]; exact hx))⟩
    have := locR_len hl
    rw [sz_B, h12]
    rw [List.length_drop, bytesOf_length] at this
    omega
   ·simp only [hb] at h11 ⊢
    exact h11
end Go.Proofs.YtlijjnjpomnphaaGreatDoorY
end
section
namespace Go.Proofs.YtlijjnjpomnphaaGreatDoorY
open Go.RowKit YtlijjnjpomnphaaGreatDoorH YtlijjnjpomnphaaGreatDoorB YtlijjnjpomnphaaGreatDoorM YtlijjnjpomnphaaGreatDoorP YtlijjnjpomnphaaGreatDoor.S YtlijjnjpomnphaaGreatDoorW.PrintWords YtlijjnjpomnphaaGreatDoorW.PrintLast
def nPt (c : Int) : Bool := !isPt c
theorem index_from (s : ByteArray) (hs : s.size ≤ 1000000) : ∀ (n i : Nat), s.size - i = n → i ≤ s.size →
  Ev (fun k => zjb.l0 k s (⟨#[46]⟩ : ByteArray) i) (if i + run nPt ((bytesOf s).drop i) < s.size then ((i + run nPt ((bytesOf s).drop i) : Nat) : Int) else -1) := by
 have e1 : ((⟨#[46]⟩ : ByteArray).size : Int) = 1 := rfl
 intro n
 induction n with
 | zero =>
  intro i hn hi
  refine Ev.succ ?_
  simp only [zjb.l0]
  rw [e1, w64 (by omega) (by omega)]
  refine Ev.neg (fun _ => by first | omega | assumption | nofun) ?_
  refine Ev.eq (Ev.now _) ?_
  rw [if_neg (by omega)]
 | succ n ih =>
  intro i hn hi
  have hl : i < (bytesOf s).length := by rw [bytesOf_length]; omega
  have hg := zkc _ _ hl
  have hone : bytesOf (s.extract i (i + 1)) = [(bytesOf s).getD i 0] := by rw [zrc, hg]; simp
  refine Ev.succ ?_
  simp only [zjb.l0]
  rw [e1, w64 (by omega) (by omega)]
  have e2 : ((i : Int) + 1).toNat = i + 1 := by omega
  rw [e2, Int.toNat_natCast]
  refine Ev.pos (fun _ => by first | omega | trivial | assumption) ?_
  refine Ev.pos (fun _ => by first | omega | trivial | assumption) ?_
  refine Ev.pos (fun _ => by first | omega | trivial | assumption) ?_
  cases hp : isPt ((bytesOf s).getD i 0)
  ·refine Ev.neg (fun _ h => ?_) ?_
   ·rw [zie, hone] at h
    have h2 : [(bytesOf s).getD i 0] = [46] := h
    injection h2 with h2 _
    rw [h2] at hp
    cases hp
   ·refine Ev.eq (ih (i + 1) (by omega) (by omega)) ?_
    rw [hg, zed (show nPt ((bytesOf s).getD i 0) = true by unfold nPt; rw [hp]; rfl)]
    have e3 : i + 1 + run nPt ((bytesOf s).drop (i + 1)) = i + (run nPt ((bytesOf s).drop (i + 1)) + 1) := by omega
    rw [e3]
  ·refine Ev.pos (fun _ => ?_) ?_
   ·rw [zie, hone]
    have : (bytesOf s).getD i 0 = 46 := by simpa [isPt] using hp
    rw [this]
    rfl
   ·refine Ev.eq (Ev.now _) ?_
    rw [hg, zqc (show nPt ((bytesOf s).getD i 0) = false by unfold nPt; rw [hp]; rfl), if_pos (by omega)]
    rfl
theorem split_from : ∀ (n : Nat) (s : ByteArray) (out : List ByteArray), s.size ≤ n → n ≤ 1000000 → out.length + n ≤ 2000000 →
  ∃ r, Ev (fun k => zfb.l1 k s (⟨#[46]⟩ : ByteArray) out) r ∧ r.map bytesOf = out.map bytesOf ++ zqb isPt (bytesOf s) := by
 have e1 : ((⟨#[46]⟩ : ByteArray).size : Int) = 1 := rfl
 intro n
 induction n using Nat.strongRecOn with
 | _ n ih =>
  intro s out hs hn ho
  have hix := index_from s (by omega) _ 0 rfl (by omega)
  have hix2 : Ev (fun k => zjb.f k s (⟨#[46]⟩ : ByteArray)) (if run nPt (bytesOf s) < s.size then ((run nPt (bytesOf s) : Nat) : Int) else -1) := by simpa [zjb.f] using hix
  have hsp := splitP_run isPt (bytesOf s)
  rw [bytesOf_length] at hsp
  have hrun : run (fun c => !isPt c) (bytesOf s) = run nPt (bytesOf s) := rfl
  rw [hrun] at hsp
  by_cases hlt : run nPt (bytesOf s) < s.size
  ·rw [if_pos hlt] at hix2 hsp
   obtain ⟨m, hm⟩ : ∃ m, m = run nPt (bytesOf s) := ⟨_, rfl⟩
   rw [← hm] at hix2 hsp hlt
   have hb : bytesOf (s.extract (m + 1) s.size) = (bytesOf s).drop (m + 1) := B_drop _ _
   have hsz : (s.extract (m + 1) s.size).size = s.size - (m + 1) := by rw [zre, hb, List.length_drop, bytesOf_length]
   obtain ⟨r, hr, h1⟩ := ih (s.size - (m + 1)) (by omega) (s.extract (m + 1) s.size) (out ++ [s.extract 0 m]) (by omega) (by omega) (by simp; omega)
   refine ⟨r, Ev.succ ?_, ?_⟩
   ·simp only [zfb.l1]
    refine Ev.bind hix2 ?_
    rw [e1, w64 (i := (m : Int) + 1) (by omega) (by omega)]
    have e2 : ((m : Int) + 1).toNat = m + 1 := by omega
    rw [e2, Int.toNat_natCast]
    refine Ev.neg (fun _ => by first | omega | assumption | nofun) ?_
    refine Ev.pos (fun _ => by first | omega | trivial | assumption) ?_
    refine Ev.pos (fun _ => by first | omega | trivial | assumption) ?_
    refine Ev.pos (fun _ => by first | omega | trivial | assumption) ?_
    refine Ev.pos (fun _ => by first | omega | trivial | assumption) ?_
    refine Ev.pos (fun _ => by first | omega | trivial | assumption) ?_
    exact hr
   ·rw [h1, hb, hsp, List.map_append, List.map_cons, List.map_nil, B_take]
    simp
  ·rw [if_neg hlt] at hix2 hsp
   refine ⟨out ++ [s], Ev.succ ?_, ?_⟩
   ·simp only [zfb.l1]
    refine Ev.bind hix2 ?_
    refine Ev.pos (fun _ => by first | omega | trivial | assumption) ?_
    refine Ev.pos (fun _ => by first | omega | trivial | assumption) ?_
    exact Ev.now _
   ·rw [hsp]; simp
theorem split_ev (s : ByteArray) (hs : s.size ≤ 1000000) : ∃ r, Ev (fun k => zfb.f k s (⟨#[46]⟩ : ByteArray)) r ∧ r.map bytesOf = zqb isPt (bytesOf s) := by
 obtain ⟨r, h, h1⟩ := split_from s.size s [] (Nat.le_refl _) hs (by simp; omega)
 refine ⟨r, ?_, by simpa using h1⟩
 simp only [zfb.f]
 refine Ev.neg (fun _ h => by cases h) ?_
 exact h
def seg (l : List Int) (a b : Nat) : List Int := (l.drop a).take (b - a)
theorem seg_succ (l : List Int) (a b : Nat) (h : a ≤ b) (hb : b < l.length) : seg l a (b + 1) = seg l a b ++ [l.getD b 0] := by
 unfold seg
 have e : b + 1 - a = (b - a) + 1 := by omega
 have hlen : b - a < (l.drop a).length := by rw [List.length_drop]; omega
 rw [e, List.take_succ_eq_append_getElem hlen]
 congr 2
 simp only [List.getElem_drop]
 have : a + (b - a) = b := by omega
 simp [this, List.getD_eq_getElem?_getD, hb]
theorem seg_nil (l : List Int) (a : Nat) : seg l a a = [] := by unfold seg; rw [Nat.sub_self]; rfl
theorem B_seg (s : ByteArray) (a b : Nat) : bytesOf (s.extract a b) = seg (bytesOf s) a b := zrc s a b
theorem low_le {c : Int} (h : 0 ≤ c ∧ c ≤ 127) : 0 ≤ low c ∧ low c ≤ 127 := by unfold low; split <;> omega
theorem splitP_mem (p : Int → Bool) : ∀ (l : List Int), ∀ w ∈ zqb p l, ∀ x ∈ w, x ∈ l := by
 intro l
 induction l with
 | nil => intro w hw x hx; simp [zqb] at hw; subst hw; cases hx
 | cons c r ih =>
  intro w hw x hx
  simp only [zqb] at hw
  split at hw
  ·rcases List.mem_cons.1 hw with rfl | hw
   ·cases hx
   ·exact List.mem_cons_of_mem _ (ih w hw x hx)
  ·cases hL : zqb p r with
   | nil => exact absurd hL (zje p r)
   | cons y L =>
    rw [hL] at hw
    simp only [glue, List.mem_cons] at hw
    rcases hw with rfl | hw
    ·rcases List.mem_append.1 hx with hx | hx
     ·rw [List.mem_singleton.1 hx]; exact List.mem_cons_self
     ·exact List.mem_cons_of_mem _ (ih y (by rw [hL]; exact List.mem_cons_self) x hx)
    ·exact List.mem_cons_of_mem _ (ih w (by rw [hL]; exact List.mem_cons_of_mem _ hw) x hx)
theorem zog (p : Int → Bool) : ∀ (l : List Int), ∀ w ∈ zqb p l, w.length ≤ l.length := by
 intro l
 induction l with
 | nil => intro w hw; simp [zqb] at hw; subst hw; simp
 | cons c r ih =>
  intro w hw
  simp only [zqb] at hw
  split at hw
  ·rcases List.mem_cons.1 hw with rfl | hw
   ·simp
   ·have := ih w hw; simp; omega
  ·cases hL : zqb p r with
   | nil => exact absurd hL (zje p r)
   | cons y L =>
    rw [hL] at hw
    simp only [glue, List.mem_cons] at hw
    rcases hw with rfl | hw
    ·have := ih y (by rw [hL]; exact List.mem_cons_self)
     simp; omega
    ·have := ih w (by rw [hL]; exact List.mem_cons_of_mem _ hw)
     simp; omega
theorem lparts_from (s : ByteArray) (hs : s.size ≤ 1000000) : ∀ (n from_ i : Nat) (out : List ByteArray), s.size - i = n → i ≤ s.size → from_ ≤ i → out.length ≤ i →
  ∃ r, Ev (fun k => zx.l0 k s out from_ i) r ∧ r.map bytesOf = out.map bytesOf ++ glue (seg (bytesOf s) from_ i) (zqb isMk ((bytesOf s).drop i)) := by
 intro n
 induction n with
 | zero =>
  intro f i out hn hi hf ho
  have hi2 : i = s.size := by omega
  refine ⟨out ++ [s.extract f s.size], Ev.succ ?_, ?_⟩
  ·simp only [zx.l0, Int.toNat_natCast]
   refine Ev.neg (fun _ => by first | omega | assumption | nofun) ?_
   refine Ev.pos (fun _ => by first | omega | trivial | assumption) ?_
   refine Ev.pos (fun _ => by first | omega | trivial | assumption) ?_
   refine Ev.pos (fun _ => by first | omega | trivial | assumption) ?_
   exact Ev.now _
  ·rw [List.drop_of_length_le (by rw [bytesOf_length]; omega), List.map_append, List.map_cons, List.map_nil, B_seg, ← hi2]
   simp [zqb, glue]
 | succ n ih =>
  intro f i out hn hi hf ho
  have hl : i < (bytesOf s).length := by rw [bytesOf_length]; omega
  rw [zkc _ _ hl]
  simp only [zqb]
  cases hp : isMk ((bytesOf s).getD i 0)
  ·obtain ⟨r, hr, h1⟩ := ih f (i + 1) out (by omega) (by omega) (by omega) (by omega)
   have hp2 : ¬ ((bytesOf s).getD i 0 = 46 ∨ (bytesOf s).getD i 0 = 95 ∨ (bytesOf s).getD i 0 = 45) := of_decide_eq_false hp
   refine ⟨r, Ev.succ ?_, ?_⟩
   ·simp only [zx.l0, zdd]
    refine Ev.pos (fun _ => by first | omega | trivial | assumption) ?_
    refine Ev.pos (fun _ => by first | omega | trivial | assumption) ?_
    refine Ev.neg (fun _ => by first | omega | assumption | nofun) ?_
    refine Ev.neg (fun _ => by first | omega | assumption | nofun) ?_
    refine Ev.neg (fun _ => by first | omega | assumption | nofun) ?_
    rw [w64 (by omega) (by omega)]
    exact hr
   ·rw [h1, if_neg (by simp), glue_glue, seg_succ _ _ _ hf hl]
  ·obtain ⟨r, hr, h1⟩ := ih (i + 1) (i + 1) (out ++ [s.extract f i]) (by omega) (by omega) (by omega) (by simp; omega)
   have hp2 : (bytesOf s).getD i 0 = 46 ∨ (bytesOf s).getD i 0 = 95 ∨ (bytesOf s).getD i 0 = 45 := of_decide_eq_true hp
   refine ⟨r, Ev.succ ?_, ?_⟩
   ·simp only [zx.l0, zdd, Int.toNat_natCast]
    refine Ev.pos (fun _ => by first | omega | trivial | assumption) ?_
    refine Ev.pos (fun _ => by first | omega | trivial | assumption) ?_
    rcases hp2 with h | h | h
    ·(repeat (first | refine Ev.pos (fun _ => by first | omega | trivial | assumption) ?_ | refine Ev.neg (fun _ => by first | omega | assumption | nofun) ?_))
     rw [w64 (by omega) (by omega)]
     exact hr
    ·(repeat (first | refine Ev.pos (fun _ => by first | omega | trivial | assumption) ?_ | refine Ev.neg (fun _ => by first | omega | assumption | nofun) ?_))
     rw [w64 (by omega) (by omega)]
     exact hr
    ·(repeat (first | refine Ev.pos (fun _ => by first | omega | trivial | assumption) ?_ | refine Ev.neg (fun _ => by first | omega | assumption | nofun) ?_))
     rw [w64 (by omega) (by omega)]
     exact hr
   ·rw [h1, if_pos rfl, seg_nil, glue_nil (zje _ _), List.map_append, List.map_cons, List.map_nil, B_seg]
    simp [glue]
theorem lparts_ev (s : ByteArray) (hs : s.size ≤ 1000000) : ∃ r, Ev (fun k => zx.f k s) r ∧ r.map bytesOf = zqb isMk (bytesOf s) := by
 obtain ⟨r, h, h1⟩ := lparts_from s hs _ 0 0 [] rfl (by omega) (by omega) (by simp)
 refine ⟨r, h, ?_⟩
 rw [h1, seg_nil, List.drop_zero, glue_nil (zje _ _)]
 rfl
theorem toLower_eq (s : ByteArray) (hs : s.size ≤ 2000000000) (ha : ∀ x ∈ bytesOf s, x ≤ 127) : ∃ r, zpb.f s = some r ∧ bytesOf r = (bytesOf s).map low := by
 refine ⟨_, ?_, toLower_B s⟩
 unfold zpb.f
 rw [if_pos ⟨by omega, ha⟩]
theorem rdOf_mem {l : List ByteArray} {i : Nat} (h : i < l.length) : rdOf ByteArray.empty l i ∈ l := by
 simp only [rdOf, Int.toNat_natCast, List.getD_eq_getElem?_getD, List.getElem?_eq_getElem h, Option.getD_some]
 exact List.getElem_mem h
theorem drop_rd {l : List ByteArray} {i : Nat} (h : i < l.length) : l.drop i = rdOf ByteArray.empty l i :: l.drop (i + 1) := by
 rw [List.drop_eq_getElem_cons h]
 simp [rdOf, List.getD_eq_getElem?_getD, h]
theorem lows_from (l : List ByteArray) (hl : l.length ≤ 2000000) (ha : ∀ w ∈ l, w.size ≤ 2000000000 ∧ ∀ x ∈ bytesOf w, x ≤ 127) : ∀ (n i : Nat) (out : List ByteArray), l.length - i = n → i ≤ l.length → out.length ≤ i →
  ∃ r, Ev (fun k => zu.l0 k out l l.length i) r ∧ r.map bytesOf = out.map bytesOf ++ ((l.drop i).map bytesOf).map (List.map low) := by
 intro n
 induction n with
 | zero =>
  intro i out hn hi ho
  refine ⟨out, Ev.succ ?_, by rw [List.drop_of_length_le (by omega)]; simp⟩
  simp only [zu.l0]
  refine Ev.neg (fun _ => by first | omega | assumption | nofun) ?_
  exact Ev.now _
 | succ n ih =>
  intro i out hn hi ho
  have hil : i < l.length := by omega
  obtain ⟨h1, h2⟩ := ha _ (rdOf_mem hil)
  obtain ⟨t, ht, htb⟩ := toLower_eq _ h1 h2
  obtain ⟨r, hr, hb⟩ := ih (i + 1) (out ++ [t]) (by omega) (by omega) (by simp; omega)
  refine ⟨r, Ev.succ ?_, ?_⟩
  ·simp only [zu.l0]
   refine Ev.pos (fun _ => by first | omega | trivial | assumption) ?_
   refine Ev.pos (fun _ => by first | omega | trivial | assumption) ?_
   refine Ev.pos (fun _ => by first | omega | trivial | assumption) ?_
   refine Ev.bind0 ht ?_
   refine Ev.pos (fun _ => by first | omega | trivial | assumption) ?_
   rw [w64 (by omega) (by omega)]
   exact hr
  ·rw [hb, drop_rd hil, List.map_append, List.map_cons, List.map_nil, htb]
   simp
theorem local_ev (s : ByteArray) (hs : s.size ≤ 1000000) (ha : ∀ x ∈ bytesOf s, x ≤ 127) : ∃ r, Ev (fun k => zu.f k s) r ∧ r.map bytesOf = (zqb isMk (bytesOf s)).map (List.map low) := by
 obtain ⟨p, hp, hb⟩ := lparts_ev s hs
 have hpl : p.length ≤ 1000001 := by
  have h := congrArg List.length hb
  rw [List.length_map] at h
  have := ztf isMk (bytesOf s)
  rw [bytesOf_length] at this
  omega
 have hall : ∀ w ∈ p, w.size ≤ 2000000000 ∧ ∀ x ∈ bytesOf w, x ≤ 127 := by
  intro w hw
  have hm : bytesOf w ∈ zqb isMk (bytesOf s) := by rw [← hb]; exact List.mem_map_of_mem hw
  refine ⟨?_, fun x hx => ha x (splitP_mem _ _ _ hm x hx)⟩
  have h := zog isMk (bytesOf s) _ hm
  rw [bytesOf_length, bytesOf_length] at h
  omega
 obtain ⟨r, hr, hrb⟩ := lows_from p (by omega) hall _ 0 [] rfl (by omega) (by simp)
 have hrl : r.length = p.length := by
  have h := congrArg List.length hrb
  simpa using h
 refine ⟨r, ?_, by rw [hrb, List.drop_zero, hb]; simp⟩
 simp only [zu.f]
 exact Ev.bind hp hr
end Go.Proofs.YtlijjnjpomnphaaGreatDoorY
end
section
namespace Go.Proofs.YtlijjnjpomnphaaGreatDoorY
open Go.RowKit YtlijjnjpomnphaaGreatDoorH YtlijjnjpomnphaaGreatDoorB YtlijjnjpomnphaaGreatDoorM YtlijjnjpomnphaaGreatDoorP YtlijjnjpomnphaaGreatDoor.S YtlijjnjpomnphaaGreatDoorW.PrintWords YtlijjnjpomnphaaGreatDoorW.PrintLast
theorem zyf (c : Int) : zwb.f c = some (isD c) := by
 unfold zwb.f isD
 by_cases h : c ≥ 48
 ·rw [if_pos h]; simp; omega
 ·rw [if_neg h]; simp; omega
def toks : Nat → List Int → List (List Int)
 | 0, _ => []
 | _ + 1, [] => []
 | n + 1, c :: r =>
  if isD c then (c :: r).take (run isD (c :: r)) :: toks n ((c :: r).drop (run isD (c :: r)))
  else if isL c then (c :: r).take (run isL (c :: r)) :: toks n ((c :: r).drop (run isL (c :: r)))
  else if c = 46 ∨ c = 45 then [c] :: toks n r
  else toks n r
theorem legacy_l1 (s : ByteArray) (hs : s.size ≤ 2000000000) (out : List ByteArray) (i : Nat) (r : List ByteArray) : ∀ (n j : Nat), s.size - j = n → j ≤ s.size →
  Ev (fun k => zh.j2 k s out i ((j + run isL ((bytesOf s).drop j) : Nat) : Int)) r → Ev (fun k => zh.l1 k s out i j) r := by
 intro n
 induction n with
 | zero =>
  intro j hn hj h
  rw [List.drop_of_length_le (by rw [bytesOf_length]; omega)] at h
  refine Ev.succ ?_
  simp only [zh.l1]
  refine Ev.neg (fun _ => by omega) ?_
  simpa [zsf] using h
 | succ n ih =>
  intro j hn hj h
  have hl : j < (bytesOf s).length := by rw [bytesOf_length]; omega
  rw [zkc _ _ hl] at h
  refine Ev.succ ?_
  simp only [zh.l1]
  refine Ev.pos (fun _ => by omega) ?_
  refine Ev.pos (fun _ => by omega) ?_
  rw [zdd]
  cases hc : isL ((bytesOf s).getD j 0)
  ·rw [zqc hc] at h
   simp only [isL, decide_eq_false_iff_not] at hc
   by_cases h1 : (bytesOf s).getD j 0 ≥ 97
   ·refine Ev.pos (fun _ => h1) ?_
    refine Ev.neg (fun _ => by omega) ?_
    simpa using h
   ·refine Ev.neg (fun _ => h1) ?_
    simpa using h
  ·rw [zed hc] at h
   simp only [isL, decide_eq_true_eq] at hc
   refine Ev.pos (fun _ => by omega) ?_
   refine Ev.pos (fun _ => by omega) ?_
   rw [w64 (by omega) (by omega)]
   refine ih (j + 1) (by omega) (by omega) ?_
   rw [show j + 1 + run isL ((bytesOf s).drop (j + 1)) = j + (run isL ((bytesOf s).drop (j + 1)) + 1) by omega]
   exact h
theorem legacy_from (s : ByteArray) (hs : s.size ≤ 2000000000) : ∀ (n i : Nat) (out : List ByteArray), s.size - i ≤ n → i ≤ s.size → out.length ≤ i →
  ∃ r, Ev (fun k => zh.l0 k s out i) r ∧ r.map bytesOf = out.map bytesOf ++ toks n ((bytesOf s).drop i) ∧ r.length ≤ s.size := by
 intro n
 induction n with
 | zero =>
  intro i out hn hi ho
  refine ⟨out, Ev.succ ?_, by simp [toks], by omega⟩
  simp only [zh.l0]
  refine Ev.neg (fun _ => by omega) ?_
  exact Ev.now _
 | succ n ih =>
  intro i out hn hi ho
  by_cases hlt : i < s.size
  ·have hl : i < (bytesOf s).length := by rw [bytesOf_length]; omega
   have hd := zpe s hs i hi
   have hle := zle isD ((bytesOf s).drop i)
   have hleL := zle isL ((bytesOf s).drop i)
   rw [List.length_drop, bytesOf_length] at hle hleL
   have hg := zkc _ _ hl
   cases hc : isD ((bytesOf s).getD i 0)
   ·rw [hg, zqc hc] at hd
    have hj2 : ∀ (j : Nat) (r : List ByteArray), j = i + run isL ((bytesOf s).drop i) → Ev (fun k => zh.j2 k s out i j) r → Ev (fun k => zh.l0 k s out i) r := by
     intro j r hj hr
     refine Ev.succ ?_
     simp only [zh.l0]
     refine Ev.pos (fun _ => by omega) ?_
     refine Ev.bind hd ?_
     refine Ev.pos (fun _ => by omega) ?_
     refine legacy_l1 s hs out i r _ i rfl hi ?_
     rw [← hj]
     exact hr
    cases hL : isL ((bytesOf s).getD i 0)
    ·have h0 : run isL ((bytesOf s).drop i) = 0 := by rw [hg]; exact zqc hL
     rw [h0, Nat.add_zero] at hj2
     by_cases hp : (bytesOf s).getD i 0 = 46 ∨ (bytesOf s).getD i 0 = 45
     ·obtain ⟨r, hr, h1, h2⟩ := ih (i + 1) (out ++ [s.extract i (i + 1)]) (by omega) (by omega) (by simp; omega)
      refine ⟨r, hj2 i r rfl ?_, ?_, h2⟩
      ·have hj3 : Ev (fun k => zh.j3 k s out i i true) r := by
        refine Ev.succ ?_
        simp only [zh.j3]
        refine Ev.pos (fun _ => trivial) ?_
        rw [w64 (i := (i : Int) + 1) (by omega) (by omega)]
        refine Ev.neg (fun _ => by omega) ?_
        refine Ev.pos (fun _ => by omega) ?_
        refine Ev.pos (fun _ => by omega) ?_
        refine Ev.pos (fun _ => by omega) ?_
        refine Ev.pos (fun _ => by omega) ?_
        exact hr
       refine Ev.succ ?_
       simp only [zh.j2]
       refine Ev.pos (fun _ => trivial) ?_
       refine Ev.pos (fun _ => by omega) ?_
       refine Ev.pos (fun _ => by omega) ?_
       rw [zdd]
       by_cases h46 : (bytesOf s).getD i 0 = 46
       ·refine Ev.pos (fun _ => h46) ?_
        exact hj3
       ·refine Ev.neg (fun _ => h46) ?_
        have h45 : (bytesOf s).getD i 0 = 45 := by omega
        rw [h45]
        exact hj3
      ·rw [h1, hg, List.map_append]
       simp only [toks, hc, hL, Bool.false_eq_true, if_false]
       rw [if_pos hp]
       simp [zrc, hg]
     ·obtain ⟨r, hr, h1, h2⟩ := ih (i + 1) out (by omega) (by omega) (by omega)
      refine ⟨r, hj2 i r rfl ?_, ?_, h2⟩
      ·have hj3 : Ev (fun k => zh.j3 k s out i i false) r := by
        refine Ev.succ ?_
        simp only [zh.j3]
        refine Ev.neg (fun _ => by simp) ?_
        refine Ev.pos (fun _ => trivial) ?_
        rw [w64 (by omega) (by omega)]
        exact hr
       refine Ev.succ ?_
       simp only [zh.j2]
       refine Ev.pos (fun _ => trivial) ?_
       refine Ev.pos (fun _ => by omega) ?_
       refine Ev.pos (fun _ => by omega) ?_
       rw [zdd]
       refine Ev.neg (fun _ => by omega) ?_
       have : ((bytesOf s).getD i 0 == 45) = false := by simp only [beq_eq_false_iff_ne, ne_eq]; intro h; exact hp (Or.inr h)
       rw [this]
       exact hj3
      ·rw [h1, hg]
       simp only [toks, hc, hL, Bool.false_eq_true, if_false]
       rw [if_neg hp]
    ·have h0 : 0 < run isL ((bytesOf s).drop i) := by rw [hg, zed hL]; omega
     obtain ⟨j, hj⟩ : ∃ j, j = i + run isL ((bytesOf s).drop i) := ⟨_, rfl⟩
     obtain ⟨r, hr, h1, h2⟩ := ih j (out ++ [s.extract i j]) (by omega) (by omega) (by simp; omega)
     refine ⟨r, hj2 j r hj ?_, ?_, h2⟩
     ·have hj3 : Ev (fun k => zh.j3 k s out i j false) r := by
       refine Ev.succ ?_
       simp only [zh.j3]
       refine Ev.neg (fun _ => by simp) ?_
       refine Ev.neg (fun _ => by omega) ?_
       refine Ev.pos (fun _ => by omega) ?_
       refine Ev.pos (fun _ => by omega) ?_
       refine Ev.pos (fun _ => by omega) ?_
       refine Ev.pos (fun _ => by omega) ?_
       exact hr
      refine Ev.succ ?_
      simp only [zh.j2]
      refine Ev.neg (fun _ => by omega) ?_
      exact hj3
     ·rw [h1, List.map_append, hj, ← List.drop_drop]
      rw [hg]
      simp only [toks, hc, hL, Bool.false_eq_true, if_false, if_true]
      simp [zrc, hg]
   ·have h0 : 0 < run isD ((bytesOf s).drop i) := by rw [hg, zed hc]; omega
    obtain ⟨j, hj⟩ : ∃ j, j = i + run isD ((bytesOf s).drop i) := ⟨_, rfl⟩
    rw [← hj] at hd
    obtain ⟨r, hr, h1, h2⟩ := ih j (out ++ [s.extract i j]) (by omega) (by omega) (by simp; omega)
    refine ⟨r, ?_, ?_, h2⟩
    ·have hj3 : Ev (fun k => zh.j3 k s out i j false) r := by
      refine Ev.succ ?_
      simp only [zh.j3]
      refine Ev.neg (fun _ => by simp) ?_
      refine Ev.neg (fun _ => by omega) ?_
      refine Ev.pos (fun _ => by omega) ?_
      refine Ev.pos (fun _ => by omega) ?_
      refine Ev.pos (fun _ => by omega) ?_
      refine Ev.pos (fun _ => by omega) ?_
      exact hr
     refine Ev.succ ?_
     simp only [zh.l0]
     refine Ev.pos (fun _ => by omega) ?_
     refine Ev.bind hd ?_
     refine Ev.neg (fun _ => by omega) ?_
     refine Ev.succ ?_
     simp only [zh.j2]
     refine Ev.neg (fun _ => by omega) ?_
     exact hj3
    ·rw [h1, List.map_append, hj, ← List.drop_drop]
     rw [hg]
     simp only [toks, hc, if_true]
     simp [zrc, hg]
  ·refine ⟨out, Ev.succ ?_, ?_, by omega⟩
   ·simp only [zh.l0]
    refine Ev.neg (fun _ => by omega) ?_
    exact Ev.now _
   ·rw [List.drop_of_length_le (by rw [bytesOf_length]; omega)]
    simp [toks]
theorem legacy_ev (s : ByteArray) (hs : s.size ≤ 2000000000) :
  ∃ r, Ev (fun k => zh.f k s) r ∧ r.map bytesOf = toks s.size (bytesOf s) ∧ r.length ≤ s.size := by
 obtain ⟨r, h, h1, h2⟩ := legacy_from s hs s.size 0 [] (by omega) (by omega) (by simp)
 exact ⟨r, h, by simpa using h1, h2⟩
theorem run_head {p : Int → Bool} {c : Int} {r : List Int} (h : p c = true) : (c :: r).take (run p (c :: r)) = c :: r.take (run p r) := by rw [zed h]; rfl
def Tok (t : List Int) : Prop := t = [46] ∨ t = [45] ∨ (t ≠ [] ∧ ∀ x ∈ t, isD x = true) ∨ (t ≠ [] ∧ ∀ x ∈ t, isL x = true)
theorem zph (p : Int → Bool) (l : List Int) : ∀ x ∈ l.take (run p l), p x = true := by
 rw [take_run]
 induction l with
 | nil => intro x hx; simp at hx
 | cons c l ih =>
  intro x hx
  cases h : p c
  ·simp [h] at hx
  ·simp only [List.takeWhile_cons, h, if_true, List.mem_cons] at hx
   rcases hx with rfl | hx
   ·exact h
   ·exact ih x hx
theorem toks_tok : ∀ (n : Nat) (l : List Int), ∀ t ∈ toks n l, Tok t ∧ t.length ≤ l.length := by
 intro n
 induction n with
 | zero => intro l t ht; simp [toks] at ht
 | succ n ih =>
  intro l t ht
  cases l with
  | nil => simp [toks] at ht
  | cons c r =>
   simp only [toks] at ht
   by_cases hc : isD c = true
   ·rw [if_pos hc, List.mem_cons] at ht
    rcases ht with rfl | ht
    ·exact ⟨.inr (.inr (.inl ⟨by rw [run_head hc]; simp, zph _ _⟩)), by rw [List.length_take]; exact Nat.min_le_right _ _⟩
    ·have h := ih _ _ ht
     exact ⟨h.1, Nat.le_trans h.2 (by rw [List.length_drop]; omega)⟩
   ·rw [if_neg hc] at ht
    by_cases hL : isL c = true
    ·rw [if_pos hL, List.mem_cons] at ht
     rcases ht with rfl | ht
     ·exact ⟨.inr (.inr (.inr ⟨by rw [run_head hL]; simp, zph _ _⟩)), by rw [List.length_take]; exact Nat.min_le_right _ _⟩
     ·have h := ih _ _ ht
      exact ⟨h.1, Nat.le_trans h.2 (by rw [List.length_drop]; omega)⟩
    ·rw [if_neg hL] at ht
     by_cases hp : c = 46 ∨ c = 45
     ·rw [if_pos hp, List.mem_cons] at ht
      rcases ht with rfl | ht
      ·exact ⟨by rcases hp with rfl | rfl <;> simp [Tok], by simp⟩
      ·have h := ih _ _ ht
       exact ⟨h.1, Nat.le_trans h.2 (by simp)⟩
     ·rw [if_neg hp] at ht
      have h := ih _ _ ht
      exact ⟨h.1, Nat.le_trans h.2 (by simp)⟩
def pad : Nat → List Int → List Int
 | 0, l => l
 | n + 1, l => pad n (48 :: l)
def norm (t : List Int) : List Int :=
 if t = [112, 114, 101] ∨ t = [112, 114, 101, 118, 105, 101, 119] ∨ t = [114, 99] then [42, 99]
 else if t = [45] then [42, 102, 105, 110, 97, 108, 45]
 else if t = [100, 101, 118] then [42, 64]
 else if isD (t.getD 0 0) = true then pad (8 - t.length) t
 else 42 :: t
theorem B_zero (x : ByteArray) : bytesOf ((⟨#[48]⟩ : ByteArray) ++ x) = 48 :: bytesOf x := by rw [zcd]; rfl
theorem B_star (x : ByteArray) : bytesOf ((⟨#[42]⟩ : ByteArray) ++ x) = 42 :: bytesOf x := by rw [zcd]; rfl
theorem size_zero (x : ByteArray) : ((⟨#[48]⟩ : ByteArray) ++ x).size = x.size + 1 := by rw [zre, B_zero, zre]; rfl
theorem padded_from : ∀ (n : Nat) (x : ByteArray), x.size ≤ 2000000000 → n = 8 - x.size → ∀ (j : Nat), j = x.size →
  ∃ r, Ev (fun k => zgb.l0 k x j) r ∧ bytesOf r = pad n (bytesOf x) := by
 intro n
 induction n with
 | zero =>
  intro x hx hn j hj
  refine ⟨x, Ev.succ ?_, rfl⟩
  simp only [zgb.l0]
  (repeat (first | refine Ev.pos (fun _ => by first | omega | trivial | assumption) ?_ | refine Ev.neg (fun _ => by first | omega | assumption | nofun) ?_))
  exact Ev.now _
 | succ n ih =>
  intro x hx hn j hj
  obtain ⟨r, hr, h⟩ := ih ((⟨#[48]⟩ : ByteArray) ++ x) (by rw [size_zero]; omega) (by rw [size_zero]; omega) (j + 1) (by rw [size_zero]; omega)
  refine ⟨r, Ev.succ ?_, by rw [h, B_zero]; rfl⟩
  simp only [zgb.l0]
  (repeat (first | refine Ev.pos (fun _ => by first | omega | trivial | assumption) ?_ | refine Ev.neg (fun _ => by first | omega | assumption | nofun) ?_))
  rw [w64 (by omega) (by omega)]
  exact hr
theorem padded_ev (x : ByteArray) (hx : x.size ≤ 2000000000) : ∃ r, Ev (fun k => zgb.f k x) r ∧ bytesOf r = pad (8 - (bytesOf x).length) (bytesOf x) := by
 rw [bytesOf_length]
 exact padded_from _ x hx rfl _ rfl
theorem norm_j0 (x : ByteArray) (hx : x.size ≤ 2000000000) (h0 : bytesOf x ≠ []) :
  ∃ r, Ev (fun k => zj.j0 k x) r ∧ bytesOf r = (if isD ((bytesOf x).getD 0 0) = true then pad (8 - (bytesOf x).length) (bytesOf x) else 42 :: bytesOf x) := by
 have hpos : 0 < (bytesOf x).length := List.length_pos_iff.2 h0
 rw [bytesOf_length] at hpos
 have hr := bt_range x 0
 obtain ⟨p, hp, hpb⟩ := padded_ev x hx
 cases hc : isD ((bytesOf x).getD 0 0)
 ·refine ⟨(⟨#[42]⟩ : ByteArray) ++ x, Ev.succ ?_, by rw [B_star]; simp⟩
  simp only [zj.j0]
  rw [w32 (by omega) (by omega), bt_zero, zyf, hc]
  simp only [Option.bind_some]
  (repeat (first | refine Ev.pos (fun _ => by first | omega | trivial | assumption) ?_ | refine Ev.neg (fun _ => by first | omega | assumption | nofun) ?_))
  exact Ev.now _
 ·refine ⟨p, Ev.succ ?_, by rw [hpb, bytesOf_length]; simp⟩
  simp only [zj.j0]
  rw [w32 (by omega) (by omega), bt_zero, zyf, hc]
  simp only [Option.bind_some]
  refine Ev.pos (fun _ => by first | omega | trivial | assumption) ?_
  refine Ev.pos (fun _ => by first | omega | trivial | assumption) ?_
  exact Ev.bind hp (Ev.now _)
theorem norm_ev (x : ByteArray) (hx : x.size ≤ 2000000000) (h0 : bytesOf x ≠ []) :
  ∃ r, Ev (fun k => zj.f k x) r ∧ bytesOf r = norm (bytesOf x) := by
 simp only [zj.f, zge]
 simp only [List.map_cons, List.map_nil, UInt8.reduceToNat]
 obtain ⟨r, hr, hb⟩ := norm_j0 x hx h0
 obtain ⟨r1, hr1, hb1⟩ := norm_j0 ⟨#[99]⟩ (by decide) (by decide)
 obtain ⟨r2, hr2, hb2⟩ := norm_j0 ⟨#[102, 105, 110, 97, 108, 45]⟩ (by decide) (by decide)
 obtain ⟨r3, hr3, hb3⟩ := norm_j0 ⟨#[64]⟩ (by decide) (by decide)
 have e1 : bytesOf r1 = [42, 99] := hb1.trans (by decide)
 have e2 : bytesOf r2 = [42, 102, 105, 110, 97, 108, 45] := hb2.trans (by decide)
 have e3 : bytesOf r3 = [42, 64] := hb3.trans (by decide)
 unfold norm
 by_cases h1 : bytesOf x = [112, 114, 101]
 ·rw [if_pos (.inl h1)]
  exact ⟨r1, Ev.pos (fun _ => h1) hr1, e1⟩
 ·by_cases h2 : bytesOf x = [112, 114, 101, 118, 105, 101, 119]
  ·rw [if_pos (.inr (.inl h2))]
   exact ⟨r1, Ev.neg (fun _ => h1) (Ev.pos (fun _ => h2) hr1), e1⟩
  ·by_cases h3 : bytesOf x = [45]
   ·rw [if_neg (by rw [h3]; decide), if_pos h3]
    exact ⟨r2, Ev.neg (fun _ => h1) (Ev.neg (fun _ => h2) (Ev.pos (fun _ => h3) hr2)), e2⟩
   ·by_cases h4 : bytesOf x = [114, 99]
    ·rw [if_pos (.inr (.inr h4))]
     exact ⟨r1, Ev.neg (fun _ => h1) (Ev.neg (fun _ => h2) (Ev.neg (fun _ => h3) (Ev.pos (fun _ => h4) hr1))), e1⟩
    ·rw [if_neg (by simp [h1, h2, h4]), if_neg h3]
     by_cases h5 : bytesOf x = [100, 101, 118]
     ·rw [if_pos h5]
      exact ⟨r3, Ev.neg (fun _ => h1) (Ev.neg (fun _ => h2) (Ev.neg (fun _ => h3) (Ev.neg (fun _ => h4) (Ev.pos (fun _ => h5) hr3)))), e3⟩
     ·rw [if_neg h5]
      exact ⟨r, Ev.neg (fun _ => h1) (Ev.neg (fun _ => h2) (Ev.neg (fun _ => h3) (Ev.neg (fun _ => h4) (Ev.neg (fun _ => h5) hr)))), hb⟩
def fm : List Int := [42, 102, 105, 110, 97, 108, 45]
def zz : List Int := [48, 48, 48, 48, 48, 48, 48, 48]
def fin : List Int := [42, 102, 105, 110, 97, 108]
def pop (x : List Int) : Nat → List (List Int) → List (List Int)
 | 0, l => l
 | n + 1, l => if l.getD (l.length - 1) [] = x then pop x n (l.take (l.length - 1)) else l
theorem zfh (x : List Int) : ∀ (n : Nat) (l : List (List Int)), (pop x n l).length ≤ l.length := by
 intro n
 induction n with
 | zero => intro l; exact Nat.le_refl _
 | succ n ih =>
  intro l
  simp only [pop]
  split
  ·exact Nat.le_trans (ih _) (by rw [List.length_take]; omega)
  ·exact Nat.le_refl _
def step (out : List (List Int)) (t : List Int) : List (List Int) :=
 if (norm t).getD 0 0 = 42 then
  pop zz (if lt_ (norm t) fin = true then pop fm out.length out else out).length (if lt_ (norm t) fin = true then pop fm out.length out else out) ++ [norm t]
 else out ++ [norm t]
theorem step_length (out : List (List Int)) (t : List Int) : (step out t).length ≤ out.length + 1 := by
 unfold step
 have h1 := zfh fm out.length out
 split
 ·rw [List.length_append]
  have h2 := zfh zz (if lt_ (norm t) fin = true then pop fm out.length out else out).length (if lt_ (norm t) fin = true then pop fm out.length out else out)
  have h3 : (if lt_ (norm t) fin = true then pop fm out.length out else out).length ≤ out.length := by split <;> omega
  simp only [List.length_cons, List.length_nil]
  omega
 ·simp
theorem impl_l2 (x5 : ByteArray) (x11 : List ByteArray) (x12 x13 : Int) (h13 : 0 ≤ x13) (hb : x13 ≤ 2000000000) : ∀ (n : Nat) (x2 : List ByteArray), x2.length = n → n ≤ 2000000000 →
  ∃ y, y.map bytesOf = pop zz n (x2.map bytesOf) ∧ ∀ r, Ev (fun k => zd.l0 k (y ++ [x5]) x11 x12 (x13 + 1)) r → Ev (fun k => zd.l2 k x2 x5 x11 x12 x13) r := by
 intro n
 induction n with
 | zero =>
  intro x2 h2 hn
  refine ⟨x2, rfl, fun r hr => Ev.succ ?_⟩
  simp only [zd.l2]
  rw [w64 (i := x13 + 1) (by omega) (by omega)]
  (repeat (first | refine Ev.pos (fun _ => by first | omega | trivial | assumption) ?_ | refine Ev.neg (fun _ => by first | omega | assumption | nofun) ?_))
  exact hr
 | succ n ih =>
  intro x2 h2 hn
  have hw : wrap64 ((x2.length : Int) - 1) = (n : Nat) := by rw [w64 (by omega) (by omega)]; omega
  have hlen : (x2.map bytesOf).length = n + 1 := by rw [List.length_map]; exact h2
  by_cases hz : (x2.map bytesOf).getD n [] = zz
  ·obtain ⟨y, hy, hc⟩ := ih (x2.take n) (by rw [List.length_take]; omega) (by omega)
   refine ⟨y, ?_, fun r hr => Ev.succ ?_⟩
   ·simp only [pop]
    rw [hlen, Nat.add_sub_cancel, if_pos hz, hy, List.map_take]
   ·simp only [zd.l2]
    rw [hw]
    have ht : (rdOf ByteArray.empty x2 (n : Nat)).toList = ([48, 48, 48, 48, 48, 48, 48, 48] : List UInt8) := (zge _ _).2 (by rw [rdOf_B]; exact hz)
    refine Ev.pos (fun _ => by first | omega | trivial | assumption) ?_
    refine Ev.pos (fun _ => by first | omega | trivial | assumption) ?_
    refine Ev.pos (fun _ => by first | omega | trivial | assumption) ?_
    refine Ev.pos (fun _ => by first | omega | trivial | assumption) ?_
    refine Ev.pos (fun _ => by first | omega | trivial | assumption) ?_
    exact hc r hr
  ·refine ⟨x2, ?_, fun r hr => Ev.succ ?_⟩
   ·simp only [pop]
    rw [hlen, Nat.add_sub_cancel, if_neg hz]
   ·simp only [zd.l2]
    rw [hw, w64 (i := x13 + 1) (by omega) (by omega)]
    have ht : ¬ (rdOf ByteArray.empty x2 (n : Nat)).toList = ([48, 48, 48, 48, 48, 48, 48, 48] : List UInt8) := fun h => hz (by rw [← rdOf_B]; exact (zge _ _).1 h)
    refine Ev.pos (fun _ => by first | omega | trivial | assumption) ?_
    refine Ev.pos (fun _ => by first | omega | trivial | assumption) ?_
    refine Ev.pos (fun _ => by first | omega | trivial | assumption) ?_
    refine Ev.neg (fun _ => by first | omega | assumption | nofun) ?_
    refine Ev.pos (fun _ => by first | omega | trivial | assumption) ?_
    exact hr
theorem impl_l1 (x5 : ByteArray) (x11 : List ByteArray) (x12 x13 : Int) (h13 : 0 ≤ x13) (hb : x13 ≤ 2000000000) : ∀ (n : Nat) (x2 : List ByteArray), x2.length = n → n ≤ 2000000000 →
  ∃ y, y.map bytesOf = pop fm n (x2.map bytesOf) ∧ ∀ r, Ev (fun k => zd.j3 k y x5 x11 x12 x13) r → Ev (fun k => zd.l1 k x2 x5 x11 x12 x13) r := by
 intro n
 induction n with
 | zero =>
  intro x2 h2 hn
  refine ⟨x2, rfl, fun r hr => Ev.succ ?_⟩
  simp only [zd.l1]
  (repeat (first | refine Ev.pos (fun _ => by first | omega | trivial | assumption) ?_ | refine Ev.neg (fun _ => by first | omega | assumption | nofun) ?_))
  exact hr
 | succ n ih =>
  intro x2 h2 hn
  have hw : wrap64 ((x2.length : Int) - 1) = (n : Nat) := by rw [w64 (by omega) (by omega)]; omega
  have hlen : (x2.map bytesOf).length = n + 1 := by rw [List.length_map]; exact h2
  by_cases hz : (x2.map bytesOf).getD n [] = fm
  ·obtain ⟨y, hy, hc⟩ := ih (x2.take n) (by rw [List.length_take]; omega) (by omega)
   refine ⟨y, ?_, fun r hr => Ev.succ ?_⟩
   ·simp only [pop]
    rw [hlen, Nat.add_sub_cancel, if_pos hz, hy, List.map_take]
   ·simp only [zd.l1]
    rw [hw]
    have ht : (rdOf ByteArray.empty x2 (n : Nat)).toList = ([42, 102, 105, 110, 97, 108, 45] : List UInt8) := (zge _ _).2 (by rw [rdOf_B]; exact hz)
    refine Ev.pos (fun _ => by first | omega | trivial | assumption) ?_
    refine Ev.pos (fun _ => by first | omega | trivial | assumption) ?_
    refine Ev.pos (fun _ => by first | omega | trivial | assumption) ?_
    refine Ev.pos (fun _ => by first | omega | trivial | assumption) ?_
    refine Ev.pos (fun _ => by first | omega | trivial | assumption) ?_
    exact hc r hr
  ·refine ⟨x2, ?_, fun r hr => Ev.succ ?_⟩
   ·simp only [pop]
    rw [hlen, Nat.add_sub_cancel, if_neg hz]
   ·simp only [zd.l1]
    rw [hw]
    have ht : ¬ (rdOf ByteArray.empty x2 (n : Nat)).toList = ([42, 102, 105, 110, 97, 108, 45] : List UInt8) := fun h => hz (by rw [← rdOf_B]; exact (zge _ _).1 h)
    refine Ev.pos (fun _ => by first | omega | trivial | assumption) ?_
    refine Ev.pos (fun _ => by first | omega | trivial | assumption) ?_
    refine Ev.pos (fun _ => by first | omega | trivial | assumption) ?_
    refine Ev.neg (fun _ => by first | omega | assumption | nofun) ?_
    exact hr
theorem hasPrefix_star (x : ByteArray) (hx : x.size ≤ 2000000000) (h0 : bytesOf x ≠ []) : zyb.f x (⟨#[42]⟩ : ByteArray) = some (decide ((bytesOf x).getD 0 0 = 42)) := by
 have hpos : 0 < (bytesOf x).length := List.length_pos_iff.2 h0
 have hpos2 := hpos
 rw [bytesOf_length] at hpos2
 have e1 : ((⟨#[42]⟩ : ByteArray).size : Int) = 1 := rfl
 unfold zyb.f zec.f
 rw [e1, if_pos (by omega), if_pos (by omega), if_pos (by omega)]
 simp only [Option.bind_some, Option.some.injEq]
 rw [Bool.eq_iff_iff, beq_iff_eq, zie, decide_eq_true_iff, B_take]
 have : bytesOf (⟨#[42]⟩ : ByteArray) = [42] := rfl
 rw [this]
 obtain ⟨c, l, hcl⟩ := List.exists_cons_of_ne_nil h0
 rw [hcl]
 simp
theorem norm_ne (t : List Int) (h : t ≠ []) : norm t ≠ [] := by
 unfold norm
 have hp : ∀ n (l : List Int), l ≠ [] → pad n l ≠ [] := by
  intro n
  induction n with
  | zero => intro l hl; exact hl
  | succ n ih => intro l hl; exact ih _ (by simp)
 split
 ·simp
 ·split
  ·simp
  ·split
   ·simp
   ·split
    ·exact hp _ _ h
    ·simp
theorem pad_length : ∀ (n : Nat) (l : List Int), (pad n l).length = n + l.length := by
 intro n
 induction n with
 | zero => intro l; simp [pad]
 | succ n ih => intro l; simp only [pad]; rw [ih]; simp; omega
theorem norm_length (t : List Int) : (norm t).length ≤ t.length + 8 := by
 unfold norm
 split
 ·simp
 ·split
  ·simp
  ·split
   ·simp
   ·split
    ·rw [pad_length]; omega
    ·simp
theorem impl_step (x11 : List ByteArray) (i : Nat) (hi : i ≤ 1000000000) (hlt : i < x11.length) (x2 : List ByteArray) (h2 : x2.length ≤ 1000000000) (ht : Tok ((x11.map bytesOf).getD i [])) (hs : ((x11.map bytesOf).getD i []).length ≤ 1000000000) :
  ∃ y, y.map bytesOf = (if (x11.map bytesOf).getD i [] = [46] then x2.map bytesOf else step (x2.map bytesOf) ((x11.map bytesOf).getD i [])) ∧
   ∀ r, Ev (fun k => zd.l0 k y x11 x11.length ((i + 1 : Nat) : Int)) r → Ev (fun k => zd.l0 k x2 x11 x11.length i) r := by
 have hrd := rdOf_B x11 i
 generalize hx : rdOf ByteArray.empty x11 (i : Nat) = x at hrd
 rw [← hrd] at ht hs ⊢
 have hxs : x.size ≤ 1000000000 := by rw [zre]; exact hs
 have hne : bytesOf x ≠ [] := by rcases ht with h | h | h | h <;> (first | (rw [h]; decide) | exact h.1)
 have start : ∀ (y : List ByteArray) r, (bytesOf x = [46] → Ev (fun k => zd.j1 k x2 x x11 x11.length i true) r) → (bytesOf x ≠ [46] → Ev (fun k => zd.j1 k x2 x x11 x11.length i false) r) → Ev (fun k => zd.l0 k x2 x11 x11.length i) r := by
  intro y r h1 h3
  refine Ev.succ ?_
  simp only [zd.l0]
  refine Ev.pos (fun _ => by first | omega | trivial | assumption) ?_
  refine Ev.pos (fun _ => by first | omega | trivial | assumption) ?_
  refine Ev.pos (fun _ => by first | omega | trivial | assumption) ?_
  rw [hx]
  refine Ev.neg (fun _ h => hne ((zgc _).1 h)) ?_
  by_cases h46 : bytesOf x = [46]
  ·have : (x.toList == ([46] : List UInt8)) = true := by rw [beq_iff_eq]; exact (zge _ _).2 h46
   rw [this]
   exact h1 h46
  ·have : (x.toList == ([46] : List UInt8)) = false := by rw [beq_eq_false_iff_ne]; exact fun h => h46 ((zge _ _).1 h)
   rw [this]
   exact h3 h46
 by_cases h46 : bytesOf x = [46]
 ·rw [if_pos h46]
  refine ⟨x2, rfl, fun r hr => start x2 r (fun _ => Ev.succ ?_) (fun h => absurd h46 h)⟩
  simp only [zd.j1]
  refine Ev.pos (fun _ => by first | omega | trivial | assumption) ?_
  rw [w64 (by omega) (by omega)]
  exact hr
 ·rw [if_neg h46]
  obtain ⟨p, hp, hpb⟩ := norm_ev x (by omega) hne
  have hpne : bytesOf p ≠ [] := by rw [hpb]; exact norm_ne _ hne
  have hps : p.size ≤ 2000000000 := by rw [zre, hpb]; have := norm_length (bytesOf x); omega
  have hpre := hasPrefix_star p hps hpne
  rw [hpb] at hpre
  by_cases hstar : (norm (bytesOf x)).getD 0 0 = 42
  ·rw [decide_eq_true hstar] at hpre
   by_cases hlt2 : lt_ (norm (bytesOf x)) fin = true
   ·obtain ⟨y1, hy1, hc1⟩ := impl_l1 p x11 x11.length i (by omega) (by omega) x2.length x2 rfl (by omega)
    have hl1 : y1.length ≤ x2.length := by
     have := congrArg List.length hy1
     rw [List.length_map] at this
     rw [this]
     exact Nat.le_trans (zfh _ _ _) (by rw [List.length_map]; exact Nat.le_refl _)
    obtain ⟨y, hy, hc⟩ := impl_l2 p x11 x11.length i (by omega) (by omega) y1.length y1 rfl (by omega)
    refine ⟨y ++ [p], ?_, fun r hr => start x2 r (fun h => absurd h h46) (fun _ => Ev.succ ?_)⟩
    ·rw [List.map_append, hy, hy1]
     unfold step
     rw [if_pos hstar, if_pos hlt2]
     have : y1.length = (pop fm (x2.map bytesOf).length (x2.map bytesOf)).length := by rw [← List.length_map (f := bytesOf), hy1, List.length_map]
     rw [this]
     simp [hpb]
    ·simp only [zd.j1]
     refine Ev.neg (fun _ => by first | omega | assumption | nofun) ?_
     refine Ev.bind hp ?_
     refine Ev.bind0 hpre ?_
     refine Ev.pos (fun _ => by first | omega | trivial | assumption) ?_
     refine Ev.bind0 (a := Lib.compareBytes p.data.toList ([42, 102, 105, 110, 97, 108] : List UInt8)) rfl ?_
     have hcmp : Lib.compareBytes p.data.toList ([42, 102, 105, 110, 97, 108] : List UInt8) < 0 := by
      have := compare_B p ⟨#[42, 102, 105, 110, 97, 108]⟩
      rw [this, cmp_lt, hpb]
      exact hlt2
     refine Ev.pos (fun _ => by first | omega | trivial | assumption) ?_
     refine hc1 r (Ev.succ ?_)
     simp only [zd.j3]
     exact hc r hr
   ·obtain ⟨y, hy, hc⟩ := impl_l2 p x11 x11.length i (by omega) (by omega) x2.length x2 rfl (by omega)
    refine ⟨y ++ [p], ?_, fun r hr => start x2 r (fun h => absurd h h46) (fun _ => Ev.succ ?_)⟩
    ·rw [List.map_append, hy]
     unfold step
     rw [if_pos hstar, if_neg hlt2]
     simp [hpb]
    ·simp only [zd.j1]
     refine Ev.neg (fun _ => by first | omega | assumption | nofun) ?_
     refine Ev.bind hp ?_
     refine Ev.bind0 hpre ?_
     refine Ev.pos (fun _ => by first | omega | trivial | assumption) ?_
     refine Ev.bind0 (a := Lib.compareBytes p.data.toList ([42, 102, 105, 110, 97, 108] : List UInt8)) rfl ?_
     have hcmp : ¬ Lib.compareBytes p.data.toList ([42, 102, 105, 110, 97, 108] : List UInt8) < 0 := by
      have := compare_B p ⟨#[42, 102, 105, 110, 97, 108]⟩
      rw [this, cmp_lt, hpb]
      exact hlt2
     refine Ev.neg (fun _ => by first | omega | assumption | nofun) ?_
     refine Ev.succ ?_
     simp only [zd.j3]
     exact hc r hr
  ·rw [decide_eq_false hstar] at hpre
   refine ⟨x2 ++ [p], ?_, fun r hr => start x2 r (fun h => absurd h h46) (fun _ => Ev.succ ?_)⟩
   ·rw [List.map_append]
    unfold step
    rw [if_neg hstar]
    simp [hpb]
   ·simp only [zd.j1]
    refine Ev.neg (fun _ => by first | omega | assumption | nofun) ?_
    refine Ev.bind hp ?_
    refine Ev.bind0 hpre ?_
    refine Ev.neg (fun _ => by first | omega | assumption | nofun) ?_
    refine Ev.pos (fun _ => by first | omega | trivial | assumption) ?_
    rw [w64 (by omega) (by omega)]
    exact hr
def steps (out : List (List Int)) (ts : List (List Int)) : List (List Int) := (ts.filter (fun t => decide (t ≠ [46]))).foldl step out
theorem impl_from (x11 : List ByteArray) (hb : x11.length ≤ 400000000) (ht : ∀ t ∈ x11.map bytesOf, Tok t ∧ t.length ≤ 1000000000) : ∀ (n i : Nat) (x2 : List ByteArray), x11.length - i = n → i ≤ x11.length → x2.length ≤ i →
  ∃ r, Ev (fun k => zd.l0 k x2 x11 x11.length i) r ∧ r.map bytesOf = steps (x2.map bytesOf) ((x11.map bytesOf).drop i) ∧ r.length ≤ x11.length := by
 intro n
 induction n with
 | zero =>
  intro i x2 hn hi h2
  refine ⟨x2, Ev.succ ?_, ?_, by omega⟩
  ·simp only [zd.l0]
   (repeat (first | refine Ev.pos (fun _ => by first | omega | trivial | assumption) ?_ | refine Ev.neg (fun _ => by first | omega | assumption | nofun) ?_))
   exact Ev.now _
  ·rw [List.drop_of_length_le (by rw [List.length_map]; omega)]
   rfl
 | succ n ih =>
  intro i x2 hn hi h2
  have hl : i < (x11.map bytesOf).length := by rw [List.length_map]; omega
  have hmem : (x11.map bytesOf).getD i [] ∈ x11.map bytesOf := by
   rw [List.getD_eq_getElem?_getD, List.getElem?_eq_getElem hl]
   exact List.getElem_mem hl
  obtain ⟨y, hy, hc⟩ := impl_step x11 i (by omega) (by omega) x2 (by omega) (ht _ hmem).1 (ht _ hmem).2
  have hyl : y.length ≤ i + 1 := by
   have := congrArg List.length hy
   rw [List.length_map] at this
   rw [this]
   split
   ·rw [List.length_map]; omega
   ·exact Nat.le_trans (step_length _ _) (by rw [List.length_map]; omega)
  obtain ⟨r, hr, h1, h3⟩ := ih (i + 1) y (by omega) (by omega) hyl
  refine ⟨r, hc r hr, ?_, h3⟩
  rw [h1, hy, drop_get_list _ _ hl]
  unfold steps
  by_cases h46 : (x11.map bytesOf).getD i [] = [46]
  ·rw [if_pos h46, h46]
   simp
  ·rw [if_neg h46, List.filter_cons, if_pos (by simpa using h46)]
   rfl
def final_ : List Int := [102, 105, 110, 97, 108]
def parts (l : List Int) : List (List Int) := steps [] (toks l.length l ++ [final_])
theorem parts_ev (s : ByteArray) (hs : s.size ≤ 100000000) :
  ∃ r, Ev (fun k => zd.f k s) r ∧ r.map bytesOf = parts (bytesOf s) ∧ r.length ≤ s.size + 1 := by
 obtain ⟨t, ht, h1, h2⟩ := legacy_ev s (by omega)
 have hmap : (t ++ [(⟨#[102, 105, 110, 97, 108]⟩ : ByteArray)]).map bytesOf = toks s.size (bytesOf s) ++ [final_] := by
  rw [List.map_append, h1]; rfl
 have hall : ∀ u ∈ (t ++ [(⟨#[102, 105, 110, 97, 108]⟩ : ByteArray)]).map bytesOf, Tok u ∧ u.length ≤ 1000000000 := by
  rw [hmap]
  intro u hu
  rcases List.mem_append.1 hu with hu | hu
  ·have := toks_tok _ _ u hu
   exact ⟨this.1, by have := this.2; rw [bytesOf_length] at this; omega⟩
  ·rw [List.mem_singleton.1 hu]
   exact ⟨.inr (.inr (.inr ⟨by decide, by decide⟩)), by decide⟩
 have hlen : (t ++ [(⟨#[102, 105, 110, 97, 108]⟩ : ByteArray)]).length = t.length + 1 := by simp
 obtain ⟨r, hr, h3, h4⟩ := impl_from _ (by rw [hlen]; omega) hall _ 0 [] rfl (by omega) (by simp)
 have hp : Ev (fun k => zd.f k s) r := by
  simp only [zd.f]
  refine Ev.bind ht ?_
  refine Ev.pos (fun _ => by first | omega | trivial | assumption) ?_
  exact hr
 refine ⟨r, ?_, ?_, by omega⟩
 ·exact hp
 ·rw [h3, hmap]
  unfold parts
  rw [bytesOf_length]
  rfl
end Go.Proofs.YtlijjnjpomnphaaGreatDoorY
end
section
namespace Go.Proofs
open Go.Shelf
def Tryz.lays212_ren : Go.Shelf.Ren := ⟨fun | 212 => 191 | 263 => 193 | 264 => 194 | n => n, fun | 46 => 131 | 51 => 199 | 146 => 237 | 53 => 130 | 148 => 239 | n => n, fun | n => n⟩
theorem Tryz.lays212 : Go.Proofs.Lays.n212 Tryz.prog Tryz.lays212_ren := {
 mixed := by kernel_rfl
 f212 := Tryz.func191.trans (congrArg some (by kernel_rfl))
 f263 := Tryz.func193.trans (congrArg some (by kernel_rfl))
 f264 := Tryz.func194.trans (congrArg some (by kernel_rfl))
 t46 := Tryz.underlying131
 a46 := Tryz.isAgg131
 z46 := Tryz.sizeOf131
 v46 := Tryz.zeroValue131
 t51 := Tryz.underlying199
 a51 := Tryz.isAgg199
 z51 := Tryz.sizeOf199
 v51 := Tryz.zeroValue199
 t53 := Tryz.underlying130
 a53 := Tryz.isAgg130
 z53 := Tryz.sizeOf130
 v53 := Tryz.zeroValue130
 t146 := Tryz.underlying237
 a146 := Tryz.isAgg237
 z146 := Tryz.sizeOf237
 v146 := Tryz.zeroValue237
 t148 := Tryz.underlying239
 a148 := Tryz.isAgg239
 z148 := Tryz.sizeOf239
 v148 := Tryz.zeroValue239 }
open Go.RowKit Go.Lib in
theorem Tryz.bits_Mul (x y : Nat) (hx : x < 18446744073709551616) (hy : y < 18446744073709551616) (w : World) :
 Calls Tryz.prog 191 #[.int .u64 x, .int .u64 y] w fun e w' => e = .returned (.tuple #[.int .u64 ((x * y / 18446744073709551616 : Nat) : Int), .int .u64 ((x * y % 18446744073709551616 : Nat) : Int)]) ∧ w' = w := Any.bits_Mul Tryz.lays212 x y hx hy w
end Go.Proofs
namespace Go.Proofs.YtlijjnjpomnphaaGreatDoorG
open Go.RowKit YtlijjnjpomnphaaGreatDoorW.PrintWords YtlijjnjpomnphaaGreatDoorW.PrintLast
def W64 : Nat := 18446744073709551616
def loW (n : Nat) : Nat := n % W64
def hiW (n : Nat) : Nat := n / W64
def IsW (n : Nat) : Prop := n < W64
theorem hiW_loW (n : Nat) : hiW n * W64 + loW n = n := by unfold hiW loW W64; omega
theorem loW_lt (n : Nat) : loW n < W64 := by unfold loW W64; omega
theorem wrap_W {n : Nat} (h : n < W64) : IntKind.u64.wrap (n : Int) = n := by
 unfold W64 at h
 simp [IntKind.wrap, IntKind.signed, IntKind.bits]
 omega
theorem bits_Mul_ (x y : Nat) (hx : IsW x) (hy : IsW y) (w : World) :
 Calls Tryz.prog 191 #[.int .u64 x, .int .u64 y] w fun e w' => e = .returned (.tuple #[.int .u64 (hiW (x * y) : Nat), .int .u64 (loW (x * y) : Nat)]) ∧ w' = w := Tryz.bits_Mul x y hx hy w
theorem add64_call (x y : Nat) (w : World) :
  (callFunc 196 #[.int .u64 x, .int .u64 y, .int .u64 0]).run Tryz.prog w = .ok (.value (.tuple #[.int .u64 (loW (x + y) : Nat), .int .u64 (hiW (x + y) : Nat)])) w := by
 rw [run_callFunc_extern Tryz.func196 (by kernel_rfl) (by kernel_rfl) (by kernel_rfl) (e := add64Entry) (by kernel_rfl)]
 have h := run_add64 (P := Tryz.prog) x y 0 (by omega) (by omega) (by omega) (by omega) w
 rw [h]
 simp only [Result.andThen, loW, hiW, W64]
 congr 5 <;> omega
theorem bits_Add_ (x y : Nat) (w : World) :
  Calls Tryz.prog 192 #[.int .u64 x, .int .u64 y, .int .u64 0] w fun e w' => e = .returned (.tuple #[.int .u64 (loW (x + y) : Nat), .int .u64 (hiW (x + y) : Nat)]) ∧ w' = w := by
 have h := fun W => add64_call x y W
 go_enter Tryz.func192, Tryz.ntmps192
 go_wp2
 go_ret2
 exact ⟨rfl, rfl⟩
theorem mulAddWWW_ (x y c : Nat) (hx : IsW x) (hy : IsW y) (hc : IsW c) (w : World) :
  Calls Tryz.prog 190 #[.int .u64 x, .int .u64 y, .int .u64 c] w fun e w' => e = .returned (.tuple #[.int .u64 (hiW (x * y + c) : Nat), .int .u64 (loW (x * y + c) : Nat)]) ∧ w' = w := by
 have HX := za.mk hx
 have HY := za.mk hy
 have key : IntKind.u64.wrap ((hiW (x * y) : Int) + (hiW (loW (x * y) + c) : Int)) = (hiW (x * y + c) : Int) ∧ loW (loW (x * y) + c) = loW (x * y + c) := by
  have h1 : x * y ≤ (W64 - 1) * (W64 - 1) := Nat.mul_le_mul (by unfold IsW at hx; omega) (by unfold IsW at hy; omega)
  unfold IsW at hc
  have e : hiW (x * y) + hiW (loW (x * y) + c) = hiW (x * y + c) ∧ hiW (x * y + c) < W64 := by
   simp only [hiW, loW, W64] at *
   generalize x * y = p at *
   omega
  refine ⟨?_, by simp only [loW, W64]; omega⟩
  have e2 : (hiW (x * y) : Int) + (hiW (loW (x * y) + c) : Int) = (hiW (x * y + c) : Int) := by omega
  rw [e2]
  exact wrap_W e.2
 clear hx hy hc
 obtain ⟨k1, k2⟩ := key
 have K1 := za.mk k1
 have K2 := za.mk k2
 clear k1 k2
 go_enter Tryz.func190, Tryz.ntmps190
 go_wp2_with (first
  | (go_at_call 191; refine (bits_Mul_ x y HX.out HY.out _).mono ?_; rintro e w' ⟨rfl, rfl⟩)
  | (go_at_call 192; refine (bits_Add_ (loW (x * y)) c _).mono ?_; rintro e w' ⟨rfl, rfl⟩))
 go_ret2
 refine ⟨?_, rfl⟩
 simp only [K1.out, K2.out]
 rfl
def NumC (n : Nat) : Value := .int .u64 (n : Int)
def Ws (w : World) (g : Nat) (e : TypeId) (l : List Nat) : Prop := w.heap[g]? = some (.cells (l.map NumC).toArray e (0, 0))
theorem Ws.cell {w : World} {g : Nat} {e : TypeId} {l : List Nat} (h : Ws w g e l) (i : Nat) (hi : i < l.length) : w.cell? ⟨g, i, none⟩ = some (.int .u64 (l.getD i 0 : Nat)) := by
 unfold Ws at h
 simp [World.cell?, h, hi, NumC, List.getD_eq_getElem?_getD]
theorem Ws.free {w : World} {g : Nat} {e : TypeId} {l : List Nat} (h : Ws w g e l) (i : Nat) : w.frozen? ⟨g, i, none⟩ = false := by
 unfold Ws at h
 simp [World.frozen?, h]
theorem Ws.set {w : World} {g : Nat} {e : TypeId} {l : List Nat} (h : Ws w g e l) (i v : Nat) : Ws (w.setCell ⟨g, i, none⟩ (.int .u64 (v : Int))) g e (l.set i v) := by
 unfold Ws at h ⊢
 have e1 : (w.setCell ⟨g, i, none⟩ (.int .u64 (v : Int))).heap[g]? = some (.cells ((l.map NumC).toArray.setIfInBounds i (NumC v)) e (0, 0)) := by
  simp [World.setCell, Array.getElem?_modify, h, NumC]
 rw [e1]
 congr 2
 apply Array.toList_inj.1
 simp [List.map_set]
theorem Ws.same {w w' : World} {g : Nat} {e : TypeId} {l : List Nat} (h : Ws w g e l) (hb : w'.heap[g]? = w.heap[g]?) : Ws w' g e l := by unfold Ws at h ⊢; rw [hb]; exact h
theorem Ws.lt {w : World} {g : Nat} {e : TypeId} {l : List Nat} (h : Ws w g e l) : g < w.heap.size := (Array.getElem?_eq_some_iff.1 h).1
theorem zue (w wr : World) (g i : Nat) (v : Value) (h : w.grownBy wr (some g)) : w.grownBy (wr.setCell ⟨g, i, none⟩ v) (some g) := by
 refine h.trans ?_
 refine ⟨rfl, rfl, rfl, by simp, fun k hk hne => ?_⟩
 have : g ≠ k := fun e => hne (by rw [e])
 simp [World.setCell, Array.getElem?_modify, this]
def mva : List Nat → Nat → Nat → List Nat × Nat
 | [], _, c => ([], c)
 | x :: l, y, c => (loW (x * y + c) :: (mva l y (hiW (x * y + c))).1, (mva l y (hiW (x * y + c))).2)
theorem zig : ∀ (l : List Nat) (y c : Nat), (mva l y c).1.length = l.length := by
 intro l
 induction l with
 | nil => intro y c; rfl
 | cons x l ih => intro y c; simp [mva, ih]
theorem mva_snoc : ∀ (l : List Nat) (x y c : Nat), mva (l ++ [x]) y c = ((mva l y c).1 ++ [loW (x * y + (mva l y c).2)], hiW (x * y + (mva l y c).2)) := by
 intro l
 induction l with
 | nil => intro x y c; rfl
 | cons z l ih => intro x y c; simp [mva, ih]
theorem hiW_lt {x y c : Nat} (hx : IsW x) (hy : IsW y) (hc : IsW c) : IsW (hiW (x * y + c)) := by
 have h1 : x * y ≤ (W64 - 1) * (W64 - 1) := Nat.mul_le_mul (by unfold IsW at hx; omega) (by unfold IsW at hy; omega)
 unfold IsW at *
 simp only [hiW, W64] at *
 generalize x * y = p at *
 omega
theorem mva_words : ∀ (l : List Nat) (y c : Nat), (∀ x ∈ l, IsW x) → IsW y → IsW c → (∀ x ∈ (mva l y c).1, IsW x) ∧ IsW (mva l y c).2 := by
 intro l
 induction l with
 | nil => intro y c _ _ hc; exact ⟨(by intro x hx; cases hx), hc⟩
 | cons z l ih =>
  intro y c hl hy hc
  have hz := hl z List.mem_cons_self
  have h := ih y (hiW (z * y + c)) (fun x hx => hl x (List.mem_cons_of_mem _ hx)) hy (hiW_lt hz hy hc)
  refine ⟨fun x hx => ?_, h.2⟩
  rcases List.mem_cons.1 hx with rfl | hx
  ·exact loW_lt _
  ·exact h.1 x hx
def num : List Nat → Nat
 | [] => 0
 | x :: l => x + W64 * num l
theorem mva_num : ∀ (l : List Nat) (y c : Nat), num ((mva l y c).1 ++ [(mva l y c).2]) = num l * y + c := by
 intro l
 induction l with
 | nil => intro y c; simp [mva, num]
 | cons z l ih =>
  intro y c
  have h := ih y (hiW (z * y + c))
  have h2 := hiW_loW (z * y + c)
  simp only [mva, num, List.cons_append]
  rw [h, Nat.mul_add, Nat.add_mul]
  have e : W64 * num l * y = W64 * (num l * y) := Nat.mul_assoc _ _ _
  rw [e]
  have e2 : W64 * hiW (z * y + c) = hiW (z * y + c) * W64 := Nat.mul_comm _ _
  omega
theorem set_at (a b : List Nat) (k v : Nat) (ha : a.length = k) (hb : k < (a ++ b).length) : (a ++ b).set k v = a ++ [v] ++ b.drop 1 := by
 subst ha
 rw [List.set_append_right _ _ (Nat.le_refl _), Nat.sub_self]
 cases b with
 | nil => simp at hb
 | cons x b => simp
theorem mulAddVWW_g_ (w : World) (g gx n cz cx y r : Nat) (e : TypeId) (full xs : List Nat) (hz : Ws w g e full) (hx : Ws w gx e xs) (hn : n ≤ full.length) (hxn : n ≤ xs.length) (hsame : gx = g → xs = full) (hxs : ∀ x ∈ xs, IsW x) (hy : IsW y) (hr : IsW r) (hbig : n ≤ 4611686018427387904) :
  Calls Tryz.prog 188 #[.slice (some ⟨g, 0, none⟩) n cz, .slice (some ⟨gx, 0, none⟩) n cx, .int .u64 y, .int .u64 r] w fun e' w' =>
   e' = .returned (.int .u64 ((mva (xs.take n) y r).2 : Nat)) ∧ Ws w' g e ((mva (xs.take n) y r).1 ++ full.drop n) ∧ w.grownBy w' (some g) := by
 have HZ := za.mk hz
 have HX := za.mk hx
 have HXS := za.mk hxs
 have HY := za.mk hy
 have HR := za.mk hr
 have HS := za.mk hsame
 have HN := za.mk hn
 have HXN := za.mk hxn
 clear hz hx hxs hy hr hsame hn hxn
 go_enter Tryz.func188, Tryz.ntmps188
 go_wp2
 go_loopw [8, 19] (fun c i wr => ∃ k : Nat, k ≤ n ∧ i = .int .i64 k ∧ c = .int .u64 ((mva (xs.take k) y r).2 : Nat) ∧ za (Ws wr g e ((mva (xs.take k) y r).1 ++ full.drop k)) ∧ za (w.grownBy wr (some g))) (fun _ i _ => n - (intOf i).toNat)
 case atStart => exact ⟨0, Nat.zero_le _, rfl, rfl, ⟨by simpa [mva] using HZ.out⟩, ⟨World.grownBy.refl w _⟩⟩
 case round =>
  obtain ⟨k, hk, rfl, rfl, hw, hg⟩ := hrel
  by_cases hlt : k < n
  ·have hml : (mva (xs.take k) y r).1.length = k := by rw [zig, List.length_take]; have := HXN.out; omega
   have hc : wr.cell? ⟨gx, k, none⟩ = some (.int .u64 (xs.getD k 0 : Nat)) := by
    by_cases hgg : gx = g
    ·have h1 := hw.out.cell k (by rw [List.length_append, hml, List.length_drop]; have := HN.out; omega)
     rw [hgg, HS.out hgg]
     rw [h1]
     congr 3
     rw [List.getD_eq_getElem?_getD, List.getElem?_append_right (by omega), hml, Nat.sub_self, List.getD_eq_getElem?_getD]
     simp
    ·have h1 := HX.out.cell k (by have := HXN.out; omega)
     rw [← h1]
     exact World.cell?_of_block (hg.out.block gx HX.out.lt (fun e => hgg (Option.some.inj e)))
   obtain ⟨xk, hxk⟩ : ∃ xk, xk = xs.getD k 0 := ⟨_, rfl⟩
   rw [← hxk] at hc
   have hW : IsW xk := by
    rw [hxk, List.getD_eq_getElem?_getD, List.getElem?_eq_getElem (by have := HXN.out; omega)]
    exact HXS.out _ (List.getElem_mem _)
   have hf := hw.out.free k
   have hd := hw.out.cell k (by rw [List.length_append, hml, List.length_drop]; have := HN.out; omega)
   obtain ⟨dk, hdk⟩ : ∃ dk, dk = ((mva (xs.take k) y r).1 ++ full.drop k).getD k 0 := ⟨_, rfl⟩
   rw [← hdk] at hd
   obtain ⟨c, hcc⟩ : ∃ c, c = (mva (xs.take k) y r).2 := ⟨_, rfl⟩
   rw [← hcc]
   have hCW : IsW c := by
    rw [hcc]
    exact (mva_words _ _ _ (fun x hx => HXS.out x (List.mem_of_mem_take hx)) HY.out HR.out).2
   have hset := hw.out.set k (loW (xk * y + c))
   have hst : ((mva (xs.take k) y r).1 ++ full.drop k).set k (loW (xk * y + c)) = (mva (xs.take (k + 1)) y r).1 ++ full.drop (k + 1) ∧ hiW (xk * y + c) = (mva (xs.take (k + 1)) y r).2 := by
    have e1 : xs.take (k + 1) = xs.take k ++ [xk] := by
     rw [List.take_succ_eq_append_getElem (by have := HXN.out; omega), hxk]
     simp [List.getD_eq_getElem?_getD, show k < xs.length by have := HXN.out; omega]
    rw [e1, mva_snoc, ← hcc]
    refine ⟨?_, rfl⟩
    rw [set_at _ _ _ _ hml (by rw [List.length_append, hml, List.length_drop]; have := HN.out; omega), List.drop_drop]
   rw [hst.1] at hset
   have HSET := za.mk hset
   have HST := za.mk hst.2
   have HG2 := za.mk (zue w wr g k (.int .u64 (loW (xk * y + c) : Nat)) hg.out)
   have HW1 := za.mk hW
   have HW2 := za.mk hCW
   clear hset hst hW hCW hw hg hml hxk hdk hcc
   go_wp2_with (first | (go_at_call 190; refine (mulAddWWW_ xk y c HW1.out HY.out HW2.out _).mono ?_; rintro e' w' ⟨rfl, rfl⟩))
   go_roundw
   case rel => exact ⟨k + 1, by omega, by go_num, by rw [HST.out], HSET, HG2⟩
   case measure => simp [intOf]; omega
  ·obtain rfl : k = n := by omega
   go_wp2
   go_ret
   exact ⟨rfl, hw.out, hg.out⟩
end Go.Proofs.YtlijjnjpomnphaaGreatDoorG
end
section
namespace Go.Proofs.YtlijjnjpomnphaaGreatDoorG
open Go.RowKit YtlijjnjpomnphaaGreatDoorW.PrintWords YtlijjnjpomnphaaGreatDoorW.PrintLast
theorem infoWord : (Tryz.prog.info? 147).map (fun i => (i.zero, i.size, i.bytes)) = some (some (.int .u64 0), 1, 8) := by kernel_rfl
theorem make_run (n c : Nat) (hnc : n ≤ c) (hc : c ≤ 1099511627776) : ∀ W : World, (Instr.makeSlice 148 (.int .i64 (n : Int)) (.int .i64 (c : Int))).run Tryz.prog W = .ok (.slice (some ⟨W.heap.size, 0, none⟩) n c) (W.alloc (.cells (List.replicate c (NumC 0)).toArray 147)) := by
 intro W
 obtain ⟨i, hi, hzz⟩ := Option.map_eq_some_iff.1 infoWord
 simp only [Prod.mk.injEq] at hzz
 obtain ⟨hz0, hz1, hz2⟩ := hzz
 have h := run_make (P := Tryz.prog) W 148 147 i _ Tryz.underlying148 hi hz0 .i64 .i64 (n : Int) (c : Int) (by omega) (by omega) (by rw [hz2]; omega) (by omega)
 rw [h]
 simp only [Int.toNat_natCast, hz1, Nat.mul_one]
 congr 3
 apply Array.toList_inj.1
 apply List.ext_getElem
 ·simp [madeCells]
 ·intro i h1 h2
  simp [madeCells, Nat.mod_one, Value.cells, NumC]
theorem make_reuse (w : World) (g len cap n : Nat) (hn : n ≤ cap) :
  Calls Tryz.prog 172 #[.slice (some ⟨g, 0, none⟩) len cap, .int .i64 (n : Int)] w fun e w' => e = .returned (.slice (some ⟨g, 0, none⟩) n cap) ∧ w' = w := by
 have b1 : decide ((n : Int) ≤ (cap : Int)) = true := decide_eq_true (by omega)
 go_enter Tryz.func172, Tryz.ntmps172
 go_wp2
 go_ret
 exact ⟨rfl, rfl⟩
theorem make_fresh (w : World) (p : Option Addr) (len cap n : Nat) (hn : cap < n) (hb : n ≤ 1000000000) :
  Calls Tryz.prog 172 #[.slice p len cap, .int .i64 (n : Int)] w fun e w' => ∃ c, n ≤ c ∧ c ≤ n + 4 ∧ e = .returned (.slice (some ⟨w.heap.size, 0, none⟩) n c) ∧ w' = w.alloc (.cells (List.replicate c (NumC 0)).toArray 147) := by
 have b1 : decide ((n : Int) ≤ (cap : Int)) = false := decide_eq_false (by omega)
 by_cases h1 : n = 1
 ·subst h1
  have hm := make_run 1 1 (by omega) (by omega)
  have e1 : ((1 : Nat) : Int) = 1 := rfl
  rw [e1] at hm b1 ⊢
  go_enter Tryz.func172, Tryz.ntmps172
  go_wp2
  go_ret
  exact ⟨1, by omega, by omega, rfl, rfl⟩
 ·have hm := make_run n (n + 4) (by omega) (by omega)
  have e1 : ((n + 4 : Nat) : Int) = (n : Int) + 4 := by omega
  rw [e1] at hm
  have b2 : ((n : Int) == 1) = false := by rw [beq_eq_false_iff_ne]; omega
  have b3 : ¬ ((n : Int) = 1) := by omega
  go_enter Tryz.func172, Tryz.ntmps172
  go_wp2
  go_ret
  exact ⟨n + 4, by omega, by omega, rfl, rfl⟩
def NatS (w : World) (B : Nat) (v : Value) (l : List Nat) : Prop :=
 (v = .slice none 0 0 ∧ l = []) ∨
 ∃ g full, v = .slice (some ⟨g, 0, none⟩) l.length full.length ∧ B ≤ g ∧ Ws w g 147 full ∧ full.take l.length = l ∧ l.length ≤ full.length ∧ full.length ≤ 1000000000 ∧ ∀ x ∈ full, IsW x
def trimW (l : List Nat) : List Nat := (l.reverse.dropWhile (fun x => decide (x = 0))).reverse
theorem zke (l : List Nat) : trimW (l ++ [0]) = trimW l := by simp [trimW]
theorem zjf (l : List Nat) (x : Nat) (h : x ≠ 0) : trimW (l ++ [x]) = l ++ [x] := by simp [trimW, h]
theorem num_snoc_zero (l : List Nat) : num (l ++ [0]) = num l := by
 induction l with
 | nil => simp [num]
 | cons x l ih => simp [num, ih]
theorem num_trimW (l : List Nat) : num (trimW l) = num l := by
 have : ∀ (n : Nat) (l : List Nat), l.length = n → num (trimW l) = num l := by
  intro n
  induction n with
  | zero => intro l h; rw [List.length_eq_zero_iff.1 h]; rfl
  | succ n ih =>
   intro l h
   have hne : l ≠ [] := by intro e; subst e; simp at h
   obtain ⟨m, x, rfl⟩ : ∃ m x, l = m ++ [x] := ⟨l.dropLast, l.getLast hne, (List.dropLast_concat_getLast hne).symm⟩
   by_cases hx : x = 0
   ·subst hx
    rw [zke, num_snoc_zero]
    exact ih m (by simpa using h)
   ·rw [zjf _ _ hx]
 exact this _ l rfl
theorem trimW_at (l : List Nat) (k : Nat) (hk : k ≤ l.length) (hz : ∀ j, k ≤ j → j < l.length → l.getD j 0 = 0) (hl : k = 0 ∨ l.getD (k - 1) 0 ≠ 0) : trimW l = l.take k := by
 have : ∀ (n : Nat) (l : List Nat), l.length - k = n → k ≤ l.length → (∀ j, k ≤ j → j < l.length → l.getD j 0 = 0) → (k = 0 ∨ l.getD (k - 1) 0 ≠ 0) → trimW l = l.take k := by
  intro n
  induction n with
  | zero =>
   intro l hn hk hz hl
   have e : k = l.length := by omega
   rw [List.take_of_length_le (by omega)]
   by_cases h0 : l = []
   ·subst h0; rfl
   ·obtain ⟨m, x, rfl⟩ : ∃ m x, l = m ++ [x] := ⟨l.dropLast, l.getLast h0, (List.dropLast_concat_getLast h0).symm⟩
    refine zjf _ _ ?_
    rcases hl with hl | hl
    ·rw [hl] at e; simp at e
    ·rw [e] at hl
     simpa [List.getD_eq_getElem?_getD] using hl
  | succ n ih =>
   intro l hn hk hz hl
   have h0 : l ≠ [] := by intro e; subst e; simp at hn
   obtain ⟨m, x, rfl⟩ : ∃ m x, l = m ++ [x] := ⟨l.dropLast, l.getLast h0, (List.dropLast_concat_getLast h0).symm⟩
   have hlen : (m ++ [x]).length = m.length + 1 := by simp
   have hx : x = 0 := by
    have := hz m.length (by omega) (by omega)
    simpa [List.getD_eq_getElem?_getD] using this
   subst hx
   rw [zke, List.take_append_of_le_length (by omega)]
   refine ih m (by omega) (by omega) (fun j h1 h2 => ?_) ?_
   ·have := hz j h1 (by omega)
    rw [List.getD_eq_getElem?_getD, List.getElem?_append_left h2, ← List.getD_eq_getElem?_getD] at this
    exact this
   ·rcases hl with hl | hl
    ·exact .inl hl
    ·by_cases hk0 : k = 0
     ·exact .inl hk0
     ·right
      rw [List.getD_eq_getElem?_getD, List.getElem?_append_left (by omega), ← List.getD_eq_getElem?_getD] at hl
      exact hl
 exact this _ l rfl hk hz hl
theorem norm_ (w : World) (g n cap : Nat) (full : List Nat) (hw : Ws w g 147 full) (hn : n ≤ full.length) (hcap : n ≤ cap) (hbig : n ≤ 1000000000) :
  Calls Tryz.prog 174 #[.slice (some ⟨g, 0, none⟩) n cap] w fun e w' => ∃ k, k ≤ n ∧ trimW (full.take n) = full.take k ∧ e = .returned (.slice (some ⟨g, 0, none⟩) k cap) ∧ w' = w := by
 have HW := za.mk hw
 have HN := za.mk hn
 clear hw hn
 go_enter Tryz.func174, Tryz.ntmps174
 go_wp2
 go_loopw [3] (fun i wr => ∃ k : Nat, k ≤ n ∧ i = .int .i64 k ∧ za (∀ j, k ≤ j → j < n → full.getD j 0 = 0) ∧ wr = w) (fun i _ => (intOf i).toNat)
 case atStart => exact ⟨n, Nat.le_refl _, rfl, ⟨fun j h1 h2 => by omega⟩, rfl⟩
 case round =>
  obtain ⟨k, hk, rfl, hz, rfl⟩ := hrel
  by_cases hk0 : k = 0
  ·subst hk0
   go_wp2
   go_ret
   refine ⟨0, Nat.zero_le _, ?_, rfl, rfl⟩
   refine (trimW_at _ 0 (Nat.zero_le _) (fun j h1 h2 => ?_) (.inl rfl)).trans (by simp)
   rw [List.length_take] at h2
   have := hz.out j h1 (by omega)
   rw [List.getD_eq_getElem?_getD] at this ⊢
   rwa [List.getElem?_take_of_lt (by omega)]
  ·obtain ⟨m, rfl⟩ : ∃ m, k = m + 1 := ⟨k - 1, by omega⟩
   have hm : m < full.length := by have := HN.out; omega
   have hc := HW.out.cell m hm
   obtain ⟨x, hx⟩ : ∃ x, x = full.getD m 0 := ⟨_, rfl⟩
   rw [← hx] at hc
   have HX := za.mk hx
   clear hx
   have e0 : ((m + 1 : Nat) : Int) - 1 = (m : Int) := by omega
   have e1 : wrap64 (((m + 1 : Nat) : Int) - 1) = (m : Int) := by unfold wrap64; omega
   have b0 : decide (0 < ((m + 1 : Nat) : Int)) = true := decide_eq_true (by omega)
   by_cases hx0 : x = 0
   ·subst hx0
    go_wp2
    go_roundw
    case rel =>
     refine ⟨m, by omega, by first | rfl | go_num | (congr 1; omega), ⟨fun j h1 h2 => ?_⟩, by first | rfl | trivial⟩
     by_cases hj : j = m
     ·rw [hj]; exact HX.out.symm
     ·exact hz.out j (by omega) h2
    case measure => first | (simp [intOf]; done) | (simp [intOf]; omega)
   ·have b2 : ((x : Int) == 0) = false := by rw [beq_eq_false_iff_ne]; omega
    have b3 : ¬ ((x : Int) = 0) := by omega
    have HX0 := za.mk hx0
    clear hx0
    go_wp2
    go_ret
    refine ⟨m + 1, hk, ?_, by first | rfl | (congr 2), rfl⟩
    have HNo := HN.out
    refine (trimW_at _ (m + 1) (by rw [List.length_take]; omega) (fun j h1 h2 => ?_) (.inr ?_)).trans (by rw [List.take_take]; congr 1; omega)
    ·rw [List.length_take] at h2
     have := hz.out j h1 (by omega)
     rw [List.getD_eq_getElem?_getD] at this ⊢
     rwa [List.getElem?_take_of_lt (by omega)]
    ·rw [Nat.add_sub_cancel, List.getD_eq_getElem?_getD, List.getElem?_take_of_lt (by omega), ← List.getD_eq_getElem?_getD, ← HX.out]
     exact HX0.out
end Go.Proofs.YtlijjnjpomnphaaGreatDoorG
end
section
namespace Go.Proofs.YtlijjnjpomnphaaGreatDoorG
open Go.RowKit YtlijjnjpomnphaaGreatDoorW.PrintWords YtlijjnjpomnphaaGreatDoorW.PrintLast
theorem maxPow_ (w : World) : Calls Tryz.prog 176 #[.int .u64 10] w fun e w' => e = .returned (.tuple #[.int .u64 10000000000000000000, .int .i64 19]) ∧ w' = w := by
 go_enter Tryz.func176, Tryz.ntmps176
 go_wp2
 go_loopw [2, 3] (fun p n wr => wr = w ∧ ((p = .int .u64 10 ∧ n = .int .i64 1) ∨ (p = .int .u64 100 ∧ n = .int .i64 2) ∨ (p = .int .u64 1000 ∧ n = .int .i64 3) ∨ (p = .int .u64 10000 ∧ n = .int .i64 4) ∨ (p = .int .u64 100000 ∧ n = .int .i64 5) ∨ (p = .int .u64 1000000 ∧ n = .int .i64 6) ∨ (p = .int .u64 10000000 ∧ n = .int .i64 7) ∨ (p = .int .u64 100000000 ∧ n = .int .i64 8) ∨ (p = .int .u64 1000000000 ∧ n = .int .i64 9) ∨ (p = .int .u64 10000000000 ∧ n = .int .i64 10) ∨ (p = .int .u64 100000000000 ∧ n = .int .i64 11) ∨ (p = .int .u64 1000000000000 ∧ n = .int .i64 12) ∨ (p = .int .u64 10000000000000 ∧ n = .int .i64 13) ∨ (p = .int .u64 100000000000000 ∧ n = .int .i64 14) ∨ (p = .int .u64 1000000000000000 ∧ n = .int .i64 15) ∨ (p = .int .u64 10000000000000000 ∧ n = .int .i64 16) ∨ (p = .int .u64 100000000000000000 ∧ n = .int .i64 17) ∨ (p = .int .u64 1000000000000000000 ∧ n = .int .i64 18) ∨ (p = .int .u64 10000000000000000000 ∧ n = .int .i64 19))) (fun _ n _ => 19 - (intOf n).toNat)
 case atStart => exact ⟨rfl, .inl ⟨rfl, rfl⟩⟩
 case round =>
  obtain ⟨rfl, hrel⟩ := hrel
  rcases hrel with ⟨rfl, rfl⟩ | ⟨rfl, rfl⟩ | ⟨rfl, rfl⟩ | ⟨rfl, rfl⟩ | ⟨rfl, rfl⟩ | ⟨rfl, rfl⟩ | ⟨rfl, rfl⟩ | ⟨rfl, rfl⟩ | ⟨rfl, rfl⟩ | ⟨rfl, rfl⟩ | ⟨rfl, rfl⟩ | ⟨rfl, rfl⟩ | ⟨rfl, rfl⟩ | ⟨rfl, rfl⟩ | ⟨rfl, rfl⟩ | ⟨rfl, rfl⟩ | ⟨rfl, rfl⟩ | ⟨rfl, rfl⟩ | ⟨rfl, rfl⟩
  ·go_wp2
   go_roundw
   case rel => first | exact ⟨rfl, .inr (.inl ⟨rfl, rfl⟩)⟩ | exact ⟨trivial, .inr (.inl ⟨rfl, rfl⟩)⟩ | (simp; done)
   case measure => simp [intOf]
  ·go_wp2
   go_roundw
   case rel => first | exact ⟨rfl, .inr (.inr (.inl ⟨rfl, rfl⟩))⟩ | exact ⟨trivial, .inr (.inr (.inl ⟨rfl, rfl⟩))⟩ | (simp; done)
   case measure => simp [intOf]
  ·go_wp2
   go_roundw
   case rel => first | exact ⟨rfl, .inr (.inr (.inr (.inl ⟨rfl, rfl⟩)))⟩ | exact ⟨trivial, .inr (.inr (.inr (.inl ⟨rfl, rfl⟩)))⟩ | (simp; done)
   case measure => simp [intOf]
  ·go_wp2
   go_roundw
   case rel => first | exact ⟨rfl, .inr (.inr (.inr (.inr (.inl ⟨rfl, rfl⟩))))⟩ | exact ⟨trivial, .inr (.inr (.inr (.inr (.inl ⟨rfl, rfl⟩))))⟩ | (simp; done)
   case measure => simp [intOf]
  ·go_wp2
   go_roundw
   case rel => first | exact ⟨rfl, .inr (.inr (.inr (.inr (.inr (.inl ⟨rfl, rfl⟩)))))⟩ | exact ⟨trivial, .inr (.inr (.inr (.inr (.inr (.inl ⟨rfl, rfl⟩)))))⟩ | (simp; done)
   case measure => simp [intOf]
  ·go_wp2
   go_roundw
   case rel => first | exact ⟨rfl, .inr (.inr (.inr (.inr (.inr (.inr (.inl ⟨rfl, rfl⟩))))))⟩ | exact ⟨trivial, .inr (.inr (.inr (.inr (.inr (.inr (.inl ⟨rfl, rfl⟩))))))⟩ | (simp; done)
   case measure => simp [intOf]
  ·go_wp2
   go_roundw
   case rel => first | exact ⟨rfl, .inr (.inr (.inr (.inr (.inr (.inr (.inr (.inl ⟨rfl, rfl⟩)))))))⟩ | exact ⟨trivial, .inr (.inr (.inr (.inr (.inr (.inr (.inr (.inl ⟨rfl, rfl⟩)))))))⟩ | (simp; done)
   case measure => simp [intOf]
  ·go_wp2
   go_roundw
   case rel => first | exact ⟨rfl, .inr (.inr (.inr (.inr (.inr (.inr (.inr (.inr (.inl ⟨rfl, rfl⟩))))))))⟩ | exact ⟨trivial, .inr (.inr (.inr (.inr (.inr (.inr (.inr (.inr (.inl ⟨rfl, rfl⟩))))))))⟩ | (simp; done)
   case measure => simp [intOf]
  ·go_wp2
   go_roundw
   case rel => first | exact ⟨rfl, .inr (.inr (.inr (.inr (.inr (.inr (.inr (.inr (.inr (.inl ⟨rfl, rfl⟩)))))))))⟩ | exact ⟨trivial, .inr (.inr (.inr (.inr (.inr (.inr (.inr (.inr (.inr (.inl ⟨rfl, rfl⟩)))))))))⟩ | (simp; done)
   case measure => simp [intOf]
  ·go_wp2
   go_roundw
   case rel => first | exact ⟨rfl, .inr (.inr (.inr (.inr (.inr (.inr (.inr (.inr (.inr (.inr (.inl ⟨rfl, rfl⟩))))))))))⟩ | exact ⟨trivial, .inr (.inr (.inr (.inr (.inr (.inr (.inr (.inr (.inr (.inr (.inl ⟨rfl, rfl⟩))))))))))⟩ | (simp; done)
   case measure => simp [intOf]
  ·go_wp2
   go_roundw
   case rel => first | exact ⟨rfl, .inr (.inr (.inr (.inr (.inr (.inr (.inr (.inr (.inr (.inr (.inr (.inl ⟨rfl, rfl⟩)))))))))))⟩ | exact ⟨trivial, .inr (.inr (.inr (.inr (.inr (.inr (.inr (.inr (.inr (.inr (.inr (.inl ⟨rfl, rfl⟩)))))))))))⟩ | (simp; done)
   case measure => simp [intOf]
  ·go_wp2
   go_roundw
   case rel => first | exact ⟨rfl, .inr (.inr (.inr (.inr (.inr (.inr (.inr (.inr (.inr (.inr (.inr (.inr (.inl ⟨rfl, rfl⟩))))))))))))⟩ | exact ⟨trivial, .inr (.inr (.inr (.inr (.inr (.inr (.inr (.inr (.inr (.inr (.inr (.inr (.inl ⟨rfl, rfl⟩))))))))))))⟩ | (simp; done)
   case measure => simp [intOf]
  ·go_wp2
   go_roundw
   case rel => first | exact ⟨rfl, .inr (.inr (.inr (.inr (.inr (.inr (.inr (.inr (.inr (.inr (.inr (.inr (.inr (.inl ⟨rfl, rfl⟩)))))))))))))⟩ | exact ⟨trivial, .inr (.inr (.inr (.inr (.inr (.inr (.inr (.inr (.inr (.inr (.inr (.inr (.inr (.inl ⟨rfl, rfl⟩)))))))))))))⟩ | (simp; done)
   case measure => simp [intOf]
  ·go_wp2
   go_roundw
   case rel => first | exact ⟨rfl, .inr (.inr (.inr (.inr (.inr (.inr (.inr (.inr (.inr (.inr (.inr (.inr (.inr (.inr (.inl ⟨rfl, rfl⟩))))))))))))))⟩ | exact ⟨trivial, .inr (.inr (.inr (.inr (.inr (.inr (.inr (.inr (.inr (.inr (.inr (.inr (.inr (.inr (.inl ⟨rfl, rfl⟩))))))))))))))⟩ | (simp; done)
   case measure => simp [intOf]
  ·go_wp2
   go_roundw
   case rel => first | exact ⟨rfl, .inr (.inr (.inr (.inr (.inr (.inr (.inr (.inr (.inr (.inr (.inr (.inr (.inr (.inr (.inr (.inl ⟨rfl, rfl⟩)))))))))))))))⟩ | exact ⟨trivial, .inr (.inr (.inr (.inr (.inr (.inr (.inr (.inr (.inr (.inr (.inr (.inr (.inr (.inr (.inr (.inl ⟨rfl, rfl⟩)))))))))))))))⟩ | (simp; done)
   case measure => simp [intOf]
  ·go_wp2
   go_roundw
   case rel => first | exact ⟨rfl, .inr (.inr (.inr (.inr (.inr (.inr (.inr (.inr (.inr (.inr (.inr (.inr (.inr (.inr (.inr (.inr (.inl ⟨rfl, rfl⟩))))))))))))))))⟩ | exact ⟨trivial, .inr (.inr (.inr (.inr (.inr (.inr (.inr (.inr (.inr (.inr (.inr (.inr (.inr (.inr (.inr (.inr (.inl ⟨rfl, rfl⟩))))))))))))))))⟩ | (simp; done)
   case measure => simp [intOf]
  ·go_wp2
   go_roundw
   case rel => first | exact ⟨rfl, .inr (.inr (.inr (.inr (.inr (.inr (.inr (.inr (.inr (.inr (.inr (.inr (.inr (.inr (.inr (.inr (.inr (.inl ⟨rfl, rfl⟩)))))))))))))))))⟩ | exact ⟨trivial, .inr (.inr (.inr (.inr (.inr (.inr (.inr (.inr (.inr (.inr (.inr (.inr (.inr (.inr (.inr (.inr (.inr (.inl ⟨rfl, rfl⟩)))))))))))))))))⟩ | (simp; done)
   case measure => simp [intOf]
  ·go_wp2
   go_roundw
   case rel => first | exact ⟨rfl, .inr (.inr (.inr (.inr (.inr (.inr (.inr (.inr (.inr (.inr (.inr (.inr (.inr (.inr (.inr (.inr (.inr (.inr (⟨rfl, rfl⟩))))))))))))))))))⟩ | exact ⟨trivial, .inr (.inr (.inr (.inr (.inr (.inr (.inr (.inr (.inr (.inr (.inr (.inr (.inr (.inr (.inr (.inr (.inr (.inr (⟨rfl, rfl⟩))))))))))))))))))⟩ | (simp; done)
   case measure => simp [intOf]
  ·go_wp2
   go_ret2
   exact ⟨rfl, rfl⟩
theorem pow_1 (w : World) : Calls Tryz.prog 178 #[.int .u64 10, .int .i64 1] w fun e w' => e = .returned (.int .u64 10) ∧ w' = w := by
 go_enter Tryz.func178, Tryz.ntmps178
 go_wp2
 go_loopw [0, 1, 4] (fun x n p wr => wr = w ∧ ((x = .int .u64 10 ∧ n = .int .i64 1 ∧ p = .int .u64 1) ∨ (x = .int .u64 100 ∧ n = .int .i64 0 ∧ p = .int .u64 10))) (fun _ n _ _ => (intOf n).toNat)
 case atStart => exact ⟨rfl, .inl ⟨rfl, rfl, rfl⟩⟩
 case round =>
  obtain ⟨rfl, hrel⟩ := hrel
  rcases hrel with ⟨rfl, rfl, rfl⟩ | ⟨rfl, rfl, rfl⟩
  ·go_wp2
   go_roundw
   case rel => first | exact ⟨rfl, .inr (⟨rfl, rfl, rfl⟩)⟩ | exact ⟨trivial, .inr (⟨rfl, rfl, rfl⟩)⟩ | (simp; done)
   case measure => simp [intOf]
  ·go_wp2
   go_ret
   exact ⟨rfl, rfl⟩
theorem pow_2 (w : World) : Calls Tryz.prog 178 #[.int .u64 10, .int .i64 2] w fun e w' => e = .returned (.int .u64 100) ∧ w' = w := by
 go_enter Tryz.func178, Tryz.ntmps178
 go_wp2
 go_loopw [0, 1, 4] (fun x n p wr => wr = w ∧ ((x = .int .u64 10 ∧ n = .int .i64 2 ∧ p = .int .u64 1) ∨ (x = .int .u64 100 ∧ n = .int .i64 1 ∧ p = .int .u64 1) ∨ (x = .int .u64 10000 ∧ n = .int .i64 0 ∧ p = .int .u64 100))) (fun _ n _ _ => (intOf n).toNat)
 case atStart => exact ⟨rfl, .inl ⟨rfl, rfl, rfl⟩⟩
 case round =>
  obtain ⟨rfl, hrel⟩ := hrel
  rcases hrel with ⟨rfl, rfl, rfl⟩ | ⟨rfl, rfl, rfl⟩ | ⟨rfl, rfl, rfl⟩
  ·go_wp2
   go_roundw
   case rel => first | exact ⟨rfl, .inr (.inl ⟨rfl, rfl, rfl⟩)⟩ | exact ⟨trivial, .inr (.inl ⟨rfl, rfl, rfl⟩)⟩ | (simp; done)
   case measure => simp [intOf]
  ·go_wp2
   go_roundw
   case rel => first | exact ⟨rfl, .inr (.inr (⟨rfl, rfl, rfl⟩))⟩ | exact ⟨trivial, .inr (.inr (⟨rfl, rfl, rfl⟩))⟩ | (simp; done)
   case measure => simp [intOf]
  ·go_wp2
   go_ret
   exact ⟨rfl, rfl⟩
theorem pow_3 (w : World) : Calls Tryz.prog 178 #[.int .u64 10, .int .i64 3] w fun e w' => e = .returned (.int .u64 1000) ∧ w' = w := by
 go_enter Tryz.func178, Tryz.ntmps178
 go_wp2
 go_loopw [0, 1, 4] (fun x n p wr => wr = w ∧ ((x = .int .u64 10 ∧ n = .int .i64 3 ∧ p = .int .u64 1) ∨ (x = .int .u64 100 ∧ n = .int .i64 1 ∧ p = .int .u64 10) ∨ (x = .int .u64 10000 ∧ n = .int .i64 0 ∧ p = .int .u64 1000))) (fun _ n _ _ => (intOf n).toNat)
 case atStart => exact ⟨rfl, .inl ⟨rfl, rfl, rfl⟩⟩
 case round =>
  obtain ⟨rfl, hrel⟩ := hrel
  rcases hrel with ⟨rfl, rfl, rfl⟩ | ⟨rfl, rfl, rfl⟩ | ⟨rfl, rfl, rfl⟩
  ·go_wp2
   go_roundw
   case rel => first | exact ⟨rfl, .inr (.inl ⟨rfl, rfl, rfl⟩)⟩ | exact ⟨trivial, .inr (.inl ⟨rfl, rfl, rfl⟩)⟩ | (simp; done)
   case measure => simp [intOf]
  ·go_wp2
   go_roundw
   case rel => first | exact ⟨rfl, .inr (.inr (⟨rfl, rfl, rfl⟩))⟩ | exact ⟨trivial, .inr (.inr (⟨rfl, rfl, rfl⟩))⟩ | (simp; done)
   case measure => simp [intOf]
  ·go_wp2
   go_ret
   exact ⟨rfl, rfl⟩
theorem pow_4 (w : World) : Calls Tryz.prog 178 #[.int .u64 10, .int .i64 4] w fun e w' => e = .returned (.int .u64 10000) ∧ w' = w := by
 go_enter Tryz.func178, Tryz.ntmps178
 go_wp2
 go_loopw [0, 1, 4] (fun x n p wr => wr = w ∧ ((x = .int .u64 10 ∧ n = .int .i64 4 ∧ p = .int .u64 1) ∨ (x = .int .u64 100 ∧ n = .int .i64 2 ∧ p = .int .u64 1) ∨ (x = .int .u64 10000 ∧ n = .int .i64 1 ∧ p = .int .u64 1) ∨ (x = .int .u64 100000000 ∧ n = .int .i64 0 ∧ p = .int .u64 10000))) (fun _ n _ _ => (intOf n).toNat)
 case atStart => exact ⟨rfl, .inl ⟨rfl, rfl, rfl⟩⟩
 case round =>
  obtain ⟨rfl, hrel⟩ := hrel
  rcases hrel with ⟨rfl, rfl, rfl⟩ | ⟨rfl, rfl, rfl⟩ | ⟨rfl, rfl, rfl⟩ | ⟨rfl, rfl, rfl⟩
  ·go_wp2
   go_roundw
   case rel => first | exact ⟨rfl, .inr (.inl ⟨rfl, rfl, rfl⟩)⟩ | exact ⟨trivial, .inr (.inl ⟨rfl, rfl, rfl⟩)⟩ | (simp; done)
   case measure => simp [intOf]
  ·go_wp2
   go_roundw
   case rel => first | exact ⟨rfl, .inr (.inr (.inl ⟨rfl, rfl, rfl⟩))⟩ | exact ⟨trivial, .inr (.inr (.inl ⟨rfl, rfl, rfl⟩))⟩ | (simp; done)
   case measure => simp [intOf]
  ·go_wp2
   go_roundw
   case rel => first | exact ⟨rfl, .inr (.inr (.inr (⟨rfl, rfl, rfl⟩)))⟩ | exact ⟨trivial, .inr (.inr (.inr (⟨rfl, rfl, rfl⟩)))⟩ | (simp; done)
   case measure => simp [intOf]
  ·go_wp2
   go_ret
   exact ⟨rfl, rfl⟩
theorem pow_5 (w : World) : Calls Tryz.prog 178 #[.int .u64 10, .int .i64 5] w fun e w' => e = .returned (.int .u64 100000) ∧ w' = w := by
 go_enter Tryz.func178, Tryz.ntmps178
 go_wp2
 go_loopw [0, 1, 4] (fun x n p wr => wr = w ∧ ((x = .int .u64 10 ∧ n = .int .i64 5 ∧ p = .int .u64 1) ∨ (x = .int .u64 100 ∧ n = .int .i64 2 ∧ p = .int .u64 10) ∨ (x = .int .u64 10000 ∧ n = .int .i64 1 ∧ p = .int .u64 10) ∨ (x = .int .u64 100000000 ∧ n = .int .i64 0 ∧ p = .int .u64 100000))) (fun _ n _ _ => (intOf n).toNat)
 case atStart => exact ⟨rfl, .inl ⟨rfl, rfl, rfl⟩⟩
 case round =>
  obtain ⟨rfl, hrel⟩ := hrel
  rcases hrel with ⟨rfl, rfl, rfl⟩ | ⟨rfl, rfl, rfl⟩ | ⟨rfl, rfl, rfl⟩ | ⟨rfl, rfl, rfl⟩
  ·go_wp2
   go_roundw
   case rel => first | exact ⟨rfl, .inr (.inl ⟨rfl, rfl, rfl⟩)⟩ | exact ⟨trivial, .inr (.inl ⟨rfl, rfl, rfl⟩)⟩ | (simp; done)
   case measure => simp [intOf]
  ·go_wp2
   go_roundw
   case rel => first | exact ⟨rfl, .inr (.inr (.inl ⟨rfl, rfl, rfl⟩))⟩ | exact ⟨trivial, .inr (.inr (.inl ⟨rfl, rfl, rfl⟩))⟩ | (simp; done)
   case measure => simp [intOf]
  ·go_wp2
   go_roundw
   case rel => first | exact ⟨rfl, .inr (.inr (.inr (⟨rfl, rfl, rfl⟩)))⟩ | exact ⟨trivial, .inr (.inr (.inr (⟨rfl, rfl, rfl⟩)))⟩ | (simp; done)
   case measure => simp [intOf]
  ·go_wp2
   go_ret
   exact ⟨rfl, rfl⟩
theorem pow_6 (w : World) : Calls Tryz.prog 178 #[.int .u64 10, .int .i64 6] w fun e w' => e = .returned (.int .u64 1000000) ∧ w' = w := by
 go_enter Tryz.func178, Tryz.ntmps178
 go_wp2
 go_loopw [0, 1, 4] (fun x n p wr => wr = w ∧ ((x = .int .u64 10 ∧ n = .int .i64 6 ∧ p = .int .u64 1) ∨ (x = .int .u64 100 ∧ n = .int .i64 3 ∧ p = .int .u64 1) ∨ (x = .int .u64 10000 ∧ n = .int .i64 1 ∧ p = .int .u64 100) ∨ (x = .int .u64 100000000 ∧ n = .int .i64 0 ∧ p = .int .u64 1000000))) (fun _ n _ _ => (intOf n).toNat)
 case atStart => exact ⟨rfl, .inl ⟨rfl, rfl, rfl⟩⟩
 case round =>
  obtain ⟨rfl, hrel⟩ := hrel
  rcases hrel with ⟨rfl, rfl, rfl⟩ | ⟨rfl, rfl, rfl⟩ | ⟨rfl, rfl, rfl⟩ | ⟨rfl, rfl, rfl⟩
  ·go_wp2
   go_roundw
   case rel => first | exact ⟨rfl, .inr (.inl ⟨rfl, rfl, rfl⟩)⟩ | exact ⟨trivial, .inr (.inl ⟨rfl, rfl, rfl⟩)⟩ | (simp; done)
   case measure => simp [intOf]
  ·go_wp2
   go_roundw
   case rel => first | exact ⟨rfl, .inr (.inr (.inl ⟨rfl, rfl, rfl⟩))⟩ | exact ⟨trivial, .inr (.inr (.inl ⟨rfl, rfl, rfl⟩))⟩ | (simp; done)
   case measure => simp [intOf]
  ·go_wp2
   go_roundw
   case rel => first | exact ⟨rfl, .inr (.inr (.inr (⟨rfl, rfl, rfl⟩)))⟩ | exact ⟨trivial, .inr (.inr (.inr (⟨rfl, rfl, rfl⟩)))⟩ | (simp; done)
   case measure => simp [intOf]
  ·go_wp2
   go_ret
   exact ⟨rfl, rfl⟩
theorem pow_7 (w : World) : Calls Tryz.prog 178 #[.int .u64 10, .int .i64 7] w fun e w' => e = .returned (.int .u64 10000000) ∧ w' = w := by
 go_enter Tryz.func178, Tryz.ntmps178
 go_wp2
 go_loopw [0, 1, 4] (fun x n p wr => wr = w ∧ ((x = .int .u64 10 ∧ n = .int .i64 7 ∧ p = .int .u64 1) ∨ (x = .int .u64 100 ∧ n = .int .i64 3 ∧ p = .int .u64 10) ∨ (x = .int .u64 10000 ∧ n = .int .i64 1 ∧ p = .int .u64 1000) ∨ (x = .int .u64 100000000 ∧ n = .int .i64 0 ∧ p = .int .u64 10000000))) (fun _ n _ _ => (intOf n).toNat)
 case atStart => exact ⟨rfl, .inl ⟨rfl, rfl, rfl⟩⟩
 case round =>
  obtain ⟨rfl, hrel⟩ := hrel
  rcases hrel with ⟨rfl, rfl, rfl⟩ | ⟨rfl, rfl, rfl⟩ | ⟨rfl, rfl, rfl⟩ | ⟨rfl, rfl, rfl⟩
  ·go_wp2
   go_roundw
   case rel => first | exact ⟨rfl, .inr (.inl ⟨rfl, rfl, rfl⟩)⟩ | exact ⟨trivial, .inr (.inl ⟨rfl, rfl, rfl⟩)⟩ | (simp; done)
   case measure => simp [intOf]
  ·go_wp2
   go_roundw
   case rel => first | exact ⟨rfl, .inr (.inr (.inl ⟨rfl, rfl, rfl⟩))⟩ | exact ⟨trivial, .inr (.inr (.inl ⟨rfl, rfl, rfl⟩))⟩ | (simp; done)
   case measure => simp [intOf]
  ·go_wp2
   go_roundw
   case rel => first | exact ⟨rfl, .inr (.inr (.inr (⟨rfl, rfl, rfl⟩)))⟩ | exact ⟨trivial, .inr (.inr (.inr (⟨rfl, rfl, rfl⟩)))⟩ | (simp; done)
   case measure => simp [intOf]
  ·go_wp2
   go_ret
   exact ⟨rfl, rfl⟩
theorem pow_8 (w : World) : Calls Tryz.prog 178 #[.int .u64 10, .int .i64 8] w fun e w' => e = .returned (.int .u64 100000000) ∧ w' = w := by
 go_enter Tryz.func178, Tryz.ntmps178
 go_wp2
 go_loopw [0, 1, 4] (fun x n p wr => wr = w ∧ ((x = .int .u64 10 ∧ n = .int .i64 8 ∧ p = .int .u64 1) ∨ (x = .int .u64 100 ∧ n = .int .i64 4 ∧ p = .int .u64 1) ∨ (x = .int .u64 10000 ∧ n = .int .i64 2 ∧ p = .int .u64 1) ∨ (x = .int .u64 100000000 ∧ n = .int .i64 1 ∧ p = .int .u64 1) ∨ (x = .int .u64 10000000000000000 ∧ n = .int .i64 0 ∧ p = .int .u64 100000000))) (fun _ n _ _ => (intOf n).toNat)
 case atStart => exact ⟨rfl, .inl ⟨rfl, rfl, rfl⟩⟩
 case round =>
  obtain ⟨rfl, hrel⟩ := hrel
  rcases hrel with ⟨rfl, rfl, rfl⟩ | ⟨rfl, rfl, rfl⟩ | ⟨rfl, rfl, rfl⟩ | ⟨rfl, rfl, rfl⟩ | ⟨rfl, rfl, rfl⟩
  ·go_wp2
   go_roundw
   case rel => first | exact ⟨rfl, .inr (.inl ⟨rfl, rfl, rfl⟩)⟩ | exact ⟨trivial, .inr (.inl ⟨rfl, rfl, rfl⟩)⟩ | (simp; done)
   case measure => simp [intOf]
  ·go_wp2
   go_roundw
   case rel => first | exact ⟨rfl, .inr (.inr (.inl ⟨rfl, rfl, rfl⟩))⟩ | exact ⟨trivial, .inr (.inr (.inl ⟨rfl, rfl, rfl⟩))⟩ | (simp; done)
   case measure => simp [intOf]
  ·go_wp2
   go_roundw
   case rel => first | exact ⟨rfl, .inr (.inr (.inr (.inl ⟨rfl, rfl, rfl⟩)))⟩ | exact ⟨trivial, .inr (.inr (.inr (.inl ⟨rfl, rfl, rfl⟩)))⟩ | (simp; done)
   case measure => simp [intOf]
  ·go_wp2
   go_roundw
   case rel => first | exact ⟨rfl, .inr (.inr (.inr (.inr (⟨rfl, rfl, rfl⟩))))⟩ | exact ⟨trivial, .inr (.inr (.inr (.inr (⟨rfl, rfl, rfl⟩))))⟩ | (simp; done)
   case measure => simp [intOf]
  ·go_wp2
   go_ret
   exact ⟨rfl, rfl⟩
theorem pow_9 (w : World) : Calls Tryz.prog 178 #[.int .u64 10, .int .i64 9] w fun e w' => e = .returned (.int .u64 1000000000) ∧ w' = w := by
 go_enter Tryz.func178, Tryz.ntmps178
 go_wp2
 go_loopw [0, 1, 4] (fun x n p wr => wr = w ∧ ((x = .int .u64 10 ∧ n = .int .i64 9 ∧ p = .int .u64 1) ∨ (x = .int .u64 100 ∧ n = .int .i64 4 ∧ p = .int .u64 10) ∨ (x = .int .u64 10000 ∧ n = .int .i64 2 ∧ p = .int .u64 10) ∨ (x = .int .u64 100000000 ∧ n = .int .i64 1 ∧ p = .int .u64 10) ∨ (x = .int .u64 10000000000000000 ∧ n = .int .i64 0 ∧ p = .int .u64 1000000000))) (fun _ n _ _ => (intOf n).toNat)
 case atStart => exact ⟨rfl, .inl ⟨rfl, rfl, rfl⟩⟩
 case round =>
  obtain ⟨rfl, hrel⟩ := hrel
  rcases hrel with ⟨rfl, rfl, rfl⟩ | ⟨rfl, rfl, rfl⟩ | ⟨rfl, rfl, rfl⟩ | ⟨rfl, rfl, rfl⟩ | ⟨rfl, rfl, rfl⟩
  ·go_wp2
   go_roundw
   case rel => first | exact ⟨rfl, .inr (.inl ⟨rfl, rfl, rfl⟩)⟩ | exact ⟨trivial, .inr (.inl ⟨rfl, rfl, rfl⟩)⟩ | (simp; done)
   case measure => simp [intOf]
  ·go_wp2
   go_roundw
   case rel => first | exact ⟨rfl, .inr (.inr (.inl ⟨rfl, rfl, rfl⟩))⟩ | exact ⟨trivial, .inr (.inr (.inl ⟨rfl, rfl, rfl⟩))⟩ | (simp; done)
   case measure => simp [intOf]
  ·go_wp2
   go_roundw
   case rel => first | exact ⟨rfl, .inr (.inr (.inr (.inl ⟨rfl, rfl, rfl⟩)))⟩ | exact ⟨trivial, .inr (.inr (.inr (.inl ⟨rfl, rfl, rfl⟩)))⟩ | (simp; done)
   case measure => simp [intOf]
  ·go_wp2
   go_roundw
   case rel => first | exact ⟨rfl, .inr (.inr (.inr (.inr (⟨rfl, rfl, rfl⟩))))⟩ | exact ⟨trivial, .inr (.inr (.inr (.inr (⟨rfl, rfl, rfl⟩))))⟩ | (simp; done)
   case measure => simp [intOf]
  ·go_wp2
   go_ret
   exact ⟨rfl, rfl⟩
theorem pow_10 (w : World) : Calls Tryz.prog 178 #[.int .u64 10, .int .i64 10] w fun e w' => e = .returned (.int .u64 10000000000) ∧ w' = w := by
 go_enter Tryz.func178, Tryz.ntmps178
 go_wp2
 go_loopw [0, 1, 4] (fun x n p wr => wr = w ∧ ((x = .int .u64 10 ∧ n = .int .i64 10 ∧ p = .int .u64 1) ∨ (x = .int .u64 100 ∧ n = .int .i64 5 ∧ p = .int .u64 1) ∨ (x = .int .u64 10000 ∧ n = .int .i64 2 ∧ p = .int .u64 100) ∨ (x = .int .u64 100000000 ∧ n = .int .i64 1 ∧ p = .int .u64 100) ∨ (x = .int .u64 10000000000000000 ∧ n = .int .i64 0 ∧ p = .int .u64 10000000000))) (fun _ n _ _ => (intOf n).toNat)
 case atStart => exact ⟨rfl, .inl ⟨rfl, rfl, rfl⟩⟩
 case round =>
  obtain ⟨rfl, hrel⟩ := hrel
  rcases hrel with ⟨rfl, rfl, rfl⟩ | ⟨rfl, rfl, rfl⟩ | ⟨rfl, rfl, rfl⟩ | ⟨rfl, rfl, rfl⟩ | ⟨rfl, rfl, rfl⟩
  ·go_wp2
   go_roundw
   case rel => first | exact ⟨rfl, .inr (.inl ⟨rfl, rfl, rfl⟩)⟩ | exact ⟨trivial, .inr (.inl ⟨rfl, rfl, rfl⟩)⟩ | (simp; done)
   case measure => simp [intOf]
  ·go_wp2
   go_roundw
   case rel => first | exact ⟨rfl, .inr (.inr (.inl ⟨rfl, rfl, rfl⟩))⟩ | exact ⟨trivial, .inr (.inr (.inl ⟨rfl, rfl, rfl⟩))⟩ | (simp; done)
   case measure => simp [intOf]
  ·go_wp2
   go_roundw
   case rel => first | exact ⟨rfl, .inr (.inr (.inr (.inl ⟨rfl, rfl, rfl⟩)))⟩ | exact ⟨trivial, .inr (.inr (.inr (.inl ⟨rfl, rfl, rfl⟩)))⟩ | (simp; done)
   case measure => simp [intOf]
  ·go_wp2
   go_roundw
   case rel => first | exact ⟨rfl, .inr (.inr (.inr (.inr (⟨rfl, rfl, rfl⟩))))⟩ | exact ⟨trivial, .inr (.inr (.inr (.inr (⟨rfl, rfl, rfl⟩))))⟩ | (simp; done)
   case measure => simp [intOf]
  ·go_wp2
   go_ret
   exact ⟨rfl, rfl⟩
theorem pow_11 (w : World) : Calls Tryz.prog 178 #[.int .u64 10, .int .i64 11] w fun e w' => e = .returned (.int .u64 100000000000) ∧ w' = w := by
 go_enter Tryz.func178, Tryz.ntmps178
 go_wp2
 go_loopw [0, 1, 4] (fun x n p wr => wr = w ∧ ((x = .int .u64 10 ∧ n = .int .i64 11 ∧ p = .int .u64 1) ∨ (x = .int .u64 100 ∧ n = .int .i64 5 ∧ p = .int .u64 10) ∨ (x = .int .u64 10000 ∧ n = .int .i64 2 ∧ p = .int .u64 1000) ∨ (x = .int .u64 100000000 ∧ n = .int .i64 1 ∧ p = .int .u64 1000) ∨ (x = .int .u64 10000000000000000 ∧ n = .int .i64 0 ∧ p = .int .u64 100000000000))) (fun _ n _ _ => (intOf n).toNat)
 case atStart => exact ⟨rfl, .inl ⟨rfl, rfl, rfl⟩⟩
 case round =>
  obtain ⟨rfl, hrel⟩ := hrel
  rcases hrel with ⟨rfl, rfl, rfl⟩ | ⟨rfl, rfl, rfl⟩ | ⟨rfl, rfl, rfl⟩ | ⟨rfl, rfl, rfl⟩ | ⟨rfl, rfl, rfl⟩
  ·go_wp2
   go_roundw
   case rel => first | exact ⟨rfl, .inr (.inl ⟨rfl, rfl, rfl⟩)⟩ | exact ⟨trivial, .inr (.inl ⟨rfl, rfl, rfl⟩)⟩ | (simp; done)
   case measure => simp [intOf]
  ·go_wp2
   go_roundw
   case rel => first | exact ⟨rfl, .inr (.inr (.inl ⟨rfl, rfl, rfl⟩))⟩ | exact ⟨trivial, .inr (.inr (.inl ⟨rfl, rfl, rfl⟩))⟩ | (simp; done)
   case measure => simp [intOf]
  ·go_wp2
   go_roundw
   case rel => first | exact ⟨rfl, .inr (.inr (.inr (.inl ⟨rfl, rfl, rfl⟩)))⟩ | exact ⟨trivial, .inr (.inr (.inr (.inl ⟨rfl, rfl, rfl⟩)))⟩ | (simp; done)
   case measure => simp [intOf]
  ·go_wp2
   go_roundw
   case rel => first | exact ⟨rfl, .inr (.inr (.inr (.inr (⟨rfl, rfl, rfl⟩))))⟩ | exact ⟨trivial, .inr (.inr (.inr (.inr (⟨rfl, rfl, rfl⟩))))⟩ | (simp; done)
   case measure => simp [intOf]
  ·go_wp2
   go_ret
   exact ⟨rfl, rfl⟩
theorem pow_12 (w : World) : Calls Tryz.prog 178 #[.int .u64 10, .int .i64 12] w fun e w' => e = .returned (.int .u64 1000000000000) ∧ w' = w := by
 go_enter Tryz.func178, Tryz.ntmps178
 go_wp2
 go_loopw [0, 1, 4] (fun x n p wr => wr = w ∧ ((x = .int .u64 10 ∧ n = .int .i64 12 ∧ p = .int .u64 1) ∨ (x = .int .u64 100 ∧ n = .int .i64 6 ∧ p = .int .u64 1) ∨ (x = .int .u64 10000 ∧ n = .int .i64 3 ∧ p = .int .u64 1) ∨ (x = .int .u64 100000000 ∧ n = .int .i64 1 ∧ p = .int .u64 10000) ∨ (x = .int .u64 10000000000000000 ∧ n = .int .i64 0 ∧ p = .int .u64 1000000000000))) (fun _ n _ _ => (intOf n).toNat)
 case atStart => exact ⟨rfl, .inl ⟨rfl, rfl, rfl⟩⟩
 case round =>
  obtain ⟨rfl, hrel⟩ := hrel
  rcases hrel with ⟨rfl, rfl, rfl⟩ | ⟨rfl, rfl, rfl⟩ | ⟨rfl, rfl, rfl⟩ | ⟨rfl, rfl, rfl⟩ | ⟨rfl, rfl, rfl⟩
  ·go_wp2
   go_roundw
   case rel => first | exact ⟨rfl, .inr (.inl ⟨rfl, rfl, rfl⟩)⟩ | exact ⟨trivial, .inr (.inl ⟨rfl, rfl, rfl⟩)⟩ | (simp; done)
   case measure => simp [intOf]
  ·go_wp2
   go_roundw
   case rel => first | exact ⟨rfl, .inr (.inr (.inl ⟨rfl, rfl, rfl⟩))⟩ | exact ⟨trivial, .inr (.inr (.inl ⟨rfl, rfl, rfl⟩))⟩ | (simp; done)
   case measure => simp [intOf]
  ·go_wp2
   go_roundw
   case rel => first | exact ⟨rfl, .inr (.inr (.inr (.inl ⟨rfl, rfl, rfl⟩)))⟩ | exact ⟨trivial, .inr (.inr (.inr (.inl ⟨rfl, rfl, rfl⟩)))⟩ | (simp; done)
   case measure => simp [intOf]
  ·go_wp2
   go_roundw
   case rel => first | exact ⟨rfl, .inr (.inr (.inr (.inr (⟨rfl, rfl, rfl⟩))))⟩ | exact ⟨trivial, .inr (.inr (.inr (.inr (⟨rfl, rfl, rfl⟩))))⟩ | (simp; done)
   case measure => simp [intOf]
  ·go_wp2
   go_ret
   exact ⟨rfl, rfl⟩
theorem pow_13 (w : World) : Calls Tryz.prog 178 #[.int .u64 10, .int .i64 13] w fun e w' => e = .returned (.int .u64 10000000000000) ∧ w' = w := by
 go_enter Tryz.func178, Tryz.ntmps178
 go_wp2
 go_loopw [0, 1, 4] (fun x n p wr => wr = w ∧ ((x = .int .u64 10 ∧ n = .int .i64 13 ∧ p = .int .u64 1) ∨ (x = .int .u64 100 ∧ n = .int .i64 6 ∧ p = .int .u64 10) ∨ (x = .int .u64 10000 ∧ n = .int .i64 3 ∧ p = .int .u64 10) ∨ (x = .int .u64 100000000 ∧ n = .int .i64 1 ∧ p = .int .u64 100000) ∨ (x = .int .u64 10000000000000000 ∧ n = .int .i64 0 ∧ p = .int .u64 10000000000000))) (fun _ n _ _ => (intOf n).toNat)
 case atStart => exact ⟨rfl, .inl ⟨rfl, rfl, rfl⟩⟩
 case round =>
  obtain ⟨rfl, hrel⟩ := hrel
  rcases hrel with ⟨rfl, rfl, rfl⟩ | ⟨rfl, rfl, rfl⟩ | ⟨rfl, rfl, rfl⟩ | ⟨rfl, rfl, rfl⟩ | ⟨rfl, rfl, rfl⟩
  ·go_wp2
   go_roundw
   case rel => first | exact ⟨rfl, .inr (.inl ⟨rfl, rfl, rfl⟩)⟩ | exact ⟨trivial, .inr (.inl ⟨rfl, rfl, rfl⟩)⟩ | (simp; done)
   case measure => simp [intOf]
  ·go_wp2
   go_roundw
   case rel => first | exact ⟨rfl, .inr (.inr (.inl ⟨rfl, rfl, rfl⟩))⟩ | exact ⟨trivial, .inr (.inr (.inl ⟨rfl, rfl, rfl⟩))⟩ | (simp; done)
   case measure => simp [intOf]
  ·go_wp2
   go_roundw
   case rel => first | exact ⟨rfl, .inr (.inr (.inr (.inl ⟨rfl, rfl, rfl⟩)))⟩ | exact ⟨trivial, .inr (.inr (.inr (.inl ⟨rfl, rfl, rfl⟩)))⟩ | (simp; done)
   case measure => simp [intOf]
  ·go_wp2
   go_roundw
   case rel => first | exact ⟨rfl, .inr (.inr (.inr (.inr (⟨rfl, rfl, rfl⟩))))⟩ | exact ⟨trivial, .inr (.inr (.inr (.inr (⟨rfl, rfl, rfl⟩))))⟩ | (simp; done)
   case measure => simp [intOf]
  ·go_wp2
   go_ret
   exact ⟨rfl, rfl⟩
theorem pow_14 (w : World) : Calls Tryz.prog 178 #[.int .u64 10, .int .i64 14] w fun e w' => e = .returned (.int .u64 100000000000000) ∧ w' = w := by
 go_enter Tryz.func178, Tryz.ntmps178
 go_wp2
 go_loopw [0, 1, 4] (fun x n p wr => wr = w ∧ ((x = .int .u64 10 ∧ n = .int .i64 14 ∧ p = .int .u64 1) ∨ (x = .int .u64 100 ∧ n = .int .i64 7 ∧ p = .int .u64 1) ∨ (x = .int .u64 10000 ∧ n = .int .i64 3 ∧ p = .int .u64 100) ∨ (x = .int .u64 100000000 ∧ n = .int .i64 1 ∧ p = .int .u64 1000000) ∨ (x = .int .u64 10000000000000000 ∧ n = .int .i64 0 ∧ p = .int .u64 100000000000000))) (fun _ n _ _ => (intOf n).toNat)
 case atStart => exact ⟨rfl, .inl ⟨rfl, rfl, rfl⟩⟩
 case round =>
  obtain ⟨rfl, hrel⟩ := hrel
  rcases hrel with ⟨rfl, rfl, rfl⟩ | ⟨rfl, rfl, rfl⟩ | ⟨rfl, rfl, rfl⟩ | ⟨rfl, rfl, rfl⟩ | ⟨rfl, rfl, rfl⟩
  ·go_wp2
   go_roundw
   case rel => first | exact ⟨rfl, .inr (.inl ⟨rfl, rfl, rfl⟩)⟩ | exact ⟨trivial, .inr (.inl ⟨rfl, rfl, rfl⟩)⟩ | (simp; done)
   case measure => simp [intOf]
  ·go_wp2
   go_roundw
   case rel => first | exact ⟨rfl, .inr (.inr (.inl ⟨rfl, rfl, rfl⟩))⟩ | exact ⟨trivial, .inr (.inr (.inl ⟨rfl, rfl, rfl⟩))⟩ | (simp; done)
   case measure => simp [intOf]
  ·go_wp2
   go_roundw
   case rel => first | exact ⟨rfl, .inr (.inr (.inr (.inl ⟨rfl, rfl, rfl⟩)))⟩ | exact ⟨trivial, .inr (.inr (.inr (.inl ⟨rfl, rfl, rfl⟩)))⟩ | (simp; done)
   case measure => simp [intOf]
  ·go_wp2
   go_roundw
   case rel => first | exact ⟨rfl, .inr (.inr (.inr (.inr (⟨rfl, rfl, rfl⟩))))⟩ | exact ⟨trivial, .inr (.inr (.inr (.inr (⟨rfl, rfl, rfl⟩))))⟩ | (simp; done)
   case measure => simp [intOf]
  ·go_wp2
   go_ret
   exact ⟨rfl, rfl⟩
theorem pow_15 (w : World) : Calls Tryz.prog 178 #[.int .u64 10, .int .i64 15] w fun e w' => e = .returned (.int .u64 1000000000000000) ∧ w' = w := by
 go_enter Tryz.func178, Tryz.ntmps178
 go_wp2
 go_loopw [0, 1, 4] (fun x n p wr => wr = w ∧ ((x = .int .u64 10 ∧ n = .int .i64 15 ∧ p = .int .u64 1) ∨ (x = .int .u64 100 ∧ n = .int .i64 7 ∧ p = .int .u64 10) ∨ (x = .int .u64 10000 ∧ n = .int .i64 3 ∧ p = .int .u64 1000) ∨ (x = .int .u64 100000000 ∧ n = .int .i64 1 ∧ p = .int .u64 10000000) ∨ (x = .int .u64 10000000000000000 ∧ n = .int .i64 0 ∧ p = .int .u64 1000000000000000))) (fun _ n _ _ => (intOf n).toNat)
 case atStart => exact ⟨rfl, .inl ⟨rfl, rfl, rfl⟩⟩
 case round =>
  obtain ⟨rfl, hrel⟩ := hrel
  rcases hrel with ⟨rfl, rfl, rfl⟩ | ⟨rfl, rfl, rfl⟩ | ⟨rfl, rfl, rfl⟩ | ⟨rfl, rfl, rfl⟩ | ⟨rfl, rfl, rfl⟩
  ·go_wp2
   go_roundw
   case rel => first | exact ⟨rfl, .inr (.inl ⟨rfl, rfl, rfl⟩)⟩ | exact ⟨trivial, .inr (.inl ⟨rfl, rfl, rfl⟩)⟩ | (simp; done)
   case measure => simp [intOf]
  ·go_wp2
   go_roundw
   case rel => first | exact ⟨rfl, .inr (.inr (.inl ⟨rfl, rfl, rfl⟩))⟩ | exact ⟨trivial, .inr (.inr (.inl ⟨rfl, rfl, rfl⟩))⟩ | (simp; done)
   case measure => simp [intOf]
  ·go_wp2
   go_roundw
   case rel => first | exact ⟨rfl, .inr (.inr (.inr (.inl ⟨rfl, rfl, rfl⟩)))⟩ | exact ⟨trivial, .inr (.inr (.inr (.inl ⟨rfl, rfl, rfl⟩)))⟩ | (simp; done)
   case measure => simp [intOf]
  ·go_wp2
   go_roundw
   case rel => first | exact ⟨rfl, .inr (.inr (.inr (.inr (⟨rfl, rfl, rfl⟩))))⟩ | exact ⟨trivial, .inr (.inr (.inr (.inr (⟨rfl, rfl, rfl⟩))))⟩ | (simp; done)
   case measure => simp [intOf]
  ·go_wp2
   go_ret
   exact ⟨rfl, rfl⟩
theorem pow_16 (w : World) : Calls Tryz.prog 178 #[.int .u64 10, .int .i64 16] w fun e w' => e = .returned (.int .u64 10000000000000000) ∧ w' = w := by
 go_enter Tryz.func178, Tryz.ntmps178
 go_wp2
 go_loopw [0, 1, 4] (fun x n p wr => wr = w ∧ ((x = .int .u64 10 ∧ n = .int .i64 16 ∧ p = .int .u64 1) ∨ (x = .int .u64 100 ∧ n = .int .i64 8 ∧ p = .int .u64 1) ∨ (x = .int .u64 10000 ∧ n = .int .i64 4 ∧ p = .int .u64 1) ∨ (x = .int .u64 100000000 ∧ n = .int .i64 2 ∧ p = .int .u64 1) ∨ (x = .int .u64 10000000000000000 ∧ n = .int .i64 1 ∧ p = .int .u64 1) ∨ (x = .int .u64 9632337040368467968 ∧ n = .int .i64 0 ∧ p = .int .u64 10000000000000000))) (fun _ n _ _ => (intOf n).toNat)
 case atStart => exact ⟨rfl, .inl ⟨rfl, rfl, rfl⟩⟩
 case round =>
  obtain ⟨rfl, hrel⟩ := hrel
  rcases hrel with ⟨rfl, rfl, rfl⟩ | ⟨rfl, rfl, rfl⟩ | ⟨rfl, rfl, rfl⟩ | ⟨rfl, rfl, rfl⟩ | ⟨rfl, rfl, rfl⟩ | ⟨rfl, rfl, rfl⟩
  ·go_wp2
   go_roundw
   case rel => first | exact ⟨rfl, .inr (.inl ⟨rfl, rfl, rfl⟩)⟩ | exact ⟨trivial, .inr (.inl ⟨rfl, rfl, rfl⟩)⟩ | (simp; done)
   case measure => simp [intOf]
  ·go_wp2
   go_roundw
   case rel => first | exact ⟨rfl, .inr (.inr (.inl ⟨rfl, rfl, rfl⟩))⟩ | exact ⟨trivial, .inr (.inr (.inl ⟨rfl, rfl, rfl⟩))⟩ | (simp; done)
   case measure => simp [intOf]
  ·go_wp2
   go_roundw
   case rel => first | exact ⟨rfl, .inr (.inr (.inr (.inl ⟨rfl, rfl, rfl⟩)))⟩ | exact ⟨trivial, .inr (.inr (.inr (.inl ⟨rfl, rfl, rfl⟩)))⟩ | (simp; done)
   case measure => simp [intOf]
  ·go_wp2
   go_roundw
   case rel => first | exact ⟨rfl, .inr (.inr (.inr (.inr (.inl ⟨rfl, rfl, rfl⟩))))⟩ | exact ⟨trivial, .inr (.inr (.inr (.inr (.inl ⟨rfl, rfl, rfl⟩))))⟩ | (simp; done)
   case measure => simp [intOf]
  ·go_wp2
   go_roundw
   case rel => first | exact ⟨rfl, .inr (.inr (.inr (.inr (.inr (⟨rfl, rfl, rfl⟩)))))⟩ | exact ⟨trivial, .inr (.inr (.inr (.inr (.inr (⟨rfl, rfl, rfl⟩)))))⟩ | (simp; done)
   case measure => simp [intOf]
  ·go_wp2
   go_ret
   exact ⟨rfl, rfl⟩
theorem pow_17 (w : World) : Calls Tryz.prog 178 #[.int .u64 10, .int .i64 17] w fun e w' => e = .returned (.int .u64 100000000000000000) ∧ w' = w := by
 go_enter Tryz.func178, Tryz.ntmps178
 go_wp2
 go_loopw [0, 1, 4] (fun x n p wr => wr = w ∧ ((x = .int .u64 10 ∧ n = .int .i64 17 ∧ p = .int .u64 1) ∨ (x = .int .u64 100 ∧ n = .int .i64 8 ∧ p = .int .u64 10) ∨ (x = .int .u64 10000 ∧ n = .int .i64 4 ∧ p = .int .u64 10) ∨ (x = .int .u64 100000000 ∧ n = .int .i64 2 ∧ p = .int .u64 10) ∨ (x = .int .u64 10000000000000000 ∧ n = .int .i64 1 ∧ p = .int .u64 10) ∨ (x = .int .u64 9632337040368467968 ∧ n = .int .i64 0 ∧ p = .int .u64 100000000000000000))) (fun _ n _ _ => (intOf n).toNat)
 case atStart => exact ⟨rfl, .inl ⟨rfl, rfl, rfl⟩⟩
 case round =>
  obtain ⟨rfl, hrel⟩ := hrel
  rcases hrel with ⟨rfl, rfl, rfl⟩ | ⟨rfl, rfl, rfl⟩ | ⟨rfl, rfl, rfl⟩ | ⟨rfl, rfl, rfl⟩ | ⟨rfl, rfl, rfl⟩ | ⟨rfl, rfl, rfl⟩
  ·go_wp2
   go_roundw
   case rel => first | exact ⟨rfl, .inr (.inl ⟨rfl, rfl, rfl⟩)⟩ | exact ⟨trivial, .inr (.inl ⟨rfl, rfl, rfl⟩)⟩ | (simp; done)
   case measure => simp [intOf]
  ·go_wp2
   go_roundw
   case rel => first | exact ⟨rfl, .inr (.inr (.inl ⟨rfl, rfl, rfl⟩))⟩ | exact ⟨trivial, .inr (.inr (.inl ⟨rfl, rfl, rfl⟩))⟩ | (simp; done)
   case measure => simp [intOf]
  ·go_wp2
   go_roundw
   case rel => first | exact ⟨rfl, .inr (.inr (.inr (.inl ⟨rfl, rfl, rfl⟩)))⟩ | exact ⟨trivial, .inr (.inr (.inr (.inl ⟨rfl, rfl, rfl⟩)))⟩ | (simp; done)
   case measure => simp [intOf]
  ·go_wp2
   go_roundw
   case rel => first | exact ⟨rfl, .inr (.inr (.inr (.inr (.inl ⟨rfl, rfl, rfl⟩))))⟩ | exact ⟨trivial, .inr (.inr (.inr (.inr (.inl ⟨rfl, rfl, rfl⟩))))⟩ | (simp; done)
   case measure => simp [intOf]
  ·go_wp2
   go_roundw
   case rel => first | exact ⟨rfl, .inr (.inr (.inr (.inr (.inr (⟨rfl, rfl, rfl⟩)))))⟩ | exact ⟨trivial, .inr (.inr (.inr (.inr (.inr (⟨rfl, rfl, rfl⟩)))))⟩ | (simp; done)
   case measure => simp [intOf]
  ·go_wp2
   go_ret
   exact ⟨rfl, rfl⟩
theorem pow_18 (w : World) : Calls Tryz.prog 178 #[.int .u64 10, .int .i64 18] w fun e w' => e = .returned (.int .u64 1000000000000000000) ∧ w' = w := by
 go_enter Tryz.func178, Tryz.ntmps178
 go_wp2
 go_loopw [0, 1, 4] (fun x n p wr => wr = w ∧ ((x = .int .u64 10 ∧ n = .int .i64 18 ∧ p = .int .u64 1) ∨ (x = .int .u64 100 ∧ n = .int .i64 9 ∧ p = .int .u64 1) ∨ (x = .int .u64 10000 ∧ n = .int .i64 4 ∧ p = .int .u64 100) ∨ (x = .int .u64 100000000 ∧ n = .int .i64 2 ∧ p = .int .u64 100) ∨ (x = .int .u64 10000000000000000 ∧ n = .int .i64 1 ∧ p = .int .u64 100) ∨ (x = .int .u64 9632337040368467968 ∧ n = .int .i64 0 ∧ p = .int .u64 1000000000000000000))) (fun _ n _ _ => (intOf n).toNat)
 case atStart => exact ⟨rfl, .inl ⟨rfl, rfl, rfl⟩⟩
 case round =>
  obtain ⟨rfl, hrel⟩ := hrel
  rcases hrel with ⟨rfl, rfl, rfl⟩ | ⟨rfl, rfl, rfl⟩ | ⟨rfl, rfl, rfl⟩ | ⟨rfl, rfl, rfl⟩ | ⟨rfl, rfl, rfl⟩ | ⟨rfl, rfl, rfl⟩
  ·go_wp2
   go_roundw
   case rel => first | exact ⟨rfl, .inr (.inl ⟨rfl, rfl, rfl⟩)⟩ | exact ⟨trivial, .inr (.inl ⟨rfl, rfl, rfl⟩)⟩ | (simp; done)
   case measure => simp [intOf]
  ·go_wp2
   go_roundw
   case rel => first | exact ⟨rfl, .inr (.inr (.inl ⟨rfl, rfl, rfl⟩))⟩ | exact ⟨trivial, .inr (.inr (.inl ⟨rfl, rfl, rfl⟩))⟩ | (simp; done)
   case measure => simp [intOf]
  ·go_wp2
   go_roundw
   case rel => first | exact ⟨rfl, .inr (.inr (.inr (.inl ⟨rfl, rfl, rfl⟩)))⟩ | exact ⟨trivial, .inr (.inr (.inr (.inl ⟨rfl, rfl, rfl⟩)))⟩ | (simp; done)
   case measure => simp [intOf]
  ·go_wp2
   go_roundw
   case rel => first | exact ⟨rfl, .inr (.inr (.inr (.inr (.inl ⟨rfl, rfl, rfl⟩))))⟩ | exact ⟨trivial, .inr (.inr (.inr (.inr (.inl ⟨rfl, rfl, rfl⟩))))⟩ | (simp; done)
   case measure => simp [intOf]
  ·go_wp2
   go_roundw
   case rel => first | exact ⟨rfl, .inr (.inr (.inr (.inr (.inr (⟨rfl, rfl, rfl⟩)))))⟩ | exact ⟨trivial, .inr (.inr (.inr (.inr (.inr (⟨rfl, rfl, rfl⟩)))))⟩ | (simp; done)
   case measure => simp [intOf]
  ·go_wp2
   go_ret
   exact ⟨rfl, rfl⟩
theorem pow_ (n : Nat) (h1 : 1 ≤ n) (h2 : n ≤ 18) (w : World) : Calls Tryz.prog 178 #[.int .u64 10, .int .i64 n] w fun e w' => e = .returned (.int .u64 (10 ^ n : Nat)) ∧ w' = w := by
 have h : n = 1 ∨ n = 2 ∨ n = 3 ∨ n = 4 ∨ n = 5 ∨ n = 6 ∨ n = 7 ∨ n = 8 ∨ n = 9 ∨ n = 10 ∨ n = 11 ∨ n = 12 ∨ n = 13 ∨ n = 14 ∨ n = 15 ∨ n = 16 ∨ n = 17 ∨ n = 18 := by omega
 rcases h with rfl | rfl | rfl | rfl | rfl | rfl | rfl | rfl | rfl | rfl | rfl | rfl | rfl | rfl | rfl | rfl | rfl | rfl
 ·exact pow_1 w
 ·exact pow_2 w
 ·exact pow_3 w
 ·exact pow_4 w
 ·exact pow_5 w
 ·exact pow_6 w
 ·exact pow_7 w
 ·exact pow_8 w
 ·exact pow_9 w
 ·exact pow_10 w
 ·exact pow_11 w
 ·exact pow_12 w
 ·exact pow_13 w
 ·exact pow_14 w
 ·exact pow_15 w
 ·exact pow_16 w
 ·exact pow_17 w
 ·exact pow_18 w
end Go.Proofs.YtlijjnjpomnphaaGreatDoorG
end
section
namespace Go.Proofs.YtlijjnjpomnphaaGreatDoorG
open Go.RowKit YtlijjnjpomnphaaGreatDoorW.PrintWords YtlijjnjpomnphaaGreatDoorW.PrintLast
theorem mulAddVWW_ (w : World) (g gx n cz cx y r : Nat) (e : TypeId) (full xs : List Nat) (hz : Ws w g e full) (hx : Ws w gx e xs) (hn : n ≤ full.length) (hxn : n ≤ xs.length) (hsame : gx = g → xs = full) (hxs : ∀ x ∈ xs, IsW x) (hy : IsW y) (hr : IsW r) (hbig : n ≤ 4611686018427387904) :
  Calls Tryz.prog 184 #[.slice (some ⟨g, 0, none⟩) n cz, .slice (some ⟨gx, 0, none⟩) n cx, .int .u64 y, .int .u64 r] w fun e' w' =>
   e' = .returned (.int .u64 ((mva (xs.take n) y r).2 : Nat)) ∧ Ws w' g e ((mva (xs.take n) y r).1 ++ full.drop n) ∧ w.grownBy w' (some g) := by
 have H := za.mk (mulAddVWW_g_ w g gx n cz cx y r e full xs hz hx hn hxn hsame hxs hy hr hbig)
 clear hz hx hn hxn hsame hxs hy hr hbig
 go_enter Tryz.func184, Tryz.ntmps184
 go_wp2_with (first | (go_at_call 188; refine H.out.mono ?_; rintro e' w' ⟨rfl, h1, h2⟩))
 go_ret
 exact ⟨rfl, h1, h2⟩
theorem Ws.alloc {w : World} {e : TypeId} (l : List Nat) : Ws (w.alloc (.cells (l.map NumC).toArray e)) w.heap.size e l := by
 have h : (w.alloc (.cells (l.map NumC).toArray e)).heap = w.heap.push (.cells (l.map NumC).toArray e) := rfl
 unfold Ws
 rw [h]
 simp
theorem zee {B : Nat} {w : World} (o : Obj) (h : B ≤ w.heap.size) : Below B w (w.alloc o) := (Below.refl B w).alloc h o
theorem below_grown_ {B g : Nat} {a w w' : World} (h : Below B a w) (hg : w.grownBy w' (some g)) (hB : B ≤ w.heap.size) (hr : B ≤ g) : Below B a w' := h.grown hg hB (fun k hk => by cases hk; exact hr)
theorem zof {B g i : Nat} {a w : World} {v : Value} (h : Below B a w) (hr : B ≤ g) : Below B a (w.setCell ⟨g, i, none⟩ v) := h.setCell hr _
theorem setWord_zero (w : World) (p : Option Addr) (len cap : Nat) :
  Calls Tryz.prog 183 #[.slice p len cap, .int .u64 0] w fun e w' => e = .returned (.slice p 0 cap) ∧ w' = w := by
 cases p with
 | none =>
  go_enter Tryz.func183, Tryz.ntmps183
  go_wp2
  go_ret
  exact ⟨rfl, rfl⟩
 | some a =>
  go_enter Tryz.func183, Tryz.ntmps183
  go_wp2
  go_ret
  exact ⟨rfl, rfl⟩
theorem setWord_reuse (w : World) (g len cap r : Nat) (full : List Nat) (hw : Ws w g 147 full) (hc : 1 ≤ cap) (hcf : full.length = cap) (hr : r ≠ 0) :
  Calls Tryz.prog 183 #[.slice (some ⟨g, 0, none⟩) len cap, .int .u64 (r : Int)] w fun e w' => e = .returned (.slice (some ⟨g, 0, none⟩) 1 cap) ∧ Ws w' g 147 (full.set 0 r) ∧ w' = w.setCell ⟨g, 0, none⟩ (.int .u64 (r : Int)) := by
 have b1 : ((r : Int) == 0) = false := by rw [beq_eq_false_iff_ne]; omega
 have b2 : ¬ ((r : Int) = 0) := by omega
 have hd := hw.cell 0 (by omega)
 obtain ⟨d, hdd⟩ : ∃ d, d = full.getD 0 0 := ⟨_, rfl⟩
 rw [← hdd] at hd
 have hf := hw.free 0
 have HS := za.mk (hw.set 0 r)
 have HM := za.mk (make_reuse w g len cap 1 hc)
 clear hw hdd
 go_enter Tryz.func183, Tryz.ntmps183
 go_wp2_with (first | (go_at_call 172; refine HM.out.mono ?_; rintro e' w' ⟨rfl, rfl⟩))
 go_ret
 exact ⟨rfl, HS.out, rfl⟩
theorem setWord_fresh (w : World) (p : Option Addr) (len r : Nat) (hr : r ≠ 0) :
  Calls Tryz.prog 183 #[.slice p len 0, .int .u64 (r : Int)] w fun e w' => ∃ c, 1 ≤ c ∧ c ≤ 5 ∧ e = .returned (.slice (some ⟨w.heap.size, 0, none⟩) 1 c) ∧ Ws w' w.heap.size 147 ((List.replicate c 0).set 0 r) ∧ (∀ B, B ≤ w.heap.size → Below B w w') := by
 have b1 : ((r : Int) == 0) = false := by rw [beq_eq_false_iff_ne]; omega
 have b2 : ¬ ((r : Int) = 0) := by omega
 have HM := za.mk (make_fresh w p len 0 1 (by omega) (by omega))
 go_enter Tryz.func183, Tryz.ntmps183
 go_upto_region 4 with (first | (go_at_call 172; refine HM.out.mono ?_; rintro e' w' ⟨c, hc1, hc2, rfl, hw'⟩; have HW' := za.mk hw'; clear hw'))
 have hw' := HW'.out
 have hw0 : Ws w' w.heap.size 147 (List.replicate c 0) := by
  rw [hw']
  have := Ws.alloc (w := w) (e := 147) (List.replicate c 0)
  rwa [List.map_replicate] at this
 have hd := hw0.cell 0 (by simp; omega)
 obtain ⟨d, hdd⟩ : ∃ d, d = (List.replicate c 0).getD 0 0 := ⟨_, rfl⟩
 rw [← hdd] at hd
 have hf := hw0.free 0
 have HS := za.mk (hw0.set 0 r)
 have HB : za (∀ B, B ≤ w.heap.size → Below B w (w'.setCell ⟨w.heap.size, 0, none⟩ (.int .u64 (r : Int)))) := ⟨fun B hB => zof (by rw [hw']; exact zee _ hB) hB⟩
 obtain ⟨G, hG⟩ : ∃ G, G = w.heap.size := ⟨_, rfl⟩
 rw [← hG] at hd hf HS HB ⊢
 have HG := za.mk hG
 have HC := za.mk (And.intro hc1 hc2)
 have b3 : ((0 : Int) < (1 : Int)) := by omega
 clear hw0 hdd hw' HW' hG hc1 hc2
 go_wp2
 go_ret
 refine ⟨c, HC.out.1, HC.out.2, ?_, ?_, ?_⟩
 ·rw [← HG.out]; rfl
 ·rw [← HG.out]; exact HS.out
 ·rw [← HG.out]; exact HB.out
theorem trimW_idem (l : List Nat) : trimW (trimW l) = trimW l := by
 have : ∀ (n : Nat) (l : List Nat), l.length = n → trimW (trimW l) = trimW l := by
  intro n
  induction n with
  | zero => intro l h; rw [List.length_eq_zero_iff.1 h]; rfl
  | succ n ih =>
   intro l h
   have hne : l ≠ [] := by intro e; subst e; simp at h
   obtain ⟨m, x, rfl⟩ : ∃ m x, l = m ++ [x] := ⟨l.dropLast, l.getLast hne, (List.dropLast_concat_getLast hne).symm⟩
   by_cases hx : x = 0
   ·subst hx
    rw [zke]
    exact ih m (by simpa using h)
   ·rw [zjf _ _ hx, zjf _ _ hx]
 exact this _ l rfl
theorem zxf (c : Nat) : ∀ x ∈ List.replicate c 0, IsW x := by
 intro x hx
 rw [List.mem_replicate] at hx
 rw [hx.2]
 unfold IsW W64
 omega
theorem set_words {l : List Nat} (h : ∀ x ∈ l, IsW x) {v : Nat} (hv : IsW v) (i : Nat) : ∀ x ∈ l.set i v, IsW x := by
 intro x hx
 rcases List.mem_or_eq_of_mem_set hx with h2 | h2
 ·exact h x h2
 ·rw [h2]; exact hv
theorem mulAdd_tail (w wm : World) (B g gx n cap cx y r : Nat) (full xs : List Nat) (hz : Ws wm g 147 full) (hx : Ws wm gx 147 xs) (hn : n + 1 ≤ full.length) (hcap : full.length = cap) (hxn : n ≤ xs.length) (hsame : gx = g → xs = full) (hxs : ∀ x ∈ xs, IsW x) (hfs : ∀ x ∈ full, IsW x)
  (hy : IsW y) (hy0 : y ≠ 0) (hr : IsW r) (hn0 : n ≠ 0) (hbig : cap ≤ 1000000000) (hBg : B ≤ g) (hB : Below B w wm) (hBs : B ≤ wm.heap.size)
  (hm : ∀ len, Calls Tryz.prog 172 #[.slice (some ⟨gx, 0, none⟩) len cx, .int .i64 ((n + 1 : Nat) : Int)] w fun e w' => e = .returned (.slice (some ⟨g, 0, none⟩) (n + 1) cap) ∧ w' = wm) :
  Calls Tryz.prog 177 #[.slice (some ⟨gx, 0, none⟩) n cx, .slice (some ⟨gx, 0, none⟩) n cx, .int .u64 (y : Int), .int .u64 (r : Int)] w fun e w' => ∃ v' l', e = .returned v' ∧ NatS w' B v' l' ∧ num l' = num (xs.take n) * y + r ∧ l' = trimW l' ∧ l'.length ≤ n + 1 ∧ Below B w w' := by
 have b1 : ((n : Int) == 0) = false := by rw [beq_eq_false_iff_ne]; omega
 have b2 : ¬ ((n : Int) = 0) := by omega
 have b3 : ((y : Int) == 0) = false := by rw [beq_eq_false_iff_ne]; omega
 have b4 : ¬ ((y : Int) = 0) := by omega
 have e1 : ((n + 1 : Nat) : Int) = (n : Int) + 1 := by omega
 have e2 : wrap64 ((n : Int) + 1) = (n : Int) + 1 := by unfold wrap64; omega
 have b7 : n ≤ cap := by omega
 have b8 : ((n : Int) ≤ (cap : Int)) := by omega
 have HM := za.mk hm
 have HV := za.mk (mulAddVWW_ wm g gx n cap cx y r 147 full xs hz hx (by omega) hxn hsame hxs hy hr (by omega))
 have F := za.mk (And.intro hz (And.intro hn (And.intro hcap (And.intro hxs (And.intro hfs (And.intro hy (And.intro hr (And.intro hbig (And.intro hBg (And.intro hB (And.intro hBs hxn)))))))))))
 clear hz hx hn hxn hsame hxs hfs hy hr hy0 hn0 hbig hBg hB hBs hm hcap
 go_enter Tryz.func177, Tryz.ntmps177
 obtain ⟨m, hmv⟩ : ∃ m, m = mva (xs.take n) y r := ⟨_, rfl⟩
 rw [← hmv] at HV
 have HMV := za.mk hmv
 clear hmv
 have hcell : ∀ w2, Ws w2 g 147 (m.1 ++ full.drop n) → (∃ d : Nat, w2.cell? ⟨g, n, none⟩ = some (.int .u64 d)) ∧ w2.frozen? ⟨g, n, none⟩ = false ∧ Ws (w2.setCell ⟨g, n, none⟩ (.int .u64 (m.2 : Int))) g 147 ((m.1 ++ full.drop n).set n m.2) := by
  intro w2 h
  have hl : n < (m.1 ++ full.drop n).length := by
   rw [HMV.out, List.length_append, zig, List.length_take, List.length_drop]
   have := F.out.2.1
   have := F.out.2.2.2.2.2.2.2.2.2.2.2
   omega
  exact ⟨⟨_, h.cell n hl⟩, h.free n, h.set n m.2⟩
 have HCELL := za.mk hcell
 clear hcell
 have b6 : ((n : Int) < (n : Int) + 1) := by omega
 have hnorm : ∀ w3, Ws w3 g 147 ((m.1 ++ full.drop n).set n m.2) → Calls Tryz.prog 174 #[.slice (some ⟨g, 0, none⟩) (n + 1) cap] w3 fun e w' => ∃ k, k ≤ n + 1 ∧ trimW (((m.1 ++ full.drop n).set n m.2).take (n + 1)) = ((m.1 ++ full.drop n).set n m.2).take k ∧ e = .returned (.slice (some ⟨g, 0, none⟩) k cap) ∧ w' = w3 := by
  intro w3 h
  have h2 := F.out.2.1
  have h3 := F.out.2.2.2.2.2.2.2.2.2.2.2
  have h4 := F.out.2.2.1
  have h5 := F.out.2.2.2.2.2.2.2.1
  exact norm_ w3 g (n + 1) cap _ h (by rw [List.length_set, HMV.out, List.length_append, zig, List.length_take, List.length_drop]; omega) (by omega) (by omega)
 have HNORM := za.mk hnorm
 clear hnorm
 go_wp2_with (first
  | (go_at_call 172; rw [← e1]; refine (HM.out _).mono ?_; rintro e' w' ⟨rfl, rfl⟩)
  | (go_at_call 184; refine HV.out.mono ?_; rintro e' w2 ⟨rfl, h1, h2⟩; obtain ⟨⟨d, hd⟩, hf, hs⟩ := HCELL.out w2 h1; have HS := za.mk hs; have HG2 := za.mk h2; clear h1 h2 hs)
  | (go_at_call 174; refine (HNORM.out _ HS.out).mono ?_; rintro e' w3 ⟨k, hk, ht, rfl, rfl⟩; have HT := za.mk (And.intro hk ht); clear hk ht))
 go_ret
 obtain ⟨f1, f2, f3, f4, f5, f6, f7, f8, f9, f10, f11, f12⟩ := F.out
 obtain ⟨hk, ht⟩ := HT.out
 have hml : m.1.length = n := by rw [HMV.out, zig, List.length_take]; omega
 have hfull2 : ((m.1 ++ full.drop n).set n m.2) = m.1 ++ [m.2] ++ (full.drop n).drop 1 := set_at _ _ _ _ hml (by rw [List.length_append, hml, List.length_drop]; omega)
 have hlen2 : ((m.1 ++ full.drop n).set n m.2).length = full.length := by rw [List.length_set, List.length_append, hml, List.length_drop]; omega
 have htk : ((m.1 ++ full.drop n).set n m.2).take (n + 1) = m.1 ++ [m.2] := by
  rw [hfull2, List.take_append_of_le_length (by rw [List.length_append, hml]; simp), List.take_of_length_le (by rw [List.length_append, hml]; simp)]
 have hkl : (((m.1 ++ full.drop n).set n m.2).take k).length = k := by rw [List.length_take]; omega
 rw [htk] at ht
 have hwords := mva_words (xs.take n) y r (fun x hx => f4 x (List.mem_of_mem_take hx)) f6 f7
 rw [← HMV.out] at hwords
 refine ⟨_, ((m.1 ++ full.drop n).set n m.2).take k, rfl, .inr ⟨g, _, ?_, f9, HS.out, ?_, ?_, ?_, ?_⟩, ?_, ?_, ?_, ?_⟩
 ·rw [hkl, hlen2, f3]
  rfl
 ·rw [hkl]
 ·rw [hkl, hlen2]; omega
 ·rw [hlen2, f3]; exact f8
 ·intro x hx
  rw [hfull2] at hx
  rcases List.mem_append.1 hx with hx | hx
  ·rcases List.mem_append.1 hx with hx | hx
   ·exact hwords.1 x hx
   ·rw [List.mem_singleton.1 hx]; exact hwords.2
  ·exact f5 x (List.mem_of_mem_drop (List.mem_of_mem_drop hx))
 ·rw [← ht, num_trimW, HMV.out, mva_num]
 ·rw [← ht]
  exact (trimW_idem _).symm
 ·rw [hkl]; exact hk
 ·exact zof (below_grown_ f10 HG2.out f11 f9) f9
theorem make_many (w : World) (p : Option Addr) (len cap n : Nat) (hn : cap < n) (hn1 : n ≠ 1) (hb : n ≤ 100000000) :
  Calls Tryz.prog 172 #[.slice p len cap, .int .i64 (n : Int)] w fun e w' => e = .returned (.slice (some ⟨w.heap.size, 0, none⟩) n (n + 4)) ∧ w' = w.alloc (.cells (List.replicate (n + 4) (NumC 0)).toArray 147) := by
 have b1 : decide ((n : Int) ≤ (cap : Int)) = false := decide_eq_false (by omega)
 have hm := make_run n (n + 4) (by omega) (by omega)
 have e1 : ((n + 4 : Nat) : Int) = (n : Int) + 4 := by omega
 rw [e1] at hm
 have b2 : ((n : Int) == 1) = false := by rw [beq_eq_false_iff_ne]; omega
 have b3 : ¬ ((n : Int) = 1) := by omega
 go_enter Tryz.func172, Tryz.ntmps172
 go_wp2
 go_ret
 exact ⟨rfl, rfl⟩
theorem mulAdd_zero (w : World) (p : Option Addr) (cap y r : Nat) (Q : Value → World → Prop)
  (h : Calls Tryz.prog 183 #[.slice p 0 cap, .int .u64 (r : Int)] w fun e w' => ∃ v, e = .returned v ∧ Q v w') :
  Calls Tryz.prog 177 #[.slice p 0 cap, .slice p 0 cap, .int .u64 (y : Int), .int .u64 (r : Int)] w fun e w' => ∃ v, e = .returned v ∧ Q v w' := by
 have H := za.mk h
 clear h
 have e0 : ((0 : Nat) : Int) = 0 := rfl
 go_enter Tryz.func177, Tryz.ntmps177
 go_wp2_with (first | (go_at_call 183; refine H.out.mono ?_; rintro e' w' ⟨v, rfl, hq⟩; have HQ := za.mk hq; clear hq))
 go_ret
 exact ⟨v, rfl, HQ.out⟩
theorem zzd (w : World) (B : Nat) (v : Value) (l : List Nat) (y r : Nat) (h : NatS w B v l) (hBs : B ≤ w.heap.size) (hy : IsW y) (hy0 : y ≠ 0) (hr : IsW r) (hl : l.length ≤ 1000000) :
  Calls Tryz.prog 177 #[v, v, .int .u64 (y : Int), .int .u64 (r : Int)] w fun e w' => ∃ v' l', e = .returned v' ∧ NatS w' B v' l' ∧ num l' = num l * y + r ∧ l' = trimW l' ∧ l'.length ≤ l.length + 1 ∧ Below B w w' := by
 have fresh_words : ∀ c, ∀ x ∈ (List.replicate c 0).set 0 r, IsW x := fun c => set_words (zxf c) hr 0
 have one : r ≠ 0 → trimW [r] = [r] := fun h => zjf [] r h
 by_cases hl0 : l = []
 ·subst hl0
  have hnum : num ([] : List Nat) * y + r = r := by simp [num]
  have fin : ∀ (p : Option Addr) (cap : Nat), v = .slice p 0 cap → (p = none → cap = 0) → (∀ a, p = some a → ∃ g full, a = ⟨g, 0, none⟩ ∧ B ≤ g ∧ Ws w g 147 full ∧ full.length = cap ∧ cap ≤ 1000000000 ∧ ∀ x ∈ full, IsW x) →
    Calls Tryz.prog 183 #[v, .int .u64 (r : Int)] w fun e w' => ∃ v', e = .returned v' ∧ ∃ l', NatS w' B v' l' ∧ num l' = r ∧ l' = trimW l' ∧ l'.length ≤ 1 ∧ Below B w w' := by
   intro p cap hv hnone hsome
   subst hv
   by_cases hr0 : r = 0
   ·subst hr0
    refine (setWord_zero w p 0 cap).mono ?_
    rintro e w' ⟨rfl, rfl⟩
    refine ⟨_, rfl, [], ?_, rfl, rfl, by simp, Below.refl _ _⟩
    cases p with
    | none => rw [hnone rfl]; exact .inl ⟨rfl, rfl⟩
    | some a =>
     obtain ⟨g, full, rfl, h1, h2, h3, h4, h5⟩ := hsome a rfl
     subst h3
     exact .inr ⟨g, full, rfl, h1, h2, rfl, by simp, h4, h5⟩
   ·by_cases hc : 1 ≤ cap
    ·cases p with
     | none => rw [hnone rfl] at hc; omega
     | some a =>
      obtain ⟨g, full, rfl, h1, h2, h3, h4, h5⟩ := hsome a rfl
      refine (setWord_reuse w g 0 cap r full h2 hc h3 hr0).mono ?_
      rintro e w' ⟨rfl, hw, rfl⟩
      refine ⟨_, rfl, [r], .inr ⟨g, full.set 0 r, ?_, h1, hw, ?_, by simp; omega, by simpa [h3] using h4, set_words h5 hr 0⟩, by simp [num], (one hr0).symm, by simp, zof (Below.refl _ _) h1⟩
      ·rw [List.length_set, h3]; rfl
      ·cases full with
       | nil => simp at h3; omega
       | cons x t => rfl
    ·have hc0 : cap = 0 := by omega
     subst hc0
     refine (setWord_fresh w p 0 r hr0).mono ?_
     rintro e w' ⟨c, hc1, hc2, rfl, hw, hb⟩
     refine ⟨_, rfl, [r], .inr ⟨w.heap.size, (List.replicate c 0).set 0 r, ?_, hBs, hw, ?_, by simp; omega, by simp; omega, fresh_words c⟩, by simp [num], (one hr0).symm, by simp, hb B hBs⟩
     ·simp
     ·cases c with
      | zero => omega
      | succ c => rfl
  rw [hnum]
  have shape : ∃ (p : Option Addr) (cap : Nat), v = .slice p 0 cap ∧ (p = none → cap = 0) ∧ (∀ a, p = some a → ∃ g full, a = ⟨g, 0, none⟩ ∧ B ≤ g ∧ Ws w g 147 full ∧ full.length = cap ∧ cap ≤ 1000000000 ∧ ∀ x ∈ full, IsW x) := by
   rcases h with ⟨rfl, _⟩ | ⟨g, full, rfl, h1, h2, h3, h4, h5, h6⟩
   ·exact ⟨none, 0, rfl, (fun _ => rfl), (fun a ha => by cases ha)⟩
   ·exact ⟨some ⟨g, 0, none⟩, full.length, rfl, (fun h => by cases h), (fun a ha => by cases ha; exact ⟨g, full, rfl, h1, h2, rfl, h5, h6⟩)⟩
  obtain ⟨p, cap, rfl, hp1, hp2⟩ := shape
  refine (mulAdd_zero w p cap y r _ (fin p cap rfl hp1 hp2)).mono ?_
  rintro e w' ⟨v', rfl, l', q⟩
  exact ⟨v', l', rfl, by simpa using q⟩
 ·have hn0 : l.length ≠ 0 := fun e => hl0 (List.length_eq_zero_iff.1 e)
  rcases h with ⟨_, h0⟩ | ⟨g, full, rfl, h1, h2, h3, h4, h5, h6⟩
  ·exact absurd h0 hl0
  ·by_cases hc : l.length + 1 ≤ full.length
   ·have t := mulAdd_tail w w B g g l.length full.length full.length y r full full h2 h2 hc rfl h4 (fun _ => rfl) h6 h6 hy hy0 hr hn0 h5 h1 (Below.refl _ _) hBs (fun len => make_reuse w g len full.length (l.length + 1) hc)
    rw [h3] at t
    exact t
   ·have hws : Ws (w.alloc (.cells (List.replicate (l.length + 1 + 4) (NumC 0)).toArray 147)) w.heap.size 147 (List.replicate (l.length + 1 + 4) 0) := by
     have := Ws.alloc (w := w) (e := 147) (List.replicate (l.length + 1 + 4) 0)
     rwa [List.map_replicate] at this
    have hold : Ws (w.alloc (.cells (List.replicate (l.length + 1 + 4) (NumC 0)).toArray 147)) g 147 full := h2.same (by
     have e : (w.alloc (.cells (List.replicate (l.length + 1 + 4) (NumC 0)).toArray 147)).heap = w.heap.push (.cells (List.replicate (l.length + 1 + 4) (NumC 0)).toArray 147) := rfl
     have := h2.lt
     rw [e, Array.getElem?_push, if_neg (by omega)])
    have hsz : B ≤ (w.alloc (.cells (List.replicate (l.length + 1 + 4) (NumC 0)).toArray 147)).heap.size := by
     have e : (w.alloc (.cells (List.replicate (l.length + 1 + 4) (NumC 0)).toArray 147)).heap = w.heap.push (.cells (List.replicate (l.length + 1 + 4) (NumC 0)).toArray 147) := rfl
     rw [e, Array.size_push]
     omega
    have t := mulAdd_tail w _ B w.heap.size g l.length (l.length + 1 + 4) full.length y r _ full hws hold (by simp) (by simp) h4 (fun e => by have := h2.lt; omega) h6 (zxf _) hy hy0 hr hn0 (by omega) hBs (zee _ hBs) hsz (fun len => make_many w _ len full.length (l.length + 1) (by omega) (by omega) (by omega))
    rw [h3] at t
    exact t
end Go.Proofs.YtlijjnjpomnphaaGreatDoorG
end
section
namespace Go.Proofs.YtlijjnjpomnphaaGreatDoorG
open Go.RowKit YtlijjnjpomnphaaGreatDoorW.PrintWords YtlijjnjpomnphaaGreatDoorW.PrintLast
def Rd (w : World) (b : Nat) (s : ByteArray) (i : Nat) (p : Int) : Prop := w.heap[b]? = some (.cells #[.string s, .int .i64 (i : Int), .int .i64 p] 189 (0, 0))
theorem Rd.c0 {w : World} {b : Nat} {s : ByteArray} {i : Nat} {p : Int} (h : Rd w b s i p) : w.cell? ⟨b, 0, none⟩ = some (.string s) := by unfold Rd at h; simp [World.cell?, h]
theorem Rd.c1 {w : World} {b : Nat} {s : ByteArray} {i : Nat} {p : Int} (h : Rd w b s i p) : w.cell? ⟨b, 1, none⟩ = some (.int .i64 (i : Int)) := by unfold Rd at h; simp [World.cell?, h]
theorem Rd.c2 {w : World} {b : Nat} {s : ByteArray} {i : Nat} {p : Int} (h : Rd w b s i p) : w.cell? ⟨b, 2, none⟩ = some (.int .i64 p) := by unfold Rd at h; simp [World.cell?, h]
theorem Rd.free {w : World} {b : Nat} {s : ByteArray} {i : Nat} {p : Int} (h : Rd w b s i p) (j : Nat) : w.frozen? ⟨b, j, none⟩ = false := by unfold Rd at h; simp [World.frozen?, h]
theorem Rd.set2 {w : World} {b : Nat} {s : ByteArray} {i : Nat} {p : Int} (h : Rd w b s i p) (q : Int) : Rd (w.setCell ⟨b, 2, none⟩ (.int .i64 q)) b s i q := by
 unfold Rd at h ⊢
 simp [World.setCell, Array.getElem?_modify, h]
theorem Rd.set1 {w : World} {b : Nat} {s : ByteArray} {i : Nat} {p : Int} (h : Rd w b s i p) (j : Nat) : Rd (w.setCell ⟨b, 1, none⟩ (.int .i64 (j : Int))) b s j p := by
 unfold Rd at h ⊢
 simp [World.setCell, Array.getElem?_modify, h]
theorem Rd.same {w w' : World} {b : Nat} {s : ByteArray} {i : Nat} {p : Int} (h : Rd w b s i p) (hb : w'.heap[b]? = w.heap[b]?) : Rd w' b s i p := by unfold Rd at h ⊢; rw [hb]; exact h
theorem Rd.lt {w : World} {b : Nat} {s : ByteArray} {i : Nat} {p : Int} (h : Rd w b s i p) : b < w.heap.size := (Array.getElem?_eq_some_iff.1 h).1
theorem cell_set_other {w : World} {g i : Nat} {v : Value} {a : Addr} (h : a.block ≠ g) : (w.setCell ⟨g, i, none⟩ v).cell? a = w.cell? a := by
 refine World.cell?_of_block ?_
 have : g ≠ a.block := fun e => h e.symm
 simp [World.setCell, Array.getElem?_modify, this]
theorem zrf {w wr : World} {r : Option Nat} (n : Nat) (h : w.grownBy wr r) : w.grownBy (wr.drewN n) r := h.trans ⟨rfl, rfl, rfl, Nat.le_refl _, fun _ _ _ => rfl⟩
theorem readByte_ (w : World) (b i : Nat) (s : ByteArray) (p : Int) (h : Rd w b s i p) (hi : i < s.size) (hs : s.size ≤ 140737488355328) :
  Calls Tryz.prog 217 #[.pointer (some ⟨b, 0, none⟩)] w fun e w' => e = .returned (.tuple #[.int .u8 (bt s i), .nilIface]) ∧ Rd w' b s (i + 1) (-1) ∧ w.grownBy w' (some b) := by
 have h2 := h.set2 (-1)
 have a2 := h.c2
 have f2 := h.free 2
 have b0 := h2.c0
 have b1 := h2.c1
 have g1 := h2.free 1
 have HE := za.mk (h2.set1 (i + 1))
 have e1 : ((i + 1 : Nat) : Int) = (i : Int) + 1 := by omega
 rw [e1] at HE
 have hb : ((s[i]'hi).toNat : Int) = bt s i := bt_at s i hi
 have HBT := za.mk hb
 clear hb
 have t1 : decide ((i : Int) ≥ (s.size : Int)) = false := decide_eq_false (by omega)
 have t2 : ((s.size : Int) ≤ (i : Int)) = False := eq_false (by omega)
 have t3 : (0 ≤ (i : Int)) = True := eq_true (by omega)
 have t4 : ((i : Int) < (s.size : Int)) = True := eq_true (by omega)
 clear h h2
 go_enter Tryz.func217, Tryz.ntmps217
 go_wp2
 go_quiet (fail)
 go_wp2
 go_quiet (fail)
 go_wp2
 go_ret2
 refine ⟨?_, HE.out, zue _ _ _ _ _ (zrf _ (zue w w b 2 _ (World.grownBy.refl w _)))⟩
 rw [← HBT.out]
 rfl
theorem znh (w : World) (b : Nat) (s : ByteArray) (p : Int) (E : Value) (h : Rd w b s s.size p) (hE : w.cell? ⟨2, 0, none⟩ = some E) (hEb : b ≠ 2) (hs : s.size ≤ 140737488355328) :
  Calls Tryz.prog 217 #[.pointer (some ⟨b, 0, none⟩)] w fun e w' => e = .returned (.tuple #[.int .u8 0, E]) ∧ Rd w' b s s.size (-1) ∧ w.grownBy w' (some b) := by
 have h2 := h.set2 (-1)
 have a2 := h.c2
 have f2 := h.free 2
 have b0 := h2.c0
 have b1 := h2.c1
 have g1 := h2.free 1
 have c1 : (w.setCell ⟨b, 2, none⟩ (.int .i64 (-1))).cell? ⟨2, 0, none⟩ = some E := by rw [cell_set_other (fun e => hEb e.symm)]; exact hE
 have HE := za.mk h2
 have t1 : decide ((s.size : Int) ≥ (s.size : Int)) = true := decide_eq_true (by omega)
 have t2 : ((s.size : Int) ≤ (s.size : Int)) = True := eq_true (by omega)
 clear h h2 hE hEb
 go_enter Tryz.func217, Tryz.ntmps217
 go_wp2
 go_quiet (fail)
 go_wp2
 go_quiet (fail)
 go_wp2
 go_ret2
 exact ⟨rfl, HE.out, by first | exact zrf _ (zue w w b 2 _ (World.grownBy.refl w _)) | exact zrf _ (zrf _ (zue w w b 2 _ (World.grownBy.refl w _)))⟩
theorem unreadByte_ (w : World) (b i : Nat) (s : ByteArray) (p : Int) (h : Rd w b s (i + 1) p) (hs : i < 140737488355328) :
  Calls Tryz.prog 218 #[.pointer (some ⟨b, 0, none⟩)] w fun e w' => e = .returned .nilIface ∧ Rd w' b s i (-1) ∧ w.grownBy w' (some b) := by
 have h2 := h.set2 (-1)
 have a1 := h.c1
 have a2 := h.c2
 have f2 := h.free 2
 have b1 := h2.c1
 have g1 := h2.free 1
 have HE := za.mk (h2.set1 i)
 have e1 : ((i + 1 : Nat) : Int) = (i : Int) + 1 := by omega
 rw [e1] at a1 b1
 have t1 : decide ((i : Int) + 1 ≤ 0) = false := decide_eq_false (by omega)
 have t2 : ((i : Int) + 1 ≤ 0) = False := eq_false (by omega)
 have t3 : (i : Int) + 1 - 1 = (i : Int) := by omega
 have t4 : wrap64 (i : Int) = (i : Int) := by unfold wrap64; omega
 clear h h2
 go_enter Tryz.func218, Tryz.ntmps218
 go_wp2
 go_ret
 exact ⟨rfl, HE.out, zue _ _ _ _ _ (zue w w b 2 _ (World.grownBy.refl w _))⟩
theorem newReader_ (w : World) (s : ByteArray) :
  Calls Tryz.prog 137 #[.string s] w fun e w' => e = .returned (.pointer (some ⟨w.heap.size, 0, none⟩)) ∧ w' = w.alloc (.cells #[.string s, .int .i64 0, .int .i64 (-1)] 189) := by
 go_enter Tryz.func137, Tryz.ntmps137
 go_wp2
 go_ret
 exact ⟨rfl, rfl⟩
end Go.Proofs.YtlijjnjpomnphaaGreatDoorG
end
