/- Proved here, for the row of the law FnPyPIBuilt: contracts of the Go functions that it reaches, each as its theorem 'calls' says, and the words and plain laws that they need (Qx4, Qx5, ZC, YR, SA, HS, SB, SC, SD). -/
import Derived.Test.YtlijjnjpomnphaaGreatDoorFnPyPIBuiltD
import Derived.Deep.MidRow
set_option linter.unusedVariables false
set_option linter.unusedSimpArgs false
set_option maxHeartbeats 8000000
set_option maxRecDepth 100000
section
namespace Go.Proofs.YtlijjnjpomnphaaGreatDoor.Q
open Go.RowKit YtlijjnjpomnphaaGreatDoorH YtlijjnjpomnphaaGreatDoorG YtlijjnjpomnphaaGreatDoorW.PrintWords YtlijjnjpomnphaaGreatDoorW.PrintLast YtlijjnjpomnphaaGreatDoorW.PrintMore
attribute [local go_sem] zgd zhd zbe zce zxc zyc zfd zid
def zeb.l0 : Nat → ByteArray → Int → Option (Bool)
 | 0, _, _ => none
 | k + 1, x0, x3 => if x3 < (x0.size : Int) then (if 0 ≤ x3 then ((zod.f (bt x0 x3)).bind fun t119 => (if t119 = true then (zeb.l0 k x0 (wrap64 (x3 + 1))) else (some false))) else (none)) else (some (decide ((x0.size : Int) > 0)))
def zeb.f (k : Nat) (a0 : ByteArray) : Option (Bool) := zeb.l0 k a0 0
theorem zeb.calls (k : Nat) (a0 : ByteArray) (r : Bool) (w : World) (h : zeb.f k a0 = some r) :
  Calls Tryz.prog 86 #[.string a0] w fun e w' => e = .returned (.bool r) ∧ zk w w' := by
 have H : (zeb.l0 k a0 0) = some r := h
 clear h
 have H' := za.mk H
 clear H
 go_enter Tryz.func86, Tryz.ntmps86
 go_wp2
 (try simp only [Act.put, List.setIfInBounds_toArray, List.set_cons_zero, List.set_cons_succ])
 go_loopg [3] k (fun kq v3 w' => ∃ (x3_1 : Int), v3 = .int .i64 x3_1 ∧ za (zeb.l0 kq a0 x3_1 = some r) ∧ za (kq ≤ k) ∧ zk w w')
 case atStart => exact ⟨(0), (by first | rfl | (simp; done) | (simp [*]; done) | (simp [zc]; done) | (simp [zc, *]; done)), H', ⟨Nat.le_refl _⟩, by repeat (first | exact zk.refl _ | apply zk.step)⟩
 case round =>
  clear H'
  obtain ⟨x3_1, rfl, HA, HK1, ⟨m1, rfl⟩⟩ := hrel
  cases gk with
  | zero => exact absurd HA.out (by simp [zeb.l0])
  | succ k1 =>
   have H := HA.out
   clear HA
   simp only [zeb.l0] at H
   by_cases c2 : x3_1 < (a0.size : Int)
   ·rw [if_pos c2] at H
    have c2b0 : decide (x3_1 < (a0.size : Int)) = true := decide_eq_true c2
    clear c2
    by_cases c3 : 0 ≤ x3_1
    ·rw [if_pos c3] at H
     have c3b0 : decide (0 ≤ x3_1) = true := decide_eq_true c3
     clear c3
     replace H := Option.bind_eq_some_iff.mp H
     obtain ⟨t119, A50, H⟩ := H
     replace H : (if t119 = true then (zeb.l0 k1 a0 (wrap64 (x3_1 + 1))) else (some false)) = some r := H
     have A5 := za.mk A50
     clear A50
     by_cases c6 : t119 = true
     ·subst c6
      have H1 : (zeb.l0 k1 a0 (wrap64 (x3_1 + 1))) = some r := by rw [if_pos rfl] at H; exact H
      clear H
      have H := H1
      clear H1
      have H' := za.mk H
      clear H
      have p4 : 0 ≤ (x3_1 : Int) := of_decide_eq_true (by first | (with_reducible assumption) | assumption)
      have q4 : x3_1 < (a0.size : Int) := of_decide_eq_true (by first | (with_reducible assumption) | assumption)
      have hx4 := bt_at a0 x3_1
      replace p4 := eq_true p4
      replace q4 := eq_true q4
      go_wp2_with (first | ((with_reducible refine zbb (f := 115) rfl ?_); refine zcc (some 13) rfl rfl Tryz.func115 (by kernel_rfl) rfl #[.int .u8 (bt a0 x3_1)] rfl (by (try simp only [List.map_toArray, List.map_cons, List.map_nil]); first | done | rfl | (simp only [List.length_drop, List.length_take]; rfl)) ?_; (with_reducible refine (zod.calls (bt a0 x3_1) true _ A5.out).mono ?_); rintro e w' ⟨rfl, ⟨nd, rfl⟩⟩; refine ⟨_, rfl, ?_⟩))
      go_roundg k1
      case measure => have := HK1.out; omega
      case rel => exact ⟨(wrap64 (x3_1 + 1)), (by first | rfl | (simp; done) | (simp [*]; done) | (simp [zc]; done) | (simp [zc, *]; done)), H', ⟨by have := HK1.out; omega⟩, by repeat (first | exact zk.refl _ | apply zk.step)⟩
     ·replace c6 := Bool.eq_false_iff.mpr c6
      subst c6
      have H1 : (some false) = some r := by rw [if_neg (show ¬ (false = true) by decide)] at H; exact H
      clear H
      have H := H1
      clear H1
      obtain rfl := Option.some.inj H
      have p4 : 0 ≤ (x3_1 : Int) := of_decide_eq_true (by first | (with_reducible assumption) | assumption)
      have q4 : x3_1 < (a0.size : Int) := of_decide_eq_true (by first | (with_reducible assumption) | assumption)
      have hx4 := bt_at a0 x3_1
      replace p4 := eq_true p4
      replace q4 := eq_true q4
      go_wp2_with (first | ((with_reducible refine zbb (f := 115) rfl ?_); refine zcc (some 13) rfl rfl Tryz.func115 (by kernel_rfl) rfl #[.int .u8 (bt a0 x3_1)] rfl (by (try simp only [List.map_toArray, List.map_cons, List.map_nil]); first | done | rfl | (simp only [List.length_drop, List.length_take]; rfl)) ?_; (with_reducible refine (zod.calls (bt a0 x3_1) false _ A5.out).mono ?_); rintro e w' ⟨rfl, ⟨nd, rfl⟩⟩; refine ⟨_, rfl, ?_⟩))
      go_ret
      exact ⟨by first | rfl | (simp; done) | (simp [*]; done) | (simp [zc]; done) | (simp [zc, *]; done), by repeat (first | exact zk.refl _ | apply zk.step)⟩
    ·rw [if_neg c3] at H
     exact absurd H (by simp)
   ·rw [if_neg c2] at H
    have c2b0 : decide (x3_1 < (a0.size : Int)) = false := decide_eq_false c2
    clear c2
    obtain rfl := Option.some.inj H
    go_wp2
    go_ret
    exact ⟨by first | rfl | (simp; done) | (simp [*]; done) | (simp [zc]; done) | (simp [zc, *]; done), by repeat (first | exact zk.refl _ | apply zk.step)⟩
mutual
def zcb.l0 : Nat → ByteArray → List Int → Int → Option (Bool × ByteArray)
 | 0, _, _, _ => none
 | k + 1, x0, x3, x4 => if x4 < (x0.size : Int) then (if 0 ≤ x4 then (zcb.l1 k x0 x3 x4 (((bt x0 x4) - 48) % 256) 0) else (none)) else (if 0 ≤ (x3.length : Int) then (if ((x3.length : Int) : Int).toNat ≤ 281474976710656 then (zcb.l2 k x3 (List.replicate ((x3.length : Int) : Int).toNat 0) 0) else (none)) else (none))
def zcb.l1 : Nat → ByteArray → List Int → Int → Int → Int → Option (Bool × ByteArray)
 | 0, _, _, _, _, _ => none
 | k + 1, x0, x3, x4, x5, x6 => if x6 < (x3.length : Int) then (if 0 ≤ x6 then (zcb.l1 k x0 (x3.set (x6 : Int).toNat ((Int.tmod (wrap64 (x5 + (wrap64 (10 * (wrap64 (rd x3 x6)))))) 256) % 256)) x4 (wrap64 (Int.tdiv (wrap64 (x5 + (wrap64 (10 * (wrap64 (rd x3 x6)))))) 256)) (wrap64 (x6 + 1))) else (none)) else (if x5 > 0 then (if x3.length < 140737488355328 then (zcb.l0 k x0 (x3 ++ [(x5) % 256]) (wrap64 (x4 + 1))) else (none)) else (zcb.l0 k x0 x3 (wrap64 (x4 + 1))))
def zcb.l2 : Nat → List Int → List Int → Int → Option (Bool × ByteArray)
 | 0, _, _, _ => none
 | k + 1, x3, x7, x8 => if x8 < (x3.length : Int) then (if 0 ≤ x8 then (if 0 ≤ (wrap64 ((wrap64 ((x3.length : Int) - 1)) - x8)) then (if (wrap64 ((wrap64 ((x3.length : Int) - 1)) - x8)) < (x7.length : Int) then (zcb.l2 k x3 (x7.set ((wrap64 ((wrap64 ((x3.length : Int) - 1)) - x8)) : Int).toNat (rd x3 x8)) (wrap64 (x8 + 1))) else (none)) else (none)) else (none)) else (some (false, strOfNums x7))
end
def zcb.f (k : Nat) (a0 : ByteArray) : Option (Bool × ByteArray) := zcb.l0 k a0 ([] : List Int) 0
theorem zcb.calls (k : Nat) (a0 : ByteArray) (r1 : Bool) (r2 : ByteArray) (w : World) (h : zcb.f k a0 = some (r1, r2)) :
  Calls Tryz.prog 114 #[.string a0] w fun e w' => e = .returned (.agg #[.bool r1, .string r2]) ∧ Below w.heap.size w w' := by
 have hu29 := Tryz.underlying29
 have HB := za.mk (Below.refl w.heap.size w)
 have H : (zcb.l0 k a0 ([] : List Int) 0) = some (r1, r2) := h
 clear h
 have H' := za.mk H
 clear H
 go_enter Tryz.func114, Tryz.ntmps114
 go_wp2_with (first | ((with_reducible refine zrb (N := 2) rfl ?_); refine ztb ?hg (N := 2) ?hd (cs := #[.bool false, .string (⟨#[]⟩ : ByteArray)]) (t := 29) ?hr ?_; (case hd => rfl); (case hg => rfl); (case hr => first | (go_simp; done) | (go_simp; rfl)); intro gb120 hg w2 hbox hb; have n0_ := za.mk (zw (by repeat (first | (with_reducible first | exact HB.out | apply zg | apply ze | apply below_drew1) | exact HB.out)) hb); have n1_ := za.mk (hbox); have n2_ := za.mk ((by rw [hg]; exact (zab (by repeat (first | (with_reducible first | exact HB.out | apply zg | apply ze | apply below_drew1) | exact HB.out))) : w.heap.size ≤ gb120)); have n3_ := za.mk ((by rw [hg]; exact (zab (by repeat (first | (with_reducible first | exact HB.out | apply zg | apply ze | apply below_drew1) | exact HB.out))) : w.heap.size ≤ gb120)); clear HB; have HB := n0_; have BK120 := n1_; have GW120 := n2_; have GE120 := n3_; clear n0_ n1_ n2_ n3_; clear hb hbox hg))
 (try simp only [Act.put, List.setIfInBounds_toArray, List.set_cons_zero, List.set_cons_succ])
 go_loopg [3, 4] k (fun kq v3 v4 w' => ∃ (x3_1 : List Int) (x4_1 : Int), v4 = .int .i64 x4_1 ∧ za (zcb.l0 kq a0 x3_1 x4_1 = some (r1, r2)) ∧ za (kq ≤ k) ∧ za (Kd.R (Kd.int .u8) 5 w' w.heap.size (fun _ => True) v3 x3_1) ∧ za (w'.heap[gb120]? = some (.cells #[.bool false, .string (⟨#[]⟩ : ByteArray)] 29 (0, 0))) ∧ za (Below w.heap.size w w'))
 case atStart => exact ⟨(([] : List Int)), (0), (by first | rfl | (simp; done) | (simp [*]; done) | (simp [zc]; done) | (simp [zc, *]; done)), H', ⟨Nat.le_refl _⟩, ⟨by first | exact Kd.R_nil _ _ _ _ _ | exact Kd.N_nil _ _ _ _ _ | exact Kd.V_nil _ _ _ _ _ | exact Kd.Q_nil _ _ _ _ _ | exact Kd.S_nil _ _ _ _ _⟩, ⟨by (with_reducible repeat (first | refine zl ?_ _ | refine zt ?_ | refine zv ?_ _)); exact BK120.out⟩, ⟨by repeat (first | (with_reducible first | exact HB.out | apply zg | apply ze | apply below_drew1 | refine zo ?_ GE120.out) | exact HB.out)⟩⟩
 case round =>
  clear H'
  try clear c1
  try clear p2
  obtain ⟨x3_1, x4_1, rfl, HA, HK1, HO_3, BK120, HB⟩ := hrel
  cases gk with
  | zero => exact absurd HA.out (by simp [zcb.l0])
  | succ k1 =>
   have H := HA.out
   clear HA
   simp only [zcb.l0] at H
   by_cases c3 : x4_1 < (a0.size : Int)
   ·rw [if_pos c3] at H
    have c3b0 : decide (x4_1 < (a0.size : Int)) = true := decide_eq_true c3
    clear c3
    by_cases c4 : 0 ≤ x4_1
    ·rw [if_pos c4] at H
     have c4b0 : decide (0 ≤ x4_1) = true := decide_eq_true c4
     clear c4
     have H' := za.mk H
     clear H
     have p5 : 0 ≤ (x4_1 : Int) := of_decide_eq_true (by first | (with_reducible assumption) | assumption)
     have q5 : x4_1 < (a0.size : Int) := of_decide_eq_true (by first | (with_reducible assumption) | assumption)
     have hx5 := bt_at a0 x4_1
     replace p5 := eq_true p5
     replace q5 := eq_true q5
     go_wp2
     (try simp only [Act.put, List.setIfInBounds_toArray, List.set_cons_zero, List.set_cons_succ])
     go_loopg [5, 6] k1 (fun kq v5 v6 w' => ∃ (x3_2 : List Int) (x5_2 : Int) (x6_2 : Int), v5 = .int .i64 x5_2 ∧ v6 = .int .i64 x6_2 ∧ za (zcb.l1 kq a0 x3_2 x4_1 x5_2 x6_2 = some (r1, r2)) ∧ za (kq ≤ k1) ∧ za (Kd.R (Kd.int .u8) 5 w' w.heap.size (fun _ => True) u3 x3_2) ∧ za (w'.heap[gb120]? = some (.cells #[.bool false, .string (⟨#[]⟩ : ByteArray)] 29 (0, 0))) ∧ za (Below w.heap.size w w'))
     case atStart => exact ⟨(x3_1), (((bt a0 x4_1) - 48) % 256), (0), (by first | rfl | (simp; done) | (simp [*]; done) | (simp [zc]; done) | (simp [zc, *]; done)), (by first | rfl | (simp; done) | (simp [*]; done) | (simp [zc]; done) | (simp [zc, *]; done)), H', ⟨Nat.le_refl _⟩, ⟨by (with_reducible repeat (first | apply Kd.R_alloc | apply Kd.R_drewN | apply Kd.R_drew)); exact HO_3.out⟩, ⟨by (with_reducible repeat (first | refine zl ?_ _ | refine zt ?_ | refine zv ?_ _)); exact BK120.out⟩, ⟨by repeat (first | (with_reducible first | exact HB.out | apply zg | apply ze | apply below_drew1 | refine zo ?_ GE120.out) | exact HB.out)⟩⟩
     case round =>
      clear H'
      try clear c1
      try clear p2
      try clear c3
      try clear c3b0
      try clear c4
      try clear c4b0
      try clear p5
      try clear q5
      try clear hx5
      try clear p2
      try clear p5
      try clear q5
      obtain ⟨x3_2, x5_2, x6_2, rfl, rfl, HA, HK2, HO_3, BK120, HB⟩ := hrel
      cases gk with
      | zero => exact absurd HA.out (by simp [zcb.l1])
      | succ k2 =>
       have H := HA.out
       clear HA
       simp only [zcb.l1] at H
       by_cases c6 : x6_2 < (x3_2.length : Int)
       ·rw [if_pos c6] at H
        have c6b0 : decide (x6_2 < (x3_2.length : Int)) = true := decide_eq_true c6
        clear c6
        by_cases c7 : 0 ≤ x6_2
        ·rw [if_pos c7] at H
         have c7b0 : decide (0 ≤ x6_2) = true := decide_eq_true c7
         clear c7
         obtain ⟨y122, hy122⟩ : ∃ y_ : List Int, y_ = (x3_2.set (x6_2 : Int).toNat ((Int.tmod (wrap64 (x5_2 + (wrap64 (10 * (wrap64 (rd x3_2 x6_2)))))) 256) % 256)) := ⟨_, rfl⟩
         replace H : (zcb.l1 k2 a0 y122 x4_1 (wrap64 (Int.tdiv (wrap64 (x5_2 + (wrap64 (10 * (wrap64 (rd x3_2 x6_2)))))) 256)) (wrap64 (x6_2 + 1))) = some (r1, r2) := by first | (rw [hy122]; with_reducible exact H) | (have H2_ := (Option.bind_some _ _).symm.trans H; rw [hy122]; with_reducible exact H2_) | (have H2_ := (Option.bind_some _ _).symm.trans H; with_reducible exact H2_) | with_reducible exact H | (rw [hy122]; exact H) | exact H
         have Ny122 := za.mk hy122
         clear hy122
         have H' := za.mk H
         clear H
         obtain ⟨Ao9, co9, eo9⟩ := Kd.R_slice HO_3.out
         subst eo9
         have p121 : 0 ≤ (x6_2 : Int) := of_decide_eq_true (by first | (with_reducible assumption) | assumption)
         have q121 : x6_2 < (x3_2.length : Int) := of_decide_eq_true (by first | (with_reducible assumption) | assumption)
         obtain ⟨ad121, e121, hx121_0⟩ := Kd.at_int (Kd.R_reads' HO_3.out).2.2 x6_2 p121 q121
         cases e121
         replace p121 := eq_true p121
         replace q121 := eq_true q121
         have p8 : 0 ≤ (x6_2 : Int) := of_decide_eq_true (by first | (with_reducible assumption) | assumption)
         have q8 : (x6_2 : Int) < ((x3_2.length : Int) : Int) := of_decide_eq_true (by first | (with_reducible assumption) | assumption)
         obtain ⟨go8, co8, eo8, gb8, gl8, cl8, HG8⟩ := Kd.R_form HO_3.out (by omega)
         (first | cases eo8 | (injection eo8 with ea_ en_ ec_; (first | subst ea_ | (injection ea_ with ea_; subst ea_)); subst ec_; clear en_))
         have GB8 := za.mk gb8
         have GG8 := za.mk HG8
         clear gb8 gl8 HG8
         (first | simp only [add_plain] at hx121_0 | skip)
         obtain ⟨hx8_0, hf8_0⟩ := Kd.R_celln 0 HO_3.out (x6_2 : Int) p8 q8
         replace p8 := eq_true p8
         replace q8 := eq_true q8
         have HP10 := Kd.R_putg HO_3.out (x6_2 : Int) ((Int.tmod (wrap64 (x5_2 + (wrap64 (10 * (wrap64 (rd x3_2 x6_2)))))) 256) % 256)
         go_wp2_with (first | ((with_reducible refine zhe (t := 5) (p := 39) rfl ?_); refine store_event (t := 5) (p := 39) (v := ?vo_w11) (w1 := (wr.setCell ⟨go8, (x6_2 : Int).toNat, none⟩ (.int .u8 ((Int.tmod (wrap64 (x5_2 + (wrap64 (10 * (wrap64 (rd x3_2 x6_2)))))) 256) % 256)))) ?hg ?ho ?hn ?hr ?_; (case ho => rfl); (case hg => rfl); (case hn => rfl); (case hr => first | (go_simp; done) | (go_simp; rfl)); intro w11 hw; have hg : wr.grownBy w11 (some go8) := (by rw [hw]; exact HP10.2); have hp_ : Kd.R (Kd.int .u8) 5 w11 w.heap.size (fun _ => True) (.slice (some ⟨go8, 0, none⟩) x3_2.length co9) y122 := (by rw [hw, Ny122.out]; exact HP10.1); clear HP10; have n0_ := za.mk (hp_); have n1_ := za.mk (ztg (g := gb120) (o := .cells #[.bool false, .string (⟨#[]⟩ : ByteArray)] 29 (0, 0)) (by (with_reducible repeat (first | refine zl ?_ _ | refine zt ?_ | refine zv ?_ _)); exact BK120.out) hg (Kd.R_ne HO_3.out BK120.out (by decide))); have n2_ := za.mk ((by rw [hw]; exact zo (HB.out) GB8.out : Below w.heap.size w w11)); clear HO_3; clear BK120; clear HB; have HO_3 := n0_; have BK120 := n1_; have HB := n2_; clear n0_ n1_ n2_; clear hg hw hp_))
         go_roundg k2
         case measure => have := HK1.out; have := HK2.out; omega
         case rel => exact ⟨(y122), (wrap64 (Int.tdiv (wrap64 (x5_2 + (wrap64 (10 * (wrap64 (rd x3_2 x6_2)))))) 256)), (wrap64 (x6_2 + 1)), (by first | rfl | (simp; done) | (simp [*]; done) | (simp [zc]; done) | (simp [zc, *]; done)), (by first | rfl | (simp; done) | (simp [*]; done) | (simp [zc]; done) | (simp [zc, *]; done)), H', ⟨by have := HK1.out; have := HK2.out; omega⟩, ⟨by (with_reducible repeat (first | apply Kd.R_alloc | apply Kd.R_drewN | apply Kd.R_drew)); exact HO_3.out⟩, ⟨by (with_reducible repeat (first | refine zl ?_ _ | refine zt ?_ | refine zv ?_ _)); exact BK120.out⟩, ⟨by repeat (first | (with_reducible first | exact HB.out | apply zg | apply ze | apply below_drew1 | refine zo ?_ GE120.out) | exact HB.out)⟩⟩
        ·rw [if_neg c7] at H
         exact absurd H (by simp)
       ·rw [if_neg c6] at H
        have c6b0 : decide (x6_2 < (x3_2.length : Int)) = false := decide_eq_false c6
        clear c6
        by_cases c12 : x5_2 > 0
        ·rw [if_pos c12] at H
         have c12b0 : decide (0 < x5_2) = true := decide_eq_true c12
         clear c12
         by_cases c13 : x3_2.length < 140737488355328
         ·rw [if_pos c13] at H
          have LMc13 := za.mk c13
          clear c13
          obtain ⟨y123, hy123⟩ : ∃ y_ : List Int, y_ = (x3_2 ++ [(x5_2) % 256]) := ⟨_, rfl⟩
          replace H : (zcb.l0 k2 a0 y123 (wrap64 (x4_1 + 1))) = some (r1, r2) := by first | (rw [hy123]; with_reducible exact H) | (have H2_ := (Option.bind_some _ _).symm.trans H; rw [hy123]; with_reducible exact H2_) | (have H2_ := (Option.bind_some _ _).symm.trans H; with_reducible exact H2_) | with_reducible exact H | (rw [hy123]; exact H) | exact H
          have Ny123 := za.mk hy123
          clear hy123
          have H' := za.mk H
          clear H
          obtain ⟨Ao14, co14, eo14⟩ := Kd.R_slice HO_3.out
          subst eo14
          go_wp2_with (first | ((with_reducible refine zub (b := .append) (xs := #[.tmp 44, .tmp 47]) rfl ?_); at_builtin; refine Kd.R_append (Kd.int .u8) (w0 := w) w.heap.size rfl (.tmp 44) (.tmp 47) 116 5 (.int .u8 0) 1 rfl Tryz.underlying116 info5 rfl (by decide) (by omega) (.slice Ao14 x3_2.length co14) x3_2 ((x5_2) % 256) [.int .u8 ((x5_2) % 256)] (fun _ => True) (fun _ => False) rfl rfl ?aP (fun _ hk => hk.elim) ?aF ?aO ?aB ?aS ?aL ?_; (case aP => exact rfl); (case aB => exact (by repeat (first | (with_reducible first | exact HB.out | apply zg | apply ze | apply below_drew1 | refine zo ?_ GE120.out) | exact HB.out))); (case aF => exact (fun _ _ => trivial)); (case aO => exact (by (with_reducible repeat (first | apply Kd.R_alloc | apply Kd.R_drewN | apply Kd.R_drew)); exact HO_3.out)); (case aS => exact (zab (by repeat (first | (with_reducible first | exact HB.out | apply zg | apply ze | apply below_drew1 | refine zo ?_ GE120.out) | exact HB.out)))); (case aL => have := LMc13.out; omega); intro v124 w15 ho hb hg hat; rw [← Ny123.out] at ho; have n0_ := za.mk (ztg (g := gb120) (o := .cells #[.bool false, .string (⟨#[]⟩ : ByteArray)] 29 (0, 0)) (by (with_reducible repeat (first | refine zl ?_ _ | refine zt ?_ | refine zv ?_ _)); exact BK120.out) hg (Kd.R_ne HO_3.out BK120.out (by decide))); have n1_ := za.mk (hb); have n2_ := za.mk (ho); clear BK120; clear HB; clear HO_3; have BK120 := n0_; have HB := n1_; have HO125 := n2_; clear n0_ n1_ n2_; clear ho hb hg hat))
          go_roundg k2
          case measure => have := HK1.out; have := HK2.out; omega
          case rel => exact ⟨(y123), (wrap64 (x4_1 + 1)), (by first | rfl | (simp; done) | (simp [*]; done) | (simp [zc]; done) | (simp [zc, *]; done)), H', ⟨by have := HK1.out; have := HK2.out; omega⟩, ⟨by (with_reducible repeat (first | apply Kd.R_alloc | apply Kd.R_drewN | apply Kd.R_drew)); exact HO125.out⟩, ⟨by (with_reducible repeat (first | refine zl ?_ _ | refine zt ?_ | refine zv ?_ _)); exact BK120.out⟩, ⟨by repeat (first | (with_reducible first | exact HB.out | apply zg | apply ze | apply below_drew1 | refine zo ?_ GE120.out) | exact HB.out)⟩⟩
         ·rw [if_neg c13] at H
          exact absurd H (by simp)
        ·rw [if_neg c12] at H
         have c12b0 : decide (0 < x5_2) = false := decide_eq_false c12
         clear c12
         have H' := za.mk H
         clear H
         obtain ⟨Ao16, co16, eo16⟩ := Kd.R_slice HO_3.out
         subst eo16
         go_wp2
         go_roundg k2
         case measure => have := HK1.out; have := HK2.out; omega
         case rel => exact ⟨(x3_2), (wrap64 (x4_1 + 1)), (by first | rfl | (simp; done) | (simp [*]; done) | (simp [zc]; done) | (simp [zc, *]; done)), H', ⟨by have := HK1.out; have := HK2.out; omega⟩, ⟨by (with_reducible repeat (first | apply Kd.R_alloc | apply Kd.R_drewN | apply Kd.R_drew)); exact HO_3.out⟩, ⟨by (with_reducible repeat (first | refine zl ?_ _ | refine zt ?_ | refine zv ?_ _)); exact BK120.out⟩, ⟨by repeat (first | (with_reducible first | exact HB.out | apply zg | apply ze | apply below_drew1 | refine zo ?_ GE120.out) | exact HB.out)⟩⟩
    ·rw [if_neg c4] at H
     exact absurd H (by simp)
   ·rw [if_neg c3] at H
    have c3b0 : decide (x4_1 < (a0.size : Int)) = false := decide_eq_false c3
    clear c3
    by_cases c17 : 0 ≤ (x3_1.length : Int)
    ·rw [if_pos c17] at H
     have c17b0 := eq_true c17
     have c17b1 : decide (0 ≤ (x3_1.length : Int)) = true := decide_eq_true c17
     clear c17
     by_cases c18 : ((x3_1.length : Int) : Int).toNat ≤ 281474976710656
     ·rw [if_pos c18] at H
      have c18b0 := eq_true c18
      have c18b1 : decide (((x3_1.length : Int) : Int).toNat ≤ 281474976710656) = true := decide_eq_true c18
      clear c18
      obtain ⟨y126, hy126⟩ : ∃ y_ : List Int, y_ = (List.replicate ((x3_1.length : Int) : Int).toNat 0) := ⟨_, rfl⟩
      replace H : (zcb.l2 k1 x3_1 y126 0) = some (r1, r2) := by first | (rw [hy126]; with_reducible exact H) | (have H2_ := (Option.bind_some _ _).symm.trans H; rw [hy126]; with_reducible exact H2_) | (have H2_ := (Option.bind_some _ _).symm.trans H; with_reducible exact H2_) | with_reducible exact H | (rw [hy126]; exact H) | exact H
      have Ny126 := za.mk hy126
      clear hy126
      have H' := za.mk H
      clear H
      obtain ⟨Ao19, co19, eo19⟩ := Kd.R_slice HO_3.out
      subst eo19
      go_wp2_with (first | ((with_reducible refine zrb (N := 51) rfl ?_); refine Kd.R_make (Kd.int .u8) _ 5 rfl (N := 51) rfl 116 _ _ rfl (x3_1.length : Int) rfl rfl Tryz.underlying116 (.int .u8 0) 1 info5 rfl (by decide) (by omega) 0 (ok := fun _ => True) (okp := fun _ => True) rfl (fun _ hk => hk) trivial (of_decide_eq_true (by first | (with_reducible assumption) | assumption)) (Nat.le_trans (Nat.mul_le_mul_right _ (of_decide_eq_true (by first | (with_reducible assumption) | assumption) : (x3_1.length : Int).toNat ≤ 281474976710656)) (by omega)) (Below.refl _ _) (Nat.le_refl _) ?_; intro v127 w20 ho21 hb hg_ hnew_; clear hg_ hnew_; (first | rw [← Ny126.out] at ho21 | (simp only [Int.reduceToNat] at ho21; rw [← Ny126.out] at ho21)); have n0_ := za.mk (Kd.R_elder' (by (with_reducible repeat (first | apply Kd.R_alloc | apply Kd.R_drewN | apply Kd.R_drew)); exact HO_3.out) (Kd.R_base ho21) hb); have n1_ := za.mk (Kd.R_lower (Kd.R_new' ho21 (Kd.R_lt (by (with_reducible repeat (first | apply Kd.R_alloc | apply Kd.R_drewN | apply Kd.R_drew)); exact HO_3.out))) (zab (by repeat (first | (with_reducible first | exact HB.out | apply zg | apply ze | apply below_drew1 | refine zo ?_ GE120.out) | exact HB.out)))); have n2_ := za.mk (zr (g := gb120) (o := .cells #[.bool false, .string (⟨#[]⟩ : ByteArray)] 29 (0, 0)) (by (with_reducible repeat (first | refine zl ?_ _ | refine zt ?_ | refine zv ?_ _)); exact BK120.out) hb); have n3_ := za.mk (zw (by repeat (first | (with_reducible first | exact HB.out | apply zg | apply ze | apply below_drew1 | refine zo ?_ GE120.out) | exact HB.out)) hb); clear HO_3; clear BK120; clear HB; have HO_3 := n0_; have HO128 := n1_; have BK120 := n2_; have HB := n3_; clear n0_ n1_ n2_ n3_; clear hb ho21))
      (try simp only [Act.put, List.setIfInBounds_toArray, List.set_cons_zero, List.set_cons_succ])
      go_loopg [8] k1 (fun kq v8 w' => ∃ (x7_2 : List Int) (x8_2 : Int), v8 = .int .i64 x8_2 ∧ za (zcb.l2 kq x3_1 x7_2 x8_2 = some (r1, r2)) ∧ za (kq ≤ k1) ∧ za (Kd.R (Kd.int .u8) 5 w' w.heap.size (fun k_ => some k_ ≠ (v127 : Value).ownBlock) (.slice Ao19 x3_1.length co19) x3_1) ∧ za (Kd.R (Kd.int .u8) 5 w' w.heap.size (fun k_ => some k_ ≠ ((.slice Ao19 x3_1.length co19) : Value).ownBlock) v127 x7_2) ∧ za (w'.heap[gb120]? = some (.cells #[.bool false, .string (⟨#[]⟩ : ByteArray)] 29 (0, 0))) ∧ za (Below w.heap.size w w'))
      case atStart => exact ⟨(y126), (0), (by first | rfl | (simp; done) | (simp [*]; done) | (simp [zc]; done) | (simp [zc, *]; done)), H', ⟨Nat.le_refl _⟩, ⟨by (with_reducible repeat (first | apply Kd.R_alloc | apply Kd.R_drewN | apply Kd.R_drew)); exact Kd.R_mono HO_3.out (fun _ hk => hk.2)⟩, ⟨by (with_reducible repeat (first | apply Kd.R_alloc | apply Kd.R_drewN | apply Kd.R_drew)); exact Kd.R_mono HO128.out (fun _ hk => hk.2)⟩, ⟨by (with_reducible repeat (first | refine zl ?_ _ | refine zt ?_ | refine zv ?_ _)); exact BK120.out⟩, ⟨by repeat (first | (with_reducible first | exact HB.out | apply zg | apply ze | apply below_drew1 | refine zo ?_ GE120.out) | exact HB.out)⟩⟩
      case round =>
       clear H'
       try clear c1
       try clear p1
       try clear q1
       try clear hx1
       try clear p2
       try clear c3
       try clear c3b0
       try clear c4
       try clear c4b0
       try clear p5
       try clear q5
       try clear hx5
       try clear c6
       try clear c6b0
       try clear p6
       try clear c7
       try clear c7b0
       try clear p8
       try clear q8
       try clear hx8
       try clear hf8
       try clear c11
       try clear c12
       try clear c12b0
       try clear p12
       try clear q12
       try clear hx12
       try clear c13
       try clear c17
       try clear c17b0
       try clear c17b1
       try clear c18
       try clear c18b0
       try clear c18b1
       try clear hx121_0
       try clear hx8_0
       try clear p121
       try clear p2
       try clear p5
       try clear p8
       try clear q121
       try clear q5
       try clear q8
       obtain ⟨x7_2, x8_2, rfl, HA, HK2, HO_3, HO_7, BK120, HB⟩ := hrel
       cases gk with
       | zero => exact absurd HA.out (by simp [zcb.l2])
       | succ k2 =>
        have H := HA.out
        clear HA
        simp only [zcb.l2] at H
        by_cases c22 : x8_2 < (x3_1.length : Int)
        ·rw [if_pos c22] at H
         have c22b0 : decide (x8_2 < (x3_1.length : Int)) = true := decide_eq_true c22
         clear c22
         by_cases c23 : 0 ≤ x8_2
         ·rw [if_pos c23] at H
          have c23b0 : decide (0 ≤ x8_2) = true := decide_eq_true c23
          clear c23
          obtain ⟨ji24, hji24⟩ : ∃ j_ : Int, (wrap64 ((wrap64 ((x3_1.length : Int) - 1)) - x8_2)) = j_ := ⟨_, rfl⟩
          replace H : (if 0 ≤ (ji24) then (if (ji24) < (x7_2.length : Int) then (zcb.l2 k2 x3_1 (x7_2.set ((ji24) : Int).toNat (rd x3_1 x8_2)) (wrap64 (x8_2 + 1))) else (none)) else (none)) = some (r1, r2) := by first | (rw [hji24] at H; exact H) | (simp only [hji24] at H ⊢; exact H)
          have hji24w : (IntKind.i64.wrap ((wrap64 ((x3_1.length : Int) - 1)) - x8_2)) = ji24 := (i64_w _).trans hji24
          by_cases c25 : 0 ≤ (ji24)
          ·rw [if_pos c25] at H
           have c25b0 : decide (0 ≤ (ji24)) = true := decide_eq_true c25
           clear c25
           by_cases c26 : (ji24) < (x7_2.length : Int)
           ·rw [if_pos c26] at H
            have c26b0 : decide ((ji24) < (x7_2.length : Int)) = true := decide_eq_true c26
            clear c26
            obtain ⟨y130, hy130⟩ : ∃ y_ : List Int, y_ = (x7_2.set ((ji24) : Int).toNat (rd x3_1 x8_2)) := ⟨_, rfl⟩
            replace H : (zcb.l2 k2 x3_1 y130 (wrap64 (x8_2 + 1))) = some (r1, r2) := by first | (rw [hy130]; with_reducible exact H) | (have H2_ := (Option.bind_some _ _).symm.trans H; rw [hy130]; with_reducible exact H2_) | (have H2_ := (Option.bind_some _ _).symm.trans H; with_reducible exact H2_) | with_reducible exact H | (rw [hy130]; exact H) | exact H
            have Ny130 := za.mk hy130
            clear hy130
            have H' := za.mk H
            clear H
            have p129 : 0 ≤ (x8_2 : Int) := of_decide_eq_true (by first | (with_reducible assumption) | assumption)
            have q129 : x8_2 < (x3_1.length : Int) := of_decide_eq_true (by first | (with_reducible assumption) | assumption)
            obtain ⟨ad129, e129, hx129_0⟩ := Kd.at_int (Kd.R_reads' HO_3.out).2.2 x8_2 p129 q129
            cases e129
            replace p129 := eq_true p129
            replace q129 := eq_true q129
            have p27 : 0 ≤ ((ji24) : Int) := of_decide_eq_true (by first | (with_reducible assumption) | assumption)
            have q27 : ((ji24) : Int) < ((x7_2.length : Int) : Int) := of_decide_eq_true (by first | (with_reducible assumption) | assumption)
            obtain ⟨go27, co27, eo27, gb27, gl27, cl27, HG27⟩ := Kd.R_form HO_7.out (by omega)
            (first | cases eo27 | (injection eo27 with ea_ en_ ec_; (first | subst ea_ | (injection ea_ with ea_; subst ea_)); subst ec_; clear en_))
            have GB27 := za.mk gb27
            have GG27 := za.mk HG27
            clear gb27 gl27 HG27
            obtain ⟨hx27_0, hf27_0⟩ := Kd.R_celln 0 HO_7.out ((ji24) : Int) p27 q27
            replace p27 := eq_true p27
            replace q27 := eq_true q27
            have HP28 := Kd.R_putg HO_7.out ((ji24) : Int) (rd x3_1 x8_2)
            go_wp2_with (first | ((with_reducible refine zhe (t := 5) (p := 68) rfl ?_); refine store_event (t := 5) (p := 68) (v := ?vo_w29) (w1 := (wr.setCell ⟨go27, ((ji24) : Int).toNat, none⟩ (.int .u8 (rd x3_1 x8_2)))) ?hg ?ho ?hn ?hr ?_; (case ho => rfl); (case hg => rfl); (case hn => rfl); (case hr => first | (go_simp; done) | (go_simp; rfl)); intro w29 hw; have hg : wr.grownBy w29 (some go27) := (by rw [hw]; exact HP28.2); have hp_ : Kd.R (Kd.int .u8) 5 w29 w.heap.size (fun k_ => some k_ ≠ (.slice (some ad129) x3_1.length co19 : Value).ownBlock) (.slice (some ⟨go27, 0, none⟩) x7_2.length co27) y130 := (by rw [hw, Ny130.out]; exact HP28.1); clear HP28; have n0_ := za.mk (Kd.R_after (v := (.slice (some ⟨go27, 0, none⟩) x7_2.length co27)) (v1 := (.slice (some ⟨go27, 0, none⟩) x7_2.length co27)) (ok := (fun _ => True)) (by (with_reducible repeat (first | apply Kd.R_alloc | apply Kd.R_drewN | apply Kd.R_drew)); exact Kd.R_mono HO_3.out (fun _ hk => ⟨trivial, hk⟩)) hg (.inl rfl)); have n1_ := za.mk (hp_); have n2_ := za.mk (ztg (g := gb120) (o := .cells #[.bool false, .string (⟨#[]⟩ : ByteArray)] 29 (0, 0)) (by (with_reducible repeat (first | refine zl ?_ _ | refine zt ?_ | refine zv ?_ _)); exact BK120.out) hg (Kd.R_ne HO_7.out BK120.out (by decide))); have n3_ := za.mk ((by rw [hw]; exact zo (HB.out) GB27.out : Below w.heap.size w w29)); clear HO_3; clear HO_7; clear BK120; clear HB; have HO_3 := n0_; have HO_7 := n1_; have BK120 := n2_; have HB := n3_; clear n0_ n1_ n2_ n3_; clear hg hw hp_))
            go_roundg k2
            case measure => have := HK1.out; have := HK2.out; omega
            case rel => exact ⟨(y130), (wrap64 (x8_2 + 1)), (by first | rfl | (simp; done) | (simp [*]; done) | (simp [zc]; done) | (simp [zc, *]; done)), H', ⟨by have := HK1.out; have := HK2.out; omega⟩, ⟨by (with_reducible repeat (first | apply Kd.R_alloc | apply Kd.R_drewN | apply Kd.R_drew)); exact Kd.R_mono HO_3.out (fun _ hk => hk.2)⟩, ⟨by (with_reducible repeat (first | apply Kd.R_alloc | apply Kd.R_drewN | apply Kd.R_drew)); exact HO_7.out⟩, ⟨by (with_reducible repeat (first | refine zl ?_ _ | refine zt ?_ | refine zv ?_ _)); exact BK120.out⟩, ⟨by repeat (first | (with_reducible first | exact HB.out | apply zg | apply ze | apply below_drew1 | refine zo ?_ GE120.out) | exact HB.out)⟩⟩
           ·rw [if_neg c26] at H
            exact absurd H (by simp)
          ·rw [if_neg c25] at H
           exact absurd H (by simp)
         ·rw [if_neg c23] at H
          exact absurd H (by simp)
        ·rw [if_neg c22] at H
         have c22b0 : decide (x8_2 < (x3_1.length : Int)) = false := decide_eq_false c22
         clear c22
         simp only [Option.some.injEq, Prod.mk.injEq] at H
         obtain ⟨rfl, rfl⟩ := H
         have hcv30 := own_string (P := Tryz.prog) Tryz.underlying116 Tryz.underlying5 Tryz.underlying9 (Kd.own_of_R HO_7.out)
         have hcz31_0 : wr.cell? ⟨gb120, 0, none⟩ = some (.bool false) := (zf BK120.out 0).trans rfl
         have hcz31_1 : wr.cell? ⟨gb120, 1, none⟩ = some (.string (⟨#[]⟩ : ByteArray)) := (zf BK120.out 1).trans rfl
         have hfz31_0 := zi BK120.out 0
         have hfz31_1 := zi BK120.out 1
         go_wp2
         refine bodyPost_ret (results_cell_row rfl _ _ gb120 29 #[.bool false, .string (strOfNums x7_2)] (0, 0) _ rfl (by (with_reducible repeat (first | refine zl ?_ _ | refine zt ?_ | refine zv ?_ _)); refine zm (cs := #[.bool false, .string (⟨#[]⟩ : ByteArray)]) ?_ 1 _ rfl; (with_reducible repeat (first | refine zl ?_ _ | refine zt ?_ | refine zv ?_ _)); refine zm (cs := #[.bool false, .string (⟨#[]⟩ : ByteArray)]) ?_ 0 _ rfl; (with_reducible repeat (first | refine zl ?_ _ | refine zt ?_ | refine zv ?_ _)); exact BK120.out) Tryz.underlying29 rfl (by kernel_rfl)) rfl ?_
         exact ⟨by first | rfl | (simp [znb, zmb] <;> rfl) | (simp [*, znb, zmb] <;> rfl) | (simp [zc]; done), by repeat (first | (with_reducible first | exact HB.out | apply zg | apply ze | apply below_drew1 | refine zo ?_ GE120.out) | exact HB.out)⟩
     ·rw [if_neg c18] at H
      exact absurd H (by simp)
    ·rw [if_neg c17] at H
     exact absurd H (by simp)
mutual
def zkb.j0 : Nat → ByteArray → Bool → Bool → Option (Bool × ByteArray × Bool)
 | 0, _, _, _ => none
 | k + 1, x0, x4, x17 => if x17 = true then (if 0 < (x0.size : Int) then (if 1 ≤ (x0.size : Int) then (zkb.j1 k (x0.extract 1 x0.size) ((bt x0 0) == 45)) else (none)) else (none)) else (zkb.j1 k x0 x4)
def zkb.j1 : Nat → ByteArray → Bool → Option (Bool × ByteArray × Bool)
 | 0, _, _ => none
 | k + 1, x0, x4 => (zeb.f k x0).bind fun t132 => (if t132 = true then ((zcb.f k x0).bind fun bt133 => (if x4 = true then (some ((bt133.2.toList != ([] : List UInt8)), bt133.2, true)) else (some (false, bt133.2, true)))) else (some (false, (⟨#[]⟩ : ByteArray), false)))
end
def zkb.f (k : Nat) (a0 : ByteArray) : Option (Bool × ByteArray × Bool) := if (a0.size : Int) > 0 then (if 0 < (a0.size : Int) then (if (bt a0 0) = 43 then (zkb.j0 k a0 false true) else (zkb.j0 k a0 false ((bt a0 0) == 45))) else (none)) else (zkb.j0 k a0 false false)
theorem zkb.calls (k : Nat) (a0 : ByteArray) (r1 : Bool) (r2 : ByteArray) (r3 : Bool) (w : World) (h : zkb.f k a0 = some (r1, r2, r3)) :
  Calls Tryz.prog 95 #[.string a0] w fun e w' => e = .returned (.tuple #[.agg #[.bool r1, .string r2], .bool r3]) ∧ Below w.heap.size w w' := by
 have hu29 := Tryz.underlying29
 have HB := za.mk (Below.refl w.heap.size w)
 have H : (if (a0.size : Int) > 0 then (if 0 < (a0.size : Int) then (if (bt a0 0) = 43 then (zkb.j0 k a0 false true) else (zkb.j0 k a0 false ((bt a0 0) == 45))) else (none)) else (zkb.j0 k a0 false false)) = some (r1, r2, r3) := h
 clear h
 have HC2 := za.mk H
 clear H
 go_enter Tryz.func95, Tryz.ntmps95
 go_upto_region 2 with (first | ((with_reducible refine zrb (N := 2) rfl ?_); refine ztb ?hg (N := 2) ?hd (cs := #[.bool false, .string (⟨#[]⟩ : ByteArray)]) (t := 29) ?hr ?_; (case hd => rfl); (case hg => rfl); (case hr => first | (go_simp; done) | (go_simp; rfl)); intro gb131 hg w3 hbox hb; have n0_ := za.mk (zw (by repeat (first | (with_reducible first | exact HB.out | apply zg | apply ze | apply below_drew1) | exact HB.out)) hb); have n1_ := za.mk (hbox); have n2_ := za.mk ((by rw [hg]; exact (zab (by repeat (first | (with_reducible first | exact HB.out | apply zg | apply ze | apply below_drew1) | exact HB.out))) : w.heap.size ≤ gb131)); have n3_ := za.mk ((by rw [hg]; exact (zab (by repeat (first | (with_reducible first | exact HB.out | apply zg | apply ze | apply below_drew1) | exact HB.out))) : w.heap.size ≤ gb131)); clear HB; have HB := n0_; have BK131 := n1_; have GW131 := n2_; have GE131 := n3_; clear n0_ n1_ n2_ n3_; clear hb hbox hg))
 repeat (go_quiet (first | ((with_reducible refine zrb (N := 2) rfl ?_); refine ztb ?hg (N := 2) ?hd (cs := #[.bool false, .string (⟨#[]⟩ : ByteArray)]) (t := 29) ?hr ?_; (case hd => rfl); (case hg => rfl); (case hr => first | (go_simp; done) | (go_simp; rfl)); intro gb131 hg w3 hbox hb; have n0_ := za.mk (zw (by repeat (first | (with_reducible first | exact HB.out | apply zg | apply ze | apply below_drew1) | exact HB.out)) hb); have n1_ := za.mk (hbox); have n2_ := za.mk ((by rw [hg]; exact (zab (by repeat (first | (with_reducible first | exact HB.out | apply zg | apply ze | apply below_drew1) | exact HB.out))) : w.heap.size ≤ gb131)); have n3_ := za.mk ((by rw [hg]; exact (zab (by repeat (first | (with_reducible first | exact HB.out | apply zg | apply ze | apply below_drew1) | exact HB.out))) : w.heap.size ≤ gb131)); clear HB; have HB := n0_; have BK131 := n1_; have GW131 := n2_; have GE131 := n3_; clear n0_ n1_ n2_ n3_; clear hb hbox hg)); go_upto_region 2 with (first | ((with_reducible refine zrb (N := 2) rfl ?_); refine ztb ?hg (N := 2) ?hd (cs := #[.bool false, .string (⟨#[]⟩ : ByteArray)]) (t := 29) ?hr ?_; (case hd => rfl); (case hg => rfl); (case hr => first | (go_simp; done) | (go_simp; rfl)); intro gb131 hg w3 hbox hb; have n0_ := za.mk (zw (by repeat (first | (with_reducible first | exact HB.out | apply zg | apply ze | apply below_drew1) | exact HB.out)) hb); have n1_ := za.mk (hbox); have n2_ := za.mk ((by rw [hg]; exact (zab (by repeat (first | (with_reducible first | exact HB.out | apply zg | apply ze | apply below_drew1) | exact HB.out))) : w.heap.size ≤ gb131)); have n3_ := za.mk ((by rw [hg]; exact (zab (by repeat (first | (with_reducible first | exact HB.out | apply zg | apply ze | apply below_drew1) | exact HB.out))) : w.heap.size ≤ gb131)); clear HB; have HB := n0_; have BK131 := n1_; have GW131 := n2_; have GE131 := n3_; clear n0_ n1_ n2_ n3_; clear hb hbox hg)))
 (try simp only [Act.put, List.setIfInBounds_toArray, List.set_cons_zero, List.set_cons_succ])
 go_cut [17] (fun v17 wc => ∃ (kq : Nat) (x17_1 : Bool), v17 = .bool x17_1 ∧ za (zkb.j0 kq a0 false x17_1 = some (r1, r2, r3)) ∧ za (kq ≤ k) ∧ za (wc.heap[gb131]? = some (.cells #[.bool false, .string (⟨#[]⟩ : ByteArray)] 29 (0, 0))) ∧ za (Below w.heap.size w wc))
 case first =>
  have H := HC2.out
  clear HC2
  by_cases c4 : (a0.size : Int) > 0
  ·rw [if_pos c4] at H
   have c4b0 : decide (0 < (a0.size : Int)) = true := decide_eq_true c4
   have c4b1 : decide (0 < a0.size) = true := decide_eq_true (by omega)
   clear c4
   (first | rw [c4b0] | (simp only [i64_w, i32_w]; rw [c4b0]) | skip)
   by_cases c5 : 0 < (a0.size : Int)
   ·rw [if_pos c5] at H
    have c5b0 : decide (0 < (a0.size : Int)) = true := decide_eq_true c5
    have c5b1 : decide (0 < a0.size) = true := decide_eq_true (by omega)
    clear c5
    by_cases c7 : (bt a0 0) = 43
    ·rw [if_pos c7] at H
     have c7b0 : ((bt a0 0) == 43) = true := beq_iff_eq.mpr c7
     have c7b1 : ((bt a0 0) != 43) = false := bne_eq_false_iff_eq.mpr c7
     clear c7
     have H' := za.mk H
     clear H
     have p6 : 0 ≤ (0 : Int) := (by omega)
     have q6 : 0 < a0.size := (by have : (0 : Int) < (a0.size : Int) := of_decide_eq_true (by first | (with_reducible assumption) | assumption); omega)
     have hx6 : ∀ h : 0 < a0.size, ((a0[0]'h).toNat : Int) = bt a0 0 := bt_at a0 0
     clear p6
     have qi6 : (0 < (a0.size : Int)) = True := eq_true (of_decide_eq_true (by first | (with_reducible assumption) | assumption))
     replace q6 := eq_true q6
     go_wp2
     repeat (go_quiet (fail); try go_wp2)
     go_meet
     case rel => exact ⟨_, (true), (by first | rfl | (simp; done) | (simp [*]; done) | (simp [zc]; done) | (simp [zc, *]; done)), H', ⟨by first | omega | exact Nat.le_refl _⟩, ⟨by (with_reducible repeat (first | refine zl ?_ _ | refine zt ?_ | refine zv ?_ _)); exact BK131.out⟩, ⟨by repeat (first | (with_reducible first | exact HB.out | apply zg | apply ze | apply below_drew1 | refine zo ?_ GE131.out) | exact HB.out)⟩⟩
    ·rw [if_neg c7] at H
     have c7b0 : ((bt a0 0) == 43) = false := beq_eq_false_iff_ne.mpr c7
     have c7b1 : ((bt a0 0) != 43) = true := bne_iff_ne.mpr c7
     have H' := za.mk H
     clear H
     have p6 : 0 ≤ (0 : Int) := (by omega)
     have q6 : 0 < a0.size := (by have : (0 : Int) < (a0.size : Int) := of_decide_eq_true (by first | (with_reducible assumption) | assumption); omega)
     have hx6 : ∀ h : 0 < a0.size, ((a0[0]'h).toNat : Int) = bt a0 0 := bt_at a0 0
     clear p6
     have qi6 : (0 < (a0.size : Int)) = True := eq_true (of_decide_eq_true (by first | (with_reducible assumption) | assumption))
     replace q6 := eq_true q6
     have p8 : 0 ≤ (0 : Int) := (by omega)
     have q8 : 0 < a0.size := (by have : (0 : Int) < (a0.size : Int) := of_decide_eq_true (by first | (with_reducible assumption) | assumption); omega)
     have hx8 : ∀ h : 0 < a0.size, ((a0[0]'h).toNat : Int) = bt a0 0 := bt_at a0 0
     clear p8
     have qi8 : (0 < (a0.size : Int)) = True := eq_true (of_decide_eq_true (by first | (with_reducible assumption) | assumption))
     replace q8 := eq_true q8
     go_wp2
     repeat (go_quiet (fail); try go_wp2)
     go_meet
     case rel => exact ⟨_, (((bt a0 0) == 45)), (by first | rfl | (simp; done) | (simp [*]; done) | (simp [zc]; done) | (simp [zc, *]; done)), H', ⟨by first | omega | exact Nat.le_refl _⟩, ⟨by (with_reducible repeat (first | refine zl ?_ _ | refine zt ?_ | refine zv ?_ _)); exact BK131.out⟩, ⟨by repeat (first | (with_reducible first | exact HB.out | apply zg | apply ze | apply below_drew1 | refine zo ?_ GE131.out) | exact HB.out)⟩⟩
   ·rw [if_neg c5] at H
    exact absurd H (by simp)
  ·rw [if_neg c4] at H
   have c4b0 : decide (0 < (a0.size : Int)) = false := decide_eq_false c4
   have c4b1 : decide (0 < a0.size) = false := decide_eq_false (by omega)
   clear c4
   (first | rw [c4b0] | (simp only [i64_w, i32_w]; rw [c4b0]) | skip)
   have H' := za.mk H
   clear H
   go_wp2
   repeat (go_quiet (fail); try go_wp2)
   go_meet
   case rel => exact ⟨_, (false), (by first | rfl | (simp; done) | (simp [*]; done) | (simp [zc]; done) | (simp [zc, *]; done)), H', ⟨by first | omega | exact Nat.le_refl _⟩, ⟨by (with_reducible repeat (first | refine zl ?_ _ | refine zt ?_ | refine zv ?_ _)); exact BK131.out⟩, ⟨by repeat (first | (with_reducible first | exact HB.out | apply zg | apply ze | apply below_drew1 | refine zo ?_ GE131.out) | exact HB.out)⟩⟩
 case rest =>
  clear HC2
  try clear p2
  try clear c4
  try clear c4b0
  try clear c4b1
  try clear c5
  try clear c5b0
  try clear c5b1
  try clear p6
  try clear q6
  try clear hx6
  try clear qi6
  try clear c7
  try clear c7b0
  try clear c7b1
  try clear p8
  try clear q8
  try clear hx8
  try clear qi8
  try clear p6
  try clear p8
  try clear q6
  try clear q8
  obtain ⟨kq, x17_1, rfl, HA, HJ1, BK131, HB⟩ := hcut
  cases kq with
  | zero => exact absurd HA.out (by simp [zkb.j0])
  | succ kj1 =>
   have H := HA.out
   clear HA
   simp only [zkb.j0] at H
   have HC9 := za.mk H
   clear H
   go_upto_if 17 with (fail)
   repeat (go_quiet (fail); go_upto_if 17 with (fail))
   go_cut [0, 4, 17] (fun v0 v4 v17 wc => ∃ (kq : Nat) (x0_8 : ByteArray) (x4_8 : Bool), v0 = .string x0_8 ∧ v4 = .bool x4_8 ∧ za (zkb.j1 kq x0_8 x4_8 = some (r1, r2, r3)) ∧ za (kq ≤ kj1) ∧ za (wc.heap[gb131]? = some (.cells #[.bool false, .string (⟨#[]⟩ : ByteArray)] 29 (0, 0))) ∧ za (Below w.heap.size w wc))
   case first =>
    have H := HC9.out
    clear HC9
    by_cases c10 : x17_1 = true
    ·subst c10
     have H1 : (if 0 < (a0.size : Int) then (if 1 ≤ (a0.size : Int) then (zkb.j1 kj1 (a0.extract 1 a0.size) ((bt a0 0) == 45)) else (none)) else (none)) = some (r1, r2, r3) := by rw [if_pos rfl] at H; exact H
     clear H
     have H := H1
     clear H1
     by_cases c11 : 0 < (a0.size : Int)
     ·rw [if_pos c11] at H
      have c11b0 : decide (0 < (a0.size : Int)) = true := decide_eq_true c11
      have c11b1 : decide (0 < a0.size) = true := decide_eq_true (by omega)
      clear c11
      (first | rw [c11b0] | (simp only [i64_w, i32_w]; rw [c11b0]) | skip)
      by_cases c13 : 1 ≤ (a0.size : Int)
      ·rw [if_pos c13] at H
       have c13b0 := eq_true c13
       have c13b1 : decide (1 ≤ (a0.size : Int)) = true := decide_eq_true c13
       clear c13
       have H' := za.mk H
       clear H
       have p12 : 0 ≤ (0 : Int) := (by omega)
       have q12 : 0 < a0.size := (by have : (0 : Int) < (a0.size : Int) := of_decide_eq_true (by first | (with_reducible assumption) | assumption); omega)
       have hx12 : ∀ h : 0 < a0.size, ((a0[0]'h).toNat : Int) = bt a0 0 := bt_at a0 0
       clear p12
       have qi12 : (0 < (a0.size : Int)) = True := eq_true (of_decide_eq_true (by first | (with_reducible assumption) | assumption))
       replace q12 := eq_true q12
       go_wp2
       repeat (go_quiet (fail); try go_wp2)
       go_meet
       case rel => exact ⟨_, (a0.extract 1 a0.size), (((bt a0 0) == 45)), (by first | rfl | (simp; done) | (simp [*]; done) | (simp [zc]; done) | (simp [zc, *]; done)), (by first | rfl | (simp; done) | (simp [*]; done) | (simp [zc]; done) | (simp [zc, *]; done)), (by first | exact H' | (rw [hji24]; exact H')), ⟨by have := HJ1.out; first | omega | exact Nat.le_refl _⟩, ⟨by (with_reducible repeat (first | refine zl ?_ _ | refine zt ?_ | refine zv ?_ _)); exact BK131.out⟩, ⟨by repeat (first | (with_reducible first | exact HB.out | apply zg | apply ze | apply below_drew1 | refine zo ?_ GE131.out) | exact HB.out)⟩⟩
      ·rw [if_neg c13] at H
       exact absurd H (by simp)
     ·rw [if_neg c11] at H
      exact absurd H (by simp)
    ·replace c10 := Bool.eq_false_iff.mpr c10
     subst c10
     have H1 : (zkb.j1 kj1 a0 false) = some (r1, r2, r3) := by rw [if_neg (show ¬ (false = true) by decide)] at H; exact H
     clear H
     have H := H1
     clear H1
     have H' := za.mk H
     clear H
     go_wp2
     repeat (go_quiet (fail); try go_wp2)
     go_meet
     case rel => exact ⟨_, (a0), (false), (by first | rfl | (simp; done) | (simp [*]; done) | (simp [zc]; done) | (simp [zc, *]; done)), (by first | rfl | (simp; done) | (simp [*]; done) | (simp [zc]; done) | (simp [zc, *]; done)), (by first | exact H' | (rw [hji24]; exact H')), ⟨by have := HJ1.out; first | omega | exact Nat.le_refl _⟩, ⟨by (with_reducible repeat (first | refine zl ?_ _ | refine zt ?_ | refine zv ?_ _)); exact BK131.out⟩, ⟨by repeat (first | (with_reducible first | exact HB.out | apply zg | apply ze | apply below_drew1 | refine zo ?_ GE131.out) | exact HB.out)⟩⟩
   case rest =>
    clear HC9
    try clear c1
    try clear p1
    try clear q1
    try clear hx1
    try clear qi1
    try clear p2
    try clear c4
    try clear c4b0
    try clear c4b1
    try clear c5
    try clear c5b0
    try clear c5b1
    try clear p6
    try clear q6
    try clear hx6
    try clear qi6
    try clear c7
    try clear c7b0
    try clear c7b1
    try clear p8
    try clear q8
    try clear hx8
    try clear qi8
    try clear c9
    try clear c10
    try clear c11
    try clear c11b0
    try clear c11b1
    try clear p12
    try clear q12
    try clear hx12
    try clear qi12
    try clear c13
    try clear c13b0
    try clear c13b1
    try clear p12
    try clear p2
    try clear p6
    try clear p8
    try clear q12
    try clear q6
    try clear q8
    obtain ⟨kq, x0_8, x4_8, rfl, rfl, HA, HJ8, BK131, HB⟩ := hcut
    cases kq with
    | zero => exact absurd HA.out (by simp [zkb.j1])
    | succ kj8 =>
     have H := HA.out
     clear HA
     simp only [zkb.j1] at H
     replace H := Option.bind_eq_some_iff.mp H
     obtain ⟨t132, A140, H⟩ := H
     replace H : (if t132 = true then ((zcb.f kj8 x0_8).bind fun bt133 => (if x4_8 = true then (some ((bt133.2.toList != ([] : List UInt8)), bt133.2, true)) else (some (false, bt133.2, true)))) else (some (false, (⟨#[]⟩ : ByteArray), false))) = some (r1, r2, r3) := H
     have A14 := za.mk A140
     clear A140
     by_cases c15 : t132 = true
     ·subst c15
      have H1 : ((zcb.f kj8 x0_8).bind fun bt133 => (if x4_8 = true then (some ((bt133.2.toList != ([] : List UInt8)), bt133.2, true)) else (some (false, bt133.2, true)))) = some (r1, r2, r3) := by rw [if_pos rfl] at H; exact H
      clear H
      have H := H1
      clear H1
      replace H := Option.bind_eq_some_iff.mp H
      obtain ⟨⟨t133, t134⟩, A160, H⟩ := H
      replace H : (if x4_8 = true then (some ((t134.toList != ([] : List UInt8)), t134, true)) else (some (false, t134, true))) = some (r1, r2, r3) := H
      have A16 := za.mk A160
      clear A160
      by_cases c17 : x4_8 = true
      ·subst c17
       have H1 : (some ((t134.toList != ([] : List UInt8)), t134, true)) = some (r1, r2, r3) := by rw [if_pos rfl] at H; exact H
       clear H
       have H := H1
       clear H1
       simp only [Option.some.injEq, Prod.mk.injEq] at H
       obtain ⟨rfl, rfl, rfl⟩ := H
       go_wp2_with (first | (go_at_call 86; (with_reducible refine (zeb.calls kj8 x0_8 true _ A14.out).mono ?_); rintro e w' ⟨rfl, ⟨nd, rfl⟩⟩; (try first | exact ⟨rfl, _, World.drewN_drewN _ _ _⟩ | exact ⟨rfl, _, Eq.trans (World.drewN_drewN _ _ _) (congrArg (World.drewN _) (Nat.add_assoc _ _ _))⟩)) | (go_at_call 114; (with_reducible refine (zcb.calls kj8 x0_8 t133 t134 _ A16.out).mono ?_); rintro e w18 ⟨rfl, hb⟩; have n0_ := za.mk (zr (g := gb131) (o := .cells #[.bool false, .string (⟨#[]⟩ : ByteArray)] 29 (0, 0)) (by (with_reducible repeat (first | refine zl ?_ _ | refine zt ?_ | refine zv ?_ _)); exact BK131.out) hb); have n1_ := za.mk (zw (by repeat (first | (with_reducible first | exact HB.out | apply zg | apply ze | apply below_drew1 | refine zo ?_ GE131.out) | exact HB.out)) hb); clear BK131; clear HB; have BK131 := n0_; have HB := n1_; clear n0_ n1_; (try clear hb); (try clear hb2); (try clear hk); (try clear hi); have hcz19_0 : w18.cell? ⟨gb131, 0, none⟩ = some (.bool false) := (zf BK131.out 0).trans rfl; have hcz19_1 : w18.cell? ⟨gb131, 1, none⟩ = some (.string (⟨#[]⟩ : ByteArray)) := (zf BK131.out 1).trans rfl; have hfz19_0 := zi BK131.out 0; have hfz19_1 := zi BK131.out 1))
       repeat (go_quiet (first | (go_at_call 86; (with_reducible refine (zeb.calls kj8 x0_8 true _ A14.out).mono ?_); rintro e w' ⟨rfl, ⟨nd, rfl⟩⟩; (try first | exact ⟨rfl, _, World.drewN_drewN _ _ _⟩ | exact ⟨rfl, _, Eq.trans (World.drewN_drewN _ _ _) (congrArg (World.drewN _) (Nat.add_assoc _ _ _))⟩)) | (go_at_call 114; (with_reducible refine (zcb.calls kj8 x0_8 t133 t134 _ A16.out).mono ?_); rintro e w18 ⟨rfl, hb⟩; have n0_ := za.mk (zr (g := gb131) (o := .cells #[.bool false, .string (⟨#[]⟩ : ByteArray)] 29 (0, 0)) (by (with_reducible repeat (first | refine zl ?_ _ | refine zt ?_ | refine zv ?_ _)); exact BK131.out) hb); have n1_ := za.mk (zw (by repeat (first | (with_reducible first | exact HB.out | apply zg | apply ze | apply below_drew1 | refine zo ?_ GE131.out) | exact HB.out)) hb); clear BK131; clear HB; have BK131 := n0_; have HB := n1_; clear n0_ n1_; (try clear hb); (try clear hb2); (try clear hk); (try clear hi); have hcz19_0 : w18.cell? ⟨gb131, 0, none⟩ = some (.bool false) := (zf BK131.out 0).trans rfl; have hcz19_1 : w18.cell? ⟨gb131, 1, none⟩ = some (.string (⟨#[]⟩ : ByteArray)) := (zf BK131.out 1).trans rfl; have hfz19_0 := zi BK131.out 0; have hfz19_1 := zi BK131.out 1)); try go_wp2_with (first | (go_at_call 86; (with_reducible refine (zeb.calls kj8 x0_8 true _ A14.out).mono ?_); rintro e w' ⟨rfl, ⟨nd, rfl⟩⟩; (try first | exact ⟨rfl, _, World.drewN_drewN _ _ _⟩ | exact ⟨rfl, _, Eq.trans (World.drewN_drewN _ _ _) (congrArg (World.drewN _) (Nat.add_assoc _ _ _))⟩)) | (go_at_call 114; (with_reducible refine (zcb.calls kj8 x0_8 t133 t134 _ A16.out).mono ?_); rintro e w18 ⟨rfl, hb⟩; have n0_ := za.mk (zr (g := gb131) (o := .cells #[.bool false, .string (⟨#[]⟩ : ByteArray)] 29 (0, 0)) (by (with_reducible repeat (first | refine zl ?_ _ | refine zt ?_ | refine zv ?_ _)); exact BK131.out) hb); have n1_ := za.mk (zw (by repeat (first | (with_reducible first | exact HB.out | apply zg | apply ze | apply below_drew1 | refine zo ?_ GE131.out) | exact HB.out)) hb); clear BK131; clear HB; have BK131 := n0_; have HB := n1_; clear n0_ n1_; (try clear hb); (try clear hb2); (try clear hk); (try clear hi); have hcz19_0 : w18.cell? ⟨gb131, 0, none⟩ = some (.bool false) := (zf BK131.out 0).trans rfl; have hcz19_1 : w18.cell? ⟨gb131, 1, none⟩ = some (.string (⟨#[]⟩ : ByteArray)) := (zf BK131.out 1).trans rfl; have hfz19_0 := zi BK131.out 0; have hfz19_1 := zi BK131.out 1)))
       refine bodyPost_ret (zhg rfl _ _ gb131 29 #[.bool (t134.toList != ([] : List UInt8)), .string t134] (0, 0) _ rfl (by (with_reducible repeat (first | refine zl ?_ _ | refine zt ?_ | refine zv ?_ _)); refine zm (cs := #[.bool (t134.toList != ([] : List UInt8)), .string t134]) ?_ 1 _ (by first | rfl | (simp [zc]; done)); (with_reducible repeat (first | refine zl ?_ _ | refine zt ?_ | refine zv ?_ _)); refine zm (cs := #[.bool (t134.toList != ([] : List UInt8)), .string t134]) ?_ 0 _ (by first | rfl | (simp [zc]; done)); (with_reducible repeat (first | refine zl ?_ _ | refine zt ?_ | refine zv ?_ _)); refine zm (cs := #[.bool t133, .string t134]) ?_ 0 _ (by first | rfl | (simp [zc]; done)); (with_reducible repeat (first | refine zl ?_ _ | refine zt ?_ | refine zv ?_ _)); refine zm (cs := #[.bool t133, .string (⟨#[]⟩ : ByteArray)]) ?_ 1 _ (by first | rfl | (simp [zc]; done)); (with_reducible repeat (first | refine zl ?_ _ | refine zt ?_ | refine zv ?_ _)); refine zm (cs := #[.bool false, .string (⟨#[]⟩ : ByteArray)]) ?_ 0 _ (by first | rfl | (simp [zc]; done)); (with_reducible repeat (first | refine zl ?_ _ | refine zt ?_ | refine zv ?_ _)); exact BK131.out) Tryz.underlying29 rfl (by kernel_rfl)) rfl ?_
       exact ⟨by first | rfl | (simp [znb, zmb] <;> rfl) | (simp [*, znb, zmb] <;> rfl) | (simp [zc]; done), by repeat (first | (with_reducible first | exact HB.out | apply zg | apply ze | apply below_drew1 | refine zo ?_ GE131.out) | exact HB.out)⟩
      ·replace c17 := Bool.eq_false_iff.mpr c17
       subst c17
       have H1 : (some (false, t134, true)) = some (r1, r2, r3) := by rw [if_neg (show ¬ (false = true) by decide)] at H; exact H
       clear H
       have H := H1
       clear H1
       simp only [Option.some.injEq, Prod.mk.injEq] at H
       obtain ⟨rfl, rfl, rfl⟩ := H
       go_wp2_with (first | (go_at_call 86; (with_reducible refine (zeb.calls kj8 x0_8 true _ A14.out).mono ?_); rintro e w' ⟨rfl, ⟨nd, rfl⟩⟩; (try first | exact ⟨rfl, _, World.drewN_drewN _ _ _⟩ | exact ⟨rfl, _, Eq.trans (World.drewN_drewN _ _ _) (congrArg (World.drewN _) (Nat.add_assoc _ _ _))⟩)) | (go_at_call 114; (with_reducible refine (zcb.calls kj8 x0_8 t133 t134 _ A16.out).mono ?_); rintro e w20 ⟨rfl, hb⟩; have n0_ := za.mk (zr (g := gb131) (o := .cells #[.bool false, .string (⟨#[]⟩ : ByteArray)] 29 (0, 0)) (by (with_reducible repeat (first | refine zl ?_ _ | refine zt ?_ | refine zv ?_ _)); exact BK131.out) hb); have n1_ := za.mk (zw (by repeat (first | (with_reducible first | exact HB.out | apply zg | apply ze | apply below_drew1 | refine zo ?_ GE131.out) | exact HB.out)) hb); clear BK131; clear HB; have BK131 := n0_; have HB := n1_; clear n0_ n1_; (try clear hb); (try clear hb2); (try clear hk); (try clear hi); have hcz21_0 : w20.cell? ⟨gb131, 0, none⟩ = some (.bool false) := (zf BK131.out 0).trans rfl; have hcz21_1 : w20.cell? ⟨gb131, 1, none⟩ = some (.string (⟨#[]⟩ : ByteArray)) := (zf BK131.out 1).trans rfl; have hfz21_0 := zi BK131.out 0; have hfz21_1 := zi BK131.out 1))
       repeat (go_quiet (first | (go_at_call 86; (with_reducible refine (zeb.calls kj8 x0_8 true _ A14.out).mono ?_); rintro e w' ⟨rfl, ⟨nd, rfl⟩⟩; (try first | exact ⟨rfl, _, World.drewN_drewN _ _ _⟩ | exact ⟨rfl, _, Eq.trans (World.drewN_drewN _ _ _) (congrArg (World.drewN _) (Nat.add_assoc _ _ _))⟩)) | (go_at_call 114; (with_reducible refine (zcb.calls kj8 x0_8 t133 t134 _ A16.out).mono ?_); rintro e w20 ⟨rfl, hb⟩; have n0_ := za.mk (zr (g := gb131) (o := .cells #[.bool false, .string (⟨#[]⟩ : ByteArray)] 29 (0, 0)) (by (with_reducible repeat (first | refine zl ?_ _ | refine zt ?_ | refine zv ?_ _)); exact BK131.out) hb); have n1_ := za.mk (zw (by repeat (first | (with_reducible first | exact HB.out | apply zg | apply ze | apply below_drew1 | refine zo ?_ GE131.out) | exact HB.out)) hb); clear BK131; clear HB; have BK131 := n0_; have HB := n1_; clear n0_ n1_; (try clear hb); (try clear hb2); (try clear hk); (try clear hi); have hcz21_0 : w20.cell? ⟨gb131, 0, none⟩ = some (.bool false) := (zf BK131.out 0).trans rfl; have hcz21_1 : w20.cell? ⟨gb131, 1, none⟩ = some (.string (⟨#[]⟩ : ByteArray)) := (zf BK131.out 1).trans rfl; have hfz21_0 := zi BK131.out 0; have hfz21_1 := zi BK131.out 1)); try go_wp2_with (first | (go_at_call 86; (with_reducible refine (zeb.calls kj8 x0_8 true _ A14.out).mono ?_); rintro e w' ⟨rfl, ⟨nd, rfl⟩⟩; (try first | exact ⟨rfl, _, World.drewN_drewN _ _ _⟩ | exact ⟨rfl, _, Eq.trans (World.drewN_drewN _ _ _) (congrArg (World.drewN _) (Nat.add_assoc _ _ _))⟩)) | (go_at_call 114; (with_reducible refine (zcb.calls kj8 x0_8 t133 t134 _ A16.out).mono ?_); rintro e w20 ⟨rfl, hb⟩; have n0_ := za.mk (zr (g := gb131) (o := .cells #[.bool false, .string (⟨#[]⟩ : ByteArray)] 29 (0, 0)) (by (with_reducible repeat (first | refine zl ?_ _ | refine zt ?_ | refine zv ?_ _)); exact BK131.out) hb); have n1_ := za.mk (zw (by repeat (first | (with_reducible first | exact HB.out | apply zg | apply ze | apply below_drew1 | refine zo ?_ GE131.out) | exact HB.out)) hb); clear BK131; clear HB; have BK131 := n0_; have HB := n1_; clear n0_ n1_; (try clear hb); (try clear hb2); (try clear hk); (try clear hi); have hcz21_0 : w20.cell? ⟨gb131, 0, none⟩ = some (.bool false) := (zf BK131.out 0).trans rfl; have hcz21_1 : w20.cell? ⟨gb131, 1, none⟩ = some (.string (⟨#[]⟩ : ByteArray)) := (zf BK131.out 1).trans rfl; have hfz21_0 := zi BK131.out 0; have hfz21_1 := zi BK131.out 1)))
       refine bodyPost_ret (zhg rfl _ _ gb131 29 #[.bool false, .string t134] (0, 0) _ rfl (by (with_reducible repeat (first | refine zl ?_ _ | refine zt ?_ | refine zv ?_ _)); refine zm (cs := #[.bool false, .string t134]) ?_ 1 _ rfl; (with_reducible repeat (first | refine zl ?_ _ | refine zt ?_ | refine zv ?_ _)); refine zm (cs := #[.bool false, .string t134]) ?_ 0 _ rfl; (with_reducible repeat (first | refine zl ?_ _ | refine zt ?_ | refine zv ?_ _)); refine zm (cs := #[.bool t133, .string t134]) ?_ 0 _ rfl; (with_reducible repeat (first | refine zl ?_ _ | refine zt ?_ | refine zv ?_ _)); refine zm (cs := #[.bool t133, .string (⟨#[]⟩ : ByteArray)]) ?_ 1 _ rfl; (with_reducible repeat (first | refine zl ?_ _ | refine zt ?_ | refine zv ?_ _)); refine zm (cs := #[.bool false, .string (⟨#[]⟩ : ByteArray)]) ?_ 0 _ rfl; (with_reducible repeat (first | refine zl ?_ _ | refine zt ?_ | refine zv ?_ _)); exact BK131.out) Tryz.underlying29 rfl (by kernel_rfl)) rfl ?_
       exact ⟨by first | rfl | (simp [znb, zmb] <;> rfl) | (simp [*, znb, zmb] <;> rfl) | (simp [zc]; done), by repeat (first | (with_reducible first | exact HB.out | apply zg | apply ze | apply below_drew1 | refine zo ?_ GE131.out) | exact HB.out)⟩
     ·replace c15 := Bool.eq_false_iff.mpr c15
      subst c15
      have H1 : (some (false, (⟨#[]⟩ : ByteArray), false)) = some (r1, r2, r3) := by rw [if_neg (show ¬ (false = true) by decide)] at H; exact H
      clear H
      have H := H1
      clear H1
      simp only [Option.some.injEq, Prod.mk.injEq] at H
      obtain ⟨rfl, rfl, rfl⟩ := H
      go_wp2_with (first | (go_at_call 86; (with_reducible refine (zeb.calls kj8 x0_8 false _ A14.out).mono ?_); rintro e w' ⟨rfl, ⟨nd, rfl⟩⟩; (try first | exact ⟨rfl, _, World.drewN_drewN _ _ _⟩ | exact ⟨rfl, _, Eq.trans (World.drewN_drewN _ _ _) (congrArg (World.drewN _) (Nat.add_assoc _ _ _))⟩); have hcz22_0 : wc.cell? ⟨gb131, 0, none⟩ = some (.bool false) := (zf BK131.out 0).trans rfl; have hcz22_1 : wc.cell? ⟨gb131, 1, none⟩ = some (.string (⟨#[]⟩ : ByteArray)) := (zf BK131.out 1).trans rfl; have hfz22_0 := zi BK131.out 0; have hfz22_1 := zi BK131.out 1))
      repeat (go_quiet (first | (go_at_call 86; (with_reducible refine (zeb.calls kj8 x0_8 false _ A14.out).mono ?_); rintro e w' ⟨rfl, ⟨nd, rfl⟩⟩; (try first | exact ⟨rfl, _, World.drewN_drewN _ _ _⟩ | exact ⟨rfl, _, Eq.trans (World.drewN_drewN _ _ _) (congrArg (World.drewN _) (Nat.add_assoc _ _ _))⟩); have hcz22_0 : wc.cell? ⟨gb131, 0, none⟩ = some (.bool false) := (zf BK131.out 0).trans rfl; have hcz22_1 : wc.cell? ⟨gb131, 1, none⟩ = some (.string (⟨#[]⟩ : ByteArray)) := (zf BK131.out 1).trans rfl; have hfz22_0 := zi BK131.out 0; have hfz22_1 := zi BK131.out 1)); try go_wp2_with (first | (go_at_call 86; (with_reducible refine (zeb.calls kj8 x0_8 false _ A14.out).mono ?_); rintro e w' ⟨rfl, ⟨nd, rfl⟩⟩; (try first | exact ⟨rfl, _, World.drewN_drewN _ _ _⟩ | exact ⟨rfl, _, Eq.trans (World.drewN_drewN _ _ _) (congrArg (World.drewN _) (Nat.add_assoc _ _ _))⟩); have hcz22_0 : wc.cell? ⟨gb131, 0, none⟩ = some (.bool false) := (zf BK131.out 0).trans rfl; have hcz22_1 : wc.cell? ⟨gb131, 1, none⟩ = some (.string (⟨#[]⟩ : ByteArray)) := (zf BK131.out 1).trans rfl; have hfz22_0 := zi BK131.out 0; have hfz22_1 := zi BK131.out 1)))
      refine bodyPost_ret (zhg rfl _ _ gb131 29 #[.bool false, .string (⟨#[]⟩ : ByteArray)] (0, 0) _ rfl (by (with_reducible repeat (first | refine zl ?_ _ | refine zt ?_ | refine zv ?_ _)); refine zm (cs := #[.bool false, .string (⟨#[]⟩ : ByteArray)]) ?_ 1 _ rfl; (with_reducible repeat (first | refine zl ?_ _ | refine zt ?_ | refine zv ?_ _)); refine zm (cs := #[.bool false, .string (⟨#[]⟩ : ByteArray)]) ?_ 0 _ rfl; (with_reducible repeat (first | refine zl ?_ _ | refine zt ?_ | refine zv ?_ _)); exact BK131.out) Tryz.underlying29 rfl (by kernel_rfl)) rfl ?_
      exact ⟨by first | rfl | (simp [znb, zmb] <;> rfl) | (simp [*, znb, zmb] <;> rfl) | (simp [zc]; done), by repeat (first | (with_reducible first | exact HB.out | apply zg | apply ze | apply below_drew1 | refine zo ?_ GE131.out) | exact HB.out)⟩
def ztd.f (k : Nat) (a0 : ByteArray) : Option (Bool × ByteArray × Bool) := (zkb.f k a0).bind fun bt136 => (some (bt136.1, bt136.2.1, bt136.2.2))
theorem ztd.calls (k : Nat) (a0 : ByteArray) (r1 : Bool) (r2 : ByteArray) (r3 : Bool) (w : World) (h : ztd.f k a0 = some (r1, r2, r3)) :
  Calls Tryz.prog 65 #[.string a0] w fun e w' => e = .returned (.tuple #[.agg #[.bool r1, .string r2], .bool r3]) ∧ Below w.heap.size w w' := by
 have hu29 := Tryz.underlying29
 have HB := za.mk (Below.refl w.heap.size w)
 have H : ((zkb.f k a0).bind fun bt136 => (some (bt136.1, bt136.2.1, bt136.2.2))) = some (r1, r2, r3) := h
 clear h
 replace H := Option.bind_eq_some_iff.mp H
 obtain ⟨⟨t136, t137, t138⟩, A20, H⟩ := H
 replace H : (some (t136, t137, t138)) = some (r1, r2, r3) := H
 have A2 := za.mk A20
 clear A20
 simp only [Option.some.injEq, Prod.mk.injEq] at H
 obtain ⟨rfl, rfl, rfl⟩ := H
 go_enter Tryz.func65, Tryz.ntmps65
 go_wp2_with (first | ((with_reducible refine zrb (N := 2) rfl ?_); refine ztb ?hg (N := 2) ?hd (cs := #[.bool false, .string (⟨#[]⟩ : ByteArray)]) (t := 29) ?hr ?_; (case hd => rfl); (case hg => rfl); (case hr => first | (go_simp; done) | (go_simp; rfl)); intro gb135 hg w3 hbox hb; have n0_ := za.mk (zw (by repeat (first | (with_reducible first | exact HB.out | apply zg | apply ze | apply below_drew1) | exact HB.out)) hb); have n1_ := za.mk (hbox); have n2_ := za.mk ((by rw [hg]; exact (zab (by repeat (first | (with_reducible first | exact HB.out | apply zg | apply ze | apply below_drew1) | exact HB.out))) : w.heap.size ≤ gb135)); have n3_ := za.mk ((by rw [hg]; exact (zab (by repeat (first | (with_reducible first | exact HB.out | apply zg | apply ze | apply below_drew1) | exact HB.out))) : w.heap.size ≤ gb135)); clear HB; have HB := n0_; have BK135 := n1_; have GW135 := n2_; have GE135 := n3_; clear n0_ n1_ n2_ n3_; clear hb hbox hg) | ((with_reducible refine zbb (f := 95) rfl ?_); refine zcc (some 5) rfl rfl Tryz.func95 (by kernel_rfl) rfl #[.string a0] rfl (by (try simp only [List.map_toArray, List.map_cons, List.map_nil]); first | done | rfl | (simp only [List.length_drop, List.length_take]; rfl)) ?_; (with_reducible refine (zkb.calls k a0 t136 t137 t138 _ A2.out).mono ?_); rintro e w4 ⟨rfl, hb⟩; refine ⟨_, rfl, ?_⟩; have n0_ := za.mk (zr (g := gb135) (o := .cells #[.bool false, .string (⟨#[]⟩ : ByteArray)] 29 (0, 0)) (by (with_reducible repeat (first | refine zl ?_ _ | refine zt ?_ | refine zv ?_ _)); exact BK135.out) hb); have n1_ := za.mk (zw (by repeat (first | (with_reducible first | exact HB.out | apply zg | apply ze | apply below_drew1 | refine zo ?_ GE135.out) | exact HB.out)) hb); clear BK135; clear HB; have BK135 := n0_; have HB := n1_; clear n0_ n1_; (try clear hb); (try clear hb2); (try clear hk); (try clear hi); have hcz5_0 : w4.cell? ⟨gb135, 0, none⟩ = some (.bool false) := (zf BK135.out 0).trans rfl; have hcz5_1 : w4.cell? ⟨gb135, 1, none⟩ = some (.string (⟨#[]⟩ : ByteArray)) := (zf BK135.out 1).trans rfl; have hfz5_0 := zi BK135.out 0; have hfz5_1 := zi BK135.out 1))
 refine bodyPost_ret (zhg rfl _ _ gb135 29 #[.bool t136, .string t137] (0, 0) _ rfl (by (with_reducible repeat (first | refine zl ?_ _ | refine zt ?_ | refine zv ?_ _)); refine zm (cs := #[.bool t136, .string (⟨#[]⟩ : ByteArray)]) ?_ 1 _ rfl; (with_reducible repeat (first | refine zl ?_ _ | refine zt ?_ | refine zv ?_ _)); refine zm (cs := #[.bool false, .string (⟨#[]⟩ : ByteArray)]) ?_ 0 _ rfl; (with_reducible repeat (first | refine zl ?_ _ | refine zt ?_ | refine zv ?_ _)); exact BK135.out) Tryz.underlying29 rfl (by kernel_rfl)) rfl ?_
 exact ⟨by first | rfl | (simp [znb, zmb] <;> rfl) | (simp [*, znb, zmb] <;> rfl) | (simp [zc]; done), by repeat (first | (with_reducible first | exact HB.out | apply zg | apply ze | apply below_drew1 | refine zo ?_ GE135.out) | exact HB.out)⟩
def zne.f (k : Nat) (a0 : ByteArray) : Option (Bool × ByteArray) := (ztd.f k a0).bind fun bt140 => (some (bt140.1, bt140.2.1))
theorem zne.calls (k : Nat) (a0 : ByteArray) (r1 : Bool) (r2 : ByteArray) (w : World) (h : zne.f k a0 = some (r1, r2)) :
  Calls Tryz.prog 36 #[.string a0] w fun e w' => e = .returned (.agg #[.bool r1, .string r2]) ∧ Below w.heap.size w w' := by
 have hu29 := Tryz.underlying29
 have HB := za.mk (Below.refl w.heap.size w)
 have H : ((ztd.f k a0).bind fun bt140 => (some (bt140.1, bt140.2.1))) = some (r1, r2) := h
 clear h
 replace H := Option.bind_eq_some_iff.mp H
 obtain ⟨⟨t140, t141, t142⟩, A20, H⟩ := H
 replace H : (some (t140, t141)) = some (r1, r2) := H
 have A2 := za.mk A20
 clear A20
 simp only [Option.some.injEq, Prod.mk.injEq] at H
 obtain ⟨rfl, rfl⟩ := H
 go_enter Tryz.func36, Tryz.ntmps36
 go_wp2_with (first | ((with_reducible refine zrb (N := 2) rfl ?_); refine ztb ?hg (N := 2) ?hd (cs := #[.bool false, .string (⟨#[]⟩ : ByteArray)]) (t := 29) ?hr ?_; (case hd => rfl); (case hg => rfl); (case hr => first | (go_simp; done) | (go_simp; rfl)); intro gb139 hg w3 hbox hb; have n0_ := za.mk (zw (by repeat (first | (with_reducible first | exact HB.out | apply zg | apply ze | apply below_drew1) | exact HB.out)) hb); have n1_ := za.mk (hbox); have n2_ := za.mk ((by rw [hg]; exact (zab (by repeat (first | (with_reducible first | exact HB.out | apply zg | apply ze | apply below_drew1) | exact HB.out))) : w.heap.size ≤ gb139)); have n3_ := za.mk ((by rw [hg]; exact (zab (by repeat (first | (with_reducible first | exact HB.out | apply zg | apply ze | apply below_drew1) | exact HB.out))) : w.heap.size ≤ gb139)); clear HB; have HB := n0_; have BK139 := n1_; have GW139 := n2_; have GE139 := n3_; clear n0_ n1_ n2_ n3_; clear hb hbox hg) | ((with_reducible refine zbb (f := 65) rfl ?_); refine zcc (some 7) rfl rfl Tryz.func65 (by kernel_rfl) rfl #[.string a0] rfl (by (try simp only [List.map_toArray, List.map_cons, List.map_nil]); first | done | rfl | (simp only [List.length_drop, List.length_take]; rfl)) ?_; (with_reducible refine (ztd.calls k a0 t140 t141 t142 _ A2.out).mono ?_); rintro e w4 ⟨rfl, hb⟩; refine ⟨_, rfl, ?_⟩; have n0_ := za.mk (zr (g := gb139) (o := .cells #[.bool false, .string (⟨#[]⟩ : ByteArray)] 29 (0, 0)) (by (with_reducible repeat (first | refine zl ?_ _ | refine zt ?_ | refine zv ?_ _)); exact BK139.out) hb); have n1_ := za.mk (zw (by repeat (first | (with_reducible first | exact HB.out | apply zg | apply ze | apply below_drew1 | refine zo ?_ GE139.out) | exact HB.out)) hb); clear BK139; clear HB; have BK139 := n0_; have HB := n1_; clear n0_ n1_; (try clear hb); (try clear hb2); (try clear hk); (try clear hi)) | ((with_reducible refine zrb (N := 3) rfl ?_); refine ztb ?hg (N := 3) ?hd (cs := #[.bool false, .string (⟨#[]⟩ : ByteArray)]) (t := 29) ?hr ?_; (case hd => rfl); (case hg => rfl); (case hr => first | (go_simp; done) | (go_simp; rfl)); intro gb143 hg w5 hbox hb; have n0_ := za.mk (zr (g := gb139) (o := .cells #[.bool false, .string (⟨#[]⟩ : ByteArray)] 29 (0, 0)) (by (with_reducible repeat (first | refine zl ?_ _ | refine zt ?_ | refine zv ?_ _)); exact BK139.out) hb); have n1_ := za.mk (zw (by repeat (first | (with_reducible first | exact HB.out | apply zg | apply ze | apply below_drew1 | refine zo ?_ GE139.out) | exact HB.out)) hb); have n2_ := za.mk (hbox); have n3_ := za.mk ((by rw [hg]; exact (zab (by repeat (first | (with_reducible first | exact HB.out | apply zg | apply ze | apply below_drew1 | refine zo ?_ GE139.out) | exact HB.out))) : w.heap.size ≤ gb143)); have n4_ := za.mk ((by rw [hg]; exact (zab (by repeat (first | (with_reducible first | exact HB.out | apply zg | apply ze | apply below_drew1 | refine zo ?_ GE139.out) | exact HB.out))) : w.heap.size ≤ gb143)); have n5_ := za.mk ((by rw [hg]; exact Nat.ne_of_lt (zhf (g := gb139) (o := .cells #[.bool false, .string (⟨#[]⟩ : ByteArray)] 29 (0, 0)) (by (with_reducible repeat (first | refine zl ?_ _ | refine zt ?_ | refine zv ?_ _)); exact BK139.out)) : gb139 ≠ gb143)); have n6_ := za.mk ((by rw [hg]; exact Nat.ne_of_gt (zhf (g := gb139) (o := .cells #[.bool false, .string (⟨#[]⟩ : ByteArray)] 29 (0, 0)) (by (with_reducible repeat (first | refine zl ?_ _ | refine zt ?_ | refine zv ?_ _)); exact BK139.out)) : gb143 ≠ gb139)); clear BK139; clear HB; have BK139 := n0_; have HB := n1_; have BK143 := n2_; have GW143 := n3_; have GE143 := n4_; have NB139_143 := n5_; have NB143_139 := n6_; clear n0_ n1_ n2_ n3_ n4_ n5_ n6_; clear hb hbox hg; have hnb6 := NB143_139.out; have hnc6 := NB139_143.out; have hcz7_0 : w5.cell? ⟨gb143, 0, none⟩ = some (.bool false) := (zf BK143.out 0).trans rfl; have hcz7_1 : w5.cell? ⟨gb143, 1, none⟩ = some (.string (⟨#[]⟩ : ByteArray)) := (zf BK143.out 1).trans rfl; have hfz7_0 := zi BK143.out 0; have hfz7_1 := zi BK143.out 1; have hcz8_0 : w5.cell? ⟨gb139, 0, none⟩ = some (.bool false) := (zf BK139.out 0).trans rfl; have hcz8_1 : w5.cell? ⟨gb139, 1, none⟩ = some (.string (⟨#[]⟩ : ByteArray)) := (zf BK139.out 1).trans rfl; have hfz8_0 := zi BK139.out 0; have hfz8_1 := zi BK139.out 1))
 refine bodyPost_ret (results_cell_row rfl _ _ gb139 29 #[.bool t140, .string t141] (0, 0) _ rfl (by (with_reducible repeat (first | refine zl ?_ _ | refine zt ?_ | refine zv ?_ _)); refine zm (cs := #[.bool t140, .string (⟨#[]⟩ : ByteArray)]) ?_ 1 _ rfl; (with_reducible repeat (first | refine zl ?_ _ | refine zt ?_ | refine zv ?_ _)); refine zm (cs := #[.bool false, .string (⟨#[]⟩ : ByteArray)]) ?_ 0 _ rfl; (with_reducible repeat (first | refine zl ?_ _ | refine zt ?_ | refine zv ?_ _)); refine zic ?_ NB139_143.out _; (with_reducible repeat (first | refine zl ?_ _ | refine zt ?_ | refine zv ?_ _)); refine zic ?_ NB139_143.out _; (with_reducible repeat (first | refine zl ?_ _ | refine zt ?_ | refine zv ?_ _)); exact BK139.out) Tryz.underlying29 rfl (by kernel_rfl)) rfl ?_
 exact ⟨by first | rfl | (simp [znb, zmb] <;> rfl) | (simp [*, znb, zmb] <;> rfl) | (simp [zc]; done), by repeat (first | (with_reducible first | exact HB.out | apply zg | apply ze | apply below_drew1 | refine zo ?_ GE139.out | refine zo ?_ GE143.out) | exact HB.out)⟩
end Go.Proofs.YtlijjnjpomnphaaGreatDoor.Q
end
section
namespace Go.Proofs.YtlijjnjpomnphaaGreatDoor.Q
open Go.RowKit YtlijjnjpomnphaaGreatDoorH YtlijjnjpomnphaaGreatDoorG YtlijjnjpomnphaaGreatDoorW.PrintWords YtlijjnjpomnphaaGreatDoorW.PrintLast YtlijjnjpomnphaaGreatDoorW.PrintMore
attribute [local go_sem] zgd zhd zbe zce zxc zyc zfd zid
def zdc.l0 : Nat → ByteArray → Int → Option (Bool)
 | 0, _, _ => none
 | k + 1, x0, x3 => if x3 < (x0.size : Int) then (if 0 ≤ x3 then (if (bt x0 x3) < 48 then (some false) else (if (bt x0 x3) > 57 then (some false) else (zdc.l0 k x0 (wrap64 (x3 + 1))))) else (none)) else (some (x0.toList != ([] : List UInt8)))
def zdc.f (k : Nat) (a0 : ByteArray) : Option (Bool) := zdc.l0 k a0 0
theorem zdc.calls (k : Nat) (a0 : ByteArray) (r : Bool) (w : World) (h : zdc.f k a0 = some r) :
  Calls Tryz.prog 37 #[.string a0] w fun e w' => e = .returned (.bool r) ∧ zk w w' := by
 have H : (zdc.l0 k a0 0) = some r := h
 clear h
 have H' := za.mk H
 clear H
 go_enter Tryz.func37, Tryz.ntmps37
 go_wp2
 (try simp only [Act.put, List.setIfInBounds_toArray, List.set_cons_zero, List.set_cons_succ])
 go_loopg [3] k (fun kq v3 w' => ∃ (x3_1 : Int), v3 = .int .i64 x3_1 ∧ za (zdc.l0 kq a0 x3_1 = some r) ∧ za (kq ≤ k) ∧ zk w w')
 case atStart => exact ⟨(0), (by first | rfl | (simp; done) | (simp [*]; done) | (simp [zc]; done) | (simp [zc, *]; done)), H', ⟨Nat.le_refl _⟩, by repeat (first | exact zk.refl _ | apply zk.step)⟩
 case round =>
  clear H'
  obtain ⟨x3_1, rfl, HA, HK1, ⟨m1, rfl⟩⟩ := hrel
  cases gk with
  | zero => exact absurd HA.out (by simp [zdc.l0])
  | succ k1 =>
   have H := HA.out
   clear HA
   simp only [zdc.l0] at H
   by_cases c2 : x3_1 < (a0.size : Int)
   ·rw [if_pos c2] at H
    have c2b0 : decide (x3_1 < (a0.size : Int)) = true := decide_eq_true c2
    clear c2
    by_cases c3 : 0 ≤ x3_1
    ·rw [if_pos c3] at H
     have c3b0 : decide (0 ≤ x3_1) = true := decide_eq_true c3
     clear c3
     by_cases c5 : (bt a0 x3_1) < 48
     ·rw [if_pos c5] at H
      have c5b0 : decide ((bt a0 x3_1) < 48) = true := decide_eq_true c5
      clear c5
      obtain rfl := Option.some.inj H
      have p4 : 0 ≤ (x3_1 : Int) := of_decide_eq_true (by first | (with_reducible assumption) | assumption)
      have q4 : x3_1 < (a0.size : Int) := of_decide_eq_true (by first | (with_reducible assumption) | assumption)
      have hx4 := bt_at a0 x3_1
      replace p4 := eq_true p4
      replace q4 := eq_true q4
      go_wp2
      go_ret
      exact ⟨by first | rfl | (simp; done) | (simp [*]; done) | (simp [zc]; done) | (simp [zc, *]; done), by repeat (first | exact zk.refl _ | apply zk.step)⟩
     ·rw [if_neg c5] at H
      have c5b0 : decide ((bt a0 x3_1) < 48) = false := decide_eq_false c5
      clear c5
      by_cases c7 : (bt a0 x3_1) > 57
      ·rw [if_pos c7] at H
       have c7b0 : decide (57 < (bt a0 x3_1)) = true := decide_eq_true c7
       clear c7
       obtain rfl := Option.some.inj H
       have p4 : 0 ≤ (x3_1 : Int) := of_decide_eq_true (by first | (with_reducible assumption) | assumption)
       have q4 : x3_1 < (a0.size : Int) := of_decide_eq_true (by first | (with_reducible assumption) | assumption)
       have hx4 := bt_at a0 x3_1
       replace p4 := eq_true p4
       replace q4 := eq_true q4
       have p6 : 0 ≤ (x3_1 : Int) := of_decide_eq_true (by first | (with_reducible assumption) | assumption)
       have q6 : x3_1 < (a0.size : Int) := of_decide_eq_true (by first | (with_reducible assumption) | assumption)
       have hx6 := bt_at a0 x3_1
       replace p6 := eq_true p6
       replace q6 := eq_true q6
       go_wp2
       go_ret
       exact ⟨by first | rfl | (simp; done) | (simp [*]; done) | (simp [zc]; done) | (simp [zc, *]; done), by repeat (first | exact zk.refl _ | apply zk.step)⟩
      ·rw [if_neg c7] at H
       have c7b0 : decide (57 < (bt a0 x3_1)) = false := decide_eq_false c7
       clear c7
       have H' := za.mk H
       clear H
       have p4 : 0 ≤ (x3_1 : Int) := of_decide_eq_true (by first | (with_reducible assumption) | assumption)
       have q4 : x3_1 < (a0.size : Int) := of_decide_eq_true (by first | (with_reducible assumption) | assumption)
       have hx4 := bt_at a0 x3_1
       replace p4 := eq_true p4
       replace q4 := eq_true q4
       have p6 : 0 ≤ (x3_1 : Int) := of_decide_eq_true (by first | (with_reducible assumption) | assumption)
       have q6 : x3_1 < (a0.size : Int) := of_decide_eq_true (by first | (with_reducible assumption) | assumption)
       have hx6 := bt_at a0 x3_1
       replace p6 := eq_true p6
       replace q6 := eq_true q6
       go_wp2
       go_roundg k1
       case measure => have := HK1.out; omega
       case rel => exact ⟨(wrap64 (x3_1 + 1)), (by first | rfl | (simp; done) | (simp [*]; done) | (simp [zc]; done) | (simp [zc, *]; done)), H', ⟨by have := HK1.out; omega⟩, by repeat (first | exact zk.refl _ | apply zk.step)⟩
    ·rw [if_neg c3] at H
     exact absurd H (by simp)
   ·rw [if_neg c2] at H
    have c2b0 : decide (x3_1 < (a0.size : Int)) = false := decide_eq_false c2
    clear c2
    obtain rfl := Option.some.inj H
    go_wp2
    go_ret
    exact ⟨by first | rfl | (simp; done) | (simp [*]; done) | (simp [zc]; done) | (simp [zc, *]; done), by repeat (first | exact zk.refl _ | apply zk.step)⟩
def zfc.l0 : Nat → ByteArray → Int → Option (Bool)
 | 0, _, _ => none
 | k + 1, x0, x3 => if x3 < (x0.size : Int) then (if 0 ≤ x3 then (if (bt x0 x3) ≥ 97 then (if (bt x0 x3) ≤ 122 then (zfc.l0 k x0 (wrap64 (x3 + 1))) else (if (bt x0 x3) ≥ 65 then (if ((bt x0 x3) ≤ 90) then (zfc.l0 k x0 (wrap64 (x3 + 1))) else (some false)) else (some false))) else (if (bt x0 x3) ≥ 65 then (if ((bt x0 x3) ≤ 90) then (zfc.l0 k x0 (wrap64 (x3 + 1))) else (some false)) else (some false))) else (none)) else (some (x0.toList != ([] : List UInt8)))
def zfc.f (k : Nat) (a0 : ByteArray) : Option (Bool) := zfc.l0 k a0 0
theorem zfc.calls (k : Nat) (a0 : ByteArray) (r : Bool) (w : World) (h : zfc.f k a0 = some r) :
  Calls Tryz.prog 38 #[.string a0] w fun e w' => e = .returned (.bool r) ∧ zk w w' := by
 have H : (zfc.l0 k a0 0) = some r := h
 clear h
 have H' := za.mk H
 clear H
 go_enter Tryz.func38, Tryz.ntmps38
 go_wp2
 (try simp only [Act.put, List.setIfInBounds_toArray, List.set_cons_zero, List.set_cons_succ])
 go_loopg [3] k (fun kq v3 w' => ∃ (x3_1 : Int), v3 = .int .i64 x3_1 ∧ za (zfc.l0 kq a0 x3_1 = some r) ∧ za (kq ≤ k) ∧ zk w w')
 case atStart => exact ⟨(0), (by first | rfl | (simp; done) | (simp [*]; done) | (simp [zc]; done) | (simp [zc, *]; done)), H', ⟨Nat.le_refl _⟩, by repeat (first | exact zk.refl _ | apply zk.step)⟩
 case round =>
  clear H'
  obtain ⟨x3_1, rfl, HA, HK1, ⟨m1, rfl⟩⟩ := hrel
  cases gk with
  | zero => exact absurd HA.out (by simp [zfc.l0])
  | succ k1 =>
   have H := HA.out
   clear HA
   simp only [zfc.l0] at H
   by_cases c2 : x3_1 < (a0.size : Int)
   ·rw [if_pos c2] at H
    have c2b0 : decide (x3_1 < (a0.size : Int)) = true := decide_eq_true c2
    clear c2
    by_cases c3 : 0 ≤ x3_1
    ·rw [if_pos c3] at H
     have c3b0 : decide (0 ≤ x3_1) = true := decide_eq_true c3
     clear c3
     by_cases c5 : (bt a0 x3_1) ≥ 97
     ·rw [if_pos c5] at H
      have c5b0 : decide (97 ≤ (bt a0 x3_1)) = true := decide_eq_true c5
      clear c5
      by_cases c6 : (bt a0 x3_1) ≤ 122
      ·rw [if_pos c6] at H
       have c6b0 : decide ((bt a0 x3_1) ≤ 122) = true := decide_eq_true c6
       clear c6
       have H' := za.mk H
       clear H
       have p4 : 0 ≤ (x3_1 : Int) := of_decide_eq_true (by first | (with_reducible assumption) | assumption)
       have q4 : x3_1 < (a0.size : Int) := of_decide_eq_true (by first | (with_reducible assumption) | assumption)
       have hx4 := bt_at a0 x3_1
       replace p4 := eq_true p4
       replace q4 := eq_true q4
       go_wp2
       go_roundg k1
       case measure => have := HK1.out; omega
       case rel => exact ⟨(wrap64 (x3_1 + 1)), (by first | rfl | (simp; done) | (simp [*]; done) | (simp [zc]; done) | (simp [zc, *]; done)), H', ⟨by have := HK1.out; omega⟩, by repeat (first | exact zk.refl _ | apply zk.step)⟩
      ·rw [if_neg c6] at H
       have c6b0 : decide ((bt a0 x3_1) ≤ 122) = false := decide_eq_false c6
       clear c6
       by_cases c7 : (bt a0 x3_1) ≥ 65
       ·rw [if_pos c7] at H
        have c7b0 : decide (65 ≤ (bt a0 x3_1)) = true := decide_eq_true c7
        clear c7
        by_cases c8 : ((bt a0 x3_1) ≤ 90)
        ·rw [if_pos c8] at H
         have c8b0 : decide ((bt a0 x3_1) ≤ 90) = true := decide_eq_true c8
         clear c8
         have H' := za.mk H
         clear H
         have p4 : 0 ≤ (x3_1 : Int) := of_decide_eq_true (by first | (with_reducible assumption) | assumption)
         have q4 : x3_1 < (a0.size : Int) := of_decide_eq_true (by first | (with_reducible assumption) | assumption)
         have hx4 := bt_at a0 x3_1
         replace p4 := eq_true p4
         replace q4 := eq_true q4
         go_wp2
         go_roundg k1
         case measure => have := HK1.out; omega
         case rel => exact ⟨(wrap64 (x3_1 + 1)), (by first | rfl | (simp; done) | (simp [*]; done) | (simp [zc]; done) | (simp [zc, *]; done)), H', ⟨by have := HK1.out; omega⟩, by repeat (first | exact zk.refl _ | apply zk.step)⟩
        ·rw [if_neg c8] at H
         have c8b0 : decide ((bt a0 x3_1) ≤ 90) = false := decide_eq_false c8
         clear c8
         obtain rfl := Option.some.inj H
         have p4 : 0 ≤ (x3_1 : Int) := of_decide_eq_true (by first | (with_reducible assumption) | assumption)
         have q4 : x3_1 < (a0.size : Int) := of_decide_eq_true (by first | (with_reducible assumption) | assumption)
         have hx4 := bt_at a0 x3_1
         replace p4 := eq_true p4
         replace q4 := eq_true q4
         go_wp2
         go_ret
         exact ⟨by first | rfl | (simp; done) | (simp [*]; done) | (simp [zc]; done) | (simp [zc, *]; done), by repeat (first | exact zk.refl _ | apply zk.step)⟩
       ·rw [if_neg c7] at H
        have c7b0 : decide (65 ≤ (bt a0 x3_1)) = false := decide_eq_false c7
        clear c7
        obtain rfl := Option.some.inj H
        have p4 : 0 ≤ (x3_1 : Int) := of_decide_eq_true (by first | (with_reducible assumption) | assumption)
        have q4 : x3_1 < (a0.size : Int) := of_decide_eq_true (by first | (with_reducible assumption) | assumption)
        have hx4 := bt_at a0 x3_1
        replace p4 := eq_true p4
        replace q4 := eq_true q4
        go_wp2
        go_ret
        exact ⟨by first | rfl | (simp; done) | (simp [*]; done) | (simp [zc]; done) | (simp [zc, *]; done), by repeat (first | exact zk.refl _ | apply zk.step)⟩
     ·rw [if_neg c5] at H
      have c5b0 : decide (97 ≤ (bt a0 x3_1)) = false := decide_eq_false c5
      clear c5
      by_cases c9 : (bt a0 x3_1) ≥ 65
      ·rw [if_pos c9] at H
       have c9b0 : decide (65 ≤ (bt a0 x3_1)) = true := decide_eq_true c9
       clear c9
       by_cases c10 : ((bt a0 x3_1) ≤ 90)
       ·rw [if_pos c10] at H
        have c10b0 : decide ((bt a0 x3_1) ≤ 90) = true := decide_eq_true c10
        clear c10
        have H' := za.mk H
        clear H
        have p4 : 0 ≤ (x3_1 : Int) := of_decide_eq_true (by first | (with_reducible assumption) | assumption)
        have q4 : x3_1 < (a0.size : Int) := of_decide_eq_true (by first | (with_reducible assumption) | assumption)
        have hx4 := bt_at a0 x3_1
        replace p4 := eq_true p4
        replace q4 := eq_true q4
        go_wp2
        go_roundg k1
        case measure => have := HK1.out; omega
        case rel => exact ⟨(wrap64 (x3_1 + 1)), (by first | rfl | (simp; done) | (simp [*]; done) | (simp [zc]; done) | (simp [zc, *]; done)), H', ⟨by have := HK1.out; omega⟩, by repeat (first | exact zk.refl _ | apply zk.step)⟩
       ·rw [if_neg c10] at H
        have c10b0 : decide ((bt a0 x3_1) ≤ 90) = false := decide_eq_false c10
        clear c10
        obtain rfl := Option.some.inj H
        have p4 : 0 ≤ (x3_1 : Int) := of_decide_eq_true (by first | (with_reducible assumption) | assumption)
        have q4 : x3_1 < (a0.size : Int) := of_decide_eq_true (by first | (with_reducible assumption) | assumption)
        have hx4 := bt_at a0 x3_1
        replace p4 := eq_true p4
        replace q4 := eq_true q4
        go_wp2
        go_ret
        exact ⟨by first | rfl | (simp; done) | (simp [*]; done) | (simp [zc]; done) | (simp [zc, *]; done), by repeat (first | exact zk.refl _ | apply zk.step)⟩
      ·rw [if_neg c9] at H
       have c9b0 : decide (65 ≤ (bt a0 x3_1)) = false := decide_eq_false c9
       clear c9
       obtain rfl := Option.some.inj H
       have p4 : 0 ≤ (x3_1 : Int) := of_decide_eq_true (by first | (with_reducible assumption) | assumption)
       have q4 : x3_1 < (a0.size : Int) := of_decide_eq_true (by first | (with_reducible assumption) | assumption)
       have hx4 := bt_at a0 x3_1
       replace p4 := eq_true p4
       replace q4 := eq_true q4
       go_wp2
       go_ret
       exact ⟨by first | rfl | (simp; done) | (simp [*]; done) | (simp [zc]; done) | (simp [zc, *]; done), by repeat (first | exact zk.refl _ | apply zk.step)⟩
    ·rw [if_neg c3] at H
     exact absurd H (by simp)
   ·rw [if_neg c2] at H
    have c2b0 : decide (x3_1 < (a0.size : Int)) = false := decide_eq_false c2
    clear c2
    obtain rfl := Option.some.inj H
    go_wp2
    go_ret
    exact ⟨by first | rfl | (simp; done) | (simp [*]; done) | (simp [zc]; done) | (simp [zc, *]; done), by repeat (first | exact zk.refl _ | apply zk.step)⟩
end Go.Proofs.YtlijjnjpomnphaaGreatDoor.Q
end
section
namespace Go.Proofs.YtlijjnjpomnphaaGreatDoor.V
open Go.RowKit YtlijjnjpomnphaaGreatDoor.Q YtlijjnjpomnphaaGreatDoorG YtlijjnjpomnphaaGreatDoorY YtlijjnjpomnphaaGreatDoorP YtlijjnjpomnphaaGreatDoorH YtlijjnjpomnphaaGreatDoorB YtlijjnjpomnphaaGreatDoorM YtlijjnjpomnphaaGreatDoorW.PrintWords YtlijjnjpomnphaaGreatDoorW.PrintLast
theorem rd_nat (l : List Int) (i : Nat) : rd l (i : Int) = l.getD i 0 := by simp [rd]
theorem intOf_l2 (m : List Int) (hm : m.length ≤ 1000000) : ∀ (n k : Nat), m.length - k = n → k ≤ m.length →
  Ev (fun q => zcb.l2 q m (zmd m.length (m.take k)) (k : Int)) (false, strOfNums m.reverse) := by
 intro n
 induction n with
 | zero =>
  intro k hn hk
  obtain rfl : k = m.length := by omega
  refine Ev.succ ?_
  simp only [zcb.l2]
  refine Ev.neg (fun _ => by first | omega | assumption | nofun) ?_
  refine Ev.eq (Ev.now _) ?_
  rw [List.take_length, zmh _ rfl]
 | succ n ih =>
  intro k hn hk
  have hlt : k < m.length := by omega
  have htl : (m.take k).length = k := by rw [List.length_take]; omega
  have hcl : (zmd m.length (m.take k)).length = m.length := content_len (by omega)
  refine Ev.succ ?_
  simp only [zcb.l2, rd_nat]
  refine Ev.pos (fun _ => by first | omega | trivial | assumption) ?_
  refine Ev.pos (fun _ => by first | omega | trivial | assumption) ?_
  rw [w64 (i := (m.length : Int) - 1) (by omega) (by omega), w64 (i := (m.length : Int) - 1 - (k : Int)) (by omega) (by omega), w64 (i := (k : Int) + 1) (by omega) (by omega)]
  refine Ev.pos (fun _ => by omega) ?_
  refine Ev.pos (fun _ => by rw [hcl]; omega) ?_
  have e1 : ((m.length : Int) - 1 - (k : Int)).toNat = m.length - (m.take k).length - 1 := by rw [htl]; omega
  rw [e1, zoh _ (by rw [htl]; exact hlt)]
  have e2 : m.take k ++ [m.getD k 0] = m.take (k + 1) := by
   rw [List.take_add_one, List.getElem?_eq_getElem hlt, List.getD_eq_getElem?_getD, List.getElem?_eq_getElem hlt]
   rfl
  rw [e2]
  exact ih (k + 1) (by omega) (by omega)
theorem intOf_l1 (s : ByteArray) (i : Int) {r : Bool × ByteArray} : ∀ (rest done : List Int) (c : Nat), Byt rest → c ≤ 300 → done.length + rest.length ≤ 1000000 →
  Ev (fun q => zcb.l1 q s (done ++ (mul10 rest c).1) i ((mul10 rest c).2 : Int) ((done.length + rest.length : Nat) : Int)) r → Ev (fun q => zcb.l1 q s (done ++ rest) i (c : Int) (done.length : Int)) r
 | [], done, c, _, _, _, h => by simpa [mul10] using h
 | x :: rest, done, c, hb, hc, hl, h => by
  have hx := hb.cons.1
  simp only [List.length_cons] at hl
  refine Ev.succ ?_
  simp only [zcb.l1, rd_nat]
  refine Ev.pos (fun _ => by rw [List.length_append, List.length_cons]; omega) ?_
  refine Ev.pos (fun _ => by omega) ?_
  have hg : (done ++ x :: rest).getD done.length 0 = x := by simp [List.getD_eq_getElem?_getD]
  rw [hg, w64 (i := x) (by omega) (by omega), w64 (i := 10 * x) (by omega) (by omega), w64 (i := (c : Int) + 10 * x) (by omega) (by omega), w64 (i := (done.length : Int) + 1) (by omega) (by omega), Int.toNat_natCast]
  have e0 : (c : Int) + 10 * x = ((c + 10 * x.toNat : Nat) : Int) := by omega
  have e1 : Int.tmod ((c : Int) + 10 * x) 256 % 256 = (((c + 10 * x.toNat) % 256 : Nat) : Int) := by
   rw [e0, Int.tmod_eq_emod_of_nonneg (by omega)]
   omega
  have e2 : wrap64 (Int.tdiv ((c : Int) + 10 * x) 256) = (((c + 10 * x.toNat) / 256 : Nat) : Int) := by
   rw [e0, Int.tdiv_eq_ediv_of_nonneg (by omega), w64 (by omega) (by omega)]
   omega
  rw [e1, e2]
  have e3 : (done ++ x :: rest).set done.length (((c + 10 * x.toNat) % 256 : Nat) : Int) = (done ++ [(((c + 10 * x.toNat) % 256 : Nat) : Int)]) ++ rest := by simp
  rw [e3]
  have ih := intOf_l1 s i (r := r) rest (done ++ [(((c + 10 * x.toNat) % 256 : Nat) : Int)]) ((c + 10 * x.toNat) / 256) hb.cons.2 (by omega) (by simp; omega)
  have e4 : ((done ++ [(((c + 10 * x.toNat) % 256 : Nat) : Int)]).length : Int) = (done.length : Int) + 1 := by simp
  rw [e4] at ih
  refine ih ?_
  simp only [mul10] at h
  have e5 : (((done ++ [(((c + 10 * x.toNat) % 256 : Nat) : Int)]).length + rest.length : Nat) : Int) = ((done.length + (x :: rest).length : Nat) : Int) := by simp; omega
  rw [e5, List.append_assoc]
  exact h
theorem pushD_len (m : List Int) (d : Nat) : (pushD m d).length ≤ m.length + 1 := by
 unfold pushD
 split
 ·simp [zkf]
 ·rw [zkf]; omega
theorem intOf_l0 (s : ByteArray) (hs : s.size ≤ 200000) (hd : ∀ c ∈ bytesOf s, isD c = true) : ∀ (n i : Nat) (m : List Int), s.size - i = n → i ≤ s.size → m.length ≤ i → Tight m (decL ((bytesOf s).take i)) →
  Ev (fun q => zcb.l0 q s m (i : Int)) (false, magB (decL (bytesOf s))) := by
 intro n
 induction n with
 | zero =>
  intro i m hn hi hm ht
  obtain rfl : i = s.size := by omega
  rw [List.take_of_length_le (by rw [bytesOf_length]; exact Nat.le_refl _)] at ht
  refine Ev.succ ?_
  simp only [zcb.l0]
  refine Ev.neg (fun _ => by first | omega | assumption | nofun) ?_
  refine Ev.pos (fun _ => by omega) ?_
  refine Ev.pos (fun _ => by omega) ?_
  have h := intOf_l2 m (by omega) _ 0 rfl (Nat.zero_le _)
  have e : zmd m.length (m.take 0) = List.replicate ((m.length : Int)).toNat 0 := by simp [zmd]
  rw [e] at h
  refine Ev.eq h ?_
  rw [ht.mag]
  rfl
 | succ n ih =>
  intro i m hn hi hm ht
  have hl : i < (bytesOf s).length := by rw [bytesOf_length]; omega
  have hc : isD ((bytesOf s).getD i 0) = true := hd _ (by rw [List.getD_eq_getElem?_getD, List.getElem?_eq_getElem hl]; exact List.getElem_mem hl)
  unfold isD at hc
  have hc2 := of_decide_eq_true hc
  obtain ⟨d, hdd⟩ : ∃ d, d = ((bytesOf s).getD i 0 - 48).toNat := ⟨_, rfl⟩
  refine Ev.succ ?_
  simp only [zcb.l0, zdd]
  refine Ev.pos (fun _ => by first | omega | trivial | assumption) ?_
  refine Ev.pos (fun _ => by first | omega | trivial | assumption) ?_
  have e1 : ((bytesOf s).getD i 0 - 48) % 256 = (d : Int) := by omega
  rw [e1]
  have htk : decL ((bytesOf s).take (i + 1)) = 10 * decL ((bytesOf s).take i) + d := by
   rw [List.take_add_one, List.getElem?_eq_getElem hl, hdd, List.getD_eq_getElem?_getD, List.getElem?_eq_getElem hl]
   exact decL_snoc _ _
  have hp : Tight (pushD m d) (decL ((bytesOf s).take (i + 1))) := by rw [htk]; exact push_tight ht (by omega)
  have hcar := zng m d ht.byt (by omega)
  have hpl := pushD_len m d
  have next := ih (i + 1) (pushD m d) (by omega) (by omega) (by omega) hp
  have h := intOf_l1 s (i : Int) (r := (false, magB (decL (bytesOf s)))) m [] d ht.byt (by omega) (by simp; omega)
  simp only [List.nil_append, List.length_nil, Nat.zero_add] at h
  refine h ?_
  refine Ev.succ ?_
  simp only [zcb.l1]
  refine Ev.neg (fun _ => by rw [zkf]; omega) ?_
  rw [w64 (i := (i : Int) + 1) (by omega) (by omega)]
  unfold pushD at next
  by_cases hq : (mul10 m d).2 > 0
  ·rw [if_pos hq] at next
   refine Ev.pos (fun _ => by omega) ?_
   refine Ev.pos (fun _ => by rw [zkf]; omega) ?_
   have e2 : ((mul10 m d).2 : Int) % 256 = ((mul10 m d).2 : Int) := by omega
   rw [e2]
   exact next
  ·rw [if_neg hq] at next
   refine Ev.neg (fun _ => by omega) ?_
   exact next
theorem intOf_ev (s : ByteArray) (hs : s.size ≤ 200000) (hd : ∀ c ∈ bytesOf s, isD c = true) : Ev (fun q => zcb.f q s) (false, magB (decL (bytesOf s))) :=
 intOf_l0 s hs hd _ 0 [] rfl (Nat.zero_le _) (Nat.le_refl _) ⟨fun x hx => by simp at hx, rfl, fun h => absurd rfl h⟩
def decD (n : Nat) : List Int := if n < 10 then [48 + (n : Int)] else decD (n / 10) ++ [48 + ((n % 10 : Nat) : Int)]
theorem zeg {n : Nat} (h : n < 10) : decD n = [48 + (n : Int)] := by rw [decD, if_pos h]
theorem decD_big {n : Nat} (h : ¬ n < 10) : decD n = decD (n / 10) ++ [48 + ((n % 10 : Nat) : Int)] := by rw [decD, if_neg h]
theorem decD_spec (n : Nat) : decD n ≠ [] ∧ (∀ c ∈ decD n, isD c = true) ∧ decL (decD n) = n := by
 induction n using Nat.strongRecOn with
 | ind n ih =>
  by_cases h : n < 10
  ·rw [zeg h]
   refine ⟨by simp, fun c hc => ?_, ?_⟩
   ·have e : c = 48 + (n : Int) := by simpa using hc
    rw [e]; unfold isD; apply decide_eq_true; omega
   ·simp [decL]; omega
  ·rw [decD_big h]
   obtain ⟨_, h2, h3⟩ := ih (n / 10) (by omega)
   refine ⟨by simp, fun c hc => ?_, ?_⟩
   ·rcases List.mem_append.1 hc with hc | hc
    ·exact h2 c hc
    ·have e : c = 48 + ((n % 10 : Nat) : Int) := by simpa using hc
     rw [e]; unfold isD; apply decide_eq_true; omega
   ·rw [decL_snoc, h3]; omega
theorem decD_len : ∀ (k n : Nat), n < 10 ^ (k + 1) → (decD n).length ≤ k + 1
 | 0, n, h => by rw [zeg (by simpa using h)]; simp
 | k + 1, n, h => by
  by_cases h0 : n < 10
  ·rw [zeg h0]; simp
  ·rw [decD_big h0]
   have := decD_len k (n / 10) (by rw [Nat.pow_succ] at h; omega)
   simp; omega
theorem wrap_u16 {x : Int} (h0 : 0 ≤ x) (h1 : x ≤ 65535) : IntKind.u16.wrap x = x := by
 simp [IntKind.wrap, IntKind.signed, IntKind.bits]
 omega
theorem decimal_from (n : Nat) : n ≤ 65535 → ∀ acc : ByteArray, acc.size + (decD n).length ≤ 1000 → ∃ r, Ev (fun k => zac.l0 k n acc) r ∧ bytesOf r = decD n ++ bytesOf acc := by
 induction n using Nat.strongRecOn with
 | ind n ih =>
  intro hn acc hacc
  have e1 : Int.tmod (n : Int) 10 = ((n % 10 : Nat) : Int) := by rw [Int.tmod_eq_emod_of_nonneg (by omega)]; omega
  have e2 : Int.tdiv (n : Int) 10 = ((n / 10 : Nat) : Int) := by rw [Int.tdiv_eq_ediv_of_nonneg (by omega)]; omega
  have e3 : IntKind.u16.wrap (48 + ((n % 10 : Nat) : Int)) = 48 + ((n % 10 : Nat) : Int) := wrap_u16 (by omega) (by omega)
  have e4 : IntKind.u16.wrap ((n / 10 : Nat) : Int) = ((n / 10 : Nat) : Int) := wrap_u16 (by omega) (by omega)
  have e5 : wrap32 (48 + ((n % 10 : Nat) : Int)) = 48 + ((n % 10 : Nat) : Int) := w32 (by omega) (by omega)
  have hb : bytesOf (Utf8.encode (48 + ((n % 10 : Nat) : Int))) = [48 + ((n % 10 : Nat) : Int)] := B_encode (by omega) (by omega)
  have hsz : (Utf8.encode (48 + ((n % 10 : Nat) : Int))).size = 1 := by rw [zre, hb]; rfl
  by_cases h : n < 10
  ·refine ⟨Utf8.encode (48 + ((n % 10 : Nat) : Int)) ++ acc, Ev.succ ?_, ?_⟩
   ·simp only [zac.l0, e1, e2, e3, e4, e5]
    refine Ev.pos (fun _ => by rw [hsz]; omega) ?_
    refine Ev.pos (fun _ => by omega) ?_
    exact Ev.now _
   ·rw [zcd, hb, zeg h, Nat.mod_eq_of_lt h]
  ·rw [decD_big h, List.length_append, List.length_singleton] at hacc
   have hs2 : (Utf8.encode (48 + ((n % 10 : Nat) : Int)) ++ acc).size = 1 + acc.size := by rw [ByteArray.size_append, hsz]
   obtain ⟨r, hr, h1⟩ := ih (n / 10) (by omega) (by omega) (Utf8.encode (48 + ((n % 10 : Nat) : Int)) ++ acc) (by omega)
   refine ⟨r, Ev.succ ?_, ?_⟩
   ·simp only [zac.l0, e1, e2, e3, e4, e5]
    refine Ev.pos (fun _ => by rw [hsz]; omega) ?_
    refine Ev.neg (fun _ => by omega) ?_
    exact hr
   ·rw [h1, zcd, hb, decD_big h, List.append_assoc]
def dec (a : Int) : List Int := decD a.toNat
theorem dec_isD (a : Int) : ∀ c ∈ dec a, isD c = true := (decD_spec _).2.1
theorem dec_ne (a : Int) : dec a ≠ [] := (decD_spec _).1
theorem dec_val (a : Int) : decL (dec a) = a.toNat := (decD_spec _).2.2
def U16 (a : Int) : Prop := 0 ≤ a ∧ a ≤ 65535
theorem u16_of {a : Int} (h : (Lit.int .u16 a).wf = true) : U16 a := by
 unfold U16
 simp [Lit.wf, IntKind.min, IntKind.max, IntKind.signed, IntKind.bits] at h
 omega
theorem zqg {a : Int} (h : U16 a) : (dec a).length ≤ 5 := by
 obtain ⟨h0, h1⟩ := h
 refine decD_len 4 _ ?_
 have e : (10 : Nat) ^ (4 + 1) = 100000 := by decide
 omega
theorem isD_byte {c : Int} (h : isD c = true) : 0 ≤ c ∧ c ≤ 255 := by
 unfold isD at h
 have := of_decide_eq_true h
 omega
theorem B_digits {l : List Int} (h : ∀ c ∈ l, isD c = true) : bytesOf (strOfNums l) = l := B_str (fun c hc => isD_byte (h c hc))
theorem decimal_ev {a : Int} (h : U16 a) : Ev (fun k => zac.f k a) (strOfNums (dec a)) := by
 have hl := zqg h
 obtain ⟨h0, h1⟩ := h
 have e0 : bytesOf (⟨#[]⟩ : ByteArray) = [] := rfl
 obtain ⟨r, hr, hb⟩ := decimal_from a.toNat (by omega) (⟨#[]⟩ : ByteArray) (by
  have e : (⟨#[]⟩ : ByteArray).size = 0 := rfl
  have : (decD a.toNat).length ≤ 5 := hl
  omega)
 rw [e0, List.append_nil] at hb
 have e1 : ((a.toNat : Nat) : Int) = a := by omega
 rw [e1] at hr
 refine Ev.eq hr ?_
 rw [← str_B r, hb]
 rfl
theorem dec_size {a : Int} (h : U16 a) : (strOfNums (dec a)).size ≤ 5 := by rw [zre, B_digits (dec_isD a)]; exact zqg h
theorem digit_eq (c : Int) : zod.f c = some (isD c) := by
 unfold zod.f isD
 by_cases h : c ≥ 48
 ·rw [if_pos h]; simp; omega
 ·rw [if_neg h]; simp; omega
theorem allDigits_from (s : ByteArray) (hs : s.size ≤ 2000000) (hd : ∀ c ∈ bytesOf s, isD c = true) (hp : 0 < s.size) : ∀ (n i : Nat), s.size - i = n → i ≤ s.size → Ev (fun k => zeb.l0 k s (i : Int)) true := by
 intro n
 induction n with
 | zero =>
  intro i hn hi
  refine Ev.succ ?_
  simp only [zeb.l0]
  refine Ev.neg (fun _ => by omega) ?_
  refine Ev.eq (Ev.now _) ?_
  exact decide_eq_true (by omega)
 | succ n ih =>
  intro i hn hi
  have hl : i < (bytesOf s).length := by rw [bytesOf_length]; omega
  refine Ev.succ ?_
  simp only [zeb.l0, zdd, digit_eq, Option.bind_some]
  refine Ev.pos (fun _ => by first | trivial | assumption | omega) ?_
  refine Ev.pos (fun _ => by first | trivial | assumption | omega) ?_
  refine Ev.pos (fun _ => hd _ (by rw [List.getD_eq_getElem?_getD, List.getElem?_eq_getElem hl]; exact List.getElem_mem hl)) ?_
  rw [w64 (by omega) (by omega)]
  exact ih (i + 1) (by omega) (by omega)
theorem number_ev (s : ByteArray) (hs : s.size ≤ 200000) (hd : ∀ c ∈ bytesOf s, isD c = true) (hp : 0 < s.size) : Ev (fun k => zne.f k s) (false, magB (decL (bytesOf s))) := by
 have hl : 0 < (bytesOf s).length := by rw [bytesOf_length]; exact hp
 have hc : isD ((bytesOf s).getD 0 0) = true := hd _ (by rw [List.getD_eq_getElem?_getD, List.getElem?_eq_getElem hl]; exact List.getElem_mem hl)
 unfold isD at hc
 have hc2 := of_decide_eq_true hc
 simp only [zne.f, ztd.f, zkb.f]
 refine Ev.bind (a := (false, magB (decL (bytesOf s)), true)) ?_ (Ev.now _)
 refine Ev.bind (a := (false, magB (decL (bytesOf s)), true)) ?_ (Ev.now _)
 refine Ev.pos (fun _ => by omega) ?_
 refine Ev.pos (fun _ => by omega) ?_
 rw [bt_zero]
 refine Ev.neg (fun _ => by omega) ?_
 have e : ((bytesOf s).getD 0 0 == 45) = false := by rw [beq_eq_false_iff_ne]; omega
 rw [e]
 refine Ev.succ ?_
 simp only [zkb.j0]
 refine Ev.neg (fun _ => Bool.false_ne_true) ?_
 refine Ev.succ ?_
 simp only [zkb.j1]
 have h := allDigits_from s (by omega) hd hp _ 0 rfl (Nat.zero_le _)
 refine Ev.bind (a := true) (by simpa [zeb.f] using h) ?_
 refine Ev.pos (fun _ => by first | rfl | trivial) ?_
 refine Ev.bind (intOf_ev s hs hd) ?_
 refine Ev.neg (fun _ => Bool.false_ne_true) ?_
 exact Ev.now _
theorem number_dec {a : Int} (h : U16 a) : Ev (fun k => zne.f k (strOfNums (dec a))) (false, magB a.toNat) := by
 have hs := dec_size h
 have hb := B_digits (dec_isD a)
 have := number_ev (strOfNums (dec a)) (by omega) (by rw [hb]; exact dec_isD a) (by rw [zre, hb]; exact List.length_pos_iff.2 (dec_ne a))
 rw [hb, dec_val] at this
 exact this
def isW (c : Int) : Bool := decide (97 ≤ c ∧ c ≤ 122 ∨ 65 ≤ c ∧ c ≤ 90)
theorem words_from (s : ByteArray) (hs : s.size ≤ 2000000000) : ∀ (n i : Nat), s.size - i = n → i ≤ s.size →
  Ev (fun k => zfc.l0 k s i) (((bytesOf s).drop i).all isW && decide (bytesOf s ≠ [])) := by
 intro n
 induction n with
 | zero =>
  intro i hn hi
  refine Ev.succ ?_
  simp only [zfc.l0]
  refine Ev.neg (fun _ => by first | omega | assumption | nofun) ?_
  refine Ev.eq (Ev.now _) ?_
  rw [List.drop_of_length_le (by rw [bytesOf_length]; omega)]
  have e : (s.toList != ([] : List UInt8)) = decide (bytesOf s ≠ []) := by
   rw [zc]
   have := zgc s
   by_cases h : s.toList = []
   ·simp [h, this.1 h]
   ·have h2 : bytesOf s ≠ [] := fun h2 => h (this.2 h2)
    simp [h, h2]
  simp [e]
 | succ n ih =>
  intro i hn hi
  have hl : i < (bytesOf s).length := by rw [bytesOf_length]; omega
  have hne : bytesOf s ≠ [] := fun h => by rw [h] at hl; simp at hl
  refine Ev.succ ?_
  simp only [zfc.l0, zdd]
  rw [zkc _ _ hl]
  refine Ev.pos (fun _ => by first | omega | trivial | assumption) ?_
  refine Ev.pos (fun _ => by first | omega | trivial | assumption) ?_
  cases h : isW ((bytesOf s).getD i 0)
  ·have h2 : ¬ (97 ≤ (bytesOf s).getD i 0 ∧ (bytesOf s).getD i 0 ≤ 122 ∨ 65 ≤ (bytesOf s).getD i 0 ∧ (bytesOf s).getD i 0 ≤ 90) := of_decide_eq_false h
   have e : (((bytesOf s).getD i 0 :: (bytesOf s).drop (i + 1)).all isW && decide (bytesOf s ≠ [])) = false := by
    rw [List.all_cons, h]; simp only [Bool.false_and, Bool.true_and]
   rw [e]
   by_cases h3 : (bytesOf s).getD i 0 ≥ 97
   ·refine Ev.pos (fun _ => by first | omega | trivial | assumption) ?_
    refine Ev.neg (fun _ => by first | omega | assumption | nofun) ?_
    refine Ev.pos (fun _ => by first | omega | trivial | assumption) ?_
    refine Ev.neg (fun _ => by first | omega | assumption | nofun) ?_
    exact Ev.now _
   ·refine Ev.neg (fun _ => by first | omega | assumption | nofun) ?_
    by_cases h4 : (bytesOf s).getD i 0 ≥ 65
    ·refine Ev.pos (fun _ => by first | omega | trivial | assumption) ?_
     refine Ev.neg (fun _ => by first | omega | assumption | nofun) ?_
     exact Ev.now _
    ·refine Ev.neg (fun _ => by first | omega | assumption | nofun) ?_
     exact Ev.now _
  ·have h2 : 97 ≤ (bytesOf s).getD i 0 ∧ (bytesOf s).getD i 0 ≤ 122 ∨ 65 ≤ (bytesOf s).getD i 0 ∧ (bytesOf s).getD i 0 ≤ 90 := of_decide_eq_true h
   have e : (((bytesOf s).getD i 0 :: (bytesOf s).drop (i + 1)).all isW && decide (bytesOf s ≠ [])) = (((bytesOf s).drop (i + 1)).all isW && decide (bytesOf s ≠ [])) := by
    rw [List.all_cons, h]; simp only [Bool.false_and, Bool.true_and]
   rw [e]
   have hr := ih (i + 1) (by omega) (by omega)
   rw [w64 (by omega) (by omega)]
   rcases h2 with h2 | h2
   ·refine Ev.pos (fun _ => by first | omega | trivial | assumption) ?_
    refine Ev.pos (fun _ => by first | omega | trivial | assumption) ?_
    exact hr
   ·refine Ev.neg (fun _ => by first | omega | assumption | nofun) ?_
    refine Ev.pos (fun _ => by first | omega | trivial | assumption) ?_
    refine Ev.pos (fun _ => by first | omega | trivial | assumption) ?_
    exact hr
theorem words_ev (s : ByteArray) (hs : s.size ≤ 2000000000) : Ev (fun k => zfc.f k s) ((bytesOf s).all isW && decide (bytesOf s ≠ [])) := by
 have h := words_from s hs _ 0 rfl (Nat.zero_le _)
 simpa [zfc.f] using h
theorem zlg (s : ByteArray) (hs : s.size ≤ 2000000000) : ∀ (n i : Nat), s.size - i = n → i ≤ s.size →
  Ev (fun k => zdc.l0 k s i) (((bytesOf s).drop i).all isD && decide (bytesOf s ≠ [])) := by
 intro n
 induction n with
 | zero =>
  intro i hn hi
  refine Ev.succ ?_
  simp only [zdc.l0]
  refine Ev.neg (fun _ => by first | omega | assumption | nofun) ?_
  refine Ev.eq (Ev.now _) ?_
  rw [List.drop_of_length_le (by rw [bytesOf_length]; omega)]
  have e : (s.toList != ([] : List UInt8)) = decide (bytesOf s ≠ []) := by
   rw [zc]
   have := zgc s
   by_cases h : s.toList = []
   ·simp [h, this.1 h]
   ·have h2 : bytesOf s ≠ [] := fun h2 => h (this.2 h2)
    simp [h, h2]
  simp [e]
 | succ n ih =>
  intro i hn hi
  have hl : i < (bytesOf s).length := by rw [bytesOf_length]; omega
  refine Ev.succ ?_
  simp only [zdc.l0, zdd]
  rw [zkc _ _ hl]
  refine Ev.pos (fun _ => by first | omega | trivial | assumption) ?_
  refine Ev.pos (fun _ => by first | omega | trivial | assumption) ?_
  cases h : isD ((bytesOf s).getD i 0)
  ·have h2 : ¬ (48 ≤ (bytesOf s).getD i 0 ∧ (bytesOf s).getD i 0 ≤ 57) := of_decide_eq_false h
   have e : (((bytesOf s).getD i 0 :: (bytesOf s).drop (i + 1)).all isD && decide (bytesOf s ≠ [])) = false := by
    rw [List.all_cons, h]; simp only [Bool.false_and, Bool.true_and]
   rw [e]
   by_cases h3 : (bytesOf s).getD i 0 < 48
   ·refine Ev.pos (fun _ => by first | omega | trivial | assumption) ?_
    exact Ev.now _
   ·refine Ev.neg (fun _ => by first | omega | assumption | nofun) ?_
    refine Ev.pos (fun _ => by first | omega | trivial | assumption) ?_
    exact Ev.now _
  ·have h2 : 48 ≤ (bytesOf s).getD i 0 ∧ (bytesOf s).getD i 0 ≤ 57 := of_decide_eq_true h
   have e : (((bytesOf s).getD i 0 :: (bytesOf s).drop (i + 1)).all isD && decide (bytesOf s ≠ [])) = (((bytesOf s).drop (i + 1)).all isD && decide (bytesOf s ≠ [])) := by
    rw [List.all_cons, h]; simp only [Bool.false_and, Bool.true_and]
   rw [e]
   refine Ev.neg (fun _ => by first | omega | assumption | nofun) ?_
   refine Ev.neg (fun _ => by first | omega | assumption | nofun) ?_
   rw [w64 (by omega) (by omega)]
   exact ih (i + 1) (by omega) (by omega)
theorem zpe (s : ByteArray) (hs : s.size ≤ 2000000000) : Ev (fun k => zdc.f k s) ((bytesOf s).all isD && decide (bytesOf s ≠ [])) := by
 have h := zlg s hs _ 0 rfl (Nat.zero_le _)
 simpa [zdc.f] using h
theorem short_from (l : List ByteArray) (hl : l.length ≤ 2147483647) : ∀ (n i : Nat), l.length - i = n → i ≤ l.length →
  Ev (fun k => zlc.l0 k l l l.length i) (decide (∀ w ∈ l.drop i, w.size ≤ 1200) && decide (l.length ≤ 60)) := by
 intro n
 induction n with
 | zero =>
  intro i hn hi
  refine Ev.succ ?_
  simp only [zlc.l0]
  refine Ev.neg (fun _ => by first | omega | assumption | nofun) ?_
  refine Ev.eq (Ev.now _) ?_
  rw [List.drop_of_length_le (by omega)]
  have e : decide ((l.length : Int) ≤ 60) = decide (l.length ≤ 60) := by rw [decide_eq_decide]; omega
  simp [e]
 | succ n ih =>
  intro i hn hi
  have hil : i < l.length := by omega
  refine Ev.succ ?_
  simp only [zlc.l0]
  rw [drop_rd hil]
  refine Ev.pos (fun _ => by first | omega | trivial | assumption) ?_
  refine Ev.pos (fun _ => by first | omega | trivial | assumption) ?_
  refine Ev.pos (fun _ => by first | omega | trivial | assumption) ?_
  by_cases h : (rdOf ByteArray.empty l i).size ≤ 1200
  ·refine Ev.neg (fun _ => by first | omega | assumption | nofun) ?_
   rw [w64 (by omega) (by omega)]
   refine Ev.eq (ih (i + 1) (by omega) (by omega)) ?_
   simp [h]
  ·refine Ev.pos (fun _ => by first | omega | trivial | assumption) ?_
   refine Ev.eq (Ev.now _) ?_
   symm
   rw [Bool.and_eq_false_iff]
   left
   rw [decide_eq_false_iff_not]
   exact fun hx => h (hx _ List.mem_cons_self)
theorem short_ev (l : List ByteArray) (hl : l.length ≤ 2147483647) : Ev (fun k => zlc.f k l) (decide (∀ w ∈ l, w.size ≤ 1200) && decide (l.length ≤ 60)) := by
 have h := short_from l hl _ 0 rfl (Nat.zero_le _)
 simpa [zlc.f] using h
theorem fits_from (l : List ByteArray) (hl : l.length ≤ 2147483647) : ∀ (n i : Nat), l.length - i = n → i ≤ l.length →
  ∃ b, Ev (fun k => zob.l0 k l l.length i) b := by
 intro n
 induction n with
 | zero =>
  intro i hn hi
  refine ⟨true, Ev.succ ?_⟩
  simp only [zob.l0]
  refine Ev.neg (fun _ => by first | omega | assumption | nofun) ?_
  exact Ev.now _
 | succ n ih =>
  intro i hn hi
  obtain ⟨b, hb⟩ := ih (i + 1) (by omega) (by omega)
  by_cases h : ((rdOf ByteArray.empty l i).size : Int) > 2147483647
  ·refine ⟨false, Ev.succ ?_⟩
   simp only [zob.l0]
   refine Ev.pos (fun _ => by first | omega | trivial | assumption) ?_
   refine Ev.pos (fun _ => by first | omega | trivial | assumption) ?_
   refine Ev.pos (fun _ => by first | omega | trivial | assumption) ?_
   refine Ev.pos (fun _ => by first | omega | trivial | assumption) ?_
   exact Ev.now _
  ·refine ⟨b, Ev.succ ?_⟩
   simp only [zob.l0]
   refine Ev.pos (fun _ => by first | omega | trivial | assumption) ?_
   refine Ev.pos (fun _ => by first | omega | trivial | assumption) ?_
   refine Ev.pos (fun _ => by first | omega | trivial | assumption) ?_
   refine Ev.neg (fun _ => by first | omega | assumption | nofun) ?_
   rw [w64 (by omega) (by omega)]
   exact hb
theorem fits_ev (l : List ByteArray) : ∃ b, Ev (fun k => zob.f k l) b ∧ (b = true → l.length ≤ 2147483647) := by
 by_cases h : (l.length : Int) > 2147483647
 ·refine ⟨false, ?_, nofun⟩
  simp only [zob.f]
  refine Ev.pos (fun _ => by first | omega | trivial | assumption) ?_
  exact Ev.now _
 ·obtain ⟨b, hb⟩ := fits_from l (by omega) _ 0 rfl (Nat.zero_le _)
  refine ⟨b, ?_, fun _ => by omega⟩
  simp only [zob.f]
  refine Ev.neg (fun _ => by first | omega | assumption | nofun) ?_
  exact hb
theorem isW_byte {c : Int} (h : isW c = true) : 65 ≤ c ∧ c ≤ 122 := by
 simp only [isW, decide_eq_true_eq] at h
 omega
def wordB (l : List Int) : Bool := decide (l ≠ []) && (l.all isD || l.all isW)
theorem wordB_ascii {l : List Int} (h : wordB l = true) : ∀ x ∈ l, 0 ≤ x ∧ x ≤ 127 := by
 intro x hx
 unfold wordB at h
 rw [Bool.and_eq_true, Bool.or_eq_true] at h
 rcases h.2 with h | h
 ·have := List.all_eq_true.1 h x hx
  simp only [isD, decide_eq_true_eq] at this
  omega
 ·have := isW_byte (List.all_eq_true.1 h x hx)
  omega
theorem wordB_good {l : List Int} (h : wordB l = true) : GoodW (l.map low) := by
 unfold wordB at h
 rw [Bool.and_eq_true, Bool.or_eq_true, decide_eq_true_eq] at h
 unfold GoodW goodW
 rw [Bool.and_eq_true, decide_eq_true_eq]
 refine ⟨fun e => h.1 (List.map_eq_nil_iff.1 e), List.all_eq_true.2 (fun c hc => ?_)⟩
 obtain ⟨x, hx, rfl⟩ := List.mem_map.1 hc
 unfold isAn
 rcases h.2 with h | h
 ·have := List.all_eq_true.1 h x hx
  simp only [isD, decide_eq_true_eq] at this
  rw [Bool.or_eq_true]
  left
  unfold low isD
  rw [if_neg (by omega)]
  exact decide_eq_true this
 ·have := List.all_eq_true.1 h x hx
  simp only [isW, decide_eq_true_eq] at this
  rw [Bool.or_eq_true]
  right
  unfold low isL
  split
  ·exact decide_eq_true (by omega)
  ·exact decide_eq_true (by omega)
theorem small_from (s : ByteArray) (hs : s.size ≤ 2000000000) (ha : ∀ c ∈ bytesOf s, 0 ≤ c ∧ c ≤ 127) : ∀ (n i : Nat) (acc : ByteArray), s.size - i = n → i ≤ s.size → bytesOf acc = ((bytesOf s).take i).map low →
  Ev (fun k => zxb.l0 k s acc i) (strOfNums ((bytesOf s).map low)) := by
 intro n
 induction n with
 | zero =>
  intro i acc hn hi hacc
  refine Ev.succ ?_
  simp only [zxb.l0]
  refine Ev.neg (fun _ => by first | omega | assumption | nofun) ?_
  refine Ev.eq (Ev.now _) ?_
  rw [List.take_of_length_le (by rw [bytesOf_length]; omega)] at hacc
  rw [← hacc, str_B]
 | succ n ih =>
  intro i acc hn hi hacc
  have hl : i < (bytesOf s).length := by rw [bytesOf_length]; omega
  have hz : acc.size = i := by rw [zre, hacc, List.length_map, List.length_take]; omega
  have hm : (bytesOf s).getD i 0 ∈ bytesOf s := by
   rw [List.getD_eq_getElem?_getD, List.getElem?_eq_getElem hl]
   exact List.getElem_mem hl
  have hr := ha _ hm
  have htk : (bytesOf s).take (i + 1) = (bytesOf s).take i ++ [(bytesOf s).getD i 0] := by
   rw [List.take_add_one, List.getElem?_eq_getElem hl, List.getD_eq_getElem?_getD, List.getElem?_eq_getElem hl]
   rfl
  obtain ⟨c, hc⟩ : ∃ c, c = (bytesOf s).getD i 0 := ⟨_, rfl⟩
  rw [← hc] at hr htk
  have next : ∀ (e : ByteArray), bytesOf e = [low c] → Ev (fun k => zxb.l0 k s (acc ++ e) ((i : Int) + 1)) (strOfNums ((bytesOf s).map low)) := by
   intro e he
   refine ih (i + 1) _ (by omega) (by omega) ?_
   rw [zcd, hacc, he, htk, List.map_append]
   rfl
  have other : ¬ (65 ≤ c ∧ c ≤ 90) → (acc.size + (Utf8.encode (wrap32 c)).size ≤ 9223372036854775807) ∧ Ev (fun k => zxb.l0 k s (acc ++ Utf8.encode (wrap32 c)) ((i : Int) + 1)) (strOfNums ((bytesOf s).map low)) := by
   intro h
   have e0 : wrap32 c = c := w32 (by omega) (by omega)
   have e1 := B_encode (c := c) hr.1 (by omega)
   rw [e0]
   refine ⟨by rw [zre (Utf8.encode c), e1, hz]; show i + 1 ≤ _; omega, next _ ?_⟩
   rw [e1]
   unfold low
   rw [if_neg h]
  refine Ev.succ ?_
  simp only [zxb.l0, zdd]
  rw [← hc, w64 (i := (i : Int) + 1) (by omega) (by omega)]
  refine Ev.pos (fun _ => by first | omega | trivial | assumption) ?_
  refine Ev.pos (fun _ => by first | omega | trivial | assumption) ?_
  by_cases h1 : c ≥ 65
  ·refine Ev.pos (fun _ => h1) ?_
   by_cases h2 : c ≤ 90
   ·refine Ev.pos (fun _ => h2) ?_
    have e0 : (c + 32) % 256 = c + 32 := by omega
    have e1 := B_encode (c := c + 32) (by omega) (by omega)
    rw [e0]
    refine Ev.pos (fun _ => by rw [zre (Utf8.encode (c + 32)), e1, hz]; show i + 1 ≤ _; omega) ?_
    refine next _ ?_
    rw [e1]
    unfold low
    rw [if_pos ⟨h1, h2⟩]
   ·refine Ev.neg (fun _ => h2) ?_
    obtain ⟨o1, o2⟩ := other (fun h => h2 h.2)
    exact Ev.pos (fun _ => o1) o2
  ·refine Ev.neg (fun _ => h1) ?_
   obtain ⟨o1, o2⟩ := other (fun h => h1 h.1)
   exact Ev.pos (fun _ => o1) o2
theorem small_ev (s : ByteArray) (hs : s.size ≤ 2000000000) (ha : ∀ c ∈ bytesOf s, 0 ≤ c ∧ c ≤ 127) : Ev (fun k => zxb.f k s) (strOfNums ((bytesOf s).map low)) := by
 have h := small_from s hs ha _ 0 (⟨#[]⟩ : ByteArray) rfl (Nat.zero_le _) rfl
 simpa [zxb.f] using h
end Go.Proofs.YtlijjnjpomnphaaGreatDoor.V
end
section
namespace Go.Proofs.YtlijjnjpomnphaaGreatDoorG
open Go.RowKit YtlijjnjpomnphaaGreatDoorH YtlijjnjpomnphaaGreatDoorB YtlijjnjpomnphaaGreatDoorM YtlijjnjpomnphaaGreatDoor.Q
def magO : Option (ByteArray × Nat) → ByteArray
 | none => ⟨#[]⟩
 | some p => magB p.2
abbrev ToldT := Bool × ByteArray × List S29 × Bool × ByteArray × Bool × ByteArray × Bool × ByteArray × Bool × ByteArray × Bool × ByteArray × Bool × ByteArray × List ByteArray × List ByteArray × Bool
def toldY (x : YV) : ToldT := (decide (x.leg ≠ []), magB (if x.leg = [] then x.ep else 1), x.rel.map (fun n => ⟨false, magB n⟩), x.pre.isSome, letB x.pre, false, magO x.pre, x.post.isSome, letB x.post, false, magO x.post, x.dev.isSome, letB x.dev, false, magO x.dev, x.loc, x.leg, true)
end Go.Proofs.YtlijjnjpomnphaaGreatDoorG
end
section
namespace Go.Proofs.YtlijjnjpomnphaaGreatDoor.V
open Go.RowKit YtlijjnjpomnphaaGreatDoor.Q YtlijjnjpomnphaaGreatDoorG YtlijjnjpomnphaaGreatDoorY YtlijjnjpomnphaaGreatDoorP YtlijjnjpomnphaaGreatDoorH YtlijjnjpomnphaaGreatDoorB YtlijjnjpomnphaaGreatDoorM YtlijjnjpomnphaaGreatDoorW.PrintWords YtlijjnjpomnphaaGreatDoorW.PrintLast
theorem zvd (s t : ByteArray) : (s ++ t).size = s.size + t.size := ByteArray.size_append
def epO (e : Int) : Option (List Int) := if e > 0 then some (dec e) else none
def kindW (k : Int) : List Int := if k = 1 then [97] else if k = 2 then [98] else wRc
def preO (k n : Int) : Option (List Int × List Int) := if Int.tmod k 4 > 0 then some (kindW (Int.tmod k 4), dec n) else none
def numO (b : Bool) (n : Int) : Option (List Int) := if b = true then some (dec n) else none
def sP (e : Int) (ns : List Int) (k a b c : Int) (hp hd : Bool) (L : List (List Int)) : Parts := ⟨epO e, ns.map dec, preO k a, numO hp b, numO hd c, L⟩
def lows (l : List ByteArray) : List (List Int) := l.map fun w => (bytesOf w).map low
def tOk (ns : List Int) (l : List ByteArray) : Prop := ns ≠ [] ∧ ns.length ≤ 60 ∧ l.length ≤ 60 ∧ (∀ w ∈ l, w.size ≤ 1200) ∧ ∀ w ∈ l, wordB (bytesOf w) = true
instance (ns : List Int) (l : List ByteArray) : Decidable (tOk ns l) := inferInstanceAs (Decidable (ns ≠ [] ∧ ns.length ≤ 60 ∧ l.length ≤ 60 ∧ (∀ w ∈ l, w.size ≤ 1200) ∧ ∀ w ∈ l, wordB (bytesOf w) = true))
abbrev TextT := ByteArray × ToldT
def failT : TextT := (⟨#[]⟩, false, ⟨#[]⟩, [], false, ⟨#[]⟩, false, ⟨#[]⟩, false, ⟨#[]⟩, false, ⟨#[]⟩, false, ⟨#[]⟩, false, ⟨#[]⟩, [], [], false)
def zye (e : Int) (ns : List Int) (k a b c : Int) (hp hd : Bool) (l : List ByteArray) : List Int := (sP e ns k a b c hp hd (l.map bytesOf)).text
def stageV (e : Int) (ns : List Int) (k a b c : Int) (hp hd : Bool) (l : List ByteArray) : YV := valP (sP e ns k a b c hp hd (lows l)).told
def wordL (l : List ByteArray) : List ByteArray := l.map fun w => strOfNums ((bytesOf w).map low)
theorem zdg (w : List Int) : ∀ ws : List (List Int), joinW (w :: ws) = w ++ ws.flatMap (fun x => 46 :: x)
 | [] => by simp [joinW]
 | v :: ws => by simp only [joinW, zdg v ws, List.flatMap_cons, List.cons_append]
def hasL (o : Option (List Int)) (w : List Int) : Option (ByteArray × Nat) := o.map fun d => toldL (w, d)
def hasP (o : Option (List Int × List Int)) : Option (ByteArray × Nat) := o.map toldL
theorem kind_cases {k : Int} (h0 : 0 ≤ k) : Int.tmod k 4 = 0 ∨ Int.tmod k 4 = 1 ∨ Int.tmod k 4 = 2 ∨ Int.tmod k 4 = 3 := by
 rw [Int.tmod_eq_emod_of_nonneg h0]; omega
def intsN (ds : List Int) : List S29 := ds.map fun d => ⟨false, magB d.toNat⟩
theorem relT_cons (d : List Int) : ∀ ds : List (List Int), relT (d :: ds) = d ++ ds.flatMap (fun x => 46 :: x)
 | [] => by simp [relT]
 | v :: ds => by simp only [relT, relT_cons v ds, List.flatMap_cons, List.cons_append]
section
variable {e : Int} {ns : List Int} {k a b c : Int} {hp hd : Bool} {l : List ByteArray}
theorem zch (x : Int) : Digs (dec x) := ⟨dec_ne x, dec_isD x⟩
theorem sP_ok {L : List (List Int)} (hns : ns ≠ []) (hL : ∀ w ∈ L, GoodW w) : (sP e ns k a b c hp hd L).Ok := by
 refine ⟨fun x h => ?_, ⟨fun h => hns (List.map_eq_nil_iff.1 h), fun x h => ?_⟩, fun x h => ?_, fun x h => ?_, fun x h => ?_, hL⟩
 ·have h2 : epO e = some x := h
  unfold epO at h2
  split at h2
  ·cases h2; exact zch e
  ·cases h2
 ·obtain ⟨y, _, rfl⟩ := List.mem_map.1 h
  exact zch y
 ·have h2 : preO k a = some x := h
  unfold preO at h2
  split at h2
  ·cases h2
   refine ⟨zch a, ?_⟩
   unfold kindW
   split
   ·simp
   ·split <;> simp
  ·cases h2
 ·have h2 : numO hp b = some x := h
  unfold numO at h2
  split at h2
  ·cases h2; exact zch b
  ·cases h2
 ·have h2 : numO hd c = some x := h
  unfold numO at h2
  split at h2
  ·cases h2; exact zch c
  ·cases h2
theorem zbg (hw : ∀ w ∈ l, wordB (bytesOf w) = true) : ∀ w ∈ lows l, GoodW w := by
 intro w h
 obtain ⟨x, hx, rfl⟩ := List.mem_map.1 h
 exact wordB_good (hw x hx)
theorem sP_told (he : 0 ≤ e) (hok : (sP e ns k a b c hp hd (lows l)).Ok) : toldY (stageV e ns k a b c hp hd l) = (false, magB e.toNat, intsN ns, (preO k a).isSome, letB (hasP (preO k a)), false, magO (hasP (preO k a)), (numO hp b).isSome, letB (hasL (numO hp b) wPost), false, magO (hasL (numO hp b) wPost), (numO hd c).isSome, letB (hasL (numO hd c) wDev), false, magO (hasL (numO hd c) wDev), if l = [] then [⟨#[]⟩] else wordL l, [], true) := by
 have e1 : decL ((epO e).getD []) = e.toNat := by
  unfold epO
  split
  ·exact dec_val e
  ·show 0 = _; omega
 have e2 : ((ns.map dec).map decL).map (fun n => (⟨false, magB n⟩ : S29)) = intsN ns := by
  rw [List.map_map, List.map_map]
  refine List.map_congr_left (fun x _ => ?_)
  show (⟨false, magB (decL (dec x))⟩ : S29) = _
  rw [dec_val]
 have e3 : (if lows l = [] then [[]] else lows l).map strOfNums = if l = [] then [(⟨#[]⟩ : ByteArray)] else wordL l := by
  cases l with
  | nil => rfl
  | cons x l =>
   rw [if_neg (by simp [lows]), if_neg (by simp)]
   unfold lows wordL
   rw [List.map_map]
   rfl
 unfold stageV
 rw [told_val hok]
 unfold toldY sP
 simp only [ne_eq, not_true_eq_false, decide_false, if_true, Option.isSome_map, e1, e2, e3]
 rfl
end
theorem map_flat (f : Int → Int) (h46 : f 46 = 46) : ∀ ws : List (List Int), (ws.flatMap fun x => 46 :: x).map f = (ws.map (List.map f)).flatMap fun x => 46 :: x
 | [] => rfl
 | w :: ws => by simp only [List.flatMap_cons, List.map_append, List.map_cons, h46, map_flat f h46 ws]
theorem locT_low (ws : List (List Int)) : (locT ws).map low = locT (ws.map (List.map low)) := by
 cases ws with
 | nil => rfl
 | cons w ws =>
  simp only [locT, zdg, List.map_cons, List.map_append, map_flat low (by decide)]
  rfl
theorem stage_low (e : Int) (ns : List Int) (k a b c : Int) (hp hd : Bool) (l : List ByteArray) (hok : (sP e ns k a b c hp hd (lows l)).Ok) : (zye e ns k a b c hp hd l).map low = (sP e ns k a b c hp hd (lows l)).text := by
 have h := (Lw.text hok).id
 unfold zye Parts.text
 unfold Parts.text at h
 simp only [List.map_append] at h ⊢
 show (epT (epO e)).map low ++ ((relT (ns.map dec)).map low ++ ((preT (preO k a)).map low ++ ((postT (numO hp b)).map low ++ ((devT (numO hd c)).map low ++ (locT (l.map bytesOf)).map low)))) = _
 rw [locT_low]
 have e1 : (l.map bytesOf).map (List.map low) = lows l := by rw [List.map_map]; rfl
 rw [e1]
 refine Eq.trans ?_ h
 have e2 : (locT (lows l)).map low = locT (lows l) := by
  refine Lw.id ?_
  cases hL : lows l with
  | nil => exact Lw.nil
  | cons w ws => exact Lw.cons (by decide) (Lw.joinW (fun x hx => hok.loc x (by show x ∈ lows l; rw [hL]; exact hx)))
 show _ = (epT (epO e)).map low ++ ((relT (ns.map dec)).map low ++ ((preT (preO k a)).map low ++ ((postT (numO hp b)).map low ++ ((devT (numO hd c)).map low ++ (locT (lows l)).map low))))
 rw [e2]
theorem stage_val {e : Int} {ns : List Int} {k a b c : Int} {hp hd : Bool} {l : List ByteArray} (hok : (sP e ns k a b c hp hd (lows l)).Ok) : valL (zye e ns k a b c hp hd l) = stageV e ns k a b c hp hd l :=
 valL_built hok (stage_low e ns k a b c hp hd l hok)
end Go.Proofs.YtlijjnjpomnphaaGreatDoor.V
end
section
namespace Go.Proofs.YtlijjnjpomnphaaGreatDoorH
open Go.RowKit YtlijjnjpomnphaaGreatDoorC YtlijjnjpomnphaaGreatDoorW.PrintWords YtlijjnjpomnphaaGreatDoorW.PrintLast
theorem there_blk {w : World} {b : Nat} {cs : Array Value} {t : TypeId} {n : Nat} (hb : w.heap[b]? = some (.cells cs t (0, 0))) (hn : n = cs.size) : w.there b 0 n := fun j hj => by
 rw [Nat.zero_add]
 refine ⟨?_, zi hb j⟩
 rw [zf hb j]
 simp only [Array.getElem?_eq_getElem (show j < cs.size by omega), Option.isSome_some]
theorem zif {P : Program} {ops : Array Oper} {rest : List Oper} {op : Oper} {a : Act} {w : World} {Q : Exit → Act → World → Prop} (hgd : op.guard = none) (ty : TypeId) (x y : Operand) (ho : op.op = .store ty x y)
    (b : Nat) (cs bs : Array Value) (t : TypeId) (hx : a.eval x = .pointer (some ⟨b, 0, none⟩)) (hy : a.eval y = .agg bs) (hb : w.heap[b]? = some (.cells cs t (0, 0))) (hn : bs.size = cs.size)
    (hi : (P.info? ty).map (·.size) = some bs.size) (h1 : bs.toList.all (·.oneCell') = true) (h : wpList P ops Q rest (a.put op.dst undef) (w.setCells b 0 bs.toList)) : wpList P ops Q (op :: rest) a w :=
  wpList_store_mid hgd ty x y ho b 0 bs hx hy (there_blk hb hn) hi (by rw [← Array.all_toList]; exact h1) h
theorem exec_blk {P : Program} {op : Oper} {a : Act} {w : World} (ty : TypeId) (x y : Operand) (ho : op.op = .store ty x y)
    (b : Nat) (cs bs : Array Value) (t : TypeId) (hx : a.eval x = .pointer (some ⟨b, 0, none⟩)) (hy : a.eval y = .agg bs) (hb : w.heap[b]? = some (.cells cs t (0, 0))) (hn : bs.size = cs.size)
    (hi : (P.info? ty).map (·.size) = some bs.size) (h1 : bs.toList.all (·.oneCell') = true) : (execOp a.eval op).run P w = .ok .skip (w.setCells b 0 bs.toList) := by
  unfold execOp
  simp only [ho, hx, hy, Sem.run_bind, Sem.run_pure, Result.andThen_ok, run_storeAt_mid w b 0 ty bs (there_blk hb hn) hi (by rw [← Array.all_toList]; exact h1)]
end Go.Proofs.YtlijjnjpomnphaaGreatDoorH
end
section
namespace Go.Proofs.YtlijjnjpomnphaaGreatDoor.V
open Go.RowKit YtlijjnjpomnphaaGreatDoor.Q YtlijjnjpomnphaaGreatDoorG YtlijjnjpomnphaaGreatDoorH YtlijjnjpomnphaaGreatDoorB YtlijjnjpomnphaaGreatDoorC YtlijjnjpomnphaaGreatDoorM YtlijjnjpomnphaaGreatDoorY YtlijjnjpomnphaaGreatDoorP YtlijjnjpomnphaaGreatDoorW.PrintWords YtlijjnjpomnphaaGreatDoorW.PrintLast YtlijjnjpomnphaaGreatDoorW.PrintMore
theorem zde {w w' : World} (h : zk w w') : Below w.heap.size w w' := by obtain ⟨nd, rfl⟩ := h; exact ze (Below.refl _ _) nd
def dS (a : Int) : ByteArray := strOfNums (dec a)
theorem dS_size {a : Int} (h : U16 a) : (dS a).size ≤ 5 := dec_size h
theorem dS_B (a : Int) : bytesOf (dS a) = dec a := B_digits (dec_isD a)
theorem zvg (w : World) {a : Int} (h : U16 a) : Calls Tryz.prog 21 #[.int .u16 a] w fun e w' => e = .returned (.string (dS a)) ∧ Below w.heap.size w w' := by
 obtain ⟨k, hk⟩ := decimal_ev h
 exact (zac.calls k a _ w (hk k (Nat.le_refl _))).mono fun _ _ h => ⟨h.1, zde h.2⟩
theorem number_ (w : World) {a : Int} (h : U16 a) : Calls Tryz.prog 36 #[.string (dS a)] w fun e w' => e = .returned (.agg #[.bool false, .string (magB a.toNat)]) ∧ Below w.heap.size w w' := by
 obtain ⟨k, hk⟩ := number_dec h
 exact zne.calls k (dS a) _ _ w (hk k (Nat.le_refl _))
def shortB (l : List ByteArray) : Bool := decide (∀ w ∈ l, w.size ≤ 1200) && decide (l.length ≤ 60)
theorem short_ (w : World) {A : Option Addr} {c : Nat} {l : List ByteArray} (hr : Kd.C Kd.string w A l.length l) (hc : l.length ≤ c) (hl : l.length ≤ 2147483647) :
  Calls Tryz.prog 18 #[.slice A l.length c] w fun e w' => e = .returned (.bool (shortB l)) ∧ Below w.heap.size w w' := by
 obtain ⟨k, hk⟩ := short_ev l hl
 exact (zlc.calls k A c l _ w hr hc (hk k (Nat.le_refl _))).mono fun _ _ h => ⟨h.1, zde h.2⟩
def digB (s : ByteArray) : Bool := (bytesOf s).all isD && decide (bytesOf s ≠ [])
def wrdB (s : ByteArray) : Bool := (bytesOf s).all isW && decide (bytesOf s ≠ [])
theorem digits_ (w : World) {s : ByteArray} (hs : s.size ≤ 2000000000) : Calls Tryz.prog 37 #[.string s] w fun e w' => e = .returned (.bool (digB s)) ∧ Below w.heap.size w w' := by
 obtain ⟨k, hk⟩ := zpe s hs
 exact (zdc.calls k s _ w (hk k (Nat.le_refl _))).mono fun _ _ h => ⟨h.1, zde h.2⟩
theorem words_ (w : World) {s : ByteArray} (hs : s.size ≤ 2000000000) : Calls Tryz.prog 38 #[.string s] w fun e w' => e = .returned (.bool (wrdB s)) ∧ Below w.heap.size w w' := by
 obtain ⟨k, hk⟩ := words_ev s hs
 exact (zfc.calls k s _ w (hk k (Nat.le_refl _))).mono fun _ _ h => ⟨h.1, zde h.2⟩
def smS (s : ByteArray) : ByteArray := strOfNums ((bytesOf s).map low)
theorem wordB_or {s : ByteArray} : wordB (bytesOf s) = (digB s || wrdB s) := by
 unfold wordB digB wrdB
 cases decide (bytesOf s ≠ []) <;> simp
theorem small_ (w : World) {s : ByteArray} (hs : s.size ≤ 2000000000) (hw : wordB (bytesOf s) = true) : Calls Tryz.prog 31 #[.string s] w fun e w' => e = .returned (.string (smS s)) ∧ Below w.heap.size w w' := by
 obtain ⟨k, hk⟩ := small_ev s hs (wordB_ascii hw)
 exact (zxb.calls k s _ w (hk k (Nat.le_refl _))).mono fun _ _ h => ⟨h.1, zde h.2⟩
theorem cellAt {w : World} {g : Nat} {cs : Array Value} {t : TypeId} (h : w.heap[g]? = some (.cells cs t (0, 0))) (i : Nat) {v : Value} (e : cs[i]? = some v) : w.cell? ⟨g, i, none⟩ = some v := (zf h i).trans e
theorem zze {w : World} {g : Nat} {t : TypeId} {cs bs : Array Value} (h : w.heap[g]? = some (.cells cs t (0, 0))) (hn : bs.size = cs.size) : (w.setCells g 0 bs.toList).heap[g]? = some (.cells bs t (0, 0)) := by
 obtain ⟨c, h1, h2, h3⟩ := zqh bs.toList 0 w cs h (by simp [hn])
 rw [List.take_zero, List.nil_append, List.drop_of_length_le (by simp [hn]), List.append_nil] at h3
 rw [h1, Array.toList_inj.1 h3]
theorem exec_load {P : Program} {op : Oper} {a : Act} {w : World} (ty : TypeId) (x : Operand) (ho : op.op = .load ty x) (g : Nat) (hx : a.eval x = .pointer (some ⟨g, 0, none⟩)) (t : TypeId) (cs : Array Value) (fr : Nat × Nat) (d : TypeDesc) (hg : w.heap[g]? = some (.cells cs t fr))
    (hu : P.underlying ty = some d) (hd : (match d with | .struct _ | .array _ _ => true | _ => false) = true) (hi : (P.info? ty).map (·.size) = some cs.size) : (execOp a.eval op).run P w = .ok (.value (.agg cs)) w := by
  unfold execOp
  simp only [ho, hx, Instr.loadAt, Instr.sureAddr, Sem.run_bind, Sem.run_pure, Result.andThen_ok, run_loadVar_row w g t ty cs fr d hg hu hd hi]
theorem zjd {w W : World} {g : Nat} {l : List Value} (h : Below w.heap.size w W) (hg : w.heap.size ≤ g) : Below w.heap.size w (W.setCells g 0 l) := by
 have q := zyg g l 0 W
 exact ⟨q.1.trans h.os, q.2.1.trans h.tape, q.2.2.1.trans h.output, by rw [q.2.2.2]; exact h.size, fun b hb => (zrd l 0 b (by omega)).trans (h.block b hb)⟩
abbrev RInts (w wr : World) (rv : Value) (xs : List S29) : Prop := Kd.R k29 29 wr w.heap.size (fun _ => True) rv xs
abbrev RTexts (w wr : World) (lv : Value) (ys : List ByteArray) : Prop := Kd.R Kd.string 9 wr w.heap.size (fun _ => True) lv ys
structure T0 (w wr : World) (g1 g3 : Nat) (S : Array Value) : Prop where
 b1 : wr.heap[g1]? = some (.cells S 26 (0, 0))
 b3 : wr.heap[g3]? = some (.cells #[.bool false, .string ⟨#[]⟩, .slice none 0 0, .bool false, .string ⟨#[]⟩, .bool false, .string ⟨#[]⟩, .bool false, .string ⟨#[]⟩, .bool false, .string ⟨#[]⟩, .bool false, .string ⟨#[]⟩, .bool false, .string ⟨#[]⟩, .slice none 0 0, .slice none 0 0] 34 (0, 0))
 below : Below w.heap.size w wr
theorem T0.to {w wr w' : World} {g1 g3 : Nat} {S : Array Value} (H : T0 w wr g1 g3 S) (k : Below wr.heap.size wr w') : T0 w w' g1 g3 S := ⟨zr H.b1 k, zr H.b3 k, zhc H.below H.below.size k⟩
structure TInv (w wr : World) (g1 g3 g5 : Nat) (S C : Array Value) (rv lv : Value) (xs : List S29) (ys : List ByteArray) : Prop where
 t : T0 w wr g1 g3 S
 b5 : wr.heap[g5]? = some (.cells C 34 (0, 0))
 n1 : g1 ≠ g5
 n3 : g3 ≠ g5
 l5 : w.heap.size ≤ g5
 ro : RInts w wr rv xs
 lo : RTexts w wr lv ys
def notP (t : TypeId) : Bool := t != 34
section
variable {w wr : World} {g1 g3 g5 : Nat} {S C : Array Value} {rv lv : Value} {xs : List S29} {ys : List ByteArray}
theorem TInv.to (H : TInv w wr g1 g3 g5 S C rv lv xs ys) {w' : World} (k : Below wr.heap.size wr w') : TInv w w' g1 g3 g5 S C rv lv xs ys := ⟨H.t.to k, zr H.b5 k, H.n1, H.n3, H.l5, Kd.R_below H.ro k, Kd.R_below H.lo k⟩
theorem TInv.put (H : TInv w wr g1 g3 g5 S C rv lv xs ys) (j : Nat) (v : Value) : TInv w (wr.setCell ⟨g5, j, none⟩ v) g1 g3 g5 S (C.setIfInBounds j v) rv lv xs ys :=
 ⟨⟨zic H.t.b1 (p := ⟨g5, j, none⟩) (fun e => H.n1 e) v, zic H.t.b3 (p := ⟨g5, j, none⟩) (fun e => H.n3 e) v, H.t.below.setCell (p := ⟨g5, j, none⟩) H.l5 v⟩, zm H.b5 j v rfl, H.n1, H.n3, H.l5, zqd (p := notP) rfl (by decide) H.ro (KeptT.set H.b5 (by decide) j v), zqd (p := notP) rfl (by decide) H.lo (KeptT.set H.b5 (by decide) j v)⟩
theorem TInv.ints (H : TInv w wr g1 g3 g5 S C rv lv xs ys) {w' : World} {v : Value} {xs' : List S29} (ho : RInts w w' v xs') (hg : wr.grownBy w' rv.ownBlock) : TInv w w' g1 g3 g5 S C v lv xs' ys := by
 have K : KeptT (fun t => t != 29) wr w' := KeptT.row (by decide) H.ro hg
 exact ⟨⟨K.blk H.t.b1 (by decide), K.blk H.t.b3 (by decide), H.t.below.grown hg H.t.below.size (fun b e => Kd.R_base H.ro b e)⟩, K.blk H.b5 (by decide), H.n1, H.n3, H.l5, ho, zqd rfl (by decide) H.lo K⟩
theorem TInv.texts (H : TInv w wr g1 g3 g5 S C rv lv xs ys) {w' : World} {v : Value} {ys' : List ByteArray} (ho : RTexts w w' v ys') (hg : wr.grownBy w' lv.ownBlock) : TInv w w' g1 g3 g5 S C rv v xs ys' := by
 have K : KeptT (fun t => t != 9) wr w' := KeptT.row (by decide) H.lo hg
 exact ⟨⟨K.blk H.t.b1 (by decide), K.blk H.t.b3 (by decide), H.t.below.grown hg H.t.below.size (fun b e => Kd.R_base H.lo b e)⟩, K.blk H.b5 (by decide), H.n1, H.n3, H.l5, zqd rfl (by decide) H.ro K, ho⟩
theorem TInv.store (H : TInv w wr g1 g3 g5 S C rv lv xs ys) (bs : Array Value) (hn : bs.size = C.size) : TInv w (wr.setCells g5 0 bs.toList) g1 g3 g5 S bs rv lv xs ys := by
 have K : KeptT notP wr (wr.setCells g5 0 bs.toList) := zaf H.b5 (by decide) (fun b h => zrd _ _ b h)
 exact ⟨⟨(zrd _ _ _ H.n1).trans H.t.b1, (zrd _ _ _ H.n3).trans H.t.b3, zjd H.t.below H.l5⟩, zze H.b5 hn, H.n1, H.n3, H.l5, zqd rfl (by decide) H.ro K, zqd rfl (by decide) H.lo K⟩
theorem TInv.lnil (H : TInv w wr g1 g3 g5 S C rv lv xs ys) : TInv w wr g1 g3 g5 S C rv (.slice none 0 0) xs [] := ⟨H.t, H.b5, H.n1, H.n3, H.l5, H.ro, Kd.R_nil _ _ _ _ _⟩
end
def StageP (w : World) : TextT → Ending → World → Prop
 | (R, n, m, rel, b1, t1, b2, t2, b3, t3, b4, t4, b5, t5, b6, t6, loc, leg, ok), e, w' => ∃ v3 v16 v17 : Value, e = .returned (.tuple #[.string R, .agg #[.bool n, .string m, v3, .bool b1, .string t1, .bool b2, .string t2, .bool b3, .string t3, .bool b4, .string t4, .bool b5, .string t5, .bool b6, .string t6, v16, v17], .bool ok]) ∧
  Kd.R k29 29 w' w.heap.size (fun _ => True) v3 rel ∧ Kd.R Kd.string 9 w' w.heap.size (fun k_ => some k_ ≠ (v17 : Value).ownBlock) v16 loc ∧ Kd.R Kd.string 9 w' w.heap.size (fun k_ => some k_ ≠ (v16 : Value).ownBlock) v17 leg ∧ Below w.heap.size w w'
theorem zxd : (Tryz.prog.info? 34).map (·.size) = some 17 := by kernel_rfl
theorem stage_fail {w W : World} {g1 g3 : Nat} {S : Array Value} (H : T0 w W g1 g3 S) (h3 : w.heap.size ≤ g3) : StageP w failT (.returned (.tuple #[.string ⟨#[]⟩, .agg #[.bool false, .string ⟨#[]⟩, .slice none 0 0, .bool false, .string ⟨#[]⟩, .bool false, .string ⟨#[]⟩, .bool false, .string ⟨#[]⟩, .bool false, .string ⟨#[]⟩, .bool false, .string ⟨#[]⟩, .bool false, .string ⟨#[]⟩, .slice none 0 0, .slice none 0 0], .bool false])) (W.setCells g3 0 (#[.bool false, .string ⟨#[]⟩, .slice none 0 0, .bool false, .string ⟨#[]⟩, .bool false, .string ⟨#[]⟩, .bool false, .string ⟨#[]⟩, .bool false, .string ⟨#[]⟩, .bool false, .string ⟨#[]⟩, .bool false, .string ⟨#[]⟩, .slice none 0 0, .slice none 0 0] : Array Value).toList) :=
 ⟨_, _, _, rfl, Kd.R_nil _ _ _ _ _, Kd.R_nil _ _ _ _ _, Kd.R_nil _ _ _ _ _, zjd H.below h3⟩
def kb : Nat → ByteArray
 | 0 => ⟨#[97]⟩
 | 1 => ⟨#[98]⟩
 | _ => ⟨#[114, 99]⟩
theorem pre_none {k a : Int} (h : ¬ Int.tmod k 4 > 0) : preO k a = none := by unfold preO; rw [if_neg h]
theorem pre_some {k a : Int} {j : Nat} (h : Int.tmod k 4 = (j : Int) + 1) (hj : j < 3) : (preO k a).isSome = true ∧ letB (hasP (preO k a)) = kb j ∧ magO (hasP (preO k a)) = magB a.toNat ∧ preT (preO k a) = bytesOf (kb j) ++ dec a := by
 have e : preO k a = some (kindW (Int.tmod k 4), dec a) := by unfold preO; rw [if_pos (by omega)]
 rw [e, h]
 have hm : ∀ x : List Int, magO (hasP (some (x, dec a))) = magB a.toNat := fun x => by
  show magB (decL (dec a)) = _
  rw [dec_val]
 have sp : ∀ (x : List Int) (s : ByteArray), strOfNums (spell x) = s → letB (hasP (some (x, dec a))) = s := fun x s h => h
 match j, hj with
 | 0, _ => exact ⟨rfl, sp _ _ (by decide), hm _, rfl⟩
 | 1, _ => exact ⟨rfl, sp _ _ (by decide), hm _, rfl⟩
 | 2, _ => exact ⟨rfl, sp _ _ (by decide), hm _, rfl⟩
theorem kb_at {j : Nat} (hj : j < 3) : (#[.string ⟨#[97]⟩, .string ⟨#[98]⟩, .string ⟨#[114, 99]⟩] : Array Value)[j]? = some (.string (kb j)) := by
 match j, hj with
 | 0, _ => rfl
 | 1, _ => rfl
 | 2, _ => rfl
theorem kb_size (j : Nat) : (kb j).size ≤ 2 := by
 match j with
 | 0 => decide
 | 1 => decide
 | _ + 2 => exact Nat.le_refl 2
theorem num_some (b : Int) : (numO true b).isSome = true := rfl
theorem num_mag (b : Int) (w : List Int) : magO (hasL (numO true b) w) = magB b.toNat := by
 show magB (decL (dec b)) = _
 rw [dec_val]
theorem post_word : strOfNums (spell wPost) = ⟨#[112, 111, 115, 116]⟩ := by rfl
theorem dev_word : strOfNums (spell wDev) = ⟨#[100, 101, 118]⟩ := by rfl
theorem num_word {b : Int} {w : List Int} {s : ByteArray} (h : strOfNums (spell w) = s) : letB (hasL (numO true b) w) = s := h
theorem relT_snoc {R : List (List Int)} (h : R ≠ []) (x : List Int) : relT (R ++ [x]) = relT R ++ 46 :: x := by
 cases R with
 | nil => exact absurd rfl h
 | cons d ds => rw [List.cons_append, relT_cons, relT_cons]; simp
theorem joinW_snoc {R : List (List Int)} (h : R ≠ []) (x : List Int) : joinW (R ++ [x]) = joinW R ++ 46 :: x := by
 cases R with
 | nil => exact absurd rfl h
 | cons d ds => rw [List.cons_append, zdg, zdg]; simp
def relN (ns : List Int) (i : Nat) : List Int := relT ((ns.take i).map dec)
theorem relN_step {ns : List Int} {i : Nat} (h : i < ns.length) : relN ns (i + 1) = relN ns i ++ ((if i = 0 then [] else [46]) ++ dec (rd ns (i : Int))) := by
 have e : ns.take (i + 1) = ns.take i ++ [rd ns (i : Int)] := by
  rw [List.take_add_one, List.getElem?_eq_getElem h, rd_nat, List.getD_eq_getElem?_getD, List.getElem?_eq_getElem h]
  rfl
 unfold relN
 rw [e, List.map_append]
 by_cases h0 : i = 0
 ·subst h0
  simp [relT]
 ·rw [if_neg h0]
  exact relT_snoc (fun h1 => by have := congrArg List.length h1; rw [List.length_map, List.length_take, List.length_nil] at this; omega) _
theorem relN_len {ns : List Int} (h : ∀ x ∈ ns, U16 x) (i : Nat) : (relN ns i).length ≤ 6 * ns.length := by
 have := relT_len ((ns.take i).map dec) (fun d hd => by
  obtain ⟨x, hx, rfl⟩ := List.mem_map.1 hd
  exact zqg (h x (List.mem_of_mem_take hx)))
 rw [List.length_map, List.length_take] at this
 unfold relN
 omega
def locN (l : List ByteArray) (i : Nat) : List Int := locT ((l.take i).map bytesOf)
theorem take_snoc {l : List ByteArray} {i : Nat} (h : i < l.length) : l.take (i + 1) = l.take i ++ [rdOf ByteArray.empty l (i : Int)] := by
 rw [List.take_add_one, List.getElem?_eq_getElem h]
 show _ = _ ++ [l.getD ((i : Int).toNat) _]
 rw [Int.toNat_natCast, List.getD_eq_getElem?_getD, List.getElem?_eq_getElem h]
 rfl
theorem locN_step {l : List ByteArray} {i : Nat} (h : i < l.length) : locN l (i + 1) = locN l i ++ ((if i = 0 then [43] else [46]) ++ bytesOf (rdOf ByteArray.empty l (i : Int))) := by
 unfold locN
 rw [take_snoc h, List.map_append]
 by_cases h0 : i = 0
 ·subst h0
  simp [locT, joinW]
 ·rw [if_neg h0]
  have hne : (l.take i).map bytesOf ≠ [] := fun h1 => by have := congrArg List.length h1; rw [List.length_map, List.length_take, List.length_nil] at this; omega
  have e2 : ∀ ws : List (List Int), ws ≠ [] → locT ws = 43 :: joinW ws := fun ws hw => by
   cases ws with
   | nil => exact absurd rfl hw
   | cons x ws => rfl
  rw [e2 _ hne, e2 _ (by simp), List.map_cons, List.map_nil, joinW_snoc hne]
  simp
theorem locN_len {l : List ByteArray} (h : ∀ w ∈ l, w.size ≤ 1200) (i : Nat) : (locN l i).length ≤ 1201 * l.length + 1 := by
 have := locT_len ((l.take i).map bytesOf) (fun d hd => by
  obtain ⟨x, hx, rfl⟩ := List.mem_map.1 hd
  rw [bytesOf_length]
  exact h x (List.mem_of_mem_take hx))
 rw [List.length_map, List.length_take] at this
 unfold locN
 omega
theorem stage_good {w W : World} {g1 g3 g5 : Nat} {S : Array Value} {rv lv : Value} {e k a b c : Int} {hp hd : Bool} {ns : List Int} {l : List ByteArray} {T Me pl pm ql qm dl dm : ByteArray} {pb qb db : Bool} (hok : tOk ns l) (he : U16 e) (hT : bytesOf T = zye e ns k a b c hp hd l)
  (hM : Me = magB e.toNat) (hP : pb = (preO k a).isSome ∧ pl = letB (hasP (preO k a)) ∧ pm = magO (hasP (preO k a))) (hQ : qb = (numO hp b).isSome ∧ ql = letB (hasL (numO hp b) wPost) ∧ qm = magO (hasL (numO hp b) wPost)) (hD : db = (numO hd c).isSome ∧ dl = letB (hasL (numO hd c) wDev) ∧ dm = magO (hasL (numO hd c) wDev))
  (H : TInv w W g1 g3 g5 S #[.bool false, .string Me, rv, .bool pb, .string pl, .bool false, .string pm, .bool qb, .string ql, .bool false, .string qm, .bool db, .string dl, .bool false, .string dm, lv, .slice none 0 0] rv lv (intsN ns) (if l = [] then [⟨#[]⟩] else wordL l)) (h3 : w.heap.size ≤ g3) :
  StageP w (strOfNums (zye e ns k a b c hp hd l), toldY (stageV e ns k a b c hp hd l)) (.returned (.tuple #[.string T, .agg #[.bool false, .string Me, rv, .bool pb, .string pl, .bool false, .string pm, .bool qb, .string ql, .bool false, .string qm, .bool db, .string dl, .bool false, .string dm, lv, .slice none 0 0], .bool true])) (W.setCells g3 0 (#[.bool false, .string Me, rv, .bool pb, .string pl, .bool false, .string pm, .bool qb, .string ql, .bool false, .string qm, .bool db, .string dl, .bool false, .string dm, lv, .slice none 0 0] : Array Value).toList) := by
 have hTT : T = strOfNums (zye e ns k a b c hp hd l) := by rw [← hT, str_B]
 have hok2 : (sP e ns k a b c hp hd (lows l)).Ok := sP_ok hok.1 (zbg hok.2.2.2.2)
 rw [sP_told he.1 hok2, ← hTT, ← hM, ← hP.1, ← hP.2.1, ← hP.2.2, ← hQ.1, ← hQ.2.1, ← hQ.2.2, ← hD.1, ← hD.2.1, ← hD.2.2]
 have K : KeptT notP W (W.setCells g3 0 (#[.bool false, .string Me, rv, .bool pb, .string pl, .bool false, .string pm, .bool qb, .string ql, .bool false, .string qm, .bool db, .string dl, .bool false, .string dm, lv, .slice none 0 0] : Array Value).toList) := zaf H.t.b3 (by decide) (fun b h => zrd _ _ b h)
 exact ⟨rv, lv, .slice none 0 0, rfl, zqd (p := notP) rfl (by decide) H.ro K, Kd.R_mono (zqd (p := notP) rfl (by decide) H.lo K) (fun _ _ => by simp [Value.ownBlock]), Kd.R_nil _ _ _ _ _, zjd H.t.below h3⟩
theorem wordL_snoc (l : List ByteArray) (x : ByteArray) : wordL (l ++ [x]) = wordL l ++ [smS x] := by unfold wordL smS; rw [List.map_append]; rfl
end Go.Proofs.YtlijjnjpomnphaaGreatDoor.V
end
section
namespace Go.Proofs.YtlijjnjpomnphaaGreatDoor.V
open Go.RowKit YtlijjnjpomnphaaGreatDoor.Q YtlijjnjpomnphaaGreatDoorG YtlijjnjpomnphaaGreatDoorH YtlijjnjpomnphaaGreatDoorB YtlijjnjpomnphaaGreatDoorC YtlijjnjpomnphaaGreatDoorM YtlijjnjpomnphaaGreatDoorY YtlijjnjpomnphaaGreatDoorP YtlijjnjpomnphaaGreatDoorW.PrintWords YtlijjnjpomnphaaGreatDoorW.PrintLast YtlijjnjpomnphaaGreatDoorW.PrintMore
set_option pp.deepTerms true
set_option pp.maxSteps 1000000
theorem stage_ (w : World) (e k a b c : Int) (hp hd : Bool) (A1 A8 : Option Addr) (c1 c8 : Nat) (ns : List Int) (l : List ByteArray) (hr1 : Kd.C (Kd.int .u16) w A1 ns.length ns) (hc1 : ns.length ≤ c1) (hr8 : Kd.C Kd.string w A8 l.length l) (hc8 : l.length ≤ c8) (he : U16 e) (hne : ∀ x ∈ ns, U16 x) (hk0 : 0 ≤ k) (ha : U16 a) (hb : U16 b) (hc : U16 c) (hl : l.length ≤ 2147483647) :
  Calls Tryz.prog 15 #[.agg #[.int .u16 e, .slice A1 ns.length c1, .int .u8 k, .int .u16 a, .int .u16 b, .int .u16 c, .bool hp, .bool hd, .slice A8 l.length c8]] w (StageP w (if tOk ns l then (strOfNums (zye e ns k a b c hp hd l), toldY (stageV e ns k a b c hp hd l)) else failT)) := by
 have HR1 := za.mk hr1
 have HR8 := za.mk hr8
 have HC := za.mk (And.intro hc1 hc8)
 have HE := za.mk he
 have HN := za.mk hne
 have HK0 := za.mk hk0
 have HA := za.mk ha
 have HBb := za.mk hb
 have HCc := za.mk hc
 have HL := za.mk hl
 obtain ⟨RR, hRR⟩ : ∃ r : TextT, r = (if tOk ns l then (strOfNums (zye e ns k a b c hp hd l), toldY (stageV e ns k a b c hp hd l)) else failT) := ⟨_, rfl⟩
 rw [← hRR]
 have HRR := za.mk hRR
 obtain ⟨De, hDe⟩ : ∃ s, s = dS e := ⟨_, rfl⟩
 obtain ⟨Me, hMe⟩ : ∃ s, s = magB e.toNat := ⟨_, rfl⟩
 have HDE := za.mk (fun W : World => by have := zvg W he; rewrite [← hDe] at this; exact this)
 have HNE := za.mk (fun W : World => by have := number_ W he; rewrite [← hDe, ← hMe] at this; exact this)
 have HDe : za (bytesOf De = dec e ∧ De.size ≤ 5 ∧ Me = magB e.toNat) := ⟨by rw [hDe]; exact dS_B e, by rw [hDe]; exact dS_size he, hMe⟩
 obtain ⟨pb, pl, pm, hP⟩ : ∃ (pb : Bool) (pl pm : ByteArray), pb = (preO k a).isSome ∧ pl = letB (hasP (preO k a)) ∧ pm = magO (hasP (preO k a)) := ⟨_, _, _, rfl, rfl, rfl⟩
 obtain ⟨qb, ql, qm, hQ⟩ : ∃ (pb : Bool) (pl pm : ByteArray), pb = (numO hp b).isSome ∧ pl = letB (hasL (numO hp b) wPost) ∧ pm = magO (hasL (numO hp b) wPost) := ⟨_, _, _, rfl, rfl, rfl⟩
 obtain ⟨db, dl, dm, hD⟩ : ∃ (pb : Bool) (pl pm : ByteArray), pb = (numO hd c).isSome ∧ pl = letB (hasL (numO hd c) wDev) ∧ pm = magO (hasL (numO hd c) wDev) := ⟨_, _, _, rfl, rfl, rfl⟩
 have HPP := za.mk hP
 have HQQ := za.mk hQ
 have HDD := za.mk hD
 clear hr1 hr8 hc1 hc8 he hne hk0 ha hb hc hl hRR hDe hMe hP hQ hD
 go_enter Tryz.func15, Tryz.ntmps15
 go_upto_region 1 with (first | ((with_reducible refine zrb (N := 1) rfl ?_); (try (refine zsb (by rfl) ?_; dsimp only)); refine ztb ?hg (N := 1) ?hd (cs := #[.int .u16 e, .slice A1 ns.length c1, .int .u8 k, .int .u16 a, .int .u16 b, .int .u16 c, .bool hp, .bool hd, .slice A8 l.length c8]) (t := 26) ?hr ?_; (case hd => rfl); (case hg => rfl); (case hr => first | (go_simp; done) | (go_simp; rfl)); intro g1 hg w3 hbox hb; have B1 := za.mk hb; have K1 := za.mk hbox; have L1 := za.mk hg; clear hb hbox hg) | ((with_reducible refine zrb (N := 3) rfl ?_); (try (refine zsb (by rfl) ?_; dsimp only)); refine ztb ?hg (N := 3) ?hd (cs := #[.bool false, .string ⟨#[]⟩, .slice none 0 0, .bool false, .string ⟨#[]⟩, .bool false, .string ⟨#[]⟩, .bool false, .string ⟨#[]⟩, .bool false, .string ⟨#[]⟩, .bool false, .string ⟨#[]⟩, .bool false, .string ⟨#[]⟩, .slice none 0 0, .slice none 0 0]) (t := 34) ?hr ?_; (case hd => rfl); (case hg => rfl); (case hr => first | (go_simp; done) | (go_simp; rfl)); intro g3 hg w4 hbox hb; have K3 := za.mk (And.intro hbox (And.intro hb hg)); clear hb hbox hg))
 have I0 : za (T0 w w4 g1 g3 #[.int .u16 e, .slice A1 ns.length c1, .int .u8 k, .int .u16 a, .int .u16 b, .int .u16 c, .bool hp, .bool hd, .slice A8 l.length c8]) := ⟨⟨zr K1.out K3.out.2.1, K3.out.1, zw B1.out K3.out.2.1⟩⟩
 have L3 : za (w.heap.size ≤ g1 ∧ w.heap.size ≤ g3 ∧ g3 < w4.heap.size ∧ g1 < w4.heap.size) := ⟨by rw [L1.out]; exact Nat.le_refl _, by rw [K3.out.2.2]; exact B1.out.size, zhf K3.out.1, zhf (zr K1.out K3.out.2.1)⟩
 clear K1 K3 B1 L1
 go_cut [27] (fun v27 wc => v27 = .bool (!(decide (ns ≠ [] ∧ ns.length ≤ 60) && shortB l)) ∧ za (T0 w wc g1 g3 #[.int .u16 e, .slice A1 ns.length c1, .int .u8 k, .int .u16 a, .int .u16 b, .int .u16 c, .bool hp, .bool hd, .slice A8 l.length c8]) ∧ za (w4.heap.size ≤ wc.heap.size))
 case first =>
  have y1 := cellAt I0.out.b1 1 rfl
  have y8 := cellAt I0.out.b1 8 rfl
  by_cases h1 : ns = []
  ·have e1 : ((ns.length : Int) == 0) = true := by rw [h1]; rfl
   have e2 : ((ns.length : Int) != 0) = false := by rw [h1]; rfl
   have GG : (!(decide (ns ≠ [] ∧ ns.length ≤ 60) && shortB l)) = true := by rw [decide_eq_false (fun h => h.1 h1)]; rfl
   (first | rewrite [e1] | rewrite [e2] | skip)
   go_wp2_with (fail)
   go_meet
   exact ⟨by rw [GG], I0, ⟨Nat.le_refl _⟩⟩
  ·have h1' : ns.length ≠ 0 := fun h => h1 (List.length_eq_zero_iff.1 h)
   have e1 : ((ns.length : Int) == 0) = false := beq_eq_false_iff_ne.mpr (by omega)
   have e2 : ((ns.length : Int) != 0) = true := bne_iff_ne.mpr (by omega)
   (first | rewrite [e1] | rewrite [e2] | skip)
   by_cases h2 : ns.length ≤ 60
   ·have e3 : decide (60 < (ns.length : Int)) = false := decide_eq_false (by omega)
    have e4 : decide (60 < ns.length) = false := decide_eq_false (by omega)
    have GG : (!(decide (ns ≠ [] ∧ ns.length ≤ 60) && shortB l)) = !(shortB l) := by rw [decide_eq_true ⟨h1, h2⟩]; rfl
    go_wp2_with (first | (go_at_call 18; (with_reducible refine (short_ _ (Kd.C_below HR8.out I0.out.below) HC.out.2 HL.out).mono ?_); rintro e' w5 ⟨rfl, hb⟩; have I1 := za.mk (I0.out.to hb); have Z1 := za.mk hb.size; clear hb))
    go_meet
    exact ⟨by rw [GG], I1, Z1⟩
   ·have e3 : decide (60 < (ns.length : Int)) = true := decide_eq_true (by omega)
    have e4 : decide (60 < ns.length) = true := decide_eq_true (by omega)
    have GG : (!(decide (ns ≠ [] ∧ ns.length ≤ 60) && shortB l)) = true := by rw [decide_eq_false (fun h => h2 h.2)]; rfl
    go_wp2_with (fail)
    go_meet
    exact ⟨by rw [GG], I0, ⟨Nat.le_refl _⟩⟩
 case rest =>
  clear I0
  obtain ⟨rfl, I1, Z1⟩ := hcut
  by_cases hg : (decide (ns ≠ [] ∧ ns.length ≤ 60) && shortB l) = true
  case neg =>
   have hg' := Bool.eq_false_iff.mpr hg
   rw [hg']
   have hf : RR = failT := by
    rw [HRR.out, if_neg]
    rintro ⟨t1, t2, t3, t4, _⟩
    exact hg (by unfold shortB; rw [decide_eq_true ⟨t1, t2⟩, decide_eq_true t4, decide_eq_true t3]; rfl)
   subst hf
   simp only [Bool.not_false, Bool.not_true]
   go_wp2_with (((with_reducible refine zhe (t := 34) rfl ?_); refine zif rfl 34 _ _ rfl _ _ #[_, _, _, _, _, _, _, _, _, _, _, _, _, _, _, _, _] 34 rfl rfl (by with_reducible exact I1.out.b3) (by rfl) zxd rfl ?_))
   refine bodyPost_ret (zcg (rs := [.tmp 2, .cell 3 34, .tmp 4]) rfl (by simp) (.tmp (.cell g3 34 #[.bool false, .string ⟨#[]⟩, .slice none 0 0, .bool false, .string ⟨#[]⟩, .bool false, .string ⟨#[]⟩, .bool false, .string ⟨#[]⟩, .bool false, .string ⟨#[]⟩, .bool false, .string ⟨#[]⟩, .bool false, .string ⟨#[]⟩, .slice none 0 0, .slice none 0 0] (0, 0) _ rfl (zze (bs := #[.bool false, .string ⟨#[]⟩, .slice none 0 0, .bool false, .string ⟨#[]⟩, .bool false, .string ⟨#[]⟩, .bool false, .string ⟨#[]⟩, .bool false, .string ⟨#[]⟩, .bool false, .string ⟨#[]⟩, .bool false, .string ⟨#[]⟩, .slice none 0 0, .slice none 0 0]) I1.out.b3 rfl) Tryz.underlying34 rfl (by kernel_rfl) (.tmp .nil)))) rfl ?_
   exact stage_fail I1.out L3.out.2.1
  case pos =>
   rw [hg]
   have HGD : za ((ns ≠ [] ∧ ns.length ≤ 60) ∧ (∀ w ∈ l, w.size ≤ 1200) ∧ l.length ≤ 60) := ⟨by
    unfold shortB at hg
    simp only [Bool.and_eq_true, decide_eq_true_eq] at hg
    exact hg⟩
   clear hg
   simp only [Bool.not_false, Bool.not_true]
   have y0 := cellAt I1.out.b1 0 rfl
   go_upto_if 37 with (first | (go_at_call 21; (with_reducible refine (HDE.out _).mono ?_); rintro e' w5 ⟨rfl, hb⟩; have I2 := za.mk (I1.out.to hb); have Z2 := za.mk hb.size; clear hb y0 I1) | (go_at_call 36; (with_reducible refine (HNE.out _).mono ?_); rintro e' w6 ⟨rfl, hb⟩; have I3 := za.mk (I2.out.to hb); have Z3 := za.mk hb.size; clear hb I2) | ((with_reducible refine zrb (N := 33) rfl ?_); (try (refine zsb (by rfl) ?_; dsimp only)); refine Kd.R_lit Kd.string _ 9 ?hg (N := 33) ?hd (xs := ([(⟨#[]⟩ : ByteArray)] : List ByteArray)) (inner := [.string (⟨#[]⟩ : ByteArray)]) (ok := fun _ => True) (okp := fun _ => True) ?hr ?hp (fun _ hk => hk) trivial (Below.refl _ _) (Nat.le_refl _) (by simp) ?_; (case hd => rfl); (case hg => rfl); (case hr => first | (go_simp; done) | (go_simp; rfl)); (case hp => exact (Reps.one (show Kd.M Kd.string _ _ _ (⟨#[]⟩ : ByteArray) [.string (⟨#[]⟩ : ByteArray)] from rfl) (Reps.none _ _))); intro v33 w7 ho hb hg_ hnew_; clear hg_ hnew_; obtain ⟨A5, cp5, rfl⟩ := Kd.R_slice ho; have I4 := za.mk (I3.out.to hb); have O4 := za.mk (Kd.R_lower ho I3.out.below.size); have Z4 := za.mk hb.size; clear ho hb I3) | ((with_reducible refine zrb (N := 5) rfl ?_); (try (refine zsb (by rfl) ?_; dsimp only)); refine ztb ?hg (N := 5) ?hd (cs := #[.bool false, .string ⟨#[]⟩, .slice none 0 0, .bool false, .string ⟨#[]⟩, .bool false, .string ⟨#[]⟩, .bool false, .string ⟨#[]⟩, .bool false, .string ⟨#[]⟩, .bool false, .string ⟨#[]⟩, .bool false, .string ⟨#[]⟩, .slice none 0 0, .slice none 0 0]) (t := 34) ?hr ?_; (case hd => rfl); (case hg => rfl); (case hr => first | (go_simp; done) | (go_simp; rfl)); intro g5 hg w8 hbox hb; have I5 := za.mk (TInv.mk (I4.out.to hb) hbox (by rw [hg]; have q1 := L3.out.2.2.2; have q2 := Z1.out; have q3 := Z2.out; have q4 := Z3.out; have q5 := Z4.out; omega) (by rw [hg]; have q1 := L3.out.2.2.1; have q2 := Z1.out; have q3 := Z2.out; have q4 := Z3.out; have q5 := Z4.out; omega) (by rw [hg]; exact I4.out.below.size) (Kd.R_nil _ _ _ _ _ : RInts w w8 (.slice none 0 0) []) (Kd.R_below O4.out hb)); clear hb hbox hg I4 O4 Z1 Z2 Z3 Z4) | ((with_reducible refine zhe (t := 34) rfl ?_); refine zif rfl 34 _ _ rfl _ _ #[_, _, _, _, _, _, _, _, _, _, _, _, _, _, _, _, _] 34 rfl rfl (by with_reducible exact I5.out.b5) (by rfl) zxd rfl ?_; generalize hq : World.setCells w8 g5 0 _ = w9; have I6 : za (TInv w w9 g1 g3 g5 #[.int .u16 e, .slice A1 ns.length c1, .int .u8 k, .int .u16 a, .int .u16 b, .int .u16 c, .bool hp, .bool hd, .slice A8 l.length c8] #[.bool false, .string Me, .slice none 0 0, .bool false, .string ⟨#[]⟩, .bool false, .string ⟨#[]⟩, .bool false, .string ⟨#[]⟩, .bool false, .string ⟨#[]⟩, .bool false, .string ⟨#[]⟩, .bool false, .string ⟨#[]⟩, .slice A5 1 cp5, .slice none 0 0] (.slice none 0 0) (.slice A5 1 cp5) [] [⟨#[]⟩]) := ⟨hq ▸ I5.out.store #[.bool false, .string Me, .slice none 0 0, .bool false, .string ⟨#[]⟩, .bool false, .string ⟨#[]⟩, .bool false, .string ⟨#[]⟩, .bool false, .string ⟨#[]⟩, .bool false, .string ⟨#[]⟩, .bool false, .string ⟨#[]⟩, .slice A5 1 cp5, .slice none 0 0] rfl⟩; clear hq I5; have y0 := cellAt I6.out.t.b1 0 rfl))
   have HG3 : za (w.heap.size ≤ g3) := ⟨L3.out.2.1⟩
   clear L3
   go_cut [6] (fun v6 wc => ∃ T : ByteArray, v6 = .string T ∧ za (bytesOf T = epT (epO e) ∧ T.size ≤ 6) ∧ za (TInv w wc g1 g3 g5 #[.int .u16 e, .slice A1 ns.length c1, .int .u8 k, .int .u16 a, .int .u16 b, .int .u16 c, .bool hp, .bool hd, .slice A8 l.length c8] #[.bool false, .string Me, .slice none 0 0, .bool false, .string ⟨#[]⟩, .bool false, .string ⟨#[]⟩, .bool false, .string ⟨#[]⟩, .bool false, .string ⟨#[]⟩, .bool false, .string ⟨#[]⟩, .bool false, .string ⟨#[]⟩, .slice A5 1 cp5, .slice none 0 0] (.slice none 0 0) (.slice A5 1 cp5) [] [⟨#[]⟩]))
   case first =>
    by_cases h0 : e > 0
    ·have e1 : decide (0 < e) = true := decide_eq_true h0
     have s10 : De.size + 1 ≤ 9223372036854775807 := by have := HDe.out.2.1; omega
     have s1a := eq_true s10
     have s1b : decide (De.size + 1 ≤ 9223372036854775807) = true := decide_eq_true s10
     have s1 : (9223372036854775807 < De.size + 1) = False := eq_false (Nat.not_lt.2 s10)
     have E0 : za (bytesOf (De ++ (⟨#[33]⟩ : ByteArray)) = epT (epO e) ∧ (De ++ (⟨#[33]⟩ : ByteArray)).size ≤ 6) := ⟨by rw [zcd, HDe.out.1]; unfold epO; rw [if_pos h0]; rfl, by rw [zvd]; have := HDe.out.2.1; have e5 : (⟨#[33]⟩ : ByteArray).size = 1 := rfl; omega⟩
     clear h0
     (first | rewrite [e1] | rewrite [e2] | skip)
     go_wp2_with (go_at_call 21; (with_reducible refine (HDE.out _).mono ?_); rintro e' w10 ⟨rfl, hb⟩; have I7 := za.mk (I6.out.to hb); clear hb)
     go_meet

     refine ⟨De ++ (⟨#[33]⟩ : ByteArray), rfl, ?_, ?_⟩
     ·exact E0
     ·exact I7
    ·have e1 : decide (0 < e) = false := decide_eq_false h0
     have E0 : za (bytesOf (⟨#[]⟩ : ByteArray) = epT (epO e) ∧ (⟨#[]⟩ : ByteArray).size ≤ 6) := ⟨by unfold epO; rw [if_neg h0]; rfl, by decide⟩
     clear h0
     (first | rewrite [e1] | rewrite [e2] | skip)
     go_wp2_with (fail)
     go_meet
     refine ⟨⟨#[]⟩, rfl, ?_, ?_⟩
     ·exact E0
     ·exact I6
   case rest =>
    clear I6 HDE HNE
    obtain ⟨T1, rfl, ET, I7⟩ := hcut
    have y1 := cellAt I7.out.t.b1 1 rfl
    go_wp2
    go_loopw [6, 45] (fun v6 iv wr => ∃ (i : Nat) (T : ByteArray) (rv : Value), i ≤ ns.length ∧ v6 = .string T ∧ iv = .int .i64 (i : Int) ∧ za (bytesOf T = epT (epO e) ++ relN ns i) ∧ za (TInv w wr g1 g3 g5 #[.int .u16 e, .slice A1 ns.length c1, .int .u8 k, .int .u16 a, .int .u16 b, .int .u16 c, .bool hp, .bool hd, .slice A8 l.length c8] #[.bool false, .string Me, rv, .bool false, .string ⟨#[]⟩, .bool false, .string ⟨#[]⟩, .bool false, .string ⟨#[]⟩, .bool false, .string ⟨#[]⟩, .bool false, .string ⟨#[]⟩, .bool false, .string ⟨#[]⟩, .slice A5 1 cp5, .slice none 0 0] rv (.slice A5 1 cp5) (intsN (ns.take i)) [⟨#[]⟩])) (fun _ iv _ => ns.length - (intOf iv).toNat)
    case atStart => exact ⟨0, T1, _, Nat.zero_le _, rfl, rfl, ⟨by rw [ET.out.1]; simp [relN, relT]⟩, I7⟩
    case round =>
     obtain ⟨i, T, rv, hi, rfl, rfl, HT, HI⟩ := hrel
     clear I7
     have HTS : za (T.size ≤ 400) := ⟨by have q1 := relN_len HN.out i; have q2 := HGD.out.1.2; have q3 := ET.out.2; rw [zre, ET.out.1] at q3; rw [zre, HT.out, List.length_append]; omega⟩
     by_cases hlt : i < ns.length
     ·have i3 : decide ((i : Int) < (ns.length : Int)) = true := decide_eq_true (by omega)
      have i4 : ((i : Int) < (ns.length : Int)) = True := eq_true (by omega)
      have i5 : (0 ≤ (i : Int)) = True := eq_true (by omega)
      have WR : wrap64 ((i : Int) + 1) = ((i + 1 : Nat) : Int) := by have := HGD.out.1.2; unfold wrap64; omega
      have LT := za.mk hlt
      obtain ⟨ad, ea, hx0⟩ := Kd.at_int HR1.out (i : Int) (by omega) (by omega)
      have hx := (HI.out.t.below.cell (World.block_lt_of_cell? w _ hx0)).trans hx0
      subst ea
      obtain ⟨d, hd⟩ : ∃ d, d = rd ns (i : Int) := ⟨_, rfl⟩
      rw [← hd, Int.toNat_natCast] at hx
      have HU : za (U16 d) := ⟨by rw [hd, rd_nat, List.getD_eq_getElem?_getD, List.getElem?_eq_getElem hlt]; exact HN.out _ (List.getElem_mem _)⟩
      obtain ⟨Dd, hDd⟩ : ∃ s, s = dS d := ⟨_, rfl⟩
      obtain ⟨Md, hMd⟩ : ∃ s, s = magB d.toNat := ⟨_, rfl⟩
      have HDd := za.mk (fun W : World => by have := zvg W HU.out; rewrite [← hDd] at this; exact this)
      have HNd := za.mk (fun W : World => by have := number_ W HU.out; rewrite [← hDd, ← hMd] at this; exact this)
      have HSd : za (Dd.size ≤ 5) := ⟨by rw [hDd]; exact dS_size HU.out⟩
      have HX2 : za (intsN (ns.take i) ++ [(⟨false, Md⟩ : S29)] = intsN (ns.take (i + 1))) := ⟨by unfold intsN; rw [List.take_add_one, List.getElem?_eq_getElem hlt, List.map_append, hMd, hd, rd_nat, List.getD_eq_getElem?_getD, List.getElem?_eq_getElem hlt]; rfl⟩
      have HT2 : za (∀ T' : ByteArray, bytesOf T' = bytesOf T ++ (if i = 0 then [] else [46]) → bytesOf (T' ++ Dd) = epT (epO e) ++ relN ns (i + 1)) := ⟨fun T' h => by rw [zcd, h, HT.out, relN_step hlt, hDd, dS_B, hd]; simp only [List.append_assoc]⟩
      have HLI : za ((intsN (ns.take i)).length ≤ 60) := ⟨by unfold intsN; rw [List.length_map, List.length_take]; have := HGD.out.1.2; omega⟩
      clear hi hlt hx0 hd hDd hMd HT HU
      go_upto_if 51 with (fail)
      go_cut [6] (fun v6 wc => ∃ T' : ByteArray, v6 = .string T' ∧ za (bytesOf T' = bytesOf T ++ (if i = 0 then [] else [46]) ∧ T'.size ≤ 401) ∧ za (TInv w wc g1 g3 g5 #[.int .u16 e, .slice (some ad) ns.length c1, .int .u8 k, .int .u16 a, .int .u16 b, .int .u16 c, .bool hp, .bool hd, .slice A8 l.length c8] #[.bool false, .string Me, rv, .bool false, .string ⟨#[]⟩, .bool false, .string ⟨#[]⟩, .bool false, .string ⟨#[]⟩, .bool false, .string ⟨#[]⟩, .bool false, .string ⟨#[]⟩, .bool false, .string ⟨#[]⟩, .slice A5 1 cp5, .slice none 0 0] rv (.slice A5 1 cp5) (intsN (ns.take i)) [⟨#[]⟩]))
      case first =>
       by_cases h0 : i = 0
       ·have e1 : decide (0 < (i : Int)) = false := decide_eq_false (by omega)
        have e2 : decide (0 < i) = false := decide_eq_false (by omega)
        have E0 : za (bytesOf T = bytesOf T ++ (if i = 0 then [] else [46]) ∧ T.size ≤ 401) := ⟨by rw [if_pos h0, List.append_nil], by have := HTS.out; omega⟩
        clear h0
        (first | rewrite [e1] | rewrite [e2] | skip)
        go_wp2_with (fail)
        go_meet
        exact ⟨T, rfl, E0, HI⟩
       ·have e1 : decide (0 < (i : Int)) = true := decide_eq_true (by omega)
        have e2 : decide (0 < i) = true := decide_eq_true (by omega)
        have s10 : T.size + 1 ≤ 9223372036854775807 := by have := HTS.out; omega
        have s1a := eq_true s10
        have s1b : decide (T.size + 1 ≤ 9223372036854775807) = true := decide_eq_true s10
        have s1 : (9223372036854775807 < T.size + 1) = False := eq_false (Nat.not_lt.2 s10)
        have E0 : za (bytesOf (T ++ (⟨#[46]⟩ : ByteArray)) = bytesOf T ++ (if i = 0 then [] else [46]) ∧ (T ++ (⟨#[46]⟩ : ByteArray)).size ≤ 401) := ⟨by rw [if_neg h0, zcd]; rfl, by rw [zvd]; have := HTS.out; have e5 : (⟨#[46]⟩ : ByteArray).size = 1 := rfl; omega⟩
        clear h0
        (first | rewrite [e1] | rewrite [e2] | skip)
        go_wp2_with (fail)
        go_meet
        exact ⟨T ++ (⟨#[46]⟩ : ByteArray), rfl, E0, HI⟩
      case rest =>
       clear HI hx
       obtain ⟨T2, rfl, ET2, I8⟩ := hcut
       have s10 : T2.size + Dd.size ≤ 9223372036854775807 := by have := ET2.out.2; have := HSd.out; omega
       have s1a := eq_true s10
       have s1b : decide (T2.size + Dd.size ≤ 9223372036854775807) = true := decide_eq_true s10
       have s1 : (9223372036854775807 < T2.size + Dd.size) = False := eq_false (Nat.not_lt.2 s10)
       go_upto_region 13 with (go_at_call 21; (with_reducible refine (HDd.out _).mono ?_); rintro e' w12 ⟨rfl, hb⟩; have I9 := za.mk (I8.out.to hb); clear hb I8)
       refine start_ (n := 9) (S := fun w' => w'.cell? ⟨g5, 2, none⟩ = some (rv)) (ds := [8]) #[false, false, false, false, false, false, false, false, false] (by kernel_rfl) rfl rfl (cellAt (I9.out.to (zvb (Below.refl _ _))).b5 2 rfl) (fun hHeld => ?_)
       have I10 := za.mk (I9.out.to (zvb (Below.refl _ _)))
       clear I9
       generalize w12.drew = w13 at I10 hHeld ⊢
       refine pure_ (i := 0) (N := some 58) (v := ?_) (a' := ?_) #[true, false, false, false, false, false, false, false, false] rfl rfl (by kernel_rfl) (fun _ _ _ h => h) (Or.inl ⟨by rfl, ?_⟩) ?_ ?_
       rotate_left
       ·intro w'
        go_simp
        with_reducible rfl
       rotate_left
       ·simp only [Act.put, List.setIfInBounds_toArray, List.set_cons_zero, List.set_cons_succ, i64_w, i32_w]
        rfl
       refine pure_ (i := 2) (N := some 60) (v := ?_) (a' := ?_) #[true, false, true, false, false, false, false, false, false] rfl rfl (by kernel_rfl) (fun _ _ _ h => h) (Or.inl ⟨by rfl, ?_⟩) ?_ ?_
       rotate_left
       ·intro w'
        go_simp
        with_reducible rfl
       rotate_left
       ·simp only [Act.put, List.setIfInBounds_toArray, List.set_cons_zero, List.set_cons_succ, i64_w, i32_w]
        rfl
       refine take_ (i := 1) (N := some 59) (v := ?_) (a' := ?_) #[true, true, true, false, false, false, false, false, false] rfl rfl (by kernel_rfl) (fun _ _ _ h => h) (Or.inl ⟨by rfl, ?_⟩) hHeld ?_ ?_
       rotate_left
       ·intro w' s0
        go_simp
        with_reducible rfl
       rotate_left
       ·simp only [Act.put, List.setIfInBounds_toArray, List.set_cons_zero, List.set_cons_succ, i64_w, i32_w]
        rfl
       refine one_ (i := 3) (N := some 61) #[true, true, true, true, false, false, false, false, false] rfl rfl (by kernel_rfl) (by decide) (fun K hK => ?_)
       refine goes_ Tryz.func21 (by kernel_rfl) rfl #[.int .u16 d] (by rfl) rfl rfl (by simp only [List.map_toArray, List.map_cons, List.map_nil]; rfl) ?_
       with_reducible refine (HDd.out _).mono ?_
       rintro e w14 ⟨rfl, hb⟩
       refine ⟨_, rfl, ?_⟩
       have I11 := za.mk (I10.out.to hb)
       clear hb I10
       refine hK.out _ _ (cellAt I11.out.b5 2 rfl) (fun hHeld => ?_)
       clear hK K
       refine Go.Proofs.YtlijjnjpomnphaaGreatDoorW.PrintLast.norm_ (a' := ?_) ?_ ?_
       rotate_left
       ·show Act.put _ (some 61) _ = _
        simp only [Act.put, List.setIfInBounds_toArray, List.set_cons_zero, List.set_cons_succ, i64_w, i32_w]
        rfl
       refine one_ (i := 4) (N := some 62) #[true, true, true, true, true, false, false, false, false] rfl rfl (by kernel_rfl) (by decide) (fun K hK => ?_)
       refine goes_ Tryz.func36 (by kernel_rfl) rfl #[.string Dd] (by rfl) rfl rfl (by simp only [List.map_toArray, List.map_cons, List.map_nil]; rfl) ?_
       with_reducible refine (HNd.out _).mono ?_
       rintro e w15 ⟨rfl, hb⟩
       refine ⟨_, rfl, ?_⟩
       have I12 := za.mk (I11.out.to hb)
       clear hb I11
       refine hK.out _ _ (cellAt I12.out.b5 2 rfl) (fun hHeld => ?_)
       clear hK K
       refine Go.Proofs.YtlijjnjpomnphaaGreatDoorW.PrintLast.norm_ (a' := ?_) ?_ ?_
       rotate_left
       ·show Act.put _ (some 62) _ = _
        simp only [Act.put, List.setIfInBounds_toArray, List.set_cons_zero, List.set_cons_succ, i64_w, i32_w]
        rfl
       refine one_ (i := 5) (N := some 63) #[true, true, true, true, true, true, false, false, false] rfl rfl (by kernel_rfl) (by decide) (fun K hK => ?_)
       refine value_ (w1 := ?_) (v := ?_) (by rfl) rfl ?_ ?_
       rotate_left 2
       ·go_simp
        constructor
        ·rfl
        ·rfl
       refine hK.out _ _ (cellAt (zv I12.out.b5 _) 2 rfl) (fun hHeld => ?_)
       clear hK K
       refine Go.Proofs.YtlijjnjpomnphaaGreatDoorW.PrintLast.norm_ (a' := ?_) ?_ ?_
       rotate_left
       ·show Act.put _ (some 63) _ = _
        simp only [Act.put, List.setIfInBounds_toArray, List.set_cons_zero, List.set_cons_succ, i64_w, i32_w]
        rfl
       refine one_ (i := 6) (N := some 64) #[true, true, true, true, true, true, true, false, false] rfl rfl (by kernel_rfl) (by decide) (fun K hK => ?_)
       refine Kd.R_append_step k29 (w0 := w) w.heap.size (by rfl) (.tmp 59) (.tmp 63) 30 29 (.agg #[(.bool false), (.string ⟨#[]⟩)]) 24 rfl Tryz.underlying30 info29 rfl (by decide) (by omega) rv (intsN (ns.take i)) (⟨false, Md⟩ : S29) [.bool false, .string Md] (fun _ => True) (fun _ => False) rfl rfl ?aP (fun _ hk => hk.elim) ?aF ?aO ?aB ?aS ?aL ?_
       (case aP => exact k29_mkM _ _ _ (⟨false, Md⟩ : S29))
       (case aB => exact I12.out.t.below)
       (case aF => exact (fun _ _ => trivial))
       (case aO => exact I12.out.ro)
       (case aS => exact I12.out.t.below.size)
       (case aL => have := HLI.out; omega)
       intro v1 w16 ho hb hg hat
       obtain ⟨A3, n3, cp3, rfl⟩ : ∃ A n c, v1 = .slice A n c := (by obtain ⟨A, c, e⟩ := Kd.R_slice ho; exact ⟨A, _, c, e⟩)
       have I14 := za.mk (I12.out.ints ho hg)
       clear ho hb hg hat I12
       have f2 := zi I14.out.b5 2
       have y2 := cellAt I14.out.b5 2 rfl
       refine hK.out _ _ (cellAt I14.out.b5 2 rfl) (fun hHeld => ?_)
       clear hK K
       refine Go.Proofs.YtlijjnjpomnphaaGreatDoorW.PrintLast.norm_ (a' := ?_) ?_ ?_
       rotate_left
       ·show Act.put _ (some 64) _ = _
        simp only [Act.put, List.setIfInBounds_toArray, List.set_cons_zero, List.set_cons_succ, i64_w, i32_w]
        rfl
       refine pure_ (i := 7) (N := some 65) (v := ?_) (a' := ?_) #[true, true, true, true, true, true, true, true, false] rfl rfl (by kernel_rfl) (fun _ _ _ h => h) (Or.inl ⟨by rfl, ?_⟩) ?_ ?_
       rotate_left
       ·intro w'
        go_simp
        with_reducible rfl
       rotate_left
       ·simp only [Act.put, List.setIfInBounds_toArray, List.set_cons_zero, List.set_cons_succ, i64_w, i32_w]
        rfl
       refine last_ (i := 8) (N := none) #[true, true, true, true, true, true, true, true, true] rfl rfl (by kernel_rfl) (by decide) (fun K hK => ?_)
       refine skip_ (w1 := ?_) (by rfl) rfl ?_ ?_
       rotate_left
       ·go_simp
        rfl
       refine hK.out _ _ ?_
       clear hK K
       refine done_ (by kernel_rfl) ?_
       have I15 : za (TInv w (w16.setCell ⟨g5, 2, none⟩ (.slice A3 n3 cp3)) g1 g3 g5 #[.int .u16 e, .slice (some ad) ns.length c1, .int .u8 k, .int .u16 a, .int .u16 b, .int .u16 c, .bool hp, .bool hd, .slice A8 l.length c8] #[.bool false, .string Me, .slice A3 n3 cp3, .bool false, .string ⟨#[]⟩, .bool false, .string ⟨#[]⟩, .bool false, .string ⟨#[]⟩, .bool false, .string ⟨#[]⟩, .bool false, .string ⟨#[]⟩, .bool false, .string ⟨#[]⟩, .slice A5 1 cp5, .slice none 0 0] (.slice A3 n3 cp3) (.slice A5 1 cp5) (intsN (ns.take (i + 1))) [⟨#[]⟩]) := ⟨by rw [← HX2.out]; exact I14.out.put 2 (.slice A3 n3 cp3)⟩
       have HT3 := za.mk (HT2.out T2 ET2.out.1)
       try go_wp2
       go_roundw
       all_goals first | exact ⟨i + 1, T2 ++ Dd, .slice A3 n3 cp3, LT.out, rfl, by first | rfl | go_num, HT3, I15⟩ | exact znf _ i LT.out | exact meas_up1 _ i LT.out | exact zfg _ i LT.out WR
     ·obtain rfl : i = ns.length := by omega
      have i3 : decide ((ns.length : Int) < (ns.length : Int)) = false := decide_eq_false (by omega)
      have i4 : ((ns.length : Int) < (ns.length : Int)) = False := eq_false (by omega)
      rw [List.take_length] at HI
      have HT1 : za (bytesOf T = epT (epO e) ++ relT (ns.map dec)) := ⟨by rw [HT.out]; unfold relN; rw [List.take_length]⟩
      clear hlt hi HT
      have y2 := cellAt HI.out.t.b1 2 rfl
      go_upto_if 71 with (fail)
      have HDe2 : za (Me = magB e.toNat) := ⟨HDe.out.2.2⟩
      clear HN HDe
      have HB1 : za (∃ X, bytesOf T = X ∧ X = epT (epO e) ++ relT (ns.map dec)) := ⟨_, rfl, HT1.out⟩
      go_cut [6] (fun v6 wc => ∃ T' : ByteArray, v6 = .string T' ∧ za (bytesOf T' = bytesOf T ++ preT (preO k a) ∧ T'.size ≤ 410) ∧ za (TInv w wc g1 g3 g5 #[.int .u16 e, .slice A1 ns.length c1, .int .u8 k, .int .u16 a, .int .u16 b, .int .u16 c, .bool hp, .bool hd, .slice A8 l.length c8] #[.bool false, .string Me, rv, .bool pb, .string pl, .bool false, .string pm, .bool false, .string ⟨#[]⟩, .bool false, .string ⟨#[]⟩, .bool false, .string ⟨#[]⟩, .bool false, .string ⟨#[]⟩, .slice A5 1 cp5, .slice none 0 0] rv (.slice A5 1 cp5) (intsN ns) [⟨#[]⟩]))
      case first =>
       by_cases h0 : Int.tmod k 4 > 0
       ·obtain ⟨j, hm⟩ : ∃ j : Nat, Int.tmod k 4 = (j : Int) + 1 := ⟨(Int.tmod k 4 - 1).toNat, by omega⟩
        have hj3 : j < 3 := by have := kind_cases HK0.out; omega
        have e1 : decide (0 < Int.tmod k 4) = true := decide_eq_true h0
        obtain ⟨q1, q2, q3, q4⟩ := pre_some (a := a) hm hj3
        have hb1 : pb = true := HPP.out.1.trans q1
        have hb2 : pl = kb j := HPP.out.2.1.trans q2
        have hb3 : pm = magB a.toNat := HPP.out.2.2.trans q3
        obtain ⟨Da, hDa⟩ : ∃ s, s = dS a := ⟨_, rfl⟩
        have HDa := za.mk (fun W : World => by have := zvg W HA.out; rewrite [← hDa] at this; exact this)
        have HNa := za.mk (fun W : World => by have := number_ W HA.out; rewrite [← hDa, ← hb3] at this; exact this)
        have HKB : za ((#[.string ⟨#[97]⟩, .string ⟨#[98]⟩, .string ⟨#[114, 99]⟩] : Array Value)[j]? = some (.string pl)) := ⟨by rw [hb2]; exact kb_at hj3⟩
        have HTT : za (bytesOf (T ++ (pl ++ Da)) = bytesOf T ++ preT (preO k a) ∧ (T ++ (pl ++ Da)).size ≤ 410) := ⟨by rw [zcd, zcd, q4, hb2, hDa, dS_B], by rw [zvd, zvd, hb2, hDa]; have := kb_size j; have := dS_size HA.out; have := HTS.out; omega⟩
        have z1 : pl.size ≤ 2 := by rw [hb2]; exact kb_size j
        have z2 : Da.size ≤ 5 := by rw [hDa]; exact dS_size HA.out
        have HZ := za.mk (And.intro z1 z2)
        have HJ := za.mk (And.intro hj3 hm)
        have wj : (Int.tmod k 4 - 1) % 256 = (j : Int) := by omega
        have wj1 : IntKind.u8.wrap (Int.tmod k 4 - 1) = (j : Int) := by simp only [IntKind.wrap, IntKind.signed, IntKind.bits]; simpa using wj
        have wj2 : (0 ≤ (j : Int)) = True := eq_true (by omega)
        have wj3 : ((j : Int) < 3) = True := eq_true (by omega)
        have wj4 : (j < 3) = True := eq_true hj3
        subst hb1
        clear q1 q2 q3 q4 hb2 hb3 hDa hm h0 z1 z2 hj3
        (first | rewrite [e1] | skip)
        go_upto_region 17 with (fail)
        refine start_ (n := 12) (S := fun w' => w'.cell? ⟨g1, 3, none⟩ = some (.int .u16 a)) (ds := [11]) #[false, false, false, false, false, false, false, false, false, false, false, false] (by kernel_rfl) rfl rfl (cellAt (HI.out.to (zvb (Below.refl _ _))).t.b1 3 rfl) (fun hHeld => ?_)
        have ti := HI.out.to (zvb (Below.refl _ _))
        generalize wr.drew = w20 at ti hHeld ⊢
        refine pure_ (i := 1) (N := some 73) (v := ?_) (a' := ?_) #[false, true, false, false, false, false, false, false, false, false, false, false] rfl rfl (by kernel_rfl) (fun _ _ _ h => h) (Or.inl ⟨by rfl, ?_⟩) ?_ ?_
        rotate_left
        ·intro w'
         go_simp
         with_reducible rfl
        rotate_left
        ·simp only [Act.put, List.setIfInBounds_toArray, List.set_cons_zero, List.set_cons_succ, i64_w, i32_w]
         rfl
        refine pure_ (i := 2) (N := some 74) (v := ?_) (a' := ?_) #[false, true, true, false, false, false, false, false, false, false, false, false] rfl rfl (by kernel_rfl) (fun _ _ _ h => h) (Or.inl ⟨by rfl, ?_⟩) ?_ ?_
        rotate_left
        ·intro w'
         go_simp
         with_reducible rfl
        rotate_left
        ·simp only [Act.put, List.setIfInBounds_toArray, List.set_cons_zero, List.set_cons_succ, i64_w, i32_w]
         rfl
        refine pure_ (i := 5) (N := some 77) (v := ?_) (a' := ?_) #[false, true, true, false, false, true, false, false, false, false, false, false] rfl rfl (by kernel_rfl) (fun _ _ _ h => h) (Or.inl ⟨by rfl, ?_⟩) ?_ ?_
        rotate_left
        ·intro w'
         go_simp
         with_reducible rfl
        rotate_left
        ·simp only [Act.put, List.setIfInBounds_toArray, List.set_cons_zero, List.set_cons_succ, i64_w, i32_w]
         rfl
        refine take_ (i := 6) (N := some 78) (v := ?_) (a' := ?_) #[false, true, true, false, false, true, true, false, false, false, false, false] rfl rfl (by kernel_rfl) (fun _ _ _ h => h) (Or.inl ⟨by rfl, ?_⟩) hHeld ?_ ?_
        rotate_left
        ·intro w' s0
         go_simp
         with_reducible rfl
        rotate_left
        ·simp only [Act.put, List.setIfInBounds_toArray, List.set_cons_zero, List.set_cons_succ, i64_w, i32_w]
         rfl
        refine join_ (σ := Nat) 3 #[true, true, true, true, true, true, true, true, true, false, false, false] (fun s_ => [(72, .slice (some ⟨s_, 0, none⟩) 3 3), (75, .pointer (some ⟨s_, j, none⟩)), (76, .string pl), (79, .string Da), (80, .agg #[.bool false, .string pm])]) (fun s_ w' => w'.cell? ⟨g1, 3, none⟩ = some (.int .u16 a) ∧ TInv w w' g1 g3 g5 #[.int .u16 e, .slice A1 ns.length c1, .int .u8 k, .int .u16 a, .int .u16 b, .int .u16 c, .bool hp, .bool hd, .slice A8 l.length c8] #[.bool false, .string Me, rv, .bool false, .string ⟨#[]⟩, .bool false, .string ⟨#[]⟩, .bool false, .string ⟨#[]⟩, .bool false, .string ⟨#[]⟩, .bool false, .string ⟨#[]⟩, .bool false, .string ⟨#[]⟩, .slice A5 1 cp5, .slice none 0 0] rv (.slice A5 1 cp5) (intsN ns) [⟨#[]⟩] ∧ w'.heap[s_]? = some (.cells #[.string ⟨#[97]⟩, .string ⟨#[98]⟩, .string ⟨#[114, 99]⟩] 9 (0, 0))) ?_ ?_
        rotate_left
        ·intro hJ0_4_7_8
         refine join_ (σ := Nat) 4 #[true, true, true, true, true, true, true, true, false, false, false, false] (fun s_ => [(72, .slice (some ⟨s_, 0, none⟩) 3 3), (75, .pointer (some ⟨s_, j, none⟩)), (76, .string pl), (79, .string Da)]) (fun s_ w' => w'.cell? ⟨g1, 3, none⟩ = some (.int .u16 a) ∧ TInv w w' g1 g3 g5 #[.int .u16 e, .slice A1 ns.length c1, .int .u8 k, .int .u16 a, .int .u16 b, .int .u16 c, .bool hp, .bool hd, .slice A8 l.length c8] #[.bool false, .string Me, rv, .bool false, .string ⟨#[]⟩, .bool false, .string ⟨#[]⟩, .bool false, .string ⟨#[]⟩, .bool false, .string ⟨#[]⟩, .bool false, .string ⟨#[]⟩, .bool false, .string ⟨#[]⟩, .slice A5 1 cp5, .slice none 0 0] rv (.slice A5 1 cp5) (intsN ns) [⟨#[]⟩] ∧ w'.heap[s_]? = some (.cells #[.string ⟨#[97]⟩, .string ⟨#[98]⟩, .string ⟨#[114, 99]⟩] 9 (0, 0))) ?_ ?_
         rotate_left
         ·intro hJ0_4_7
          refine join_ (σ := Nat) 4 #[true, true, true, true, false, true, true, true, true, false, false, false] (fun s_ => [(72, .slice (some ⟨s_, 0, none⟩) 3 3), (75, .pointer (some ⟨s_, j, none⟩)), (79, .string Da), (80, .agg #[.bool false, .string pm])]) (fun s_ w' => w'.cell? ⟨g1, 3, none⟩ = some (.int .u16 a) ∧ TInv w w' g1 g3 g5 #[.int .u16 e, .slice A1 ns.length c1, .int .u8 k, .int .u16 a, .int .u16 b, .int .u16 c, .bool hp, .bool hd, .slice A8 l.length c8] #[.bool false, .string Me, rv, .bool false, .string ⟨#[]⟩, .bool false, .string ⟨#[]⟩, .bool false, .string ⟨#[]⟩, .bool false, .string ⟨#[]⟩, .bool false, .string ⟨#[]⟩, .bool false, .string ⟨#[]⟩, .slice A5 1 cp5, .slice none 0 0] rv (.slice A5 1 cp5) (intsN ns) [⟨#[]⟩] ∧ w'.heap[s_]? = some (.cells #[.string ⟨#[97]⟩, .string ⟨#[98]⟩, .string ⟨#[114, 99]⟩] 9 (0, 0))) ?_ ?_
          rotate_left
          ·intro hJ0_7_8
           refine join_ (σ := Nat) 5 #[true, true, true, true, true, true, true, false, false, false, false, false] (fun s_ => [(72, .slice (some ⟨s_, 0, none⟩) 3 3), (75, .pointer (some ⟨s_, j, none⟩)), (76, .string pl)]) (fun s_ w' => w'.cell? ⟨g1, 3, none⟩ = some (.int .u16 a) ∧ TInv w w' g1 g3 g5 #[.int .u16 e, .slice A1 ns.length c1, .int .u8 k, .int .u16 a, .int .u16 b, .int .u16 c, .bool hp, .bool hd, .slice A8 l.length c8] #[.bool false, .string Me, rv, .bool false, .string ⟨#[]⟩, .bool false, .string ⟨#[]⟩, .bool false, .string ⟨#[]⟩, .bool false, .string ⟨#[]⟩, .bool false, .string ⟨#[]⟩, .bool false, .string ⟨#[]⟩, .slice A5 1 cp5, .slice none 0 0] rv (.slice A5 1 cp5) (intsN ns) [⟨#[]⟩] ∧ w'.heap[s_]? = some (.cells #[.string ⟨#[97]⟩, .string ⟨#[98]⟩, .string ⟨#[114, 99]⟩] 9 (0, 0))) ?_ ?_
           rotate_left
           ·intro hJ0_4
            refine join_ (σ := Nat) 5 #[true, true, true, true, false, true, true, true, false, false, false, false] (fun s_ => [(72, .slice (some ⟨s_, 0, none⟩) 3 3), (75, .pointer (some ⟨s_, j, none⟩)), (79, .string Da)]) (fun s_ w' => w'.cell? ⟨g1, 3, none⟩ = some (.int .u16 a) ∧ TInv w w' g1 g3 g5 #[.int .u16 e, .slice A1 ns.length c1, .int .u8 k, .int .u16 a, .int .u16 b, .int .u16 c, .bool hp, .bool hd, .slice A8 l.length c8] #[.bool false, .string Me, rv, .bool false, .string ⟨#[]⟩, .bool false, .string ⟨#[]⟩, .bool false, .string ⟨#[]⟩, .bool false, .string ⟨#[]⟩, .bool false, .string ⟨#[]⟩, .bool false, .string ⟨#[]⟩, .slice A5 1 cp5, .slice none 0 0] rv (.slice A5 1 cp5) (intsN ns) [⟨#[]⟩] ∧ w'.heap[s_]? = some (.cells #[.string ⟨#[97]⟩, .string ⟨#[98]⟩, .string ⟨#[114, 99]⟩] 9 (0, 0))) ?_ ?_
            rotate_left
            ·intro hJ0_7
             refine join_ (σ := Unit) 6 #[false, true, true, false, false, true, true, true, true, false, false, false] (fun s_ => [(79, .string Da), (80, .agg #[.bool false, .string pm])]) (fun s_ w' => w'.cell? ⟨g1, 3, none⟩ = some (.int .u16 a) ∧ TInv w w' g1 g3 g5 #[.int .u16 e, .slice A1 ns.length c1, .int .u8 k, .int .u16 a, .int .u16 b, .int .u16 c, .bool hp, .bool hd, .slice A8 l.length c8] #[.bool false, .string Me, rv, .bool false, .string ⟨#[]⟩, .bool false, .string ⟨#[]⟩, .bool false, .string ⟨#[]⟩, .bool false, .string ⟨#[]⟩, .bool false, .string ⟨#[]⟩, .bool false, .string ⟨#[]⟩, .slice A5 1 cp5, .slice none 0 0] rv (.slice A5 1 cp5) (intsN ns) [⟨#[]⟩]) ?_ ?_
             rotate_left
             ·intro hJ7_8
              refine join_ (σ := Nat) 6 #[true, true, true, true, false, true, true, false, false, false, false, false] (fun s_ => [(72, .slice (some ⟨s_, 0, none⟩) 3 3), (75, .pointer (some ⟨s_, j, none⟩))]) (fun s_ w' => w'.cell? ⟨g1, 3, none⟩ = some (.int .u16 a) ∧ TInv w w' g1 g3 g5 #[.int .u16 e, .slice A1 ns.length c1, .int .u8 k, .int .u16 a, .int .u16 b, .int .u16 c, .bool hp, .bool hd, .slice A8 l.length c8] #[.bool false, .string Me, rv, .bool false, .string ⟨#[]⟩, .bool false, .string ⟨#[]⟩, .bool false, .string ⟨#[]⟩, .bool false, .string ⟨#[]⟩, .bool false, .string ⟨#[]⟩, .bool false, .string ⟨#[]⟩, .slice A5 1 cp5, .slice none 0 0] rv (.slice A5 1 cp5) (intsN ns) [⟨#[]⟩] ∧ w'.heap[s_]? = some (.cells #[.string ⟨#[97]⟩, .string ⟨#[98]⟩, .string ⟨#[114, 99]⟩] 9 (0, 0))) ?_ ?_
              rotate_left
              ·intro hJ0
               refine join_ (σ := Unit) 7 #[false, true, true, false, false, true, true, true, false, false, false, false] (fun s_ => [(79, .string Da)]) (fun s_ w' => w'.cell? ⟨g1, 3, none⟩ = some (.int .u16 a) ∧ TInv w w' g1 g3 g5 #[.int .u16 e, .slice A1 ns.length c1, .int .u8 k, .int .u16 a, .int .u16 b, .int .u16 c, .bool hp, .bool hd, .slice A8 l.length c8] #[.bool false, .string Me, rv, .bool false, .string ⟨#[]⟩, .bool false, .string ⟨#[]⟩, .bool false, .string ⟨#[]⟩, .bool false, .string ⟨#[]⟩, .bool false, .string ⟨#[]⟩, .bool false, .string ⟨#[]⟩, .slice A5 1 cp5, .slice none 0 0] rv (.slice A5 1 cp5) (intsN ns) [⟨#[]⟩]) ?_ ?_
               rotate_left
               ·intro hJ7
                refine two_ (i := 0) (j := 7) (Ni := some 72) (Nj := some 79) #[true, true, true, false, false, true, true, false, false, false, false, false] #[false, true, true, false, false, true, true, true, false, false, false, false] rfl rfl rfl rfl (by kernel_rfl) (by decide) (by decide) (fun K hK => ?_) (fun K hK => ?_)
                ·skip
                 refine value_ (w1 := ?_) (v := ?_) (by rfl) rfl ?_ ?_
                 rotate_left 2
                 ·go_simp
                  constructor
                  ·rfl
                  ·rfl
                 refine hK.out _ _ (cellAt (zv ti.t.b1 _) 3 rfl) (fun hHeld => ?_)
                 clear hK K
                 refine Go.Proofs.YtlijjnjpomnphaaGreatDoorW.PrintLast.norm_ (a' := ?_) ?_ ?_
                 rotate_left
                 ·show Act.put _ (some 72) _ = _
                  simp only [Act.put, List.setIfInBounds_toArray, List.set_cons_zero, List.set_cons_succ, i64_w, i32_w]
                  rfl
                 refine pure_ (i := 3) (N := some 75) (v := ?_) (a' := ?_) #[true, true, true, true, false, true, true, false, false, false, false, false] rfl rfl (by kernel_rfl) (fun _ _ _ h => h) (Or.inl ⟨by rfl, ?_⟩) ?_ ?_
                 rotate_left
                 ·intro w'
                  go_simp
                  with_reducible rfl
                 rotate_left
                 ·simp only [Act.put, List.setIfInBounds_toArray, List.set_cons_zero, List.set_cons_succ, i64_w, i32_w]
                  rfl
                 exact norm_ (by first | (simp only [zpc, Act.put, List.setIfInBounds_toArray, List.set_cons_zero, List.set_cons_succ]; done) | (simp only [zpc, Act.put, List.setIfInBounds_toArray, List.set_cons_zero, List.set_cons_succ]; rfl)) (hJ0 _ _ ⟨hHeld, ti.to (zg (Below.refl _ _) _), zjc _ _⟩)
                ·skip
                 refine goes_ Tryz.func21 (by kernel_rfl) rfl #[.int .u16 a] (by rfl) rfl rfl (by simp only [List.map_toArray, List.map_cons, List.map_nil]; rfl) ?_
                 with_reducible refine (HDa.out _).mono ?_
                 rintro e w22 ⟨rfl, hb⟩
                 refine ⟨_, rfl, ?_⟩
                 have ti2 := ti.to hb
                 refine hK.out _ _ (cellAt ti2.t.b1 3 rfl) (fun hHeld => ?_)
                 clear hK K
                 refine Go.Proofs.YtlijjnjpomnphaaGreatDoorW.PrintLast.norm_ (a' := ?_) ?_ ?_
                 rotate_left
                 ·show Act.put _ (some 79) _ = _
                  simp only [Act.put, List.setIfInBounds_toArray, List.set_cons_zero, List.set_cons_succ, i64_w, i32_w]
                  rfl
                 exact norm_ (by first | (simp only [zpc, Act.put, List.setIfInBounds_toArray, List.set_cons_zero, List.set_cons_succ]; done) | (simp only [zpc, Act.put, List.setIfInBounds_toArray, List.set_cons_zero, List.set_cons_succ]; rfl)) (hJ7 () _ ⟨hHeld, ti2⟩)
               ·skip
                rintro s_ w21 ⟨hHeld, ti⟩
                refine Go.Proofs.YtlijjnjpomnphaaGreatDoorW.PrintLast.norm_ (a' := ?_) ?_ ?_
                rotate_left
                ·simp only [zpc, Act.put, List.setIfInBounds_toArray, List.set_cons_zero, List.set_cons_succ]
                 rfl
                refine two_ (i := 0) (j := 8) (Ni := some 72) (Nj := some 80) #[true, true, true, false, false, true, true, true, false, false, false, false] #[false, true, true, false, false, true, true, true, true, false, false, false] rfl rfl rfl rfl (by kernel_rfl) (by decide) (by decide) (fun K hK => ?_) (fun K hK => ?_)
                ·skip
                 refine value_ (w1 := ?_) (v := ?_) (by rfl) rfl ?_ ?_
                 rotate_left 2
                 ·go_simp
                  constructor
                  ·rfl
                  ·rfl
                 refine hK.out _ _ (cellAt (zv ti.t.b1 _) 3 rfl) (fun hHeld => ?_)
                 clear hK K
                 refine Go.Proofs.YtlijjnjpomnphaaGreatDoorW.PrintLast.norm_ (a' := ?_) ?_ ?_
                 rotate_left
                 ·show Act.put _ (some 72) _ = _
                  simp only [Act.put, List.setIfInBounds_toArray, List.set_cons_zero, List.set_cons_succ, i64_w, i32_w]
                  rfl
                 refine pure_ (i := 3) (N := some 75) (v := ?_) (a' := ?_) #[true, true, true, true, false, true, true, true, false, false, false, false] rfl rfl (by kernel_rfl) (fun _ _ _ h => h) (Or.inl ⟨by rfl, ?_⟩) ?_ ?_
                 rotate_left
                 ·intro w'
                  go_simp
                  with_reducible rfl
                 rotate_left
                 ·simp only [Act.put, List.setIfInBounds_toArray, List.set_cons_zero, List.set_cons_succ, i64_w, i32_w]
                  rfl
                 exact norm_ (by first | (simp only [zpc, Act.put, List.setIfInBounds_toArray, List.set_cons_zero, List.set_cons_succ]; done) | (simp only [zpc, Act.put, List.setIfInBounds_toArray, List.set_cons_zero, List.set_cons_succ]; rfl)) (hJ0_7 _ _ ⟨hHeld, ti.to (zg (Below.refl _ _) _), zjc _ _⟩)
                ·skip
                 refine goes_ Tryz.func36 (by kernel_rfl) rfl #[.string Da] (by rfl) rfl rfl (by simp only [List.map_toArray, List.map_cons, List.map_nil]; rfl) ?_
                 with_reducible refine (HNa.out _).mono ?_
                 rintro e w22 ⟨rfl, hb⟩
                 refine ⟨_, rfl, ?_⟩
                 have ti2 := ti.to hb
                 refine hK.out _ _ (cellAt ti2.t.b1 3 rfl) (fun hHeld => ?_)
                 clear hK K
                 refine Go.Proofs.YtlijjnjpomnphaaGreatDoorW.PrintLast.norm_ (a' := ?_) ?_ ?_
                 rotate_left
                 ·show Act.put _ (some 80) _ = _
                  simp only [Act.put, List.setIfInBounds_toArray, List.set_cons_zero, List.set_cons_succ, i64_w, i32_w]
                  rfl
                 exact norm_ (by first | (simp only [zpc, Act.put, List.setIfInBounds_toArray, List.set_cons_zero, List.set_cons_succ]; done) | (simp only [zpc, Act.put, List.setIfInBounds_toArray, List.set_cons_zero, List.set_cons_succ]; rfl)) (hJ7_8 () _ ⟨hHeld, ti2⟩)
              ·skip
               rintro s_ w21 ⟨hHeld, ti, ks⟩
               refine Go.Proofs.YtlijjnjpomnphaaGreatDoorW.PrintLast.norm_ (a' := ?_) ?_ ?_
               rotate_left
               ·simp only [zpc, Act.put, List.setIfInBounds_toArray, List.set_cons_zero, List.set_cons_succ]
                rfl
               refine two_ (i := 4) (j := 7) (Ni := some 76) (Nj := some 79) #[true, true, true, true, true, true, true, false, false, false, false, false] #[true, true, true, true, false, true, true, true, false, false, false, false] rfl rfl rfl rfl (by kernel_rfl) (by decide) (by decide) (fun K hK => ?_) (fun K hK => ?_)
               ·skip
                have y4 := cellAt ks j HKB.out
                refine value_ (w1 := ?_) (v := ?_) (by rfl) rfl ?_ ?_
                rotate_left 2
                ·go_simp
                 constructor
                 ·rfl
                 ·rfl
                refine hK.out _ _ (cellAt ti.t.b1 3 rfl) (fun hHeld => ?_)
                clear hK K
                refine Go.Proofs.YtlijjnjpomnphaaGreatDoorW.PrintLast.norm_ (a' := ?_) ?_ ?_
                rotate_left
                ·show Act.put _ (some 76) _ = _
                 simp only [Act.put, List.setIfInBounds_toArray, List.set_cons_zero, List.set_cons_succ, i64_w, i32_w]
                 rfl
                exact norm_ (by first | (simp only [zpc, Act.put, List.setIfInBounds_toArray, List.set_cons_zero, List.set_cons_succ]; done) | (simp only [zpc, Act.put, List.setIfInBounds_toArray, List.set_cons_zero, List.set_cons_succ]; rfl)) (hJ0_4 s_ _ ⟨hHeld, ti, ks⟩)
               ·skip
                refine goes_ Tryz.func21 (by kernel_rfl) rfl #[.int .u16 a] (by rfl) rfl rfl (by simp only [List.map_toArray, List.map_cons, List.map_nil]; rfl) ?_
                with_reducible refine (HDa.out _).mono ?_
                rintro e w22 ⟨rfl, hb⟩
                refine ⟨_, rfl, ?_⟩
                have ti2 := ti.to hb
                have ks2 := zr ks hb
                refine hK.out _ _ (cellAt ti2.t.b1 3 rfl) (fun hHeld => ?_)
                clear hK K
                refine Go.Proofs.YtlijjnjpomnphaaGreatDoorW.PrintLast.norm_ (a' := ?_) ?_ ?_
                rotate_left
                ·show Act.put _ (some 79) _ = _
                 simp only [Act.put, List.setIfInBounds_toArray, List.set_cons_zero, List.set_cons_succ, i64_w, i32_w]
                 rfl
                exact norm_ (by first | (simp only [zpc, Act.put, List.setIfInBounds_toArray, List.set_cons_zero, List.set_cons_succ]; done) | (simp only [zpc, Act.put, List.setIfInBounds_toArray, List.set_cons_zero, List.set_cons_succ]; rfl)) (hJ0_7 s_ _ ⟨hHeld, ti2, ks2⟩)
             ·skip
              rintro s_ w21 ⟨hHeld, ti⟩
              refine Go.Proofs.YtlijjnjpomnphaaGreatDoorW.PrintLast.norm_ (a' := ?_) ?_ ?_
              rotate_left
              ·simp only [zpc, Act.put, List.setIfInBounds_toArray, List.set_cons_zero, List.set_cons_succ]
               rfl
              refine one_ (i := 0) (N := some 72) #[true, true, true, false, false, true, true, true, true, false, false, false] rfl rfl (by kernel_rfl) (by decide) (fun K hK => ?_)
              refine value_ (w1 := ?_) (v := ?_) (by rfl) rfl ?_ ?_
              rotate_left 2
              ·go_simp
               constructor
               ·rfl
               ·rfl
              refine hK.out _ _ (cellAt (zv ti.t.b1 _) 3 rfl) (fun hHeld => ?_)
              clear hK K
              refine Go.Proofs.YtlijjnjpomnphaaGreatDoorW.PrintLast.norm_ (a' := ?_) ?_ ?_
              rotate_left
              ·show Act.put _ (some 72) _ = _
               simp only [Act.put, List.setIfInBounds_toArray, List.set_cons_zero, List.set_cons_succ, i64_w, i32_w]
               rfl
              refine pure_ (i := 3) (N := some 75) (v := ?_) (a' := ?_) #[true, true, true, true, false, true, true, true, true, false, false, false] rfl rfl (by kernel_rfl) (fun _ _ _ h => h) (Or.inl ⟨by rfl, ?_⟩) ?_ ?_
              rotate_left
              ·intro w'
               go_simp
               with_reducible rfl
              rotate_left
              ·simp only [Act.put, List.setIfInBounds_toArray, List.set_cons_zero, List.set_cons_succ, i64_w, i32_w]
               rfl
              exact norm_ (by first | (simp only [zpc, Act.put, List.setIfInBounds_toArray, List.set_cons_zero, List.set_cons_succ]; done) | (simp only [zpc, Act.put, List.setIfInBounds_toArray, List.set_cons_zero, List.set_cons_succ]; rfl)) (hJ0_7_8 _ _ ⟨hHeld, ti.to (zg (Below.refl _ _) _), zjc _ _⟩)
            ·skip
             rintro s_ w21 ⟨hHeld, ti, ks⟩
             refine Go.Proofs.YtlijjnjpomnphaaGreatDoorW.PrintLast.norm_ (a' := ?_) ?_ ?_
             rotate_left
             ·simp only [zpc, Act.put, List.setIfInBounds_toArray, List.set_cons_zero, List.set_cons_succ]
              rfl
             refine two_ (i := 4) (j := 8) (Ni := some 76) (Nj := some 80) #[true, true, true, true, true, true, true, true, false, false, false, false] #[true, true, true, true, false, true, true, true, true, false, false, false] rfl rfl rfl rfl (by kernel_rfl) (by decide) (by decide) (fun K hK => ?_) (fun K hK => ?_)
             ·skip
              have y4 := cellAt ks j HKB.out
              refine value_ (w1 := ?_) (v := ?_) (by rfl) rfl ?_ ?_
              rotate_left 2
              ·go_simp
               constructor
               ·rfl
               ·rfl
              refine hK.out _ _ (cellAt ti.t.b1 3 rfl) (fun hHeld => ?_)
              clear hK K
              refine Go.Proofs.YtlijjnjpomnphaaGreatDoorW.PrintLast.norm_ (a' := ?_) ?_ ?_
              rotate_left
              ·show Act.put _ (some 76) _ = _
               simp only [Act.put, List.setIfInBounds_toArray, List.set_cons_zero, List.set_cons_succ, i64_w, i32_w]
               rfl
              exact norm_ (by first | (simp only [zpc, Act.put, List.setIfInBounds_toArray, List.set_cons_zero, List.set_cons_succ]; done) | (simp only [zpc, Act.put, List.setIfInBounds_toArray, List.set_cons_zero, List.set_cons_succ]; rfl)) (hJ0_4_7 s_ _ ⟨hHeld, ti, ks⟩)
             ·skip
              refine goes_ Tryz.func36 (by kernel_rfl) rfl #[.string Da] (by rfl) rfl rfl (by simp only [List.map_toArray, List.map_cons, List.map_nil]; rfl) ?_
              with_reducible refine (HNa.out _).mono ?_
              rintro e w22 ⟨rfl, hb⟩
              refine ⟨_, rfl, ?_⟩
              have ti2 := ti.to hb
              have ks2 := zr ks hb
              refine hK.out _ _ (cellAt ti2.t.b1 3 rfl) (fun hHeld => ?_)
              clear hK K
              refine Go.Proofs.YtlijjnjpomnphaaGreatDoorW.PrintLast.norm_ (a' := ?_) ?_ ?_
              rotate_left
              ·show Act.put _ (some 80) _ = _
               simp only [Act.put, List.setIfInBounds_toArray, List.set_cons_zero, List.set_cons_succ, i64_w, i32_w]
               rfl
              exact norm_ (by first | (simp only [zpc, Act.put, List.setIfInBounds_toArray, List.set_cons_zero, List.set_cons_succ]; done) | (simp only [zpc, Act.put, List.setIfInBounds_toArray, List.set_cons_zero, List.set_cons_succ]; rfl)) (hJ0_7_8 s_ _ ⟨hHeld, ti2, ks2⟩)
           ·skip
            rintro s_ w21 ⟨hHeld, ti, ks⟩
            refine Go.Proofs.YtlijjnjpomnphaaGreatDoorW.PrintLast.norm_ (a' := ?_) ?_ ?_
            rotate_left
            ·simp only [zpc, Act.put, List.setIfInBounds_toArray, List.set_cons_zero, List.set_cons_succ]
             rfl
            refine one_ (i := 7) (N := some 79) #[true, true, true, true, true, true, true, true, false, false, false, false] rfl rfl (by kernel_rfl) (by decide) (fun K hK => ?_)
            refine goes_ Tryz.func21 (by kernel_rfl) rfl #[.int .u16 a] (by rfl) rfl rfl (by simp only [List.map_toArray, List.map_cons, List.map_nil]; rfl) ?_
            with_reducible refine (HDa.out _).mono ?_
            rintro e w22 ⟨rfl, hb⟩
            refine ⟨_, rfl, ?_⟩
            have ti2 := ti.to hb
            have ks2 := zr ks hb
            refine hK.out _ _ (cellAt ti2.t.b1 3 rfl) (fun hHeld => ?_)
            clear hK K
            refine Go.Proofs.YtlijjnjpomnphaaGreatDoorW.PrintLast.norm_ (a' := ?_) ?_ ?_
            rotate_left
            ·show Act.put _ (some 79) _ = _
             simp only [Act.put, List.setIfInBounds_toArray, List.set_cons_zero, List.set_cons_succ, i64_w, i32_w]
             rfl
            exact norm_ (by first | (simp only [zpc, Act.put, List.setIfInBounds_toArray, List.set_cons_zero, List.set_cons_succ]; done) | (simp only [zpc, Act.put, List.setIfInBounds_toArray, List.set_cons_zero, List.set_cons_succ]; rfl)) (hJ0_4_7 s_ _ ⟨hHeld, ti2, ks2⟩)
          ·skip
           rintro s_ w21 ⟨hHeld, ti, ks⟩
           refine Go.Proofs.YtlijjnjpomnphaaGreatDoorW.PrintLast.norm_ (a' := ?_) ?_ ?_
           rotate_left
           ·simp only [zpc, Act.put, List.setIfInBounds_toArray, List.set_cons_zero, List.set_cons_succ]
            rfl
           refine one_ (i := 4) (N := some 76) #[true, true, true, true, true, true, true, true, true, false, false, false] rfl rfl (by kernel_rfl) (by decide) (fun K hK => ?_)
           have y4 := cellAt ks j HKB.out
           refine value_ (w1 := ?_) (v := ?_) (by rfl) rfl ?_ ?_
           rotate_left 2
           ·go_simp
            constructor
            ·rfl
            ·rfl
           refine hK.out _ _ (cellAt ti.t.b1 3 rfl) (fun hHeld => ?_)
           clear hK K
           refine Go.Proofs.YtlijjnjpomnphaaGreatDoorW.PrintLast.norm_ (a' := ?_) ?_ ?_
           rotate_left
           ·show Act.put _ (some 76) _ = _
            simp only [Act.put, List.setIfInBounds_toArray, List.set_cons_zero, List.set_cons_succ, i64_w, i32_w]
            rfl
           exact norm_ (by first | (simp only [zpc, Act.put, List.setIfInBounds_toArray, List.set_cons_zero, List.set_cons_succ]; done) | (simp only [zpc, Act.put, List.setIfInBounds_toArray, List.set_cons_zero, List.set_cons_succ]; rfl)) (hJ0_4_7_8 s_ _ ⟨hHeld, ti, ks⟩)
         ·skip
          rintro s_ w21 ⟨hHeld, ti, ks⟩
          refine Go.Proofs.YtlijjnjpomnphaaGreatDoorW.PrintLast.norm_ (a' := ?_) ?_ ?_
          rotate_left
          ·simp only [zpc, Act.put, List.setIfInBounds_toArray, List.set_cons_zero, List.set_cons_succ]
           rfl
          refine one_ (i := 8) (N := some 80) #[true, true, true, true, true, true, true, true, true, false, false, false] rfl rfl (by kernel_rfl) (by decide) (fun K hK => ?_)
          refine goes_ Tryz.func36 (by kernel_rfl) rfl #[.string Da] (by rfl) rfl rfl (by simp only [List.map_toArray, List.map_cons, List.map_nil]; rfl) ?_
          with_reducible refine (HNa.out _).mono ?_
          rintro e w22 ⟨rfl, hb⟩
          refine ⟨_, rfl, ?_⟩
          have ti2 := ti.to hb
          have ks2 := zr ks hb
          refine hK.out _ _ (cellAt ti2.t.b1 3 rfl) (fun hHeld => ?_)
          clear hK K
          refine Go.Proofs.YtlijjnjpomnphaaGreatDoorW.PrintLast.norm_ (a' := ?_) ?_ ?_
          rotate_left
          ·show Act.put _ (some 80) _ = _
           simp only [Act.put, List.setIfInBounds_toArray, List.set_cons_zero, List.set_cons_succ, i64_w, i32_w]
           rfl
          exact norm_ (by first | (simp only [zpc, Act.put, List.setIfInBounds_toArray, List.set_cons_zero, List.set_cons_succ]; done) | (simp only [zpc, Act.put, List.setIfInBounds_toArray, List.set_cons_zero, List.set_cons_succ]; rfl)) (hJ0_4_7_8 s_ _ ⟨hHeld, ti2, ks2⟩)
        rintro s_ w21 ⟨hHeld, ti, ks⟩
        refine Go.Proofs.YtlijjnjpomnphaaGreatDoorW.PrintLast.norm_ (a' := ?_) ?_ ?_
        rotate_left
        ·simp only [zpc, Act.put, List.setIfInBounds_toArray, List.set_cons_zero, List.set_cons_succ]
         rfl
        refine pure_ (i := 9) (N := some 81) (v := ?_) (a' := ?_) #[true, true, true, true, true, true, true, true, true, true, false, false] rfl rfl (by kernel_rfl) (fun _ _ _ h => h) (Or.inl ⟨by rfl, ?_⟩) ?_ ?_
        rotate_left
        ·intro w'
         go_simp
         with_reducible rfl
        rotate_left
        ·simp only [Act.put, List.setIfInBounds_toArray, List.set_cons_zero, List.set_cons_succ, i64_w, i32_w]
         rfl
        refine pure_ (i := 10) (N := some 82) (v := ?_) (a' := ?_) #[true, true, true, true, true, true, true, true, true, true, true, false] rfl rfl (by kernel_rfl) (fun _ _ _ h => h) (Or.inl ⟨by rfl, ?_⟩) ?_ ?_
        rotate_left
        ·intro w'
         go_simp
         with_reducible rfl
        rotate_left
        ·simp only [Act.put, List.setIfInBounds_toArray, List.set_cons_zero, List.set_cons_succ, i64_w, i32_w]
         rfl
        refine last_ (i := 11) (N := none) #[true, true, true, true, true, true, true, true, true, true, true, true] rfl rfl (by kernel_rfl) (by decide) (fun K hK => ?_)
        have y3 := cellAt ti.b5 3 rfl
        have y4 := cellAt ti.b5 4 rfl
        have y5 := cellAt ti.b5 5 rfl
        have y6 := cellAt ti.b5 6 rfl
        have f3 := zi ti.b5 3
        have f4 := zi ti.b5 4
        have f5 := zi ti.b5 5
        have f6 := zi ti.b5 6
        refine skip_ (w1 := ?_) (by rfl) rfl ?_ ?_
        rotate_left
        ·go_simp
         rfl
        refine hK.out _ _ ?_
        clear hK K
        refine done_ (by kernel_rfl) ?_
        have I20 := za.mk ((((ti.put 3 (.bool true)).put 4 (.string pl)).put 5 (.bool false)).put 6 (.string pm))
        generalize (((w21.setCell ⟨g5, 3, none⟩ (.bool true)).setCell ⟨g5, 4, none⟩ (.string pl)).setCell ⟨g5, 5, none⟩ (.bool false)).setCell ⟨g5, 6, none⟩ (.string pm) = w23 at I20 ⊢
        clear ti ks hHeld
        have s10 : pl.size + Da.size ≤ 9223372036854775807 := by have := HZ.out; omega
        have s1a := eq_true s10
        have s1b : decide (pl.size + Da.size ≤ 9223372036854775807) = true := decide_eq_true s10
        have s1 : (9223372036854775807 < pl.size + Da.size) = False := eq_false (Nat.not_lt.2 s10)
        have s20 : T.size + (pl.size + Da.size) ≤ 9223372036854775807 := by have := HZ.out; have := HTS.out; omega
        have s2a := eq_true s20
        have s2b : decide (T.size + (pl.size + Da.size) ≤ 9223372036854775807) = true := decide_eq_true s20
        have s2 : (9223372036854775807 < T.size + (pl.size + Da.size)) = False := eq_false (Nat.not_lt.2 s20)
        have s30 : T.size + (pl ++ Da).size ≤ 9223372036854775807 := by rw [zvd]; have := HZ.out; have := HTS.out; omega
        have s3a := eq_true s30
        have s3b : decide (T.size + (pl ++ Da).size ≤ 9223372036854775807) = true := decide_eq_true s30
        have s3 : (9223372036854775807 < T.size + (pl ++ Da).size) = False := eq_false (Nat.not_lt.2 s30)
        go_upto_region 18 with (fail)
        refine start_ (n := 10) (S := fun w' => w'.cell? ⟨g5, 4, none⟩ = some (.string pl) ∧ w'.cell? ⟨g1, 3, none⟩ = some (.int .u16 a)) (ds := []) #[false, false, false, false, false, false, false, false, false, false] (by kernel_rfl) rfl rfl ⟨cellAt (I20.out.to (zvb (Below.refl _ _))).b5 4 rfl, cellAt (I20.out.to (zvb (Below.refl _ _))).t.b1 3 rfl⟩ (fun hHeld => ?_)
        have I22 := za.mk (I20.out.to (zvb (Below.refl _ _)))
        clear I20
        generalize w23.drew = w25 at I22 hHeld ⊢
        refine pure_ (i := 0) (N := some 83) (v := ?_) (a' := ?_) #[true, false, false, false, false, false, false, false, false, false] rfl rfl (by kernel_rfl) (fun _ _ _ h => h) (Or.inl ⟨by rfl, ?_⟩) ?_ ?_
        rotate_left
        ·intro w'
         go_simp
         with_reducible rfl
        rotate_left
        ·simp only [Act.put, List.setIfInBounds_toArray, List.set_cons_zero, List.set_cons_succ, i64_w, i32_w]
         rfl
        refine pure_ (i := 1) (N := some 84) (v := ?_) (a' := ?_) #[true, true, false, false, false, false, false, false, false, false] rfl rfl (by kernel_rfl) (fun _ _ _ h => h) (Or.inl ⟨by rfl, ?_⟩) ?_ ?_
        rotate_left
        ·intro w'
         go_simp
         with_reducible rfl
        rotate_left
        ·simp only [Act.put, List.setIfInBounds_toArray, List.set_cons_zero, List.set_cons_succ, i64_w, i32_w]
         rfl
        refine pure_ (i := 2) (N := some 85) (v := ?_) (a' := ?_) #[true, true, true, false, false, false, false, false, false, false] rfl rfl (by kernel_rfl) (fun _ _ _ h => h) (Or.inl ⟨by rfl, ?_⟩) ?_ ?_
        rotate_left
        ·intro w'
         go_simp
         with_reducible rfl
        rotate_left
        ·simp only [Act.put, List.setIfInBounds_toArray, List.set_cons_zero, List.set_cons_succ, i64_w, i32_w]
         rfl
        refine pure_ (i := 4) (N := some 87) (v := ?_) (a' := ?_) #[true, true, true, false, true, false, false, false, false, false] rfl rfl (by kernel_rfl) (fun _ _ _ h => h) (Or.inl ⟨by rfl, ?_⟩) ?_ ?_
        rotate_left
        ·intro w'
         go_simp
         with_reducible rfl
        rotate_left
        ·simp only [Act.put, List.setIfInBounds_toArray, List.set_cons_zero, List.set_cons_succ, i64_w, i32_w]
         rfl
        refine take_ (i := 3) (N := some 86) (v := ?_) (a' := ?_) #[true, true, true, true, true, false, false, false, false, false] rfl rfl (by kernel_rfl) (fun _ _ _ h => h) (Or.inl ⟨by rfl, ?_⟩) hHeld ?_ ?_
        rotate_left
        ·rintro w' ⟨s0, s1⟩
         go_simp
         with_reducible rfl
        rotate_left
        ·simp only [Act.put, List.setIfInBounds_toArray, List.set_cons_zero, List.set_cons_succ, i64_w, i32_w]
         rfl
        refine take_ (i := 5) (N := some 88) (v := ?_) (a' := ?_) #[true, true, true, true, true, true, false, false, false, false] rfl rfl (by kernel_rfl) (fun _ _ _ h => h) (Or.inl ⟨by rfl, ?_⟩) hHeld ?_ ?_
        rotate_left
        ·rintro w' ⟨s0, s1⟩
         go_simp
         with_reducible rfl
        rotate_left
        ·simp only [Act.put, List.setIfInBounds_toArray, List.set_cons_zero, List.set_cons_succ, i64_w, i32_w]
         rfl
        refine one_ (i := 6) (N := some 89) #[true, true, true, true, true, true, true, false, false, false] rfl rfl (by kernel_rfl) (by decide) (fun K hK => ?_)
        refine goes_ Tryz.func21 (by kernel_rfl) rfl #[.int .u16 a] (by rfl) rfl rfl (by simp only [List.map_toArray, List.map_cons, List.map_nil]; rfl) ?_
        with_reducible refine (HDa.out _).mono ?_
        rintro e w24 ⟨rfl, hb⟩
        refine ⟨_, rfl, ?_⟩
        have I24 := za.mk (I22.out.to hb)
        clear hb I22
        refine hK.out _ _ ⟨cellAt I24.out.b5 4 rfl, cellAt I24.out.t.b1 3 rfl⟩ (fun hHeld => ?_)
        clear hK K
        refine Go.Proofs.YtlijjnjpomnphaaGreatDoorW.PrintLast.norm_ (a' := ?_) ?_ ?_
        rotate_left
        ·show Act.put _ (some 89) _ = _
         simp only [Act.put, List.setIfInBounds_toArray, List.set_cons_zero, List.set_cons_succ, i64_w, i32_w]
         rfl
        refine pure_ (i := 7) (N := some 90) (v := ?_) (a' := ?_) #[true, true, true, true, true, true, true, true, false, false] rfl rfl (by kernel_rfl) (fun _ _ _ h => h) (Or.inl ⟨by rfl, ?_⟩) ?_ ?_
        rotate_left
        ·intro w'
         go_simp
         with_reducible rfl
        rotate_left
        ·simp only [Act.put, List.setIfInBounds_toArray, List.set_cons_zero, List.set_cons_succ, i64_w, i32_w]
         rfl
        refine pure_ (i := 8) (N := some 91) (v := ?_) (a' := ?_) #[true, true, true, true, true, true, true, true, true, false] rfl rfl (by kernel_rfl) (fun _ _ _ h => h) (Or.inl ⟨by rfl, ?_⟩) ?_ ?_
        rotate_left
        ·intro w'
         go_simp
         with_reducible rfl
        rotate_left
        ·simp only [Act.put, List.setIfInBounds_toArray, List.set_cons_zero, List.set_cons_succ, i64_w, i32_w]
         rfl
        refine pure_ (i := 9) (N := some 6) (v := ?_) (a' := ?_) #[true, true, true, true, true, true, true, true, true, true] rfl rfl (by kernel_rfl) (fun _ _ _ h => h) (Or.inl ⟨by rfl, ?_⟩) ?_ ?_
        rotate_left
        ·intro w'
         go_simp
         with_reducible rfl
        rotate_left
        ·simp only [Act.put, List.setIfInBounds_toArray, List.set_cons_zero, List.set_cons_succ, i64_w, i32_w]
         rfl
        refine done_ (by kernel_rfl) ?_
        try go_wp2
        go_meet
        exact ⟨T ++ (pl ++ Da), rfl, HTT, I24⟩
       ·have e1 : decide (0 < Int.tmod k 4) = false := decide_eq_false h0
        have hpn : preO k a = none := pre_none h0
        have hb1 : pb = false := HPP.out.1.trans (by rw [hpn]; rfl)
        have hb2 : pl = ⟨#[]⟩ := HPP.out.2.1.trans (by rw [hpn]; rfl)
        have hb3 : pm = ⟨#[]⟩ := HPP.out.2.2.trans (by rw [hpn]; rfl)
        have HTT : za (bytesOf T = bytesOf T ++ preT (preO k a) ∧ T.size ≤ 410) := ⟨by rw [hpn]; exact (List.append_nil _).symm, by have := HTS.out; omega⟩
        subst hb1 hb2 hb3
        clear h0 hpn
        (first | rewrite [e1] | skip)
        go_wp2_with (fail)
        go_meet
        exact ⟨T, rfl, HTT, HI⟩
      case rest =>
       clear HI HTS
       obtain ⟨T3, rfl, ET3, I8⟩ := hcut
       have y6 := cellAt I8.out.t.b1 6 rfl
       go_upto_if 93 with (fail)
       go_cut [6] (fun v6 wc => ∃ T' : ByteArray, v6 = .string T' ∧ za (bytesOf T' = bytesOf T3 ++ postT (numO hp b) ∧ T'.size ≤ 430) ∧ za (TInv w wc g1 g3 g5 #[.int .u16 e, .slice A1 ns.length c1, .int .u8 k, .int .u16 a, .int .u16 b, .int .u16 c, .bool hp, .bool hd, .slice A8 l.length c8] #[.bool false, .string Me, rv, .bool pb, .string pl, .bool false, .string pm, .bool qb, .string ql, .bool false, .string qm, .bool false, .string ⟨#[]⟩, .bool false, .string ⟨#[]⟩, .slice A5 1 cp5, .slice none 0 0] rv (.slice A5 1 cp5) (intsN ns) [⟨#[]⟩]))
       case first =>
        cases hp with
        | true =>
         have hb1 : qb = true := HQQ.out.1.trans (num_some b)
         have hb2 : ql = ⟨#[112, 111, 115, 116]⟩ := HQQ.out.2.1.trans (num_word post_word)
         have hb3 : qm = magB b.toNat := HQQ.out.2.2.trans (num_mag b _)
         obtain ⟨Db, hDb⟩ : ∃ s, s = dS b := ⟨_, rfl⟩
         have HDb := za.mk (fun W : World => by have := zvg W HBb.out; rewrite [← hDb] at this; exact this)
         have HNb := za.mk (fun W : World => by have := number_ W HBb.out; rewrite [← hDb, ← hb3] at this; exact this)
         have hz : Db.size ≤ 5 := by rw [hDb]; exact dS_size HBb.out
         have HTT : za (bytesOf (T3 ++ ((⟨#[46, 112, 111, 115, 116]⟩ : ByteArray) ++ Db)) = bytesOf T3 ++ postT (numO true b) ∧ (T3 ++ ((⟨#[46, 112, 111, 115, 116]⟩ : ByteArray) ++ Db)).size ≤ 430) := ⟨by rw [zcd, zcd, hDb, dS_B]; rfl, by rw [zvd, zvd]; have := ET3.out.2; have e5 : (⟨#[46, 112, 111, 115, 116]⟩ : ByteArray).size = 5 := rfl; omega⟩
         have s10 : 5 + Db.size ≤ 9223372036854775807 := by omega
         have s1a := eq_true s10
         have s1b : decide (5 + Db.size ≤ 9223372036854775807) = true := decide_eq_true s10
         have s1 : (9223372036854775807 < 5 + Db.size) = False := eq_false (Nat.not_lt.2 s10)
         have s20 : T3.size + (5 + Db.size) ≤ 9223372036854775807 := by have := ET3.out.2; omega
         have s2a := eq_true s20
         have s2b : decide (T3.size + (5 + Db.size) ≤ 9223372036854775807) = true := decide_eq_true s20
         have s2 : (9223372036854775807 < T3.size + (5 + Db.size)) = False := eq_false (Nat.not_lt.2 s20)
         have s30 : T3.size + ((⟨#[46, 112, 111, 115, 116]⟩ : ByteArray) ++ Db).size ≤ 9223372036854775807 := by rw [zvd]; have := ET3.out.2; have e5 : (⟨#[46, 112, 111, 115, 116]⟩ : ByteArray).size = 5 := rfl; omega
         have s3a := eq_true s30
         have s3b : decide (T3.size + ((⟨#[46, 112, 111, 115, 116]⟩ : ByteArray) ++ Db).size ≤ 9223372036854775807) = true := decide_eq_true s30
         have s3 : (9223372036854775807 < T3.size + ((⟨#[46, 112, 111, 115, 116]⟩ : ByteArray) ++ Db).size) = False := eq_false (Nat.not_lt.2 s30)
         subst hb1 hb2
         clear hb3 hDb hz
         have y4 := cellAt I8.out.t.b1 4 rfl
         go_upto_region 21 with (first | (go_at_call 21; (with_reducible refine (HDb.out _).mono ?_); rintro e' w30 ⟨rfl, hb⟩; have I30 := za.mk (I8.out.to hb); clear hb I8 y4) | (go_at_call 36; (with_reducible refine (HNb.out _).mono ?_); rintro e' w31 ⟨rfl, hb⟩; have I31 := za.mk (I30.out.to hb); clear hb I30; have y7 := cellAt I31.out.b5 7 rfl; have y8 := cellAt I31.out.b5 8 rfl; have y9 := cellAt I31.out.b5 9 rfl; have y10 := cellAt I31.out.b5 10 rfl; have f7 := zi I31.out.b5 7; have f8 := zi I31.out.b5 8; have f9 := zi I31.out.b5 9; have f10 := zi I31.out.b5 10))
         have I32 := za.mk ((((I31.out.put 7 (.bool true)).put 8 (.string ⟨#[112, 111, 115, 116]⟩)).put 9 (.bool false)).put 10 (.string qm))
         generalize (((w31.setCell ⟨g5, 7, none⟩ (.bool true)).setCell ⟨g5, 8, none⟩ (.string ⟨#[112, 111, 115, 116]⟩)).setCell ⟨g5, 9, none⟩ (.bool false)).setCell ⟨g5, 10, none⟩ (.string qm) = w32 at I32 ⊢
         clear I31 y7 f7 y8 f8 y9 f9 y10 f10
         have y4 := cellAt I32.out.t.b1 4 rfl
         go_wp2_with (go_at_call 21; (with_reducible refine (HDb.out _).mono ?_); rintro e' w33 ⟨rfl, hb⟩; have I33 := za.mk (I32.out.to hb); clear hb)
         go_meet
         exact ⟨T3 ++ ((⟨#[46, 112, 111, 115, 116]⟩ : ByteArray) ++ Db), rfl, HTT, I33⟩
        | false =>
         have hb1 : qb = false := HQQ.out.1
         have hb2 : ql = ⟨#[]⟩ := HQQ.out.2.1
         have hb3 : qm = ⟨#[]⟩ := HQQ.out.2.2
         have HTT : za (bytesOf T3 = bytesOf T3 ++ postT (numO false b) ∧ T3.size ≤ 430) := ⟨(List.append_nil _).symm, by have := ET3.out.2; omega⟩
         subst hb1 hb2 hb3
         go_wp2_with (fail)
         go_meet
         exact ⟨T3, rfl, HTT, I8⟩
       case rest =>
        clear I8
        obtain ⟨T4, rfl, ET4, I9⟩ := hcut
        have y7 := cellAt I9.out.t.b1 7 rfl
        go_upto_if 107 with (fail)
        go_cut [6] (fun v6 wc => ∃ T' : ByteArray, v6 = .string T' ∧ za (bytesOf T' = bytesOf T4 ++ devT (numO hd c) ∧ T'.size ≤ 450) ∧ za (TInv w wc g1 g3 g5 #[.int .u16 e, .slice A1 ns.length c1, .int .u8 k, .int .u16 a, .int .u16 b, .int .u16 c, .bool hp, .bool hd, .slice A8 l.length c8] #[.bool false, .string Me, rv, .bool pb, .string pl, .bool false, .string pm, .bool qb, .string ql, .bool false, .string qm, .bool db, .string dl, .bool false, .string dm, .slice A5 1 cp5, .slice none 0 0] rv (.slice A5 1 cp5) (intsN ns) [⟨#[]⟩]))
        case first =>
         cases hd with
         | true =>
          have hb1 : db = true := HDD.out.1.trans (num_some c)
          have hb2 : dl = ⟨#[100, 101, 118]⟩ := HDD.out.2.1.trans (num_word dev_word)
          have hb3 : dm = magB c.toNat := HDD.out.2.2.trans (num_mag c _)
          obtain ⟨Db, hDb⟩ : ∃ s, s = dS c := ⟨_, rfl⟩
          have HDb := za.mk (fun W : World => by have := zvg W HCc.out; rewrite [← hDb] at this; exact this)
          have HNb := za.mk (fun W : World => by have := number_ W HCc.out; rewrite [← hDb, ← hb3] at this; exact this)
          have hz : Db.size ≤ 5 := by rw [hDb]; exact dS_size HCc.out
          have HTT : za (bytesOf (T4 ++ ((⟨#[46, 100, 101, 118]⟩ : ByteArray) ++ Db)) = bytesOf T4 ++ devT (numO true c) ∧ (T4 ++ ((⟨#[46, 100, 101, 118]⟩ : ByteArray) ++ Db)).size ≤ 450) := ⟨by rw [zcd, zcd, hDb, dS_B]; rfl, by rw [zvd, zvd]; have := ET4.out.2; have e5 : (⟨#[46, 100, 101, 118]⟩ : ByteArray).size = 4 := rfl; omega⟩
          have s10 : 4 + Db.size ≤ 9223372036854775807 := by omega
          have s1a := eq_true s10
          have s1b : decide (4 + Db.size ≤ 9223372036854775807) = true := decide_eq_true s10
          have s1 : (9223372036854775807 < 4 + Db.size) = False := eq_false (Nat.not_lt.2 s10)
          have s20 : T4.size + (4 + Db.size) ≤ 9223372036854775807 := by have := ET4.out.2; omega
          have s2a := eq_true s20
          have s2b : decide (T4.size + (4 + Db.size) ≤ 9223372036854775807) = true := decide_eq_true s20
          have s2 : (9223372036854775807 < T4.size + (4 + Db.size)) = False := eq_false (Nat.not_lt.2 s20)
          have s30 : T4.size + ((⟨#[46, 100, 101, 118]⟩ : ByteArray) ++ Db).size ≤ 9223372036854775807 := by rw [zvd]; have := ET4.out.2; have e5 : (⟨#[46, 100, 101, 118]⟩ : ByteArray).size = 4 := rfl; omega
          have s3a := eq_true s30
          have s3b : decide (T4.size + ((⟨#[46, 100, 101, 118]⟩ : ByteArray) ++ Db).size ≤ 9223372036854775807) = true := decide_eq_true s30
          have s3 : (9223372036854775807 < T4.size + ((⟨#[46, 100, 101, 118]⟩ : ByteArray) ++ Db).size) = False := eq_false (Nat.not_lt.2 s30)
          subst hb1 hb2
          clear hb3 hDb hz
          have y5 := cellAt I9.out.t.b1 5 rfl
          go_upto_region 24 with (first | (go_at_call 21; (with_reducible refine (HDb.out _).mono ?_); rintro e' w30 ⟨rfl, hb⟩; have I30 := za.mk (I9.out.to hb); clear hb I9 y5) | (go_at_call 36; (with_reducible refine (HNb.out _).mono ?_); rintro e' w31 ⟨rfl, hb⟩; have I31 := za.mk (I30.out.to hb); clear hb I30; have y11 := cellAt I31.out.b5 11 rfl; have y12 := cellAt I31.out.b5 12 rfl; have y13 := cellAt I31.out.b5 13 rfl; have y14 := cellAt I31.out.b5 14 rfl; have f11 := zi I31.out.b5 11; have f12 := zi I31.out.b5 12; have f13 := zi I31.out.b5 13; have f14 := zi I31.out.b5 14))
          have I32 := za.mk ((((I31.out.put 11 (.bool true)).put 12 (.string ⟨#[100, 101, 118]⟩)).put 13 (.bool false)).put 14 (.string dm))
          generalize (((w31.setCell ⟨g5, 11, none⟩ (.bool true)).setCell ⟨g5, 12, none⟩ (.string ⟨#[100, 101, 118]⟩)).setCell ⟨g5, 13, none⟩ (.bool false)).setCell ⟨g5, 14, none⟩ (.string dm) = w32 at I32 ⊢
          clear I31 y11 f11 y12 f12 y13 f13 y14 f14
          have y5 := cellAt I32.out.t.b1 5 rfl
          go_wp2_with (go_at_call 21; (with_reducible refine (HDb.out _).mono ?_); rintro e' w33 ⟨rfl, hb⟩; have I33 := za.mk (I32.out.to hb); clear hb)
          go_meet
          exact ⟨T4 ++ ((⟨#[46, 100, 101, 118]⟩ : ByteArray) ++ Db), rfl, HTT, I33⟩
         | false =>
          have hb1 : db = false := HDD.out.1
          have hb2 : dl = ⟨#[]⟩ := HDD.out.2.1
          have hb3 : dm = ⟨#[]⟩ := HDD.out.2.2
          have HTT : za (bytesOf T4 = bytesOf T4 ++ devT (numO false c) ∧ T4.size ≤ 450) := ⟨(List.append_nil _).symm, by have := ET4.out.2; omega⟩
          subst hb1 hb2 hb3
          go_wp2_with (fail)
          go_meet
          exact ⟨T4, rfl, HTT, I9⟩
        case rest =>
         clear I9
         obtain ⟨T5, rfl, ET5, I10⟩ := hcut
         have y8 := cellAt I10.out.t.b1 8 rfl
         go_wp2
         go_loopw [6, 123] (fun v6 iv wr => ∃ (i : Nat) (T : ByteArray) (lv : Value), i ≤ l.length ∧ v6 = .string T ∧ iv = .int .i64 (i : Int) ∧ za (bytesOf T = bytesOf T5 ++ locN l i ∧ ∀ x ∈ l.take i, wordB (bytesOf x) = true) ∧ za (TInv w wr g1 g3 g5 #[.int .u16 e, .slice A1 ns.length c1, .int .u8 k, .int .u16 a, .int .u16 b, .int .u16 c, .bool hp, .bool hd, .slice A8 l.length c8] #[.bool false, .string Me, rv, .bool pb, .string pl, .bool false, .string pm, .bool qb, .string ql, .bool false, .string qm, .bool db, .string dl, .bool false, .string dm, lv, .slice none 0 0] rv lv (intsN ns) (if i = 0 then [⟨#[]⟩] else wordL (l.take i)))) (fun _ iv _ => l.length - (intOf iv).toNat)
         case atStart => exact ⟨0, T5, .slice A5 1 cp5, Nat.zero_le _, rfl, rfl, ⟨by simp [locN, locT], by simp⟩, I10⟩
         case round =>
          obtain ⟨i, T, lv, hi, rfl, rfl, HT, HI⟩ := hrel
          clear I10
          have HTS : za (T.size ≤ 80000) := ⟨by rw [zre, HT.out.1, List.length_append, bytesOf_length]; have := locN_len HGD.out.2.1 i; have := HGD.out.2.2; have := ET5.out.2; omega⟩
          by_cases hlt : i < l.length
          ·have i3 : decide ((i : Int) < (l.length : Int)) = true := decide_eq_true (by omega)
           have i4 : ((i : Int) < (l.length : Int)) = True := eq_true (by omega)
           have i5 : (0 ≤ (i : Int)) = True := eq_true (by omega)
           have WR : wrap64 ((i : Int) + 1) = ((i + 1 : Nat) : Int) := by have := HGD.out.2.2; unfold wrap64; omega
           have LT := za.mk hlt
           obtain ⟨ad8, ea, hx0⟩ := Kd.at_string HR8.out (i : Int) (by omega) (by omega)
           have hx := (HI.out.t.below.cell (World.block_lt_of_cell? w _ hx0)).trans hx0
           subst ea
           obtain ⟨x, hxx⟩ : ∃ x, x = rdOf ByteArray.empty l (i : Int) := ⟨_, rfl⟩
           rewrite [← hxx, Int.toNat_natCast] at hx
           have HTAKE : za (l.take (i + 1) = l.take i ++ [x]) := ⟨by rw [take_snoc hlt, ← hxx]⟩
           have HMEM : za (x ∈ l) := ⟨List.mem_of_mem_take (i := i + 1) (by rw [HTAKE.out]; simp)⟩
           have HSTEP : za (locN l (i + 1) = locN l i ++ ((if i = 0 then [43] else [46]) ++ bytesOf x)) := ⟨by rw [locN_step hlt, ← hxx]⟩
           have HLI : za ((if i = 0 then [] else wordL (l.take i)).length ≤ 60) := ⟨by split; exact Nat.zero_le _; unfold wordL; rw [List.length_map, List.length_take]; have := HGD.out.2.2; omega⟩
           clear hi hlt hx0 hxx
           go_upto_if 129 with (fail)
           go_cut [6] (fun v6 wc => ∃ (T' : ByteArray) (lv' : Value), v6 = .string T' ∧ za (bytesOf T' = bytesOf T ++ (if i = 0 then [43] else [46]) ∧ T'.size ≤ 80001) ∧ za (TInv w wc g1 g3 g5 #[.int .u16 e, .slice A1 ns.length c1, .int .u8 k, .int .u16 a, .int .u16 b, .int .u16 c, .bool hp, .bool hd, .slice (some ad8) l.length c8] #[.bool false, .string Me, rv, .bool pb, .string pl, .bool false, .string pm, .bool qb, .string ql, .bool false, .string qm, .bool db, .string dl, .bool false, .string dm, lv', .slice none 0 0] rv lv' (intsN ns) (if i = 0 then [] else wordL (l.take i))))
           case first =>
            by_cases h0 : i = 0
            ·have e1 : ((i : Int) == 0) = true := (beq_iff_eq.mpr (by omega))
             have e2 : (i == 0) = true := (beq_iff_eq.mpr (by omega))
             have e3 : decide ((i : Int) = 0) = true := decide_eq_true (by omega)
             have e4 : decide (i = 0) = true := decide_eq_true (by omega)
             have y15 := cellAt HI.out.b5 15 rfl
             have f15 := zi HI.out.b5 15
             have E0 : za (bytesOf (T ++ (⟨#[43]⟩ : ByteArray)) = bytesOf T ++ (if i = 0 then [43] else [46]) ∧ (T ++ (⟨#[43]⟩ : ByteArray)).size ≤ 80001) := ⟨by rw [if_pos h0, zcd]; rfl, by rw [zvd]; have := HTS.out; have e5 : (⟨#[43]⟩ : ByteArray).size = 1 := rfl; omega⟩
             have I11 : za (TInv w (wr.setCell ⟨g5, 15, none⟩ (.slice none 0 0)) g1 g3 g5 #[.int .u16 e, .slice A1 ns.length c1, .int .u8 k, .int .u16 a, .int .u16 b, .int .u16 c, .bool hp, .bool hd, .slice (some ad8) l.length c8] #[.bool false, .string Me, rv, .bool pb, .string pl, .bool false, .string pm, .bool qb, .string ql, .bool false, .string qm, .bool db, .string dl, .bool false, .string dm, .slice none 0 0, .slice none 0 0] rv (.slice none 0 0) (intsN ns) (if i = 0 then [] else wordL (l.take i))) := ⟨by rw [if_pos h0]; exact (HI.out.put 15 (.slice none 0 0)).lnil⟩
             have s10 : T.size + 1 ≤ 9223372036854775807 := by have := HTS.out; omega
             have s1a := eq_true s10
             have s1b : decide (T.size + 1 ≤ 9223372036854775807) = true := decide_eq_true s10
             have s1 : (9223372036854775807 < T.size + 1) = False := eq_false (Nat.not_lt.2 s10)
             clear h0
             (first | rewrite [e1] | rewrite [e2] | rewrite [e3] | rewrite [e4] | skip)
             go_wp2_with (fail)
             go_meet
             exact ⟨T ++ (⟨#[43]⟩ : ByteArray), .slice none 0 0, rfl, E0, I11⟩
            ·have e1 : ((i : Int) == 0) = false := (beq_eq_false_iff_ne.mpr (by omega))
             have e2 : (i == 0) = false := (beq_eq_false_iff_ne.mpr (by omega))
             have e3 : decide ((i : Int) = 0) = false := decide_eq_false (by omega)
             have e4 : decide (i = 0) = false := decide_eq_false (by omega)
             have E0 : za (bytesOf (T ++ (⟨#[46]⟩ : ByteArray)) = bytesOf T ++ (if i = 0 then [43] else [46]) ∧ (T ++ (⟨#[46]⟩ : ByteArray)).size ≤ 80001) := ⟨by rw [if_neg h0, zcd]; rfl, by rw [zvd]; have := HTS.out; have e5 : (⟨#[46]⟩ : ByteArray).size = 1 := rfl; omega⟩
             have I11 : za (TInv w wr g1 g3 g5 #[.int .u16 e, .slice A1 ns.length c1, .int .u8 k, .int .u16 a, .int .u16 b, .int .u16 c, .bool hp, .bool hd, .slice (some ad8) l.length c8] #[.bool false, .string Me, rv, .bool pb, .string pl, .bool false, .string pm, .bool qb, .string ql, .bool false, .string qm, .bool db, .string dl, .bool false, .string dm, lv, .slice none 0 0] rv lv (intsN ns) (if i = 0 then [] else wordL (l.take i))) := ⟨by rw [if_neg h0]; have := HI.out; rw [if_neg h0] at this; exact this⟩
             have s10 : T.size + 1 ≤ 9223372036854775807 := by have := HTS.out; omega
             have s1a := eq_true s10
             have s1b : decide (T.size + 1 ≤ 9223372036854775807) = true := decide_eq_true s10
             have s1 : (9223372036854775807 < T.size + 1) = False := eq_false (Nat.not_lt.2 s10)
             clear h0
             (first | rewrite [e1] | rewrite [e2] | rewrite [e3] | rewrite [e4] | skip)
             go_wp2_with (fail)
             go_meet
             exact ⟨T ++ (⟨#[46]⟩ : ByteArray), lv, rfl, E0, I11⟩
           case rest =>
            clear HI hx
            obtain ⟨T6, lv2, rfl, ET6, I12⟩ := hcut
            obtain ⟨bd, hbd⟩ : ∃ v, v = digB x := ⟨_, rfl⟩
            obtain ⟨bw, hbw⟩ : ∃ v, v = wrdB x := ⟨_, rfl⟩
            have HXS : za (x.size ≤ 1200) := ⟨HGD.out.2.1 x HMEM.out⟩
            have HDG := za.mk (fun W : World => by have := digits_ W (s := x) (by have := HXS.out; omega); rewrite [← hbd] at this; exact this)
            have HWG := za.mk (fun W : World => by have := words_ W (s := x) (by have := HXS.out; omega); rewrite [← hbw] at this; exact this)
            have HWB : za (wordB (bytesOf x) = (bd || bw)) := ⟨by rw [hbd, hbw]; exact wordB_or⟩
            clear hbd hbw
            go_upto_region 32 with (fail)
            go_cut [142] (fun v142 wc => v142 = .bool (!(bd || bw)) ∧ za (TInv w wc g1 g3 g5 #[.int .u16 e, .slice A1 ns.length c1, .int .u8 k, .int .u16 a, .int .u16 b, .int .u16 c, .bool hp, .bool hd, .slice (some ad8) l.length c8] #[.bool false, .string Me, rv, .bool pb, .string pl, .bool false, .string pm, .bool qb, .string ql, .bool false, .string qm, .bool db, .string dl, .bool false, .string dm, lv2, .slice none 0 0] rv lv2 (intsN ns) (if i = 0 then [] else wordL (l.take i))))
            case first =>
             cases bd with
             | true =>
              go_wp2_with (first | (go_at_call 37; (with_reducible refine (HDG.out _).mono ?_); rintro e' w41 ⟨rfl, hb⟩; have I13 := za.mk (I12.out.to hb); clear hb))
              go_meet
              exact ⟨rfl, I13⟩
             | false =>
              cases bw with
              | true =>
               go_wp2_with (first | (go_at_call 37; (with_reducible refine (HDG.out _).mono ?_); rintro e' w41 ⟨rfl, hb⟩; have I13 := za.mk (I12.out.to hb); clear hb) | (go_at_call 38; (with_reducible refine (HWG.out _).mono ?_); rintro e' w42 ⟨rfl, hb⟩; have I14 := za.mk (I13.out.to hb); clear hb))
               go_meet
               exact ⟨rfl, I14⟩
              | false =>
               go_wp2_with (first | (go_at_call 37; (with_reducible refine (HDG.out _).mono ?_); rintro e' w41 ⟨rfl, hb⟩; have I13 := za.mk (I12.out.to hb); clear hb) | (go_at_call 38; (with_reducible refine (HWG.out _).mono ?_); rintro e' w42 ⟨rfl, hb⟩; have I14 := za.mk (I13.out.to hb); clear hb))
               go_meet
               exact ⟨rfl, I14⟩
            case rest =>
             clear I12
             obtain ⟨rfl, I15⟩ := hcut
             by_cases hbb : (bd || bw) = true
             case neg =>
              have hf : RR = failT := by
               rw [HRR.out, if_neg]
               rintro ⟨_, _, _, _, t5⟩
               exact hbb (by rw [← HWB.out]; exact t5 x HMEM.out)
              subst hf
              rewrite [Bool.eq_false_iff.mpr hbb]
              simp only [Bool.not_false]
              go_wp2_with (((with_reducible refine zhe (t := 34) rfl ?_); refine zif rfl 34 _ _ rfl _ _ #[_, _, _, _, _, _, _, _, _, _, _, _, _, _, _, _, _] 34 rfl rfl (by with_reducible exact I15.out.t.b3) (by rfl) zxd rfl ?_))
              refine bodyPost_ret (zcg (rs := [.tmp 2, .cell 3 34, .tmp 4]) rfl (by simp) (.tmp (.cell g3 34 #[.bool false, .string ⟨#[]⟩, .slice none 0 0, .bool false, .string ⟨#[]⟩, .bool false, .string ⟨#[]⟩, .bool false, .string ⟨#[]⟩, .bool false, .string ⟨#[]⟩, .bool false, .string ⟨#[]⟩, .bool false, .string ⟨#[]⟩, .slice none 0 0, .slice none 0 0] (0, 0) _ rfl (zze (bs := #[.bool false, .string ⟨#[]⟩, .slice none 0 0, .bool false, .string ⟨#[]⟩, .bool false, .string ⟨#[]⟩, .bool false, .string ⟨#[]⟩, .bool false, .string ⟨#[]⟩, .bool false, .string ⟨#[]⟩, .bool false, .string ⟨#[]⟩, .slice none 0 0, .slice none 0 0]) I15.out.t.b3 rfl) Tryz.underlying34 rfl (by kernel_rfl) (.tmp .nil)))) rfl ?_
              exact stage_fail I15.out.t HG3.out
             case pos =>
              have HW : za (wordB (bytesOf x) = true) := ⟨by rw [HWB.out]; exact hbb⟩
              rewrite [hbb]
              simp only [Bool.not_true]
              clear hbb
              obtain ⟨xs, hxs⟩ : ∃ s, s = smS x := ⟨_, rfl⟩
              have HSM := za.mk (fun W : World => by have := small_ W (s := x) (by have := HXS.out; omega) HW.out; rewrite [← hxs] at this; exact this)
              have HT9 : za (bytesOf (T6 ++ x) = bytesOf T5 ++ locN l (i + 1) ∧ ∀ x ∈ l.take (i + 1), wordB (bytesOf x) = true) := ⟨by rw [zcd, ET6.out.1, HT.out.1, HSTEP.out]; simp only [List.append_assoc], fun y hy => by
               rw [HTAKE.out] at hy
               rcases List.mem_append.1 hy with h | h
               ·exact HT.out.2 y h
               ·rw [List.mem_singleton.1 h]; exact HW.out⟩
              have HYS : za ((if i = 0 then [] else wordL (l.take i)) ++ [xs] = (if i + 1 = 0 then [⟨#[]⟩] else wordL (l.take (i + 1)))) := ⟨by
               rw [if_neg (Nat.succ_ne_zero i), HTAKE.out, wordL_snoc, hxs]
               by_cases h0 : i = 0
               ·rw [if_pos h0, h0]; rfl
               ·rw [if_neg h0]⟩
              clear hxs
              have s10 : T6.size + x.size ≤ 9223372036854775807 := by have := ET6.out.2; have := HXS.out; omega
              have s1a := eq_true s10
              have s1b : decide (T6.size + x.size ≤ 9223372036854775807) = true := decide_eq_true s10
              have s1 : (9223372036854775807 < T6.size + x.size) = False := eq_false (Nat.not_lt.2 s10)
              go_upto_region 35 with (fail)
              refine start_ (n := 8) (S := fun w' => w'.cell? ⟨g5, 15, none⟩ = some (lv2)) (ds := [7]) #[false, false, false, false, false, false, false, false] (by kernel_rfl) rfl rfl (cellAt (I15.out.to (zvb (Below.refl _ _))).b5 15 rfl) (fun hHeld => ?_)
              have I16 := za.mk (I15.out.to (zvb (Below.refl _ _)))
              clear I15
              generalize wc.drew = w45 at I16 hHeld ⊢
              refine pure_ (i := 0) (N := some 147) (v := ?_) (a' := ?_) #[true, false, false, false, false, false, false, false] rfl rfl (by kernel_rfl) (fun _ _ _ h => h) (Or.inl ⟨by rfl, ?_⟩) ?_ ?_
              rotate_left
              ·intro w'
               go_simp
               with_reducible rfl
              rotate_left
              ·simp only [Act.put, List.setIfInBounds_toArray, List.set_cons_zero, List.set_cons_succ, i64_w, i32_w]
               rfl
              refine pure_ (i := 2) (N := some 149) (v := ?_) (a' := ?_) #[true, false, true, false, false, false, false, false] rfl rfl (by kernel_rfl) (fun _ _ _ h => h) (Or.inl ⟨by rfl, ?_⟩) ?_ ?_
              rotate_left
              ·intro w'
               go_simp
               with_reducible rfl
              rotate_left
              ·simp only [Act.put, List.setIfInBounds_toArray, List.set_cons_zero, List.set_cons_succ, i64_w, i32_w]
               rfl
              refine take_ (i := 1) (N := some 148) (v := ?_) (a' := ?_) #[true, true, true, false, false, false, false, false] rfl rfl (by kernel_rfl) (fun _ _ _ h => h) (Or.inl ⟨by rfl, ?_⟩) hHeld ?_ ?_
              rotate_left
              ·intro w' s0
               go_simp
               with_reducible rfl
              rotate_left
              ·simp only [Act.put, List.setIfInBounds_toArray, List.set_cons_zero, List.set_cons_succ, i64_w, i32_w]
               rfl
              refine one_ (i := 3) (N := some 150) #[true, true, true, true, false, false, false, false] rfl rfl (by kernel_rfl) (by decide) (fun K hK => ?_)
              refine goes_ Tryz.func31 (by kernel_rfl) rfl #[.string x] (by rfl) rfl rfl (by simp only [List.map_toArray, List.map_cons, List.map_nil]; rfl) ?_
              with_reducible refine (HSM.out _).mono ?_
              rintro e w44 ⟨rfl, hb⟩
              refine ⟨_, rfl, ?_⟩
              have I17 := za.mk (I16.out.to hb)
              clear hb I16
              refine hK.out _ _ (cellAt I17.out.b5 15 rfl) (fun hHeld => ?_)
              clear hK K
              refine Go.Proofs.YtlijjnjpomnphaaGreatDoorW.PrintLast.norm_ (a' := ?_) ?_ ?_
              rotate_left
              ·show Act.put _ (some 150) _ = _
               simp only [Act.put, List.setIfInBounds_toArray, List.set_cons_zero, List.set_cons_succ, i64_w, i32_w]
               rfl
              refine one_ (i := 4) (N := some 151) #[true, true, true, true, true, false, false, false] rfl rfl (by kernel_rfl) (by decide) (fun K hK => ?_)
              refine value_ (w1 := ?_) (v := ?_) (by rfl) rfl ?_ ?_
              rotate_left 2
              ·go_simp
               constructor
               ·rfl
               ·rfl
              refine hK.out _ _ (cellAt (zv I17.out.b5 _) 15 rfl) (fun hHeld => ?_)
              clear hK K
              refine Go.Proofs.YtlijjnjpomnphaaGreatDoorW.PrintLast.norm_ (a' := ?_) ?_ ?_
              rotate_left
              ·show Act.put _ (some 151) _ = _
               simp only [Act.put, List.setIfInBounds_toArray, List.set_cons_zero, List.set_cons_succ, i64_w, i32_w]
               rfl
              refine one_ (i := 5) (N := some 152) #[true, true, true, true, true, true, false, false] rfl rfl (by kernel_rfl) (by decide) (fun K hK => ?_)
              refine Kd.R_append_step Kd.string (w0 := w) w.heap.size (by rfl) (.tmp 148) (.tmp 151) 24 9 (.string ⟨#[]⟩) 16 rfl Tryz.underlying24 info9 rfl (by decide) (by omega) lv2 (if i = 0 then [] else wordL (l.take i)) xs [.string xs] (fun _ => True) (fun _ => False) rfl rfl ?aP (fun _ hk => hk.elim) ?aF ?aO ?aB ?aS ?aL ?_
              (case aP => exact rfl)
              (case aB => exact I17.out.t.below)
              (case aF => exact (fun _ _ => trivial))
              (case aO => exact I17.out.lo)
              (case aS => exact I17.out.t.below.size)
              (case aL => have := HLI.out; omega)
              intro v1 w46 ho hb hg hat
              obtain ⟨A7, n7, c7, rfl⟩ : ∃ A n c, v1 = .slice A n c := (by obtain ⟨A, c, e⟩ := Kd.R_slice ho; exact ⟨A, _, c, e⟩)
              have I18 := za.mk (I17.out.texts ho hg)
              clear ho hb hg hat I17
              have f15 := zi I18.out.b5 15
              have y15 := cellAt I18.out.b5 15 rfl
              refine hK.out _ _ (cellAt I18.out.b5 15 rfl) (fun hHeld => ?_)
              clear hK K
              refine Go.Proofs.YtlijjnjpomnphaaGreatDoorW.PrintLast.norm_ (a' := ?_) ?_ ?_
              rotate_left
              ·show Act.put _ (some 152) _ = _
               simp only [Act.put, List.setIfInBounds_toArray, List.set_cons_zero, List.set_cons_succ, i64_w, i32_w]
               rfl
              refine pure_ (i := 6) (N := some 153) (v := ?_) (a' := ?_) #[true, true, true, true, true, true, true, false] rfl rfl (by kernel_rfl) (fun _ _ _ h => h) (Or.inl ⟨by rfl, ?_⟩) ?_ ?_
              rotate_left
              ·intro w'
               go_simp
               with_reducible rfl
              rotate_left
              ·simp only [Act.put, List.setIfInBounds_toArray, List.set_cons_zero, List.set_cons_succ, i64_w, i32_w]
               rfl
              refine last_ (i := 7) (N := none) #[true, true, true, true, true, true, true, true] rfl rfl (by kernel_rfl) (by decide) (fun K hK => ?_)
              refine skip_ (w1 := ?_) (by rfl) rfl ?_ ?_
              rotate_left
              ·go_simp
               rfl
              refine hK.out _ _ ?_
              clear hK K
              refine done_ (by kernel_rfl) ?_
              have I19 : za (TInv w (w46.setCell ⟨g5, 15, none⟩ (.slice A7 n7 c7)) g1 g3 g5 #[.int .u16 e, .slice A1 ns.length c1, .int .u8 k, .int .u16 a, .int .u16 b, .int .u16 c, .bool hp, .bool hd, .slice (some ad8) l.length c8] #[.bool false, .string Me, rv, .bool pb, .string pl, .bool false, .string pm, .bool qb, .string ql, .bool false, .string qm, .bool db, .string dl, .bool false, .string dm, .slice A7 n7 c7, .slice none 0 0] rv (.slice A7 n7 c7) (intsN ns) (if i + 1 = 0 then [⟨#[]⟩] else wordL (l.take (i + 1)))) := ⟨by rw [← HYS.out]; exact I18.out.put 15 (.slice A7 n7 c7)⟩
              try go_wp2
              go_roundw
              all_goals first | exact ⟨i + 1, T6 ++ x, .slice A7 n7 c7, LT.out, rfl, by first | rfl | go_num, HT9, I19⟩ | exact znf _ i LT.out | exact meas_up1 _ i LT.out | exact zfg _ i LT.out WR
          ·obtain rfl : i = l.length := by omega
           have i3 : decide ((l.length : Int) < (l.length : Int)) = false := decide_eq_false (by omega)
           have i4 : ((l.length : Int) < (l.length : Int)) = False := eq_false (by omega)
           have hok : tOk ns l := ⟨HGD.out.1.1, HGD.out.1.2, HGD.out.2.2, HGD.out.2.1, fun x hx => HT.out.2 x (by rw [List.take_length]; exact hx)⟩
           have hRR2 := HRR.out
           rw [if_pos hok] at hRR2
           have HOK := za.mk hok
           have HTT : za (bytesOf T = zye e ns k a b c hp hd l) := ⟨by
            rw [HT.out.1, ET5.out.1, ET4.out.1, ET3.out.1, HT1.out]
            unfold locN
            rw [List.take_length]
            show _ = epT (epO e) ++ (relT (ns.map dec) ++ (preT (preO k a) ++ (postT (numO hp b) ++ (devT (numO hd c) ++ locT (l.map bytesOf)))))
            simp only [List.append_assoc]⟩
           have I17 : za (TInv w wr g1 g3 g5 #[.int .u16 e, .slice A1 ns.length c1, .int .u8 k, .int .u16 a, .int .u16 b, .int .u16 c, .bool hp, .bool hd, .slice A8 l.length c8] #[.bool false, .string Me, rv, .bool pb, .string pl, .bool false, .string pm, .bool qb, .string ql, .bool false, .string qm, .bool db, .string dl, .bool false, .string dm, lv, .slice none 0 0] rv lv (intsN ns) (if l = [] then [⟨#[]⟩] else wordL l)) := ⟨by
            have h := HI.out
            rw [List.take_length] at h
            by_cases h0 : l = []
            ·rw [if_pos h0]; rw [if_pos (by rw [h0]; rfl)] at h; exact h
            ·rw [if_neg h0]; rw [if_neg (fun h1 => h0 (List.length_eq_zero_iff.1 h1))] at h; exact h⟩
           clear hlt hi HI hok HT
           obtain ⟨Ar, nr, cr, rfl⟩ : ∃ A n c, rv = .slice A n c := (by obtain ⟨A, c, e⟩ := Kd.R_slice I17.out.ro; exact ⟨A, _, c, e⟩)
           obtain ⟨Al, nl, cl, rfl⟩ : ∃ A n c, lv = .slice A n c := (by obtain ⟨A, c, e⟩ := Kd.R_slice I17.out.lo; exact ⟨A, _, c, e⟩)
           subst hRR2
           try go_wp2
           refine start_ (n := 5) (S := fun w' => w'.heap[g5]? = some (.cells #[.bool false, .string Me, .slice Ar nr cr, .bool pb, .string pl, .bool false, .string pm, .bool qb, .string ql, .bool false, .string qm, .bool db, .string dl, .bool false, .string dm, .slice Al nl cl, .slice none 0 0] 34 (0, 0))) (ds := [3]) #[false, false, false, false, false] (by kernel_rfl) rfl rfl ((I17.out.to (zvb (Below.refl _ _))).b5) (fun hHeld => ?_)
           have I23 := za.mk (I17.out.to (zvb (Below.refl _ _)))
           clear I17
           generalize wr.drew = w50 at I23 hHeld ⊢
           refine pure_ (i := 0) (N := some 155) (v := ?_) (a' := ?_) #[true, false, false, false, false] rfl rfl (by kernel_rfl) (fun _ _ _ h => h) (Or.inl ⟨by rfl, ?_⟩) ?_ ?_
           rotate_left
           ·intro w'
            go_simp
            with_reducible rfl
           rotate_left
           ·simp only [Act.put, List.setIfInBounds_toArray, List.set_cons_zero, List.set_cons_succ, i64_w, i32_w]
            rfl
           refine pure_ (i := 2) (N := some 2) (v := ?_) (a' := ?_) #[true, false, true, false, false] rfl rfl (by kernel_rfl) (fun _ _ _ h => h) (Or.inl ⟨by rfl, ?_⟩) ?_ ?_
           rotate_left
           ·intro w'
            go_simp
            with_reducible rfl
           rotate_left
           ·simp only [Act.put, List.setIfInBounds_toArray, List.set_cons_zero, List.set_cons_succ, i64_w, i32_w]
            rfl
           refine take_ (i := 1) (N := some 156) (v := ?_) (a' := ?_) #[true, true, true, false, false] rfl rfl (by kernel_rfl) (fun _ _ _ h => h) (Or.inl ⟨by rfl, ?_⟩) hHeld ?_ ?_
           rotate_left
           ·intro w' s0
            refine Eq.trans (exec_load 34 (.tmp 5) (by rfl) g5 (by rfl) 34 _ (0, 0) _ s0 Tryz.underlying34 rfl zxd) ?_
            with_reducible rfl
           rotate_left
           ·simp only [Act.put, List.setIfInBounds_toArray, List.set_cons_zero, List.set_cons_succ, i64_w, i32_w]
            rfl
           refine last_ (i := 3) (N := none) #[true, true, true, true, false] rfl rfl (by kernel_rfl) (by decide) (fun K hK => ?_)
           refine skip_ (w1 := ?_) (by rfl) rfl ?_ ?_
           rotate_left
           ·(refine Eq.trans (exec_blk (bs := #[.bool false, .string Me, .slice Ar nr cr, .bool pb, .string pl, .bool false, .string pm, .bool qb, .string ql, .bool false, .string qm, .bool db, .string dl, .bool false, .string dm, .slice Al nl cl, .slice none 0 0]) 34 (.tmp _) (.tmp _) rfl g3 _ 34 (by rfl) (by rfl) I23.out.t.b3 (by rfl) zxd (by rfl)) ?_; rfl)
           refine hK.out _ _ ?_
           clear hK K
           refine pure_ (i := 4) (N := some 4) (v := ?_) (a' := ?_) #[true, true, true, true, true] rfl rfl (by kernel_rfl) (fun _ _ _ h => h) (Or.inl ⟨by rfl, ?_⟩) ?_ ?_
           rotate_left
           ·intro w'
            go_simp
            with_reducible rfl
           rotate_left
           ·simp only [Act.put, List.setIfInBounds_toArray, List.set_cons_zero, List.set_cons_succ, i64_w, i32_w]
            rfl
           refine done_ (by kernel_rfl) ?_
           try go_wp2_with (fail)
           refine bodyPost_ret (zcg (rs := [.tmp 2, .cell 3 34, .tmp 4]) rfl (by simp) (.tmp (.cell g3 34 #[.bool false, .string Me, .slice Ar nr cr, .bool pb, .string pl, .bool false, .string pm, .bool qb, .string ql, .bool false, .string qm, .bool db, .string dl, .bool false, .string dm, .slice Al nl cl, .slice none 0 0] (0, 0) _ rfl (zze (bs := #[.bool false, .string Me, .slice Ar nr cr, .bool pb, .string pl, .bool false, .string pm, .bool qb, .string ql, .bool false, .string qm, .bool db, .string dl, .bool false, .string dm, .slice Al nl cl, .slice none 0 0]) I23.out.t.b3 rfl) Tryz.underlying34 rfl (by kernel_rfl) (.tmp .nil)))) rfl ?_
           exact stage_good HOK.out HE.out HTT.out HDe2.out HPP.out HQQ.out HDD.out I23.out HG3.out
end Go.Proofs.YtlijjnjpomnphaaGreatDoor.V
end
section
namespace Go.Proofs.YtlijjnjpomnphaaGreatDoor.V
open Go.RowKit YtlijjnjpomnphaaGreatDoor.Q YtlijjnjpomnphaaGreatDoorG YtlijjnjpomnphaaGreatDoorH YtlijjnjpomnphaaGreatDoorB YtlijjnjpomnphaaGreatDoorC YtlijjnjpomnphaaGreatDoorM YtlijjnjpomnphaaGreatDoorY YtlijjnjpomnphaaGreatDoorP YtlijjnjpomnphaaGreatDoorW.PrintWords YtlijjnjpomnphaaGreatDoorW.PrintLast YtlijjnjpomnphaaGreatDoorW.PrintMore
theorem stageL_B {e : Int} {ns : List Int} {k a b c : Int} {hp hd : Bool} {l : List ByteArray} (hok : tOk ns l) : bytesOf (strOfNums (zye e ns k a b c hp hd l)) = zye e ns k a b c hp hd l := by
 have h2 : (sP e ns k a b c hp hd (lows l)).Ok := sP_ok hok.1 (zbg hok.2.2.2.2)
 exact B_str (fun x hx => by have := low_byte h2 (stage_low e ns k a b c hp hd l h2) x hx; omega)
end Go.Proofs.YtlijjnjpomnphaaGreatDoor.V
end
