/- Proved here, for the row of the law FnAlpineStages: contracts of the Go functions that it reaches, each as its theorem 'calls' says, and the words and plain laws that they need (Qx5, Qx6, Qx21). -/
import Derived.Test.YtapaijpglfmfgaaDoorFnAlpineStagesC
section -- Qx5
namespace Go.Proofs.YtapaijpglfmfgaaDoor.Q
open Go.RowKit Go.Proofs.YtapaijpglfmfgaaDoorH Go.Proofs.YtapaijpglfmfgaaDoorG Go.Proofs.YtapaijpglfmfgaaDoorW.PrintWords Go.Proofs.YtapaijpglfmfgaaDoorW.PrintLast Go.Proofs.YtapaijpglfmfgaaDoorW.PrintMore
attribute [local go_sem] max2_int min2_int max_two min_two max_three min_three max_four min_four   -- for this text's walks alone
set_option linter.unusedVariables false
set_option linter.unusedSimpArgs false
mutual
def spec_intOf.l0 : Nat → ByteArray → List Int → Int → Option (Bool × ByteArray)
 | 0, _, _, _ => none
 | k + 1, x0, x3, x4 => if x4 < (x0.size : Int) then (if 0 ≤ x4 then (spec_intOf.l1 k x0 x3 x4 (((bt x0 x4) - 48) % 256) 0) else (none)) else (if 0 ≤ (x3.length : Int) then (if ((x3.length : Int) : Int).toNat ≤ 281474976710656 then (spec_intOf.l2 k x3 (List.replicate ((x3.length : Int) : Int).toNat 0) 0) else (none)) else (none))
def spec_intOf.l1 : Nat → ByteArray → List Int → Int → Int → Int → Option (Bool × ByteArray)
 | 0, _, _, _, _, _ => none
 | k + 1, x0, x3, x4, x5, x6 => if x6 < (x3.length : Int) then (if 0 ≤ x6 then (spec_intOf.l1 k x0 (x3.set (x6 : Int).toNat ((Int.tmod (wrap64 (x5 + (wrap64 (10 * (wrap64 (rd x3 x6)))))) 256) % 256)) x4 (wrap64 (Int.tdiv (wrap64 (x5 + (wrap64 (10 * (wrap64 (rd x3 x6)))))) 256)) (wrap64 (x6 + 1))) else (none)) else (if x5 > 0 then (if x3.length < 140737488355328 then (spec_intOf.l0 k x0 (x3 ++ [(x5) % 256]) (wrap64 (x4 + 1))) else (none)) else (spec_intOf.l0 k x0 x3 (wrap64 (x4 + 1))))
def spec_intOf.l2 : Nat → List Int → List Int → Int → Option (Bool × ByteArray)
 | 0, _, _, _ => none
 | k + 1, x3, x7, x8 => if x8 < (x3.length : Int) then (if 0 ≤ x8 then (if 0 ≤ (wrap64 ((wrap64 ((x3.length : Int) - 1)) - x8)) then (if (wrap64 ((wrap64 ((x3.length : Int) - 1)) - x8)) < (x7.length : Int) then (spec_intOf.l2 k x3 (x7.set ((wrap64 ((wrap64 ((x3.length : Int) - 1)) - x8)) : Int).toNat (rd x3 x8)) (wrap64 (x8 + 1))) else (none)) else (none)) else (none)) else (some (false, strOfNums x7))
end
def spec_intOf.f (k : Nat) (a0 : ByteArray) : Option (Bool × ByteArray) := spec_intOf.l0 k a0 ([] : List Int) 0
set_option maxHeartbeats 8000000 in
set_option maxRecDepth 100000 in
theorem spec_intOf.calls (k : Nat) (a0 : ByteArray) (r1 : Bool) (r2 : ByteArray) (w : World) (h : spec_intOf.f k a0 = some (r1, r2)) :
  Calls Tryd.prog 35 #[.string a0] w fun e w' => e = .returned (.agg #[.bool r1, .string r2]) ∧ Below w.heap.size w w' := by
 have hu31 := Tryd.underlying31
 have HB := Aside0.mk (Below.refl w.heap.size w)
 have H : (spec_intOf.l0 k a0 ([] : List Int) 0) = some (r1, r2) := h
 clear h
 have H' := Aside0.mk H
 clear H
 go_enter Tryd.func35, Tryd.ntmps35
 go_wp2_with (first | ((with_reducible refine gate_dst (N := 2) rfl ?_); refine box_event ?hg (N := 2) ?hd (cs := #[.bool false, .string (⟨#[]⟩ : ByteArray)]) (t := 31) ?hr ?_; (case hd => rfl); (case hg => rfl); (case hr => first | (go_simp; done) | (go_simp; rfl)); intro gb117 hg w2 hbox hb; have n0_ := Aside0.mk (below_step (by repeat (first | (with_reducible first | exact HB.out | apply below_alloc | apply pw_below_drewN | apply below_drew1) | exact HB.out)) hb); have n1_ := Aside0.mk (hbox); have n2_ := Aside0.mk ((by rw [hg]; exact (below_size (by repeat (first | (with_reducible first | exact HB.out | apply below_alloc | apply pw_below_drewN | apply below_drew1) | exact HB.out))) : w.heap.size ≤ gb117)); have n3_ := Aside0.mk ((by rw [hg]; exact (below_size (by repeat (first | (with_reducible first | exact HB.out | apply below_alloc | apply pw_below_drewN | apply below_drew1) | exact HB.out))) : w.heap.size ≤ gb117)); clear HB; have HB := n0_; have BK117 := n1_; have GW117 := n2_; have GE117 := n3_; clear n0_ n1_ n2_ n3_; clear hb hbox hg))
 (try simp only [Act.put, List.setIfInBounds_toArray, List.set_cons_zero, List.set_cons_succ])
 go_loopg [3, 4] k (fun kq v3 v4 w' => ∃ (x3_1 : List Int) (x4_1 : Int), v4 = .int .i64 x4_1 ∧ Aside0 (spec_intOf.l0 kq a0 x3_1 x4_1 = some (r1, r2)) ∧ Aside0 (kq ≤ k) ∧ Aside0 (Kd.R (Kd.int .u8) 5 w' w.heap.size (fun _ => True) v3 x3_1) ∧ Aside0 (w'.heap[gb117]? = some (.cells #[.bool false, .string (⟨#[]⟩ : ByteArray)] 31 (0, 0))) ∧ Aside0 (Below w.heap.size w w'))
 case atStart => exact ⟨(([] : List Int)), (0), (by first | rfl | (simp; done) | (simp [*]; done) | (simp [bne_nil_hyb]; done) | (simp [bne_nil_hyb, *]; done)), H', ⟨Nat.le_refl _⟩, ⟨by first | exact Kd.R_nil _ _ _ _ _ | exact Kd.N_nil _ _ _ _ _ | exact Kd.V_nil _ _ _ _ _ | exact Kd.Q_nil _ _ _ _ _ | exact Kd.S_nil _ _ _ _ _⟩, ⟨by (with_reducible repeat (first | refine blk_drewN ?_ _ | refine blk_drew ?_ | refine blk_alloc ?_ _)); exact BK117.out⟩, ⟨by repeat (first | (with_reducible first | exact HB.out | apply below_alloc | apply pw_below_drewN | apply below_drew1 | refine below_set ?_ GE117.out) | exact HB.out)⟩⟩
 case round =>
  clear H'
  try clear p2
  obtain ⟨x3_1, x4_1, rfl, HA, HK1, HO_3, BK117, HB⟩ := hrel
  cases gk with
  | zero => exact absurd HA.out (by simp [spec_intOf.l0])
  | succ k1 =>
   have H := HA.out
   clear HA
   simp only [spec_intOf.l0] at H
   by_cases c3 : x4_1 < (a0.size : Int)
   ·rw [if_pos c3] at H
    have c3b0 : decide (x4_1 < (a0.size : Int)) = true := decide_eq_true c3
    clear c3
    by_cases c4 : 0 ≤ x4_1
    ·rw [if_pos c4] at H
     have c4b0 : decide (0 ≤ x4_1) = true := decide_eq_true c4
     clear c4
     have H' := Aside0.mk H
     clear H
     have p5 : 0 ≤ (x4_1 : Int) := of_decide_eq_true (by first | (with_reducible assumption) | assumption)
     have q5 : x4_1 < (a0.size : Int) := of_decide_eq_true (by first | (with_reducible assumption) | assumption)
     have hx5 := bt_at a0 x4_1
     replace p5 := eq_true p5
     replace q5 := eq_true q5
     go_wp2
     (try simp only [Act.put, List.setIfInBounds_toArray, List.set_cons_zero, List.set_cons_succ])
     go_loopg [5, 6] k1 (fun kq v5 v6 w' => ∃ (x3_2 : List Int) (x5_2 : Int) (x6_2 : Int), v5 = .int .i64 x5_2 ∧ v6 = .int .i64 x6_2 ∧ Aside0 (spec_intOf.l1 kq a0 x3_2 x4_1 x5_2 x6_2 = some (r1, r2)) ∧ Aside0 (kq ≤ k1) ∧ Aside0 (Kd.R (Kd.int .u8) 5 w' w.heap.size (fun _ => True) u3 x3_2) ∧ Aside0 (w'.heap[gb117]? = some (.cells #[.bool false, .string (⟨#[]⟩ : ByteArray)] 31 (0, 0))) ∧ Aside0 (Below w.heap.size w w'))
     case atStart => exact ⟨(x3_1), (((bt a0 x4_1) - 48) % 256), (0), (by first | rfl | (simp; done) | (simp [*]; done) | (simp [bne_nil_hyb]; done) | (simp [bne_nil_hyb, *]; done)), (by first | rfl | (simp; done) | (simp [*]; done) | (simp [bne_nil_hyb]; done) | (simp [bne_nil_hyb, *]; done)), H', ⟨Nat.le_refl _⟩, ⟨by (with_reducible repeat (first | apply Kd.R_alloc | apply Kd.R_drewN | apply Kd.R_drew)); exact HO_3.out⟩, ⟨by (with_reducible repeat (first | refine blk_drewN ?_ _ | refine blk_drew ?_ | refine blk_alloc ?_ _)); exact BK117.out⟩, ⟨by repeat (first | (with_reducible first | exact HB.out | apply below_alloc | apply pw_below_drewN | apply below_drew1 | refine below_set ?_ GE117.out) | exact HB.out)⟩⟩
     case round =>
      clear H'
      try clear p2
      try clear c3
      try clear c3b0
      try clear c4
      try clear c4b0
      try clear p5
      try clear q5
      try clear hx5
      try clear p2
      try clear p5
      try clear q5
      obtain ⟨x3_2, x5_2, x6_2, rfl, rfl, HA, HK2, HO_3, BK117, HB⟩ := hrel
      cases gk with
      | zero => exact absurd HA.out (by simp [spec_intOf.l1])
      | succ k2 =>
       have H := HA.out
       clear HA
       simp only [spec_intOf.l1] at H
       by_cases c6 : x6_2 < (x3_2.length : Int)
       ·rw [if_pos c6] at H
        have c6b0 : decide (x6_2 < (x3_2.length : Int)) = true := decide_eq_true c6
        clear c6
        by_cases c7 : 0 ≤ x6_2
        ·rw [if_pos c7] at H
         have c7b0 : decide (0 ≤ x6_2) = true := decide_eq_true c7
         clear c7
         obtain ⟨y119, hy119⟩ : ∃ y_ : List Int, y_ = (x3_2.set (x6_2 : Int).toNat ((Int.tmod (wrap64 (x5_2 + (wrap64 (10 * (wrap64 (rd x3_2 x6_2)))))) 256) % 256)) := ⟨_, rfl⟩
         replace H : (spec_intOf.l1 k2 a0 y119 x4_1 (wrap64 (Int.tdiv (wrap64 (x5_2 + (wrap64 (10 * (wrap64 (rd x3_2 x6_2)))))) 256)) (wrap64 (x6_2 + 1))) = some (r1, r2) := by first | (rw [hy119]; with_reducible exact H) | (have H2_ := (Option.bind_some _ _).symm.trans H; rw [hy119]; with_reducible exact H2_) | (have H2_ := (Option.bind_some _ _).symm.trans H; with_reducible exact H2_) | with_reducible exact H | (rw [hy119]; exact H) | exact H
         have Ny119 := Aside0.mk hy119
         clear hy119
         have H' := Aside0.mk H
         clear H
         obtain ⟨Ao9, co9, eo9⟩ := Kd.R_slice HO_3.out
         subst eo9
         have p118 : 0 ≤ (x6_2 : Int) := of_decide_eq_true (by first | (with_reducible assumption) | assumption)
         have q118 : x6_2 < (x3_2.length : Int) := of_decide_eq_true (by first | (with_reducible assumption) | assumption)
         obtain ⟨ad118, e118, hx118_0⟩ := Kd.at_int (Kd.R_reads' HO_3.out).2.2 x6_2 p118 q118
         cases e118
         replace p118 := eq_true p118
         replace q118 := eq_true q118
         have p8 : 0 ≤ (x6_2 : Int) := of_decide_eq_true (by first | (with_reducible assumption) | assumption)
         have q8 : (x6_2 : Int) < ((x3_2.length : Int) : Int) := of_decide_eq_true (by first | (with_reducible assumption) | assumption)
         obtain ⟨go8, co8, eo8, gb8, gl8, cl8, HG8⟩ := Kd.R_form HO_3.out (by omega)
         (first | cases eo8 | (injection eo8 with ea_ en_ ec_; (first | subst ea_ | (injection ea_ with ea_; subst ea_)); subst ec_; clear en_))
         have GB8 := Aside0.mk gb8
         have GG8 := Aside0.mk HG8
         clear gb8 gl8 HG8
         (first | simp only [add_plain] at hx118_0 | skip)
         obtain ⟨hx8_0, hf8_0⟩ := Kd.R_celln 0 HO_3.out (x6_2 : Int) p8 q8
         replace p8 := eq_true p8
         replace q8 := eq_true q8
         have HP10 := Kd.R_putg HO_3.out (x6_2 : Int) ((Int.tmod (wrap64 (x5_2 + (wrap64 (10 * (wrap64 (rd x3_2 x6_2)))))) 256) % 256)
         go_wp2_with (first | ((with_reducible refine gate_store (t := 5) (p := 39) rfl ?_); refine store_event (t := 5) (p := 39) (v := ?vo_w11) (w1 := (wr.setCell ⟨go8, (x6_2 : Int).toNat, none⟩ (.int .u8 ((Int.tmod (wrap64 (x5_2 + (wrap64 (10 * (wrap64 (rd x3_2 x6_2)))))) 256) % 256)))) ?hg ?ho ?hn ?hr ?_; (case ho => rfl); (case hg => rfl); (case hn => rfl); (case hr => first | (go_simp; done) | (go_simp; rfl)); intro w11 hw; have hg : wr.grownBy w11 (some go8) := (by rw [hw]; exact HP10.2); have hp_ : Kd.R (Kd.int .u8) 5 w11 w.heap.size (fun _ => True) (.slice (some ⟨go8, 0, none⟩) x3_2.length co9) y119 := (by rw [hw, Ny119.out]; exact HP10.1); clear HP10; have n0_ := Aside0.mk (hp_); have n1_ := Aside0.mk (blk_grown (g := gb117) (o := .cells #[.bool false, .string (⟨#[]⟩ : ByteArray)] 31 (0, 0)) (by (with_reducible repeat (first | refine blk_drewN ?_ _ | refine blk_drew ?_ | refine blk_alloc ?_ _)); exact BK117.out) hg (Kd.R_ne HO_3.out BK117.out (by decide))); have n2_ := Aside0.mk ((by rw [hw]; exact below_set (HB.out) GB8.out : Below w.heap.size w w11)); clear HO_3; clear BK117; clear HB; have HO_3 := n0_; have BK117 := n1_; have HB := n2_; clear n0_ n1_ n2_; clear hg hw hp_))
         go_roundg k2
         case measure => have := HK1.out; have := HK2.out; omega
         case rel => exact ⟨(y119), (wrap64 (Int.tdiv (wrap64 (x5_2 + (wrap64 (10 * (wrap64 (rd x3_2 x6_2)))))) 256)), (wrap64 (x6_2 + 1)), (by first | rfl | (simp; done) | (simp [*]; done) | (simp [bne_nil_hyb]; done) | (simp [bne_nil_hyb, *]; done)), (by first | rfl | (simp; done) | (simp [*]; done) | (simp [bne_nil_hyb]; done) | (simp [bne_nil_hyb, *]; done)), H', ⟨by have := HK1.out; have := HK2.out; omega⟩, ⟨by (with_reducible repeat (first | apply Kd.R_alloc | apply Kd.R_drewN | apply Kd.R_drew)); exact HO_3.out⟩, ⟨by (with_reducible repeat (first | refine blk_drewN ?_ _ | refine blk_drew ?_ | refine blk_alloc ?_ _)); exact BK117.out⟩, ⟨by repeat (first | (with_reducible first | exact HB.out | apply below_alloc | apply pw_below_drewN | apply below_drew1 | refine below_set ?_ GE117.out) | exact HB.out)⟩⟩
        ·rw [if_neg c7] at H
         exact absurd H (by simp)
       ·rw [if_neg c6] at H
        have c6b0 : decide (x6_2 < (x3_2.length : Int)) = false := decide_eq_false c6
        clear c6
        by_cases c12 : x5_2 > 0
        ·rw [if_pos c12] at H
         have c12b0 : decide (0 < x5_2) = true := decide_eq_true c12
         clear c12
         by_cases c13 : x3_2.length < 140737488355328
         ·rw [if_pos c13] at H
          have LMc13 := Aside0.mk c13
          clear c13
          obtain ⟨y120, hy120⟩ : ∃ y_ : List Int, y_ = (x3_2 ++ [(x5_2) % 256]) := ⟨_, rfl⟩
          replace H : (spec_intOf.l0 k2 a0 y120 (wrap64 (x4_1 + 1))) = some (r1, r2) := by first | (rw [hy120]; with_reducible exact H) | (have H2_ := (Option.bind_some _ _).symm.trans H; rw [hy120]; with_reducible exact H2_) | (have H2_ := (Option.bind_some _ _).symm.trans H; with_reducible exact H2_) | with_reducible exact H | (rw [hy120]; exact H) | exact H
          have Ny120 := Aside0.mk hy120
          clear hy120
          have H' := Aside0.mk H
          clear H
          obtain ⟨Ao14, co14, eo14⟩ := Kd.R_slice HO_3.out
          subst eo14
          go_wp2_with (first | ((with_reducible refine gate_builtin (b := .append) (xs := #[.tmp 44, .tmp 47]) rfl ?_); at_builtin; refine Kd.R_append (Kd.int .u8) (w0 := w) w.heap.size rfl (.tmp 44) (.tmp 47) 23 5 (.int .u8 0) 1 rfl Tryd.underlying23 info5 rfl (by decide) (by omega) (.slice Ao14 x3_2.length co14) x3_2 ((x5_2) % 256) [.int .u8 ((x5_2) % 256)] (fun _ => True) (fun _ => False) rfl rfl ?aP (fun _ hk => hk.elim) ?aF ?aO ?aB ?aS ?aL ?_; (case aP => exact rfl); (case aB => exact (by repeat (first | (with_reducible first | exact HB.out | apply below_alloc | apply pw_below_drewN | apply below_drew1 | refine below_set ?_ GE117.out) | exact HB.out))); (case aF => exact (fun _ _ => trivial)); (case aO => exact (by (with_reducible repeat (first | apply Kd.R_alloc | apply Kd.R_drewN | apply Kd.R_drew)); exact HO_3.out)); (case aS => exact (below_size (by repeat (first | (with_reducible first | exact HB.out | apply below_alloc | apply pw_below_drewN | apply below_drew1 | refine below_set ?_ GE117.out) | exact HB.out)))); (case aL => have := LMc13.out; omega); intro v121 w15 ho hb hg hat; rw [← Ny120.out] at ho; have n0_ := Aside0.mk (blk_grown (g := gb117) (o := .cells #[.bool false, .string (⟨#[]⟩ : ByteArray)] 31 (0, 0)) (by (with_reducible repeat (first | refine blk_drewN ?_ _ | refine blk_drew ?_ | refine blk_alloc ?_ _)); exact BK117.out) hg (Kd.R_ne HO_3.out BK117.out (by decide))); have n1_ := Aside0.mk (hb); have n2_ := Aside0.mk (ho); clear BK117; clear HB; clear HO_3; have BK117 := n0_; have HB := n1_; have HO122 := n2_; clear n0_ n1_ n2_; clear ho hb hg hat))
          go_roundg k2
          case measure => have := HK1.out; have := HK2.out; omega
          case rel => exact ⟨(y120), (wrap64 (x4_1 + 1)), (by first | rfl | (simp; done) | (simp [*]; done) | (simp [bne_nil_hyb]; done) | (simp [bne_nil_hyb, *]; done)), H', ⟨by have := HK1.out; have := HK2.out; omega⟩, ⟨by (with_reducible repeat (first | apply Kd.R_alloc | apply Kd.R_drewN | apply Kd.R_drew)); exact HO122.out⟩, ⟨by (with_reducible repeat (first | refine blk_drewN ?_ _ | refine blk_drew ?_ | refine blk_alloc ?_ _)); exact BK117.out⟩, ⟨by repeat (first | (with_reducible first | exact HB.out | apply below_alloc | apply pw_below_drewN | apply below_drew1 | refine below_set ?_ GE117.out) | exact HB.out)⟩⟩
         ·rw [if_neg c13] at H
          exact absurd H (by simp)
        ·rw [if_neg c12] at H
         have c12b0 : decide (0 < x5_2) = false := decide_eq_false c12
         clear c12
         have H' := Aside0.mk H
         clear H
         obtain ⟨Ao16, co16, eo16⟩ := Kd.R_slice HO_3.out
         subst eo16
         go_wp2
         go_roundg k2
         case measure => have := HK1.out; have := HK2.out; omega
         case rel => exact ⟨(x3_2), (wrap64 (x4_1 + 1)), (by first | rfl | (simp; done) | (simp [*]; done) | (simp [bne_nil_hyb]; done) | (simp [bne_nil_hyb, *]; done)), H', ⟨by have := HK1.out; have := HK2.out; omega⟩, ⟨by (with_reducible repeat (first | apply Kd.R_alloc | apply Kd.R_drewN | apply Kd.R_drew)); exact HO_3.out⟩, ⟨by (with_reducible repeat (first | refine blk_drewN ?_ _ | refine blk_drew ?_ | refine blk_alloc ?_ _)); exact BK117.out⟩, ⟨by repeat (first | (with_reducible first | exact HB.out | apply below_alloc | apply pw_below_drewN | apply below_drew1 | refine below_set ?_ GE117.out) | exact HB.out)⟩⟩
    ·rw [if_neg c4] at H
     exact absurd H (by simp)
   ·rw [if_neg c3] at H
    have c3b0 : decide (x4_1 < (a0.size : Int)) = false := decide_eq_false c3
    clear c3
    by_cases c17 : 0 ≤ (x3_1.length : Int)
    ·rw [if_pos c17] at H
     have c17b0 := eq_true c17
     have c17b1 : decide (0 ≤ (x3_1.length : Int)) = true := decide_eq_true c17
     clear c17
     by_cases c18 : ((x3_1.length : Int) : Int).toNat ≤ 281474976710656
     ·rw [if_pos c18] at H
      have c18b0 := eq_true c18
      have c18b1 : decide (((x3_1.length : Int) : Int).toNat ≤ 281474976710656) = true := decide_eq_true c18
      clear c18
      obtain ⟨y123, hy123⟩ : ∃ y_ : List Int, y_ = (List.replicate ((x3_1.length : Int) : Int).toNat 0) := ⟨_, rfl⟩
      replace H : (spec_intOf.l2 k1 x3_1 y123 0) = some (r1, r2) := by first | (rw [hy123]; with_reducible exact H) | (have H2_ := (Option.bind_some _ _).symm.trans H; rw [hy123]; with_reducible exact H2_) | (have H2_ := (Option.bind_some _ _).symm.trans H; with_reducible exact H2_) | with_reducible exact H | (rw [hy123]; exact H) | exact H
      have Ny123 := Aside0.mk hy123
      clear hy123
      have H' := Aside0.mk H
      clear H
      obtain ⟨Ao19, co19, eo19⟩ := Kd.R_slice HO_3.out
      subst eo19
      go_wp2_with (first | ((with_reducible refine gate_dst (N := 51) rfl ?_); refine Kd.R_make (Kd.int .u8) _ 5 rfl (N := 51) rfl 23 _ _ rfl (x3_1.length : Int) rfl rfl Tryd.underlying23 (.int .u8 0) 1 info5 rfl (by decide) (by omega) 0 (ok := fun _ => True) (okp := fun _ => True) rfl (fun _ hk => hk) trivial (of_decide_eq_true (by first | (with_reducible assumption) | assumption)) (Nat.le_trans (Nat.mul_le_mul_right _ (of_decide_eq_true (by first | (with_reducible assumption) | assumption) : (x3_1.length : Int).toNat ≤ 281474976710656)) (by omega)) (Below.refl _ _) (Nat.le_refl _) ?_; intro v124 w20 ho21 hb hg_ hnew_; clear hg_ hnew_; (first | rw [← Ny123.out] at ho21 | (simp only [Int.reduceToNat] at ho21; rw [← Ny123.out] at ho21)); have n0_ := Aside0.mk (Kd.R_elder' (by (with_reducible repeat (first | apply Kd.R_alloc | apply Kd.R_drewN | apply Kd.R_drew)); exact HO_3.out) (Kd.R_base ho21) hb); have n1_ := Aside0.mk (Kd.R_lower (Kd.R_new' ho21 (Kd.R_lt (by (with_reducible repeat (first | apply Kd.R_alloc | apply Kd.R_drewN | apply Kd.R_drew)); exact HO_3.out))) (below_size (by repeat (first | (with_reducible first | exact HB.out | apply below_alloc | apply pw_below_drewN | apply below_drew1 | refine below_set ?_ GE117.out) | exact HB.out)))); have n2_ := Aside0.mk (blk_below (g := gb117) (o := .cells #[.bool false, .string (⟨#[]⟩ : ByteArray)] 31 (0, 0)) (by (with_reducible repeat (first | refine blk_drewN ?_ _ | refine blk_drew ?_ | refine blk_alloc ?_ _)); exact BK117.out) hb); have n3_ := Aside0.mk (below_step (by repeat (first | (with_reducible first | exact HB.out | apply below_alloc | apply pw_below_drewN | apply below_drew1 | refine below_set ?_ GE117.out) | exact HB.out)) hb); clear HO_3; clear BK117; clear HB; have HO_3 := n0_; have HO125 := n1_; have BK117 := n2_; have HB := n3_; clear n0_ n1_ n2_ n3_; clear hb ho21))
      (try simp only [Act.put, List.setIfInBounds_toArray, List.set_cons_zero, List.set_cons_succ])
      go_loopg [8] k1 (fun kq v8 w' => ∃ (x7_2 : List Int) (x8_2 : Int), v8 = .int .i64 x8_2 ∧ Aside0 (spec_intOf.l2 kq x3_1 x7_2 x8_2 = some (r1, r2)) ∧ Aside0 (kq ≤ k1) ∧ Aside0 (Kd.R (Kd.int .u8) 5 w' w.heap.size (fun k_ => some k_ ≠ (v124 : Value).ownBlock) (.slice Ao19 x3_1.length co19) x3_1) ∧ Aside0 (Kd.R (Kd.int .u8) 5 w' w.heap.size (fun k_ => some k_ ≠ ((.slice Ao19 x3_1.length co19) : Value).ownBlock) v124 x7_2) ∧ Aside0 (w'.heap[gb117]? = some (.cells #[.bool false, .string (⟨#[]⟩ : ByteArray)] 31 (0, 0))) ∧ Aside0 (Below w.heap.size w w'))
      case atStart => exact ⟨(y123), (0), (by first | rfl | (simp; done) | (simp [*]; done) | (simp [bne_nil_hyb]; done) | (simp [bne_nil_hyb, *]; done)), H', ⟨Nat.le_refl _⟩, ⟨by (with_reducible repeat (first | apply Kd.R_alloc | apply Kd.R_drewN | apply Kd.R_drew)); exact Kd.R_mono HO_3.out (fun _ hk => hk.2)⟩, ⟨by (with_reducible repeat (first | apply Kd.R_alloc | apply Kd.R_drewN | apply Kd.R_drew)); exact Kd.R_mono HO125.out (fun _ hk => hk.2)⟩, ⟨by (with_reducible repeat (first | refine blk_drewN ?_ _ | refine blk_drew ?_ | refine blk_alloc ?_ _)); exact BK117.out⟩, ⟨by repeat (first | (with_reducible first | exact HB.out | apply below_alloc | apply pw_below_drewN | apply below_drew1 | refine below_set ?_ GE117.out) | exact HB.out)⟩⟩
      case round =>
       clear H'
       try clear c1
       try clear p1
       try clear q1
       try clear hx1
       try clear p2
       try clear c3
       try clear c3b0
       try clear c4
       try clear c4b0
       try clear p5
       try clear q5
       try clear hx5
       try clear c6
       try clear c6b0
       try clear p6
       try clear c7
       try clear c7b0
       try clear p8
       try clear q8
       try clear hx8
       try clear hf8
       try clear p11
       try clear q11
       try clear hx11
       try clear c12
       try clear c12b0
       try clear c13
       try clear c17
       try clear c17b0
       try clear c17b1
       try clear c18
       try clear c18b0
       try clear c18b1
       try clear hx118_0
       try clear hx8_0
       try clear p118
       try clear p2
       try clear p5
       try clear p8
       try clear q118
       try clear q5
       try clear q8
       obtain ⟨x7_2, x8_2, rfl, HA, HK2, HO_3, HO_7, BK117, HB⟩ := hrel
       cases gk with
       | zero => exact absurd HA.out (by simp [spec_intOf.l2])
       | succ k2 =>
        have H := HA.out
        clear HA
        simp only [spec_intOf.l2] at H
        by_cases c22 : x8_2 < (x3_1.length : Int)
        ·rw [if_pos c22] at H
         have c22b0 : decide (x8_2 < (x3_1.length : Int)) = true := decide_eq_true c22
         clear c22
         by_cases c23 : 0 ≤ x8_2
         ·rw [if_pos c23] at H
          have c23b0 : decide (0 ≤ x8_2) = true := decide_eq_true c23
          clear c23
          obtain ⟨ji24, hji24⟩ : ∃ j_ : Int, (wrap64 ((wrap64 ((x3_1.length : Int) - 1)) - x8_2)) = j_ := ⟨_, rfl⟩
          replace H : (if 0 ≤ (ji24) then (if (ji24) < (x7_2.length : Int) then (spec_intOf.l2 k2 x3_1 (x7_2.set ((ji24) : Int).toNat (rd x3_1 x8_2)) (wrap64 (x8_2 + 1))) else (none)) else (none)) = some (r1, r2) := by first | (rw [hji24] at H; exact H) | (simp only [hji24] at H ⊢; exact H)
          have hji24w : (IntKind.i64.wrap ((wrap64 ((x3_1.length : Int) - 1)) - x8_2)) = ji24 := (i64_w _).trans hji24
          by_cases c25 : 0 ≤ (ji24)
          ·rw [if_pos c25] at H
           have c25b0 : decide (0 ≤ (ji24)) = true := decide_eq_true c25
           clear c25
           by_cases c26 : (ji24) < (x7_2.length : Int)
           ·rw [if_pos c26] at H
            have c26b0 : decide ((ji24) < (x7_2.length : Int)) = true := decide_eq_true c26
            clear c26
            obtain ⟨y127, hy127⟩ : ∃ y_ : List Int, y_ = (x7_2.set ((ji24) : Int).toNat (rd x3_1 x8_2)) := ⟨_, rfl⟩
            replace H : (spec_intOf.l2 k2 x3_1 y127 (wrap64 (x8_2 + 1))) = some (r1, r2) := by first | (rw [hy127]; with_reducible exact H) | (have H2_ := (Option.bind_some _ _).symm.trans H; rw [hy127]; with_reducible exact H2_) | (have H2_ := (Option.bind_some _ _).symm.trans H; with_reducible exact H2_) | with_reducible exact H | (rw [hy127]; exact H) | exact H
            have Ny127 := Aside0.mk hy127
            clear hy127
            have H' := Aside0.mk H
            clear H
            have p126 : 0 ≤ (x8_2 : Int) := of_decide_eq_true (by first | (with_reducible assumption) | assumption)
            have q126 : x8_2 < (x3_1.length : Int) := of_decide_eq_true (by first | (with_reducible assumption) | assumption)
            obtain ⟨ad126, e126, hx126_0⟩ := Kd.at_int (Kd.R_reads' HO_3.out).2.2 x8_2 p126 q126
            cases e126
            replace p126 := eq_true p126
            replace q126 := eq_true q126
            have p27 : 0 ≤ ((ji24) : Int) := of_decide_eq_true (by first | (with_reducible assumption) | assumption)
            have q27 : ((ji24) : Int) < ((x7_2.length : Int) : Int) := of_decide_eq_true (by first | (with_reducible assumption) | assumption)
            obtain ⟨go27, co27, eo27, gb27, gl27, cl27, HG27⟩ := Kd.R_form HO_7.out (by omega)
            (first | cases eo27 | (injection eo27 with ea_ en_ ec_; (first | subst ea_ | (injection ea_ with ea_; subst ea_)); subst ec_; clear en_))
            have GB27 := Aside0.mk gb27
            have GG27 := Aside0.mk HG27
            clear gb27 gl27 HG27
            obtain ⟨hx27_0, hf27_0⟩ := Kd.R_celln 0 HO_7.out ((ji24) : Int) p27 q27
            replace p27 := eq_true p27
            replace q27 := eq_true q27
            have HP28 := Kd.R_putg HO_7.out ((ji24) : Int) (rd x3_1 x8_2)
            go_wp2_with (first | ((with_reducible refine gate_store (t := 5) (p := 68) rfl ?_); refine store_event (t := 5) (p := 68) (v := ?vo_w29) (w1 := (wr.setCell ⟨go27, ((ji24) : Int).toNat, none⟩ (.int .u8 (rd x3_1 x8_2)))) ?hg ?ho ?hn ?hr ?_; (case ho => rfl); (case hg => rfl); (case hn => rfl); (case hr => first | (go_simp; done) | (go_simp; rfl)); intro w29 hw; have hg : wr.grownBy w29 (some go27) := (by rw [hw]; exact HP28.2); have hp_ : Kd.R (Kd.int .u8) 5 w29 w.heap.size (fun k_ => some k_ ≠ (.slice (some ad126) x3_1.length co19 : Value).ownBlock) (.slice (some ⟨go27, 0, none⟩) x7_2.length co27) y127 := (by rw [hw, Ny127.out]; exact HP28.1); clear HP28; have n0_ := Aside0.mk (Kd.R_after (v := (.slice (some ⟨go27, 0, none⟩) x7_2.length co27)) (v1 := (.slice (some ⟨go27, 0, none⟩) x7_2.length co27)) (ok := (fun _ => True)) (by (with_reducible repeat (first | apply Kd.R_alloc | apply Kd.R_drewN | apply Kd.R_drew)); exact Kd.R_mono HO_3.out (fun _ hk => ⟨trivial, hk⟩)) hg (.inl rfl)); have n1_ := Aside0.mk (hp_); have n2_ := Aside0.mk (blk_grown (g := gb117) (o := .cells #[.bool false, .string (⟨#[]⟩ : ByteArray)] 31 (0, 0)) (by (with_reducible repeat (first | refine blk_drewN ?_ _ | refine blk_drew ?_ | refine blk_alloc ?_ _)); exact BK117.out) hg (Kd.R_ne HO_7.out BK117.out (by decide))); have n3_ := Aside0.mk ((by rw [hw]; exact below_set (HB.out) GB27.out : Below w.heap.size w w29)); clear HO_3; clear HO_7; clear BK117; clear HB; have HO_3 := n0_; have HO_7 := n1_; have BK117 := n2_; have HB := n3_; clear n0_ n1_ n2_ n3_; clear hg hw hp_))
            go_roundg k2
            case measure => have := HK1.out; have := HK2.out; omega
            case rel => exact ⟨(y127), (wrap64 (x8_2 + 1)), (by first | rfl | (simp; done) | (simp [*]; done) | (simp [bne_nil_hyb]; done) | (simp [bne_nil_hyb, *]; done)), H', ⟨by have := HK1.out; have := HK2.out; omega⟩, ⟨by (with_reducible repeat (first | apply Kd.R_alloc | apply Kd.R_drewN | apply Kd.R_drew)); exact Kd.R_mono HO_3.out (fun _ hk => hk.2)⟩, ⟨by (with_reducible repeat (first | apply Kd.R_alloc | apply Kd.R_drewN | apply Kd.R_drew)); exact HO_7.out⟩, ⟨by (with_reducible repeat (first | refine blk_drewN ?_ _ | refine blk_drew ?_ | refine blk_alloc ?_ _)); exact BK117.out⟩, ⟨by repeat (first | (with_reducible first | exact HB.out | apply below_alloc | apply pw_below_drewN | apply below_drew1 | refine below_set ?_ GE117.out) | exact HB.out)⟩⟩
           ·rw [if_neg c26] at H
            exact absurd H (by simp)
          ·rw [if_neg c25] at H
           exact absurd H (by simp)
         ·rw [if_neg c23] at H
          exact absurd H (by simp)
        ·rw [if_neg c22] at H
         have c22b0 : decide (x8_2 < (x3_1.length : Int)) = false := decide_eq_false c22
         clear c22
         simp only [Option.some.injEq, Prod.mk.injEq] at H
         obtain ⟨rfl, rfl⟩ := H
         have hcv30 := own_string (P := Tryd.prog) Tryd.underlying23 Tryd.underlying5 Tryd.underlying9 (Kd.own_of_R HO_7.out)
         have hcz31_0 : wr.cell? ⟨gb117, 0, none⟩ = some (.bool false) := (blk_cell BK117.out 0).trans rfl
         have hcz31_1 : wr.cell? ⟨gb117, 1, none⟩ = some (.string (⟨#[]⟩ : ByteArray)) := (blk_cell BK117.out 1).trans rfl
         have hfz31_0 := blk_frozen BK117.out 0
         have hfz31_1 := blk_frozen BK117.out 1
         go_wp2
         refine bodyPost_ret (results_cell_row rfl _ _ gb117 31 #[.bool false, .string (strOfNums x7_2)] (0, 0) _ rfl (by (with_reducible repeat (first | refine blk_drewN ?_ _ | refine blk_drew ?_ | refine blk_alloc ?_ _)); refine blk_put (cs := #[.bool false, .string (⟨#[]⟩ : ByteArray)]) ?_ 1 _ rfl; (with_reducible repeat (first | refine blk_drewN ?_ _ | refine blk_drew ?_ | refine blk_alloc ?_ _)); refine blk_put (cs := #[.bool false, .string (⟨#[]⟩ : ByteArray)]) ?_ 0 _ rfl; (with_reducible repeat (first | refine blk_drewN ?_ _ | refine blk_drew ?_ | refine blk_alloc ?_ _)); exact BK117.out) Tryd.underlying31 rfl (by kernel_rfl)) rfl ?_
         exact ⟨by first | rfl | (simp [errW_none, errW_some] <;> rfl) | (simp [*, errW_none, errW_some] <;> rfl) | (simp [bne_nil_hyb]; done), by repeat (first | (with_reducible first | exact HB.out | apply below_alloc | apply pw_below_drewN | apply below_drew1 | refine below_set ?_ GE117.out) | exact HB.out)⟩
     ·rw [if_neg c18] at H
      exact absurd H (by simp)
    ·rw [if_neg c17] at H
     exact absurd H (by simp)
def spec_isDigit.f (a0 : Int) : Option (Bool) := if a0 ≥ 48 then (some (decide (a0 ≤ 57))) else (some false)
set_option maxHeartbeats 8000000 in
set_option maxRecDepth 100000 in
theorem spec_isDigit.calls (a0 : Int) (r : Bool) (w : World) (h : spec_isDigit.f a0 = some r) :
  Calls Tryd.prog 34 #[.int .u8 a0] w fun e w' => e = .returned (.bool r) ∧ Drawn0 w w' := by
 have H : (if a0 ≥ 48 then (some (decide (a0 ≤ 57))) else (some false)) = some r := h
 clear h
 by_cases c2 : a0 ≥ 48
 ·rw [if_pos c2] at H
  have c2b0 : decide (48 ≤ a0) = true := decide_eq_true c2
  clear c2
  obtain rfl := Option.some.inj H
  go_enter Tryd.func34, Tryd.ntmps34
  go_wp2
  go_ret
  exact ⟨by first | rfl | (simp; done) | (simp [*]; done) | (simp [bne_nil_hyb]; done) | (simp [bne_nil_hyb, *]; done), by repeat (first | exact Drawn0.refl _ | apply Drawn0.step)⟩
 ·rw [if_neg c2] at H
  have c2b0 : decide (48 ≤ a0) = false := decide_eq_false c2
  clear c2
  obtain rfl := Option.some.inj H
  go_enter Tryd.func34, Tryd.ntmps34
  go_wp2
  go_ret
  exact ⟨by first | rfl | (simp; done) | (simp [*]; done) | (simp [bne_nil_hyb]; done) | (simp [bne_nil_hyb, *]; done), by repeat (first | exact Drawn0.refl _ | apply Drawn0.step)⟩
def spec_allDigits.l0 : Nat → ByteArray → Int → Option (Bool)
 | 0, _, _ => none
 | k + 1, x0, x3 => if x3 < (x0.size : Int) then (if 0 ≤ x3 then ((spec_isDigit.f (bt x0 x3)).bind fun t128 => (if t128 = true then (spec_allDigits.l0 k x0 (wrap64 (x3 + 1))) else (some false))) else (none)) else (some (decide ((x0.size : Int) > 0)))
def spec_allDigits.f (k : Nat) (a0 : ByteArray) : Option (Bool) := spec_allDigits.l0 k a0 0
set_option maxHeartbeats 8000000 in
set_option maxRecDepth 100000 in
theorem spec_allDigits.calls (k : Nat) (a0 : ByteArray) (r : Bool) (w : World) (h : spec_allDigits.f k a0 = some r) :
  Calls Tryd.prog 67 #[.string a0] w fun e w' => e = .returned (.bool r) ∧ Drawn0 w w' := by
 have H : (spec_allDigits.l0 k a0 0) = some r := h
 clear h
 have H' := Aside0.mk H
 clear H
 go_enter Tryd.func67, Tryd.ntmps67
 go_wp2
 (try simp only [Act.put, List.setIfInBounds_toArray, List.set_cons_zero, List.set_cons_succ])
 go_loopg [3] k (fun kq v3 w' => ∃ (x3_1 : Int), v3 = .int .i64 x3_1 ∧ Aside0 (spec_allDigits.l0 kq a0 x3_1 = some r) ∧ Aside0 (kq ≤ k) ∧ Drawn0 w w')
 case atStart => exact ⟨(0), (by first | rfl | (simp; done) | (simp [*]; done) | (simp [bne_nil_hyb]; done) | (simp [bne_nil_hyb, *]; done)), H', ⟨Nat.le_refl _⟩, by repeat (first | exact Drawn0.refl _ | apply Drawn0.step)⟩
 case round =>
  clear H'
  obtain ⟨x3_1, rfl, HA, HK1, ⟨m1, rfl⟩⟩ := hrel
  cases gk with
  | zero => exact absurd HA.out (by simp [spec_allDigits.l0])
  | succ k1 =>
   have H := HA.out
   clear HA
   simp only [spec_allDigits.l0] at H
   by_cases c2 : x3_1 < (a0.size : Int)
   ·rw [if_pos c2] at H
    have c2b0 : decide (x3_1 < (a0.size : Int)) = true := decide_eq_true c2
    clear c2
    by_cases c3 : 0 ≤ x3_1
    ·rw [if_pos c3] at H
     have c3b0 : decide (0 ≤ x3_1) = true := decide_eq_true c3
     clear c3
     replace H := Option.bind_eq_some_iff.mp H
     obtain ⟨t128, A50, H⟩ := H
     replace H : (if t128 = true then (spec_allDigits.l0 k1 a0 (wrap64 (x3_1 + 1))) else (some false)) = some r := H
     have A5 := Aside0.mk A50
     clear A50
     by_cases c6 : t128 = true
     ·subst c6
      have H1 : (spec_allDigits.l0 k1 a0 (wrap64 (x3_1 + 1))) = some r := by rw [if_pos rfl] at H; exact H
      clear H
      have H := H1
      clear H1
      have H' := Aside0.mk H
      clear H
      have p4 : 0 ≤ (x3_1 : Int) := of_decide_eq_true (by first | (with_reducible assumption) | assumption)
      have q4 : x3_1 < (a0.size : Int) := of_decide_eq_true (by first | (with_reducible assumption) | assumption)
      have hx4 := bt_at a0 x3_1
      replace p4 := eq_true p4
      replace q4 := eq_true q4
      go_wp2_with (first | ((with_reducible refine gate_callee (f := 34) rfl ?_); refine goesL_ (some 13) rfl rfl Tryd.func34 (by kernel_rfl) rfl #[.int .u8 (bt a0 x3_1)] rfl (by (try simp only [List.map_toArray, List.map_cons, List.map_nil]); first | done | rfl | (simp only [List.length_drop, List.length_take]; rfl)) ?_; (with_reducible refine (spec_isDigit.calls (bt a0 x3_1) true _ A5.out).mono ?_); rintro e w' ⟨rfl, ⟨nd, rfl⟩⟩; refine ⟨_, rfl, ?_⟩))
      go_roundg k1
      case measure => have := HK1.out; omega
      case rel => exact ⟨(wrap64 (x3_1 + 1)), (by first | rfl | (simp; done) | (simp [*]; done) | (simp [bne_nil_hyb]; done) | (simp [bne_nil_hyb, *]; done)), H', ⟨by have := HK1.out; omega⟩, by repeat (first | exact Drawn0.refl _ | apply Drawn0.step)⟩
     ·replace c6 := Bool.eq_false_iff.mpr c6
      subst c6
      have H1 : (some false) = some r := by rw [if_neg (show ¬ (false = true) by decide)] at H; exact H
      clear H
      have H := H1
      clear H1
      obtain rfl := Option.some.inj H
      have p4 : 0 ≤ (x3_1 : Int) := of_decide_eq_true (by first | (with_reducible assumption) | assumption)
      have q4 : x3_1 < (a0.size : Int) := of_decide_eq_true (by first | (with_reducible assumption) | assumption)
      have hx4 := bt_at a0 x3_1
      replace p4 := eq_true p4
      replace q4 := eq_true q4
      go_wp2_with (first | ((with_reducible refine gate_callee (f := 34) rfl ?_); refine goesL_ (some 13) rfl rfl Tryd.func34 (by kernel_rfl) rfl #[.int .u8 (bt a0 x3_1)] rfl (by (try simp only [List.map_toArray, List.map_cons, List.map_nil]); first | done | rfl | (simp only [List.length_drop, List.length_take]; rfl)) ?_; (with_reducible refine (spec_isDigit.calls (bt a0 x3_1) false _ A5.out).mono ?_); rintro e w' ⟨rfl, ⟨nd, rfl⟩⟩; refine ⟨_, rfl, ?_⟩))
      go_ret
      exact ⟨by first | rfl | (simp; done) | (simp [*]; done) | (simp [bne_nil_hyb]; done) | (simp [bne_nil_hyb, *]; done), by repeat (first | exact Drawn0.refl _ | apply Drawn0.step)⟩
    ·rw [if_neg c3] at H
     exact absurd H (by simp)
   ·rw [if_neg c2] at H
    have c2b0 : decide (x3_1 < (a0.size : Int)) = false := decide_eq_false c2
    clear c2
    obtain rfl := Option.some.inj H
    go_wp2
    go_ret
    exact ⟨by first | rfl | (simp; done) | (simp [*]; done) | (simp [bne_nil_hyb]; done) | (simp [bne_nil_hyb, *]; done), by repeat (first | exact Drawn0.refl _ | apply Drawn0.step)⟩
mutual
def spec_Number.j0 : Nat → ByteArray → Bool → Bool → Option (Bool × ByteArray × Bool)
 | 0, _, _, _ => none
 | k + 1, x0, x4, x17 => if x17 = true then (if 0 < (x0.size : Int) then (if 1 ≤ (x0.size : Int) then (spec_Number.j1 k (x0.extract 1 x0.size) ((bt x0 0) == 45)) else (none)) else (none)) else (spec_Number.j1 k x0 x4)
def spec_Number.j1 : Nat → ByteArray → Bool → Option (Bool × ByteArray × Bool)
 | 0, _, _ => none
 | k + 1, x0, x4 => (spec_allDigits.f k x0).bind fun t130 => (if t130 = true then ((spec_intOf.f k x0).bind fun bt131 => (if x4 = true then (some ((bt131.2.toList != ([] : List UInt8)), bt131.2, true)) else (some (false, bt131.2, true)))) else (some (false, (⟨#[]⟩ : ByteArray), false)))
end
def spec_Number.f (k : Nat) (a0 : ByteArray) : Option (Bool × ByteArray × Bool) := if (a0.size : Int) > 0 then (if 0 < (a0.size : Int) then (if (bt a0 0) = 43 then (spec_Number.j0 k a0 false true) else (spec_Number.j0 k a0 false ((bt a0 0) == 45))) else (none)) else (spec_Number.j0 k a0 false false)
set_option maxHeartbeats 8000000 in
set_option maxRecDepth 100000 in
theorem spec_Number.calls (k : Nat) (a0 : ByteArray) (r1 : Bool) (r2 : ByteArray) (r3 : Bool) (w : World) (h : spec_Number.f k a0 = some (r1, r2, r3)) :
  Calls Tryd.prog 49 #[.string a0] w fun e w' => e = .returned (.tuple #[.agg #[.bool r1, .string r2], .bool r3]) ∧ Below w.heap.size w w' := by
 have hu31 := Tryd.underlying31
 have HB := Aside0.mk (Below.refl w.heap.size w)
 have H : (if (a0.size : Int) > 0 then (if 0 < (a0.size : Int) then (if (bt a0 0) = 43 then (spec_Number.j0 k a0 false true) else (spec_Number.j0 k a0 false ((bt a0 0) == 45))) else (none)) else (spec_Number.j0 k a0 false false)) = some (r1, r2, r3) := h
 clear h
 have HC2 := Aside0.mk H
 clear H
 go_enter Tryd.func49, Tryd.ntmps49
 go_upto_region 2 with (first | ((with_reducible refine gate_dst (N := 2) rfl ?_); refine box_event ?hg (N := 2) ?hd (cs := #[.bool false, .string (⟨#[]⟩ : ByteArray)]) (t := 31) ?hr ?_; (case hd => rfl); (case hg => rfl); (case hr => first | (go_simp; done) | (go_simp; rfl)); intro gb129 hg w3 hbox hb; have n0_ := Aside0.mk (below_step (by repeat (first | (with_reducible first | exact HB.out | apply below_alloc | apply pw_below_drewN | apply below_drew1) | exact HB.out)) hb); have n1_ := Aside0.mk (hbox); have n2_ := Aside0.mk ((by rw [hg]; exact (below_size (by repeat (first | (with_reducible first | exact HB.out | apply below_alloc | apply pw_below_drewN | apply below_drew1) | exact HB.out))) : w.heap.size ≤ gb129)); have n3_ := Aside0.mk ((by rw [hg]; exact (below_size (by repeat (first | (with_reducible first | exact HB.out | apply below_alloc | apply pw_below_drewN | apply below_drew1) | exact HB.out))) : w.heap.size ≤ gb129)); clear HB; have HB := n0_; have BK129 := n1_; have GW129 := n2_; have GE129 := n3_; clear n0_ n1_ n2_ n3_; clear hb hbox hg))
 repeat (go_quiet (first | ((with_reducible refine gate_dst (N := 2) rfl ?_); refine box_event ?hg (N := 2) ?hd (cs := #[.bool false, .string (⟨#[]⟩ : ByteArray)]) (t := 31) ?hr ?_; (case hd => rfl); (case hg => rfl); (case hr => first | (go_simp; done) | (go_simp; rfl)); intro gb129 hg w3 hbox hb; have n0_ := Aside0.mk (below_step (by repeat (first | (with_reducible first | exact HB.out | apply below_alloc | apply pw_below_drewN | apply below_drew1) | exact HB.out)) hb); have n1_ := Aside0.mk (hbox); have n2_ := Aside0.mk ((by rw [hg]; exact (below_size (by repeat (first | (with_reducible first | exact HB.out | apply below_alloc | apply pw_below_drewN | apply below_drew1) | exact HB.out))) : w.heap.size ≤ gb129)); have n3_ := Aside0.mk ((by rw [hg]; exact (below_size (by repeat (first | (with_reducible first | exact HB.out | apply below_alloc | apply pw_below_drewN | apply below_drew1) | exact HB.out))) : w.heap.size ≤ gb129)); clear HB; have HB := n0_; have BK129 := n1_; have GW129 := n2_; have GE129 := n3_; clear n0_ n1_ n2_ n3_; clear hb hbox hg)); go_upto_region 2 with (first | ((with_reducible refine gate_dst (N := 2) rfl ?_); refine box_event ?hg (N := 2) ?hd (cs := #[.bool false, .string (⟨#[]⟩ : ByteArray)]) (t := 31) ?hr ?_; (case hd => rfl); (case hg => rfl); (case hr => first | (go_simp; done) | (go_simp; rfl)); intro gb129 hg w3 hbox hb; have n0_ := Aside0.mk (below_step (by repeat (first | (with_reducible first | exact HB.out | apply below_alloc | apply pw_below_drewN | apply below_drew1) | exact HB.out)) hb); have n1_ := Aside0.mk (hbox); have n2_ := Aside0.mk ((by rw [hg]; exact (below_size (by repeat (first | (with_reducible first | exact HB.out | apply below_alloc | apply pw_below_drewN | apply below_drew1) | exact HB.out))) : w.heap.size ≤ gb129)); have n3_ := Aside0.mk ((by rw [hg]; exact (below_size (by repeat (first | (with_reducible first | exact HB.out | apply below_alloc | apply pw_below_drewN | apply below_drew1) | exact HB.out))) : w.heap.size ≤ gb129)); clear HB; have HB := n0_; have BK129 := n1_; have GW129 := n2_; have GE129 := n3_; clear n0_ n1_ n2_ n3_; clear hb hbox hg)))
 (try simp only [Act.put, List.setIfInBounds_toArray, List.set_cons_zero, List.set_cons_succ])
 go_cut [17] (fun v17 wc => ∃ (kq : Nat) (x17_1 : Bool), v17 = .bool x17_1 ∧ Aside0 (spec_Number.j0 kq a0 false x17_1 = some (r1, r2, r3)) ∧ Aside0 (kq ≤ k) ∧ Aside0 (wc.heap[gb129]? = some (.cells #[.bool false, .string (⟨#[]⟩ : ByteArray)] 31 (0, 0))) ∧ Aside0 (Below w.heap.size w wc))
 case first =>
  have H := HC2.out
  clear HC2
  by_cases c4 : (a0.size : Int) > 0
  ·rw [if_pos c4] at H
   have c4b0 : decide (0 < (a0.size : Int)) = true := decide_eq_true c4
   have c4b1 : decide (0 < a0.size) = true := decide_eq_true (by omega)
   clear c4
   (first | rw [c4b0] | (simp only [i64_w, i32_w]; rw [c4b0]) | skip)
   by_cases c5 : 0 < (a0.size : Int)
   ·rw [if_pos c5] at H
    have c5b0 : decide (0 < (a0.size : Int)) = true := decide_eq_true c5
    have c5b1 : decide (0 < a0.size) = true := decide_eq_true (by omega)
    clear c5
    by_cases c7 : (bt a0 0) = 43
    ·rw [if_pos c7] at H
     have c7b0 : ((bt a0 0) == 43) = true := beq_iff_eq.mpr c7
     have c7b1 : ((bt a0 0) != 43) = false := bne_eq_false_iff_eq.mpr c7
     clear c7
     have H' := Aside0.mk H
     clear H
     have p6 : 0 ≤ (0 : Int) := (by omega)
     have q6 : 0 < a0.size := (by have : (0 : Int) < (a0.size : Int) := of_decide_eq_true (by first | (with_reducible assumption) | assumption); omega)
     have hx6 : ∀ h : 0 < a0.size, ((a0[0]'h).toNat : Int) = bt a0 0 := bt_at a0 0
     clear p6
     have qi6 : (0 < (a0.size : Int)) = True := eq_true (of_decide_eq_true (by first | (with_reducible assumption) | assumption))
     replace q6 := eq_true q6
     go_wp2
     repeat (go_quiet (fail); try go_wp2)
     go_meet
     case rel => exact ⟨_, (true), (by first | rfl | (simp; done) | (simp [*]; done) | (simp [bne_nil_hyb]; done) | (simp [bne_nil_hyb, *]; done)), H', ⟨by first | omega | exact Nat.le_refl _⟩, ⟨by (with_reducible repeat (first | refine blk_drewN ?_ _ | refine blk_drew ?_ | refine blk_alloc ?_ _)); exact BK129.out⟩, ⟨by repeat (first | (with_reducible first | exact HB.out | apply below_alloc | apply pw_below_drewN | apply below_drew1 | refine below_set ?_ GE129.out) | exact HB.out)⟩⟩
    ·rw [if_neg c7] at H
     have c7b0 : ((bt a0 0) == 43) = false := beq_eq_false_iff_ne.mpr c7
     have c7b1 : ((bt a0 0) != 43) = true := bne_iff_ne.mpr c7
     have H' := Aside0.mk H
     clear H
     have p6 : 0 ≤ (0 : Int) := (by omega)
     have q6 : 0 < a0.size := (by have : (0 : Int) < (a0.size : Int) := of_decide_eq_true (by first | (with_reducible assumption) | assumption); omega)
     have hx6 : ∀ h : 0 < a0.size, ((a0[0]'h).toNat : Int) = bt a0 0 := bt_at a0 0
     clear p6
     have qi6 : (0 < (a0.size : Int)) = True := eq_true (of_decide_eq_true (by first | (with_reducible assumption) | assumption))
     replace q6 := eq_true q6
     have p8 : 0 ≤ (0 : Int) := (by omega)
     have q8 : 0 < a0.size := (by have : (0 : Int) < (a0.size : Int) := of_decide_eq_true (by first | (with_reducible assumption) | assumption); omega)
     have hx8 : ∀ h : 0 < a0.size, ((a0[0]'h).toNat : Int) = bt a0 0 := bt_at a0 0
     clear p8
     have qi8 : (0 < (a0.size : Int)) = True := eq_true (of_decide_eq_true (by first | (with_reducible assumption) | assumption))
     replace q8 := eq_true q8
     go_wp2
     repeat (go_quiet (fail); try go_wp2)
     go_meet
     case rel => exact ⟨_, (((bt a0 0) == 45)), (by first | rfl | (simp; done) | (simp [*]; done) | (simp [bne_nil_hyb]; done) | (simp [bne_nil_hyb, *]; done)), H', ⟨by first | omega | exact Nat.le_refl _⟩, ⟨by (with_reducible repeat (first | refine blk_drewN ?_ _ | refine blk_drew ?_ | refine blk_alloc ?_ _)); exact BK129.out⟩, ⟨by repeat (first | (with_reducible first | exact HB.out | apply below_alloc | apply pw_below_drewN | apply below_drew1 | refine below_set ?_ GE129.out) | exact HB.out)⟩⟩
   ·rw [if_neg c5] at H
    exact absurd H (by simp)
  ·rw [if_neg c4] at H
   have c4b0 : decide (0 < (a0.size : Int)) = false := decide_eq_false c4
   have c4b1 : decide (0 < a0.size) = false := decide_eq_false (by omega)
   clear c4
   (first | rw [c4b0] | (simp only [i64_w, i32_w]; rw [c4b0]) | skip)
   have H' := Aside0.mk H
   clear H
   go_wp2
   repeat (go_quiet (fail); try go_wp2)
   go_meet
   case rel => exact ⟨_, (false), (by first | rfl | (simp; done) | (simp [*]; done) | (simp [bne_nil_hyb]; done) | (simp [bne_nil_hyb, *]; done)), H', ⟨by first | omega | exact Nat.le_refl _⟩, ⟨by (with_reducible repeat (first | refine blk_drewN ?_ _ | refine blk_drew ?_ | refine blk_alloc ?_ _)); exact BK129.out⟩, ⟨by repeat (first | (with_reducible first | exact HB.out | apply below_alloc | apply pw_below_drewN | apply below_drew1 | refine below_set ?_ GE129.out) | exact HB.out)⟩⟩
 case rest =>
  clear HC2
  try clear p2
  try clear c4
  try clear c4b0
  try clear c4b1
  try clear c5
  try clear c5b0
  try clear c5b1
  try clear p6
  try clear q6
  try clear hx6
  try clear qi6
  try clear c7
  try clear c7b0
  try clear c7b1
  try clear p8
  try clear q8
  try clear hx8
  try clear qi8
  try clear p6
  try clear p8
  try clear q6
  try clear q8
  obtain ⟨kq, x17_1, rfl, HA, HJ1, BK129, HB⟩ := hcut
  cases kq with
  | zero => exact absurd HA.out (by simp [spec_Number.j0])
  | succ kj1 =>
   have H := HA.out
   clear HA
   simp only [spec_Number.j0] at H
   have HC9 := Aside0.mk H
   clear H
   go_upto_if 17 with (fail)
   repeat (go_quiet (fail); go_upto_if 17 with (fail))
   go_cut [0, 4, 17] (fun v0 v4 v17 wc => ∃ (kq : Nat) (x0_8 : ByteArray) (x4_8 : Bool), v0 = .string x0_8 ∧ v4 = .bool x4_8 ∧ Aside0 (spec_Number.j1 kq x0_8 x4_8 = some (r1, r2, r3)) ∧ Aside0 (kq ≤ kj1) ∧ Aside0 (wc.heap[gb129]? = some (.cells #[.bool false, .string (⟨#[]⟩ : ByteArray)] 31 (0, 0))) ∧ Aside0 (Below w.heap.size w wc))
   case first =>
    have H := HC9.out
    clear HC9
    by_cases c10 : x17_1 = true
    ·subst c10
     have H1 : (if 0 < (a0.size : Int) then (if 1 ≤ (a0.size : Int) then (spec_Number.j1 kj1 (a0.extract 1 a0.size) ((bt a0 0) == 45)) else (none)) else (none)) = some (r1, r2, r3) := by rw [if_pos rfl] at H; exact H
     clear H
     have H := H1
     clear H1
     by_cases c11 : 0 < (a0.size : Int)
     ·rw [if_pos c11] at H
      have c11b0 : decide (0 < (a0.size : Int)) = true := decide_eq_true c11
      have c11b1 : decide (0 < a0.size) = true := decide_eq_true (by omega)
      clear c11
      (first | rw [c11b0] | (simp only [i64_w, i32_w]; rw [c11b0]) | skip)
      by_cases c13 : 1 ≤ (a0.size : Int)
      ·rw [if_pos c13] at H
       have c13b0 := eq_true c13
       have c13b1 : decide (1 ≤ (a0.size : Int)) = true := decide_eq_true c13
       clear c13
       have H' := Aside0.mk H
       clear H
       have p12 : 0 ≤ (0 : Int) := (by omega)
       have q12 : 0 < a0.size := (by have : (0 : Int) < (a0.size : Int) := of_decide_eq_true (by first | (with_reducible assumption) | assumption); omega)
       have hx12 : ∀ h : 0 < a0.size, ((a0[0]'h).toNat : Int) = bt a0 0 := bt_at a0 0
       clear p12
       have qi12 : (0 < (a0.size : Int)) = True := eq_true (of_decide_eq_true (by first | (with_reducible assumption) | assumption))
       replace q12 := eq_true q12
       go_wp2
       repeat (go_quiet (fail); try go_wp2)
       go_meet
       case rel => exact ⟨_, (a0.extract 1 a0.size), (((bt a0 0) == 45)), (by first | rfl | (simp; done) | (simp [*]; done) | (simp [bne_nil_hyb]; done) | (simp [bne_nil_hyb, *]; done)), (by first | rfl | (simp; done) | (simp [*]; done) | (simp [bne_nil_hyb]; done) | (simp [bne_nil_hyb, *]; done)), (by first | exact H' | (rw [hji24]; exact H')), ⟨by have := HJ1.out; first | omega | exact Nat.le_refl _⟩, ⟨by (with_reducible repeat (first | refine blk_drewN ?_ _ | refine blk_drew ?_ | refine blk_alloc ?_ _)); exact BK129.out⟩, ⟨by repeat (first | (with_reducible first | exact HB.out | apply below_alloc | apply pw_below_drewN | apply below_drew1 | refine below_set ?_ GE129.out) | exact HB.out)⟩⟩
      ·rw [if_neg c13] at H
       exact absurd H (by simp)
     ·rw [if_neg c11] at H
      exact absurd H (by simp)
    ·replace c10 := Bool.eq_false_iff.mpr c10
     subst c10
     have H1 : (spec_Number.j1 kj1 a0 false) = some (r1, r2, r3) := by rw [if_neg (show ¬ (false = true) by decide)] at H; exact H
     clear H
     have H := H1
     clear H1
     have H' := Aside0.mk H
     clear H
     go_wp2
     repeat (go_quiet (fail); try go_wp2)
     go_meet
     case rel => exact ⟨_, (a0), (false), (by first | rfl | (simp; done) | (simp [*]; done) | (simp [bne_nil_hyb]; done) | (simp [bne_nil_hyb, *]; done)), (by first | rfl | (simp; done) | (simp [*]; done) | (simp [bne_nil_hyb]; done) | (simp [bne_nil_hyb, *]; done)), (by first | exact H' | (rw [hji24]; exact H')), ⟨by have := HJ1.out; first | omega | exact Nat.le_refl _⟩, ⟨by (with_reducible repeat (first | refine blk_drewN ?_ _ | refine blk_drew ?_ | refine blk_alloc ?_ _)); exact BK129.out⟩, ⟨by repeat (first | (with_reducible first | exact HB.out | apply below_alloc | apply pw_below_drewN | apply below_drew1 | refine below_set ?_ GE129.out) | exact HB.out)⟩⟩
   case rest =>
    clear HC9
    try clear c1
    try clear p1
    try clear q1
    try clear hx1
    try clear qi1
    try clear p2
    try clear c4
    try clear c4b0
    try clear c4b1
    try clear c5
    try clear c5b0
    try clear c5b1
    try clear p6
    try clear q6
    try clear hx6
    try clear qi6
    try clear c7
    try clear c7b0
    try clear c7b1
    try clear p8
    try clear q8
    try clear hx8
    try clear qi8
    try clear c10
    try clear c11
    try clear c11b0
    try clear c11b1
    try clear p12
    try clear q12
    try clear hx12
    try clear qi12
    try clear c13
    try clear c13b0
    try clear c13b1
    try clear p12
    try clear p2
    try clear p6
    try clear p8
    try clear q12
    try clear q6
    try clear q8
    obtain ⟨kq, x0_8, x4_8, rfl, rfl, HA, HJ8, BK129, HB⟩ := hcut
    cases kq with
    | zero => exact absurd HA.out (by simp [spec_Number.j1])
    | succ kj8 =>
     have H := HA.out
     clear HA
     simp only [spec_Number.j1] at H
     replace H := Option.bind_eq_some_iff.mp H
     obtain ⟨t130, A140, H⟩ := H
     replace H : (if t130 = true then ((spec_intOf.f kj8 x0_8).bind fun bt131 => (if x4_8 = true then (some ((bt131.2.toList != ([] : List UInt8)), bt131.2, true)) else (some (false, bt131.2, true)))) else (some (false, (⟨#[]⟩ : ByteArray), false))) = some (r1, r2, r3) := H
     have A14 := Aside0.mk A140
     clear A140
     by_cases c15 : t130 = true
     ·subst c15
      have H1 : ((spec_intOf.f kj8 x0_8).bind fun bt131 => (if x4_8 = true then (some ((bt131.2.toList != ([] : List UInt8)), bt131.2, true)) else (some (false, bt131.2, true)))) = some (r1, r2, r3) := by rw [if_pos rfl] at H; exact H
      clear H
      have H := H1
      clear H1
      replace H := Option.bind_eq_some_iff.mp H
      obtain ⟨⟨t131, t132⟩, A160, H⟩ := H
      replace H : (if x4_8 = true then (some ((t132.toList != ([] : List UInt8)), t132, true)) else (some (false, t132, true))) = some (r1, r2, r3) := H
      have A16 := Aside0.mk A160
      clear A160
      by_cases c17 : x4_8 = true
      ·subst c17
       have H1 : (some ((t132.toList != ([] : List UInt8)), t132, true)) = some (r1, r2, r3) := by rw [if_pos rfl] at H; exact H
       clear H
       have H := H1
       clear H1
       simp only [Option.some.injEq, Prod.mk.injEq] at H
       obtain ⟨rfl, rfl, rfl⟩ := H
       go_wp2_with (first | (go_at_call 67; (with_reducible refine (spec_allDigits.calls kj8 x0_8 true _ A14.out).mono ?_); rintro e w' ⟨rfl, ⟨nd, rfl⟩⟩; (try first | exact ⟨rfl, _, World.drewN_drewN _ _ _⟩ | exact ⟨rfl, _, Eq.trans (World.drewN_drewN _ _ _) (congrArg (World.drewN _) (Nat.add_assoc _ _ _))⟩)) | (go_at_call 35; (with_reducible refine (spec_intOf.calls kj8 x0_8 t131 t132 _ A16.out).mono ?_); rintro e w18 ⟨rfl, hb⟩; have n0_ := Aside0.mk (blk_below (g := gb129) (o := .cells #[.bool false, .string (⟨#[]⟩ : ByteArray)] 31 (0, 0)) (by (with_reducible repeat (first | refine blk_drewN ?_ _ | refine blk_drew ?_ | refine blk_alloc ?_ _)); exact BK129.out) hb); have n1_ := Aside0.mk (below_step (by repeat (first | (with_reducible first | exact HB.out | apply below_alloc | apply pw_below_drewN | apply below_drew1 | refine below_set ?_ GE129.out) | exact HB.out)) hb); clear BK129; clear HB; have BK129 := n0_; have HB := n1_; clear n0_ n1_; (try clear hb); (try clear hb2); (try clear hk); (try clear hi); have hcz19_0 : w18.cell? ⟨gb129, 0, none⟩ = some (.bool false) := (blk_cell BK129.out 0).trans rfl; have hcz19_1 : w18.cell? ⟨gb129, 1, none⟩ = some (.string (⟨#[]⟩ : ByteArray)) := (blk_cell BK129.out 1).trans rfl; have hfz19_0 := blk_frozen BK129.out 0; have hfz19_1 := blk_frozen BK129.out 1))
       repeat (go_quiet (first | (go_at_call 67; (with_reducible refine (spec_allDigits.calls kj8 x0_8 true _ A14.out).mono ?_); rintro e w' ⟨rfl, ⟨nd, rfl⟩⟩; (try first | exact ⟨rfl, _, World.drewN_drewN _ _ _⟩ | exact ⟨rfl, _, Eq.trans (World.drewN_drewN _ _ _) (congrArg (World.drewN _) (Nat.add_assoc _ _ _))⟩)) | (go_at_call 35; (with_reducible refine (spec_intOf.calls kj8 x0_8 t131 t132 _ A16.out).mono ?_); rintro e w18 ⟨rfl, hb⟩; have n0_ := Aside0.mk (blk_below (g := gb129) (o := .cells #[.bool false, .string (⟨#[]⟩ : ByteArray)] 31 (0, 0)) (by (with_reducible repeat (first | refine blk_drewN ?_ _ | refine blk_drew ?_ | refine blk_alloc ?_ _)); exact BK129.out) hb); have n1_ := Aside0.mk (below_step (by repeat (first | (with_reducible first | exact HB.out | apply below_alloc | apply pw_below_drewN | apply below_drew1 | refine below_set ?_ GE129.out) | exact HB.out)) hb); clear BK129; clear HB; have BK129 := n0_; have HB := n1_; clear n0_ n1_; (try clear hb); (try clear hb2); (try clear hk); (try clear hi); have hcz19_0 : w18.cell? ⟨gb129, 0, none⟩ = some (.bool false) := (blk_cell BK129.out 0).trans rfl; have hcz19_1 : w18.cell? ⟨gb129, 1, none⟩ = some (.string (⟨#[]⟩ : ByteArray)) := (blk_cell BK129.out 1).trans rfl; have hfz19_0 := blk_frozen BK129.out 0; have hfz19_1 := blk_frozen BK129.out 1)); try go_wp2_with (first | (go_at_call 67; (with_reducible refine (spec_allDigits.calls kj8 x0_8 true _ A14.out).mono ?_); rintro e w' ⟨rfl, ⟨nd, rfl⟩⟩; (try first | exact ⟨rfl, _, World.drewN_drewN _ _ _⟩ | exact ⟨rfl, _, Eq.trans (World.drewN_drewN _ _ _) (congrArg (World.drewN _) (Nat.add_assoc _ _ _))⟩)) | (go_at_call 35; (with_reducible refine (spec_intOf.calls kj8 x0_8 t131 t132 _ A16.out).mono ?_); rintro e w18 ⟨rfl, hb⟩; have n0_ := Aside0.mk (blk_below (g := gb129) (o := .cells #[.bool false, .string (⟨#[]⟩ : ByteArray)] 31 (0, 0)) (by (with_reducible repeat (first | refine blk_drewN ?_ _ | refine blk_drew ?_ | refine blk_alloc ?_ _)); exact BK129.out) hb); have n1_ := Aside0.mk (below_step (by repeat (first | (with_reducible first | exact HB.out | apply below_alloc | apply pw_below_drewN | apply below_drew1 | refine below_set ?_ GE129.out) | exact HB.out)) hb); clear BK129; clear HB; have BK129 := n0_; have HB := n1_; clear n0_ n1_; (try clear hb); (try clear hb2); (try clear hk); (try clear hi); have hcz19_0 : w18.cell? ⟨gb129, 0, none⟩ = some (.bool false) := (blk_cell BK129.out 0).trans rfl; have hcz19_1 : w18.cell? ⟨gb129, 1, none⟩ = some (.string (⟨#[]⟩ : ByteArray)) := (blk_cell BK129.out 1).trans rfl; have hfz19_0 := blk_frozen BK129.out 0; have hfz19_1 := blk_frozen BK129.out 1)))
       refine bodyPost_ret (results_ct rfl _ _ gb129 31 #[.bool (t132.toList != ([] : List UInt8)), .string t132] (0, 0) _ rfl (by (with_reducible repeat (first | refine blk_drewN ?_ _ | refine blk_drew ?_ | refine blk_alloc ?_ _)); refine blk_put (cs := #[.bool (t132.toList != ([] : List UInt8)), .string t132]) ?_ 1 _ (by first | rfl | (simp [bne_nil_hyb]; done)); (with_reducible repeat (first | refine blk_drewN ?_ _ | refine blk_drew ?_ | refine blk_alloc ?_ _)); refine blk_put (cs := #[.bool (t132.toList != ([] : List UInt8)), .string t132]) ?_ 0 _ (by first | rfl | (simp [bne_nil_hyb]; done)); (with_reducible repeat (first | refine blk_drewN ?_ _ | refine blk_drew ?_ | refine blk_alloc ?_ _)); refine blk_put (cs := #[.bool t131, .string t132]) ?_ 0 _ (by first | rfl | (simp [bne_nil_hyb]; done)); (with_reducible repeat (first | refine blk_drewN ?_ _ | refine blk_drew ?_ | refine blk_alloc ?_ _)); refine blk_put (cs := #[.bool t131, .string (⟨#[]⟩ : ByteArray)]) ?_ 1 _ (by first | rfl | (simp [bne_nil_hyb]; done)); (with_reducible repeat (first | refine blk_drewN ?_ _ | refine blk_drew ?_ | refine blk_alloc ?_ _)); refine blk_put (cs := #[.bool false, .string (⟨#[]⟩ : ByteArray)]) ?_ 0 _ (by first | rfl | (simp [bne_nil_hyb]; done)); (with_reducible repeat (first | refine blk_drewN ?_ _ | refine blk_drew ?_ | refine blk_alloc ?_ _)); exact BK129.out) Tryd.underlying31 rfl (by kernel_rfl)) rfl ?_
       exact ⟨by first | rfl | (simp [errW_none, errW_some] <;> rfl) | (simp [*, errW_none, errW_some] <;> rfl) | (simp [bne_nil_hyb]; done), by repeat (first | (with_reducible first | exact HB.out | apply below_alloc | apply pw_below_drewN | apply below_drew1 | refine below_set ?_ GE129.out) | exact HB.out)⟩
      ·replace c17 := Bool.eq_false_iff.mpr c17
       subst c17
       have H1 : (some (false, t132, true)) = some (r1, r2, r3) := by rw [if_neg (show ¬ (false = true) by decide)] at H; exact H
       clear H
       have H := H1
       clear H1
       simp only [Option.some.injEq, Prod.mk.injEq] at H
       obtain ⟨rfl, rfl, rfl⟩ := H
       go_wp2_with (first | (go_at_call 67; (with_reducible refine (spec_allDigits.calls kj8 x0_8 true _ A14.out).mono ?_); rintro e w' ⟨rfl, ⟨nd, rfl⟩⟩; (try first | exact ⟨rfl, _, World.drewN_drewN _ _ _⟩ | exact ⟨rfl, _, Eq.trans (World.drewN_drewN _ _ _) (congrArg (World.drewN _) (Nat.add_assoc _ _ _))⟩)) | (go_at_call 35; (with_reducible refine (spec_intOf.calls kj8 x0_8 t131 t132 _ A16.out).mono ?_); rintro e w20 ⟨rfl, hb⟩; have n0_ := Aside0.mk (blk_below (g := gb129) (o := .cells #[.bool false, .string (⟨#[]⟩ : ByteArray)] 31 (0, 0)) (by (with_reducible repeat (first | refine blk_drewN ?_ _ | refine blk_drew ?_ | refine blk_alloc ?_ _)); exact BK129.out) hb); have n1_ := Aside0.mk (below_step (by repeat (first | (with_reducible first | exact HB.out | apply below_alloc | apply pw_below_drewN | apply below_drew1 | refine below_set ?_ GE129.out) | exact HB.out)) hb); clear BK129; clear HB; have BK129 := n0_; have HB := n1_; clear n0_ n1_; (try clear hb); (try clear hb2); (try clear hk); (try clear hi); have hcz21_0 : w20.cell? ⟨gb129, 0, none⟩ = some (.bool false) := (blk_cell BK129.out 0).trans rfl; have hcz21_1 : w20.cell? ⟨gb129, 1, none⟩ = some (.string (⟨#[]⟩ : ByteArray)) := (blk_cell BK129.out 1).trans rfl; have hfz21_0 := blk_frozen BK129.out 0; have hfz21_1 := blk_frozen BK129.out 1))
       repeat (go_quiet (first | (go_at_call 67; (with_reducible refine (spec_allDigits.calls kj8 x0_8 true _ A14.out).mono ?_); rintro e w' ⟨rfl, ⟨nd, rfl⟩⟩; (try first | exact ⟨rfl, _, World.drewN_drewN _ _ _⟩ | exact ⟨rfl, _, Eq.trans (World.drewN_drewN _ _ _) (congrArg (World.drewN _) (Nat.add_assoc _ _ _))⟩)) | (go_at_call 35; (with_reducible refine (spec_intOf.calls kj8 x0_8 t131 t132 _ A16.out).mono ?_); rintro e w20 ⟨rfl, hb⟩; have n0_ := Aside0.mk (blk_below (g := gb129) (o := .cells #[.bool false, .string (⟨#[]⟩ : ByteArray)] 31 (0, 0)) (by (with_reducible repeat (first | refine blk_drewN ?_ _ | refine blk_drew ?_ | refine blk_alloc ?_ _)); exact BK129.out) hb); have n1_ := Aside0.mk (below_step (by repeat (first | (with_reducible first | exact HB.out | apply below_alloc | apply pw_below_drewN | apply below_drew1 | refine below_set ?_ GE129.out) | exact HB.out)) hb); clear BK129; clear HB; have BK129 := n0_; have HB := n1_; clear n0_ n1_; (try clear hb); (try clear hb2); (try clear hk); (try clear hi); have hcz21_0 : w20.cell? ⟨gb129, 0, none⟩ = some (.bool false) := (blk_cell BK129.out 0).trans rfl; have hcz21_1 : w20.cell? ⟨gb129, 1, none⟩ = some (.string (⟨#[]⟩ : ByteArray)) := (blk_cell BK129.out 1).trans rfl; have hfz21_0 := blk_frozen BK129.out 0; have hfz21_1 := blk_frozen BK129.out 1)); try go_wp2_with (first | (go_at_call 67; (with_reducible refine (spec_allDigits.calls kj8 x0_8 true _ A14.out).mono ?_); rintro e w' ⟨rfl, ⟨nd, rfl⟩⟩; (try first | exact ⟨rfl, _, World.drewN_drewN _ _ _⟩ | exact ⟨rfl, _, Eq.trans (World.drewN_drewN _ _ _) (congrArg (World.drewN _) (Nat.add_assoc _ _ _))⟩)) | (go_at_call 35; (with_reducible refine (spec_intOf.calls kj8 x0_8 t131 t132 _ A16.out).mono ?_); rintro e w20 ⟨rfl, hb⟩; have n0_ := Aside0.mk (blk_below (g := gb129) (o := .cells #[.bool false, .string (⟨#[]⟩ : ByteArray)] 31 (0, 0)) (by (with_reducible repeat (first | refine blk_drewN ?_ _ | refine blk_drew ?_ | refine blk_alloc ?_ _)); exact BK129.out) hb); have n1_ := Aside0.mk (below_step (by repeat (first | (with_reducible first | exact HB.out | apply below_alloc | apply pw_below_drewN | apply below_drew1 | refine below_set ?_ GE129.out) | exact HB.out)) hb); clear BK129; clear HB; have BK129 := n0_; have HB := n1_; clear n0_ n1_; (try clear hb); (try clear hb2); (try clear hk); (try clear hi); have hcz21_0 : w20.cell? ⟨gb129, 0, none⟩ = some (.bool false) := (blk_cell BK129.out 0).trans rfl; have hcz21_1 : w20.cell? ⟨gb129, 1, none⟩ = some (.string (⟨#[]⟩ : ByteArray)) := (blk_cell BK129.out 1).trans rfl; have hfz21_0 := blk_frozen BK129.out 0; have hfz21_1 := blk_frozen BK129.out 1)))
       refine bodyPost_ret (results_ct rfl _ _ gb129 31 #[.bool false, .string t132] (0, 0) _ rfl (by (with_reducible repeat (first | refine blk_drewN ?_ _ | refine blk_drew ?_ | refine blk_alloc ?_ _)); refine blk_put (cs := #[.bool false, .string t132]) ?_ 1 _ rfl; (with_reducible repeat (first | refine blk_drewN ?_ _ | refine blk_drew ?_ | refine blk_alloc ?_ _)); refine blk_put (cs := #[.bool false, .string t132]) ?_ 0 _ rfl; (with_reducible repeat (first | refine blk_drewN ?_ _ | refine blk_drew ?_ | refine blk_alloc ?_ _)); refine blk_put (cs := #[.bool t131, .string t132]) ?_ 0 _ rfl; (with_reducible repeat (first | refine blk_drewN ?_ _ | refine blk_drew ?_ | refine blk_alloc ?_ _)); refine blk_put (cs := #[.bool t131, .string (⟨#[]⟩ : ByteArray)]) ?_ 1 _ rfl; (with_reducible repeat (first | refine blk_drewN ?_ _ | refine blk_drew ?_ | refine blk_alloc ?_ _)); refine blk_put (cs := #[.bool false, .string (⟨#[]⟩ : ByteArray)]) ?_ 0 _ rfl; (with_reducible repeat (first | refine blk_drewN ?_ _ | refine blk_drew ?_ | refine blk_alloc ?_ _)); exact BK129.out) Tryd.underlying31 rfl (by kernel_rfl)) rfl ?_
       exact ⟨by first | rfl | (simp [errW_none, errW_some] <;> rfl) | (simp [*, errW_none, errW_some] <;> rfl) | (simp [bne_nil_hyb]; done), by repeat (first | (with_reducible first | exact HB.out | apply below_alloc | apply pw_below_drewN | apply below_drew1 | refine below_set ?_ GE129.out) | exact HB.out)⟩
     ·replace c15 := Bool.eq_false_iff.mpr c15
      subst c15
      have H1 : (some (false, (⟨#[]⟩ : ByteArray), false)) = some (r1, r2, r3) := by rw [if_neg (show ¬ (false = true) by decide)] at H; exact H
      clear H
      have H := H1
      clear H1
      simp only [Option.some.injEq, Prod.mk.injEq] at H
      obtain ⟨rfl, rfl, rfl⟩ := H
      go_wp2_with (first | (go_at_call 67; (with_reducible refine (spec_allDigits.calls kj8 x0_8 false _ A14.out).mono ?_); rintro e w' ⟨rfl, ⟨nd, rfl⟩⟩; (try first | exact ⟨rfl, _, World.drewN_drewN _ _ _⟩ | exact ⟨rfl, _, Eq.trans (World.drewN_drewN _ _ _) (congrArg (World.drewN _) (Nat.add_assoc _ _ _))⟩); have hcz22_0 : wc.cell? ⟨gb129, 0, none⟩ = some (.bool false) := (blk_cell BK129.out 0).trans rfl; have hcz22_1 : wc.cell? ⟨gb129, 1, none⟩ = some (.string (⟨#[]⟩ : ByteArray)) := (blk_cell BK129.out 1).trans rfl; have hfz22_0 := blk_frozen BK129.out 0; have hfz22_1 := blk_frozen BK129.out 1))
      repeat (go_quiet (first | (go_at_call 67; (with_reducible refine (spec_allDigits.calls kj8 x0_8 false _ A14.out).mono ?_); rintro e w' ⟨rfl, ⟨nd, rfl⟩⟩; (try first | exact ⟨rfl, _, World.drewN_drewN _ _ _⟩ | exact ⟨rfl, _, Eq.trans (World.drewN_drewN _ _ _) (congrArg (World.drewN _) (Nat.add_assoc _ _ _))⟩); have hcz22_0 : wc.cell? ⟨gb129, 0, none⟩ = some (.bool false) := (blk_cell BK129.out 0).trans rfl; have hcz22_1 : wc.cell? ⟨gb129, 1, none⟩ = some (.string (⟨#[]⟩ : ByteArray)) := (blk_cell BK129.out 1).trans rfl; have hfz22_0 := blk_frozen BK129.out 0; have hfz22_1 := blk_frozen BK129.out 1)); try go_wp2_with (first | (go_at_call 67; (with_reducible refine (spec_allDigits.calls kj8 x0_8 false _ A14.out).mono ?_); rintro e w' ⟨rfl, ⟨nd, rfl⟩⟩; (try first | exact ⟨rfl, _, World.drewN_drewN _ _ _⟩ | exact ⟨rfl, _, Eq.trans (World.drewN_drewN _ _ _) (congrArg (World.drewN _) (Nat.add_assoc _ _ _))⟩); have hcz22_0 : wc.cell? ⟨gb129, 0, none⟩ = some (.bool false) := (blk_cell BK129.out 0).trans rfl; have hcz22_1 : wc.cell? ⟨gb129, 1, none⟩ = some (.string (⟨#[]⟩ : ByteArray)) := (blk_cell BK129.out 1).trans rfl; have hfz22_0 := blk_frozen BK129.out 0; have hfz22_1 := blk_frozen BK129.out 1)))
      refine bodyPost_ret (results_ct rfl _ _ gb129 31 #[.bool false, .string (⟨#[]⟩ : ByteArray)] (0, 0) _ rfl (by (with_reducible repeat (first | refine blk_drewN ?_ _ | refine blk_drew ?_ | refine blk_alloc ?_ _)); refine blk_put (cs := #[.bool false, .string (⟨#[]⟩ : ByteArray)]) ?_ 1 _ rfl; (with_reducible repeat (first | refine blk_drewN ?_ _ | refine blk_drew ?_ | refine blk_alloc ?_ _)); refine blk_put (cs := #[.bool false, .string (⟨#[]⟩ : ByteArray)]) ?_ 0 _ rfl; (with_reducible repeat (first | refine blk_drewN ?_ _ | refine blk_drew ?_ | refine blk_alloc ?_ _)); exact BK129.out) Tryd.underlying31 rfl (by kernel_rfl)) rfl ?_
      exact ⟨by first | rfl | (simp [errW_none, errW_some] <;> rfl) | (simp [*, errW_none, errW_some] <;> rfl) | (simp [bne_nil_hyb]; done), by repeat (first | (with_reducible first | exact HB.out | apply below_alloc | apply pw_below_drewN | apply below_drew1 | refine below_set ?_ GE129.out) | exact HB.out)⟩
def spec_NumberOf.f (k : Nat) (a0 : ByteArray) : Option (Bool × ByteArray × Bool) := (spec_Number.f k a0).bind fun bt134 => (some (bt134.1, bt134.2.1, bt134.2.2))
set_option maxHeartbeats 8000000 in
set_option maxRecDepth 100000 in
theorem spec_NumberOf.calls (k : Nat) (a0 : ByteArray) (r1 : Bool) (r2 : ByteArray) (r3 : Bool) (w : World) (h : spec_NumberOf.f k a0 = some (r1, r2, r3)) :
  Calls Tryd.prog 39 #[.string a0] w fun e w' => e = .returned (.tuple #[.agg #[.bool r1, .string r2], .bool r3]) ∧ Below w.heap.size w w' := by
 have hu31 := Tryd.underlying31
 have HB := Aside0.mk (Below.refl w.heap.size w)
 have H : ((spec_Number.f k a0).bind fun bt134 => (some (bt134.1, bt134.2.1, bt134.2.2))) = some (r1, r2, r3) := h
 clear h
 replace H := Option.bind_eq_some_iff.mp H
 obtain ⟨⟨t134, t135, t136⟩, A20, H⟩ := H
 replace H : (some (t134, t135, t136)) = some (r1, r2, r3) := H
 have A2 := Aside0.mk A20
 clear A20
 simp only [Option.some.injEq, Prod.mk.injEq] at H
 obtain ⟨rfl, rfl, rfl⟩ := H
 go_enter Tryd.func39, Tryd.ntmps39
 go_wp2_with (first | ((with_reducible refine gate_dst (N := 2) rfl ?_); refine box_event ?hg (N := 2) ?hd (cs := #[.bool false, .string (⟨#[]⟩ : ByteArray)]) (t := 31) ?hr ?_; (case hd => rfl); (case hg => rfl); (case hr => first | (go_simp; done) | (go_simp; rfl)); intro gb133 hg w3 hbox hb; have n0_ := Aside0.mk (below_step (by repeat (first | (with_reducible first | exact HB.out | apply below_alloc | apply pw_below_drewN | apply below_drew1) | exact HB.out)) hb); have n1_ := Aside0.mk (hbox); have n2_ := Aside0.mk ((by rw [hg]; exact (below_size (by repeat (first | (with_reducible first | exact HB.out | apply below_alloc | apply pw_below_drewN | apply below_drew1) | exact HB.out))) : w.heap.size ≤ gb133)); have n3_ := Aside0.mk ((by rw [hg]; exact (below_size (by repeat (first | (with_reducible first | exact HB.out | apply below_alloc | apply pw_below_drewN | apply below_drew1) | exact HB.out))) : w.heap.size ≤ gb133)); clear HB; have HB := n0_; have BK133 := n1_; have GW133 := n2_; have GE133 := n3_; clear n0_ n1_ n2_ n3_; clear hb hbox hg) | ((with_reducible refine gate_callee (f := 49) rfl ?_); refine goesL_ (some 5) rfl rfl Tryd.func49 (by kernel_rfl) rfl #[.string a0] rfl (by (try simp only [List.map_toArray, List.map_cons, List.map_nil]); first | done | rfl | (simp only [List.length_drop, List.length_take]; rfl)) ?_; (with_reducible refine (spec_Number.calls k a0 t134 t135 t136 _ A2.out).mono ?_); rintro e w4 ⟨rfl, hb⟩; refine ⟨_, rfl, ?_⟩; have n0_ := Aside0.mk (blk_below (g := gb133) (o := .cells #[.bool false, .string (⟨#[]⟩ : ByteArray)] 31 (0, 0)) (by (with_reducible repeat (first | refine blk_drewN ?_ _ | refine blk_drew ?_ | refine blk_alloc ?_ _)); exact BK133.out) hb); have n1_ := Aside0.mk (below_step (by repeat (first | (with_reducible first | exact HB.out | apply below_alloc | apply pw_below_drewN | apply below_drew1 | refine below_set ?_ GE133.out) | exact HB.out)) hb); clear BK133; clear HB; have BK133 := n0_; have HB := n1_; clear n0_ n1_; (try clear hb); (try clear hb2); (try clear hk); (try clear hi); have hcz5_0 : w4.cell? ⟨gb133, 0, none⟩ = some (.bool false) := (blk_cell BK133.out 0).trans rfl; have hcz5_1 : w4.cell? ⟨gb133, 1, none⟩ = some (.string (⟨#[]⟩ : ByteArray)) := (blk_cell BK133.out 1).trans rfl; have hfz5_0 := blk_frozen BK133.out 0; have hfz5_1 := blk_frozen BK133.out 1))
 refine bodyPost_ret (results_ct rfl _ _ gb133 31 #[.bool t134, .string t135] (0, 0) _ rfl (by (with_reducible repeat (first | refine blk_drewN ?_ _ | refine blk_drew ?_ | refine blk_alloc ?_ _)); refine blk_put (cs := #[.bool t134, .string (⟨#[]⟩ : ByteArray)]) ?_ 1 _ rfl; (with_reducible repeat (first | refine blk_drewN ?_ _ | refine blk_drew ?_ | refine blk_alloc ?_ _)); refine blk_put (cs := #[.bool false, .string (⟨#[]⟩ : ByteArray)]) ?_ 0 _ rfl; (with_reducible repeat (first | refine blk_drewN ?_ _ | refine blk_drew ?_ | refine blk_alloc ?_ _)); exact BK133.out) Tryd.underlying31 rfl (by kernel_rfl)) rfl ?_
 exact ⟨by first | rfl | (simp [errW_none, errW_some] <;> rfl) | (simp [*, errW_none, errW_some] <;> rfl) | (simp [bne_nil_hyb]; done), by repeat (first | (with_reducible first | exact HB.out | apply below_alloc | apply pw_below_drewN | apply below_drew1 | refine below_set ?_ GE133.out) | exact HB.out)⟩
end Go.Proofs.YtapaijpglfmfgaaDoor.Q
end
section -- Qx6
namespace Go.Proofs.YtapaijpglfmfgaaDoor.Q
open Go.RowKit Go.Proofs.YtapaijpglfmfgaaDoorH Go.Proofs.YtapaijpglfmfgaaDoorG Go.Proofs.YtapaijpglfmfgaaDoorW.PrintWords Go.Proofs.YtapaijpglfmfgaaDoorW.PrintLast Go.Proofs.YtapaijpglfmfgaaDoorW.PrintMore
attribute [local go_sem] max2_int min2_int max_two min_two max_three min_three max_four min_four   -- for this text's walks alone
set_option linter.unusedVariables false
set_option linter.unusedSimpArgs false
def laws_number.f (k : Nat) (a0 : ByteArray) : Option (Bool × ByteArray) := (spec_NumberOf.f k a0).bind fun bt138 => (some (bt138.1, bt138.2.1))
set_option maxHeartbeats 8000000 in
set_option maxRecDepth 100000 in
theorem laws_number.calls (k : Nat) (a0 : ByteArray) (r1 : Bool) (r2 : ByteArray) (w : World) (h : laws_number.f k a0 = some (r1, r2)) :
  Calls Tryd.prog 23 #[.string a0] w fun e w' => e = .returned (.agg #[.bool r1, .string r2]) ∧ Below w.heap.size w w' := by
 have hu31 := Tryd.underlying31
 have HB := Aside0.mk (Below.refl w.heap.size w)
 have H : ((spec_NumberOf.f k a0).bind fun bt138 => (some (bt138.1, bt138.2.1))) = some (r1, r2) := h
 clear h
 replace H := Option.bind_eq_some_iff.mp H
 obtain ⟨⟨t138, t139, t140⟩, A20, H⟩ := H
 replace H : (some (t138, t139)) = some (r1, r2) := H
 have A2 := Aside0.mk A20
 clear A20
 simp only [Option.some.injEq, Prod.mk.injEq] at H
 obtain ⟨rfl, rfl⟩ := H
 go_enter Tryd.func23, Tryd.ntmps23
 go_wp2_with (first | ((with_reducible refine gate_dst (N := 2) rfl ?_); refine box_event ?hg (N := 2) ?hd (cs := #[.bool false, .string ⟨#[]⟩]) (t := 31) ?hr ?_; (case hd => rfl); (case hg => rfl); (case hr => first | (go_simp; done) | (go_simp; rfl)); intro gb137 hg w3 hbox hb; have n0_ := Aside0.mk (below_step (by (with_reducible exact HB.out)) hb); have n1_ := Aside0.mk (hbox); have n2_ := Aside0.mk ((by rw [hg]; exact (below_size (by (with_reducible exact HB.out))) : w.heap.size ≤ gb137)); have n3_ := Aside0.mk ((by rw [hg]; exact (below_size (by (with_reducible exact HB.out))) : w.heap.size ≤ gb137)); clear HB; have HB := n0_; have BK137 := n1_; have GW137 := n2_; have GE137 := n3_; clear n0_ n1_ n2_ n3_; clear hb hbox hg) | ((with_reducible refine gate_callee (f := 39) rfl ?_); refine goesL_ (some 7) rfl rfl Tryd.func39 (by kernel_rfl) rfl #[.string a0] rfl (by (try simp only [List.map_toArray, List.map_cons, List.map_nil]); first | done | rfl | (simp only [List.length_drop, List.length_take]; rfl)) ?_; (with_reducible refine (spec_NumberOf.calls k a0 t138 t139 t140 _ A2.out).mono ?_); rintro e w4 ⟨rfl, hb⟩; refine ⟨_, rfl, ?_⟩; have n0_ := Aside0.mk (blk_below (g := gb137) (o := .cells #[.bool false, .string ⟨#[]⟩] 31 (0, 0)) (by exact BK137.out) hb); have n1_ := Aside0.mk (below_step (by (with_reducible exact HB.out)) hb); clear BK137; clear HB; have BK137 := n0_; have HB := n1_; clear n0_ n1_; (try clear hb); (try clear hb2); (try clear hk); (try clear hi)) | ((with_reducible refine gate_dst (N := 3) rfl ?_); refine box_event ?hg (N := 3) ?hd (cs := #[.bool false, .string ⟨#[]⟩]) (t := 31) ?hr ?_; (case hd => rfl); (case hg => rfl); (case hr => first | (go_simp; done) | (go_simp; rfl)); intro gb141 hg w5 hbox hb; have n0_ := Aside0.mk (blk_below (g := gb137) (o := .cells #[.bool false, .string ⟨#[]⟩] 31 (0, 0)) (by exact BK137.out) hb); have n1_ := Aside0.mk (below_step (by (with_reducible exact HB.out)) hb); have n2_ := Aside0.mk (hbox); have n3_ := Aside0.mk ((by rw [hg]; exact (below_size (by (with_reducible exact HB.out))) : w.heap.size ≤ gb141)); have n4_ := Aside0.mk ((by rw [hg]; exact (below_size (by (with_reducible exact HB.out))) : w.heap.size ≤ gb141)); have n5_ := Aside0.mk ((by rw [hg]; exact Nat.ne_of_lt (blk_lt (g := gb137) (o := .cells #[.bool false, .string ⟨#[]⟩] 31 (0, 0)) (by exact BK137.out)) : gb137 ≠ gb141)); have n6_ := Aside0.mk ((by rw [hg]; exact Nat.ne_of_gt (blk_lt (g := gb137) (o := .cells #[.bool false, .string ⟨#[]⟩] 31 (0, 0)) (by exact BK137.out)) : gb141 ≠ gb137)); clear BK137; clear HB; have BK137 := n0_; have HB := n1_; have BK141 := n2_; have GW141 := n3_; have GE141 := n4_; have NB137_141 := n5_; have NB141_137 := n6_; clear n0_ n1_ n2_ n3_ n4_ n5_ n6_; clear hb hbox hg; have hnb6 := NB141_137.out; have hnc6 := NB137_141.out; have hcz7_0 : w5.cell? ⟨gb141, 0, none⟩ = some (.bool false) := (blk_cell BK141.out 0).trans rfl; have hcz7_1 : w5.cell? ⟨gb141, 1, none⟩ = some (.string ⟨#[]⟩) := (blk_cell BK141.out 1).trans rfl; have hfz7_0 := blk_frozen BK141.out 0; have hfz7_1 := blk_frozen BK141.out 1; have hcz8_0 : w5.cell? ⟨gb137, 0, none⟩ = some (.bool false) := (blk_cell BK137.out 0).trans rfl; have hcz8_1 : w5.cell? ⟨gb137, 1, none⟩ = some (.string ⟨#[]⟩) := (blk_cell BK137.out 1).trans rfl; have hfz8_0 := blk_frozen BK137.out 0; have hfz8_1 := blk_frozen BK137.out 1))
 refine bodyPost_ret (results_cell_row rfl _ _ gb137 31 #[.bool t138, .string t139] (0, 0) _ rfl (by refine blk_put (cs := #[.bool t138, .string ⟨#[]⟩]) ?_ 1 _ rfl; refine blk_put (cs := #[.bool false, .string ⟨#[]⟩]) ?_ 0 _ rfl; refine blk_far ?_ NB137_141.out _; refine blk_far ?_ NB137_141.out _; exact BK137.out) Tryd.underlying31 rfl (by kernel_rfl)) rfl ?_
 exact ⟨by rfl, by repeat (first | (with_reducible first | exact HB.out | apply below_alloc | apply pw_below_drewN | apply below_drew1 | refine below_set ?_ GE137.out | refine below_set ?_ GE141.out) | exact HB.out)⟩
def laws_weights.f  : Option (List Int) := some (([0, 1, 2, 3, 5, 6, 7, 8, 9] : List Int))
set_option maxHeartbeats 8000000 in
set_option maxRecDepth 100000 in
theorem laws_weights.calls  (r : List Int) (w : World) (h : laws_weights.f  = some r) :
  Calls Tryd.prog 24 #[] w fun e w' => ∃ v0_ : Value, e = .returned (v0_) ∧ Kd.R (Kd.int .i64) 3 w' w.heap.size (fun _ => True) v0_ r ∧ Below w.heap.size w w' := by
 have HB := Aside0.mk (Below.refl w.heap.size w)
 have H : (some (([0, 1, 2, 3, 5, 6, 7, 8, 9] : List Int))) = some r := h
 clear h
 obtain ⟨y142, hy142⟩ : ∃ y_ : List Int, y_ = (([0, 1, 2, 3, 5, 6, 7, 8, 9] : List Int)) := ⟨_, rfl⟩
 replace H : (some y142) = some r := by (rw [hy142]; with_reducible exact H)
 have Ny142 := Aside0.mk hy142
 clear hy142
 obtain rfl := Option.some.inj H
 go_enter Tryd.func24, Tryd.ntmps24
 go_wp2_with (first | ((with_reducible refine gate_dst (N := 1) rfl ?_); refine Kd.R_lit (Kd.int .i64) _ 3 ?hg (N := 1) ?hd (xs := ([0, 1, 2, 3, 5, 6, 7, 8, 9] : List Int)) (inner := [.int .i64 0, .int .i64 1, .int .i64 2, .int .i64 3, .int .i64 5, .int .i64 6, .int .i64 7, .int .i64 8, .int .i64 9]) (ok := fun _ => True) (okp := fun _ => True) ?hr ?hp (fun _ hk => hk) trivial (Below.refl _ _) (Nat.le_refl _) (by simp) ?_; (case hd => rfl); (case hg => rfl); (case hr => first | (go_simp; done) | (go_simp; rfl)); (case hp => exact (Reps.one (show Kd.M (Kd.int .i64) _ _ _ 0 [.int .i64 0] from rfl) (Reps.one (show Kd.M (Kd.int .i64) _ _ _ 1 [.int .i64 1] from rfl) (Reps.one (show Kd.M (Kd.int .i64) _ _ _ 2 [.int .i64 2] from rfl) (Reps.one (show Kd.M (Kd.int .i64) _ _ _ 3 [.int .i64 3] from rfl) (Reps.one (show Kd.M (Kd.int .i64) _ _ _ 5 [.int .i64 5] from rfl) (Reps.one (show Kd.M (Kd.int .i64) _ _ _ 6 [.int .i64 6] from rfl) (Reps.one (show Kd.M (Kd.int .i64) _ _ _ 7 [.int .i64 7] from rfl) (Reps.one (show Kd.M (Kd.int .i64) _ _ _ 8 [.int .i64 8] from rfl) (Reps.one (show Kd.M (Kd.int .i64) _ _ _ 9 [.int .i64 9] from rfl) (Reps.none _ _))))))))))); intro v143 w1 ho2 hb hg_ hnew_; clear hg_ hnew_; (first | rw [← Ny142.out] at ho2 | (simp only [Int.reduceToNat] at ho2; rw [← Ny142.out] at ho2)); have n0_ := Aside0.mk (Kd.R_lower ho2 (below_size (by (with_reducible exact HB.out)))); have n1_ := Aside0.mk (below_step (by (with_reducible exact HB.out)) hb); clear HB; have HO144 := n0_; have HB := n1_; clear n0_ n1_; clear hb ho2))
 go_ret
 exact ⟨_, by rfl, by (with_reducible repeat (first | apply Kd.R_alloc | apply Kd.R_drewN | apply Kd.R_drew)); exact HO144.out, by (with_reducible exact HB.out)⟩
end Go.Proofs.YtapaijpglfmfgaaDoor.Q
end
section -- Qx21
namespace Go.Proofs.YtapaijpglfmfgaaDoor.Q
open Go.RowKit Go.Proofs.YtapaijpglfmfgaaDoorH Go.Proofs.YtapaijpglfmfgaaDoorG Go.Proofs.YtapaijpglfmfgaaDoorW.PrintWords Go.Proofs.YtapaijpglfmfgaaDoorW.PrintLast Go.Proofs.YtapaijpglfmfgaaDoorW.PrintMore
attribute [local go_sem] max2_int min2_int max_two min_two max_three min_three max_four min_four   -- for this text's walks alone
set_option linter.unusedVariables false
set_option linter.unusedSimpArgs false
mutual
def laws_Package_text.j0 : Nat → Bool → List Int → Int → List Int → List Int → ByteArray → Bool → Int → Option (ByteArray × ByteArray × ByteArray × ByteArray × ByteArray × Bool × (List (S54)) × (List (S58)) × Bool × Bool × ByteArray × Bool)
 | 0, _, _, _, _, _, _, _, _ => none
 | k + 1, x36, x146000, x146001, x146002, x146003, x146004, x146005, x146006 => if x36 = true then (some ((⟨#[]⟩ : ByteArray), (⟨#[]⟩ : ByteArray), (⟨#[]⟩ : ByteArray), (⟨#[]⟩ : ByteArray), (⟨#[]⟩ : ByteArray), false, ([] : List (S54)), ([] : List (S58)), false, false, (⟨#[]⟩ : ByteArray), false)) else (laws_Package_text.l0 k (⟨#[]⟩ : ByteArray) x146000 (x146000.length : Int) 0 x146000 x146001 x146002 x146003 x146004 x146005 x146006 (⟨#[]⟩ : ByteArray) (⟨#[]⟩ : ByteArray) (⟨#[]⟩ : ByteArray) (⟨#[]⟩ : ByteArray) false ([] : List (S54)) false false (⟨#[]⟩ : ByteArray))
def laws_Package_text.l0 : Nat → ByteArray → List Int → Int → Int → List Int → Int → List Int → List Int → ByteArray → Bool → Int → ByteArray → ByteArray → ByteArray → ByteArray → Bool → List (S54) → Bool → Bool → ByteArray → Option (ByteArray × ByteArray × ByteArray × ByteArray × ByteArray × Bool × (List (S54)) × (List (S58)) × Bool × Bool × ByteArray × Bool)
 | 0, _, _, _, _, _, _, _, _, _, _, _, _, _, _, _, _, _, _, _, _ => none
 | k + 1, x6, x40, x41, x42, x146000, x146001, x146002, x146003, x146004, x146005, x146006, x148000, x148001, x148002, x148003, x148004, x148005, x148007, x148008, x148009 => if x42 < x41 then (if 0 ≤ x42 then (if x42 < (x40.length : Int) then (if x42 > 0 then (if x6.size + 1 ≤ 9223372036854775807 then (laws_Package_text.j2 k (x6 ++ (⟨#[46]⟩ : ByteArray)) x42 (rd x40 x42) x40 x41 x42 x146000 x146001 x146002 x146003 x146004 x146005 x146006 x148000 x148001 x148002 x148003 x148004 x148005 x148007 x148008 x148009) else (none)) else (laws_Package_text.j2 k x6 x42 (rd x40 x42) x40 x41 x42 x146000 x146001 x146002 x146003 x146004 x146005 x146006 x148000 x148001 x148002 x148003 x148004 x148005 x148007 x148008 x148009)) else (none)) else (none)) else (if (Int.tmod x146001 27) > 0 then (if x6.size + (Utf8.encode ((97 + (Int.tmod x146001 27) - 1) % 256)).size ≤ 9223372036854775807 then (laws_Package_text.j3 k (x6 ++ (Utf8.encode ((97 + (Int.tmod x146001 27) - 1) % 256))) x146000 x146001 x146002 x146003 x146004 x146005 x146006 x148000 x148001 (Utf8.encode ((97 + (Int.tmod x146001 27) - 1) % 256)) x148003 x148004 x148005 x148007 x148008 x148009) else (none)) else (laws_Package_text.j3 k x6 x146000 x146001 x146002 x146003 x146004 x146005 x146006 x148000 x148001 x148002 x148003 x148004 x148005 x148007 x148008 x148009))
def laws_Package_text.j2 : Nat → ByteArray → Int → Int → List Int → Int → Int → List Int → Int → List Int → List Int → ByteArray → Bool → Int → ByteArray → ByteArray → ByteArray → ByteArray → Bool → List (S54) → Bool → Bool → ByteArray → Option (ByteArray × ByteArray × ByteArray × ByteArray × ByteArray × Bool × (List (S54)) × (List (S58)) × Bool × Bool × ByteArray × Bool)
 | 0, _, _, _, _, _, _, _, _, _, _, _, _, _, _, _, _, _, _, _, _, _, _ => none
 | k + 1, x6, x7, x8, x40, x41, x42, x146000, x146001, x146002, x146003, x146004, x146005, x146006, x148000, x148001, x148002, x148003, x148004, x148005, x148007, x148008, x148009 => (laws_decimal.f k x8).bind fun t149 => (if x6.size + t149.size ≤ 9223372036854775807 then ((laws_decimal.f k x8).bind fun t150 => ((laws_decimal.f k x8).bind fun t151 => ((laws_number.f k t151).bind fun bt152 => (if x148005.length < 2932031007402 then (laws_Package_text.l0 k (x6 ++ t149) x40 x41 (wrap64 (x42 + 1)) x146000 x146001 x146002 x146003 x146004 x146005 x146006 x148000 x148001 x148002 x148003 x148004 (x148005 ++ [(⟨t150, (⟨bt152.1, bt152.2⟩ : S31), x7⟩ : S54)]) x148007 x148008 x148009) else (none))))) else (none))
def laws_Package_text.j3 : Nat → ByteArray → List Int → Int → List Int → List Int → ByteArray → Bool → Int → ByteArray → ByteArray → ByteArray → ByteArray → Bool → List (S54) → Bool → Bool → ByteArray → Option (ByteArray × ByteArray × ByteArray × ByteArray × ByteArray × Bool × (List (S54)) × (List (S58)) × Bool × Bool × ByteArray × Bool)
 | 0, _, _, _, _, _, _, _, _, _, _, _, _, _, _, _, _, _ => none
 | k + 1, x6, x146000, x146001, x146002, x146003, x146004, x146005, x146006, x148000, x148001, x148002, x148003, x148004, x148005, x148007, x148008, x148009 => laws_Package_text.l1 k x6 x146002 (x146002.length : Int) 0 x146000 x146001 x146002 x146003 x146004 x146005 x146006 x148000 x148001 x148002 x148003 x148004 x148005 ([] : List (S58)) x148007 x148008 x148009
def laws_Package_text.l1 : Nat → ByteArray → List Int → Int → Int → List Int → Int → List Int → List Int → ByteArray → Bool → Int → ByteArray → ByteArray → ByteArray → ByteArray → Bool → List (S54) → List (S58) → Bool → Bool → ByteArray → Option (ByteArray × ByteArray × ByteArray × ByteArray × ByteArray × Bool × (List (S54)) × (List (S58)) × Bool × Bool × ByteArray × Bool)
 | 0, _, _, _, _, _, _, _, _, _, _, _, _, _, _, _, _, _, _, _, _, _ => none
 | k + 1, x6, x84, x85, x86, x146000, x146001, x146002, x146003, x146004, x146005, x146006, x148000, x148001, x148002, x148003, x148004, x148005, x148006, x148007, x148008, x148009 => if x86 < x85 then (if 0 ≤ x86 then (if x86 < (x84.length : Int) then ((laws_weights.f).bind fun t158 => (if 0 ≤ (Int.tmod (rd x84 x86) 9) then (if (Int.tmod (rd x84 x86) 9) < (t158.length : Int) then ((laws_suffixes.f).bind fun t163 => (if (Int.tmod (rd x84 x86) 9) < (t163.length : Int) then (if 1 + (rdOf ByteArray.empty t163 (Int.tmod (rd x84 x86) 9)).size ≤ 9223372036854775807 then (if x6.size + ((⟨#[95]⟩ : ByteArray) ++ (rdOf ByteArray.empty t163 (Int.tmod (rd x84 x86) 9))).size ≤ 9223372036854775807 then (if x86 < (x146003.length : Int) then (laws_Package_text.j5 k (x6 ++ ((⟨#[95]⟩ : ByteArray) ++ (rdOf ByteArray.empty t163 (Int.tmod (rd x84 x86) 9)))) x86 x84 x85 x86 (decide ((rd x146003 x86) > 0)) x146000 x146001 x146002 x146003 x146004 x146005 x146006 x148000 x148001 x148002 x148003 x148004 x148005 x148006 x148007 x148008 x148009 (rd t158 (Int.tmod (rd x84 x86) 9)) false (⟨#[]⟩ : ByteArray)) else (laws_Package_text.j5 k (x6 ++ ((⟨#[95]⟩ : ByteArray) ++ (rdOf ByteArray.empty t163 (Int.tmod (rd x84 x86) 9)))) x86 x84 x85 x86 false x146000 x146001 x146002 x146003 x146004 x146005 x146006 x148000 x148001 x148002 x148003 x148004 x148005 x148006 x148007 x148008 x148009 (rd t158 (Int.tmod (rd x84 x86) 9)) false (⟨#[]⟩ : ByteArray))) else (none)) else (none)) else (none))) else (none)) else (none))) else (none)) else (none)) else (laws_Package_text.l2 k x6 0 x146000 x146001 x146002 x146003 x146004 x146005 x146006 x148000 x148001 x148002 x148003 x148004 x148005 x148006 x148007 x148008 x148009)
def laws_Package_text.j5 : Nat → ByteArray → Int → List Int → Int → Int → Bool → List Int → Int → List Int → List Int → ByteArray → Bool → Int → ByteArray → ByteArray → ByteArray → ByteArray → Bool → List (S54) → List (S58) → Bool → Bool → ByteArray → Int → Bool → ByteArray → Option (ByteArray × ByteArray × ByteArray × ByteArray × ByteArray × Bool × (List (S54)) × (List (S58)) × Bool × Bool × ByteArray × Bool)
 | 0, _, _, _, _, _, _, _, _, _, _, _, _, _, _, _, _, _, _, _, _, _, _, _, _, _, _ => none
 | k + 1, x6, x10, x84, x85, x86, x117, x146000, x146001, x146002, x146003, x146004, x146005, x146006, x148000, x148001, x148002, x148003, x148004, x148005, x148006, x148007, x148008, x148009, x163000, x163001, x163002 => if x117 = true then (if 0 ≤ x10 then (if x10 < (x146003.length : Int) then ((laws_decimal.f k (rd x146003 x10)).bind fun t169 => ((laws_number.f k t169).bind fun bt170 => ((laws_decimal.f k (rd x146003 x10)).bind fun t173 => (if x6.size + t173.size ≤ 9223372036854775807 then (if x148006.length < 4398046511104 then (laws_Package_text.l1 k (x6 ++ t173) x84 x85 (wrap64 (x86 + 1)) x146000 x146001 x146002 x146003 x146004 x146005 x146006 x148000 x148001 x148002 x148003 x148004 x148005 (x148006 ++ [(⟨x163000, (⟨bt170.1, bt170.2⟩ : S31)⟩ : S58)]) x148007 x148008 x148009) else (none)) else (none))))) else (none)) else (none)) else (if x148006.length < 4398046511104 then (laws_Package_text.l1 k x6 x84 x85 (wrap64 (x86 + 1)) x146000 x146001 x146002 x146003 x146004 x146005 x146006 x148000 x148001 x148002 x148003 x148004 x148005 (x148006 ++ [(⟨x163000, (⟨x163001, x163002⟩ : S31)⟩ : S58)]) x148007 x148008 x148009) else (none))
def laws_Package_text.l2 : Nat → ByteArray → Int → List Int → Int → List Int → List Int → ByteArray → Bool → Int → ByteArray → ByteArray → ByteArray → ByteArray → Bool → List (S54) → List (S58) → Bool → Bool → ByteArray → Option (ByteArray × ByteArray × ByteArray × ByteArray × ByteArray × Bool × (List (S54)) × (List (S58)) × Bool × Bool × ByteArray × Bool)
 | 0, _, _, _, _, _, _, _, _, _, _, _, _, _, _, _, _, _, _, _ => none
 | k + 1, x6, x13, x146000, x146001, x146002, x146003, x146004, x146005, x146006, x148000, x148001, x148002, x148003, x148004, x148005, x148006, x148007, x148008, x148009 => if x13 < (x146004.size : Int) then (if 0 ≤ x13 then (if (bt x146004 x13) ≥ 48 then (if (bt x146004 x13) ≤ 57 then (laws_Package_text.l2 k x6 (wrap64 (x13 + 1)) x146000 x146001 x146002 x146003 x146004 x146005 x146006 x148000 x148001 x148002 x148003 x148004 x148005 x148006 x148007 x148008 x148009) else (if (bt x146004 x13) ≥ 97 then (if ((bt x146004 x13) ≤ 102) then (laws_Package_text.l2 k x6 (wrap64 (x13 + 1)) x146000 x146001 x146002 x146003 x146004 x146005 x146006 x148000 x148001 x148002 x148003 x148004 x148005 x148006 x148007 x148008 x148009) else (some ((⟨#[]⟩ : ByteArray), (⟨#[]⟩ : ByteArray), (⟨#[]⟩ : ByteArray), (⟨#[]⟩ : ByteArray), (⟨#[]⟩ : ByteArray), false, ([] : List (S54)), ([] : List (S58)), false, false, (⟨#[]⟩ : ByteArray), false))) else (some ((⟨#[]⟩ : ByteArray), (⟨#[]⟩ : ByteArray), (⟨#[]⟩ : ByteArray), (⟨#[]⟩ : ByteArray), (⟨#[]⟩ : ByteArray), false, ([] : List (S54)), ([] : List (S58)), false, false, (⟨#[]⟩ : ByteArray), false)))) else (if (bt x146004 x13) ≥ 97 then (if ((bt x146004 x13) ≤ 102) then (laws_Package_text.l2 k x6 (wrap64 (x13 + 1)) x146000 x146001 x146002 x146003 x146004 x146005 x146006 x148000 x148001 x148002 x148003 x148004 x148005 x148006 x148007 x148008 x148009) else (some ((⟨#[]⟩ : ByteArray), (⟨#[]⟩ : ByteArray), (⟨#[]⟩ : ByteArray), (⟨#[]⟩ : ByteArray), (⟨#[]⟩ : ByteArray), false, ([] : List (S54)), ([] : List (S58)), false, false, (⟨#[]⟩ : ByteArray), false))) else (some ((⟨#[]⟩ : ByteArray), (⟨#[]⟩ : ByteArray), (⟨#[]⟩ : ByteArray), (⟨#[]⟩ : ByteArray), (⟨#[]⟩ : ByteArray), false, ([] : List (S54)), ([] : List (S58)), false, false, (⟨#[]⟩ : ByteArray), false)))) else (none)) else (if x146004.toList = ([] : List UInt8) then (laws_Package_text.j7 k x6 x146000 x146001 x146002 x146003 x146004 x146005 x146006 x148000 x148001 x148002 x148003 x148004 x148005 x148006 x148007 x148008 x148009) else (if 1 + x146004.size ≤ 9223372036854775807 then (if x6.size + ((⟨#[126]⟩ : ByteArray) ++ x146004).size ≤ 9223372036854775807 then (laws_Package_text.j7 k (x6 ++ ((⟨#[126]⟩ : ByteArray) ++ x146004)) x146000 x146001 x146002 x146003 x146004 x146005 x146006 x148000 x148001 x148002 ((⟨#[126]⟩ : ByteArray) ++ x146004) x148004 x148005 x148006 x148007 x148008 x148009) else (none)) else (none)))
def laws_Package_text.j7 : Nat → ByteArray → List Int → Int → List Int → List Int → ByteArray → Bool → Int → ByteArray → ByteArray → ByteArray → ByteArray → Bool → List (S54) → List (S58) → Bool → Bool → ByteArray → Option (ByteArray × ByteArray × ByteArray × ByteArray × ByteArray × Bool × (List (S54)) × (List (S58)) × Bool × Bool × ByteArray × Bool)
 | 0, _, _, _, _, _, _, _, _, _, _, _, _, _, _, _, _, _, _ => none
 | k + 1, x6, x146000, x146001, x146002, x146003, x146004, x146005, x146006, x148000, x148001, x148002, x148003, x148004, x148005, x148006, x148007, x148008, x148009 => if x146005 = true then ((laws_decimal.f k x146006).bind fun t180 => ((laws_number.f k t180).bind fun bt181 => ((laws_decimal.f k x146006).bind fun t183 => (if 2 + t183.size ≤ 9223372036854775807 then (if x6.size + ((⟨#[45, 114]⟩ : ByteArray) ++ t183).size ≤ 9223372036854775807 then (some (x6 ++ ((⟨#[45, 114]⟩ : ByteArray) ++ t183), x6 ++ ((⟨#[45, 114]⟩ : ByteArray) ++ t183), x148001, x148002, x148003, x148004, x148005, x148006, true, bt181.1, bt181.2, true)) else (none)) else (none))))) else (some (x6, x6, x148001, x148002, x148003, x148004, x148005, x148006, true, x148008, x148009, true))
end
def laws_Package_text.f (k : Nat) (l0_0 : List Int) (a0_1 : Int) (l0_2 : List Int) (l0_3 : List Int) (a0_4 : ByteArray) (a0_5 : Bool) (a0_6 : Int) : Option (ByteArray × ByteArray × ByteArray × ByteArray × ByteArray × Bool × (List (S54)) × (List (S58)) × Bool × Bool × ByteArray × Bool) := if (l0_0.length : Int) = 0 then (laws_Package_text.j0 k true l0_0 a0_1 l0_2 l0_3 a0_4 a0_5 a0_6) else (if (l0_0.length : Int) > 60 then (laws_Package_text.j0 k true l0_0 a0_1 l0_2 l0_3 a0_4 a0_5 a0_6) else (if (l0_2.length : Int) > 60 then (laws_Package_text.j0 k true l0_0 a0_1 l0_2 l0_3 a0_4 a0_5 a0_6) else (laws_Package_text.j0 k (decide ((a0_4.size : Int) > 1200)) l0_0 a0_1 l0_2 l0_3 a0_4 a0_5 a0_6)))
def laws_Package_text.T11 : Bool × List (List Nat × List Nat) := (true, [([], []), ([0], [0]), ([], []), ([2], [2]), ([], []), ([4, 3], [4]), ([5, 5], [5]), ([], []), ([3, 6, 7], [3, 6, 7]), ([8], [8]), ([1, 9, 6], [1, 9]), ([0, 1, 2, 3, 4, 5, 6, 7, 8, 9, 10], []), ([11, 10, 10, 0, 1, 2, 3, 4, 5, 6, 7, 8, 9, 10], [10, 11])])
def laws_Package_text.B11 : List Nat := [0, 1, 0, 4, 0, 28, 60, 0, 252, 508, 1023, 2047, 4095]
theorem laws_Package_text.tab11 : rtab .any (opsOf Tryd.f10 11) = laws_Package_text.T11 := by kernel_rfl
theorem laws_Package_text.bits11 : waitsOk laws_Package_text.T11.2 laws_Package_text.B11 = true := by kernel_rfl
end Go.Proofs.YtapaijpglfmfgaaDoor.Q
end
